/-
  THE PROOF OF 'Rows.LawS4469AExactSaid' (the row, its three variables listed), and of the tied card 'Rows.LawS4469AExactCardSaid'.
-/
import Derived.Test.YbulkcnnkDoorRows
import Derived.Test.YbulkcnnkDoorTie
import Derived.Test.YbulkcnnkDoorCards
import Derived.Test.YbulkcnnkDoorLaw
import Derived.WalkKit
import Derived.ProofKit
import Derived.OpenShut
import Derived.ChangeOld
import Derived.Below
import Derived.LaidMore
import Derived.Lib.LaidTab
import Derived.Stop.Joined
import Derived.SevenTiedAt
namespace Go.Proofs.YbulkcnnkDoor.lawS4469AExact
open Go.ChangeShapes Go.WideShapes Go.ChangeAt Go.RowKit
set_option linter.unusedVariables false

theorem own : ownKnob Ybad.prog.godebug = none := by kernel_rfl
theorem laidOut : laidOutB Ybad.prog = true := by kernel_rfl
theorem g0 : (Ybad.prog.globals[0]?).map (·.type) = some 53 := by kernel_rfl
theorem cells28 : Ybad.prog.cellsOf 28 = 1 := by kernel_rfl
theorem cells53 : Ybad.prog.cellsOf 53 = 20 := by kernel_rfl
theorem pow_datum : (Rows.laid_internal_strconv_uint64pow10 : DataW Unit) = Lib.tabData .u64 Lib.pow10Tab := by kernel_rfl

/-- The door's own heap meets the condition. -/
theorem door_met (os : Os) (args : Array Value) : laidMetH Ybad.prog Rows.lawS4469AExactRow.laid ((World.doorLaid Ybad.prog 400 os).forCall (fun _ _ => 0) ⟨#[], args, []⟩).memory :=
  laidMetH_of_parts3 (fuel := 8) (laidMet_of_run' 8 (by kernel_rfl) (by kernel_rfl)) (by kernel_rfl) (by kernel_rfl)

/-- WHAT THE CONDITION GIVES THE WALK: the table of powers. -/
theorem of_laid {W : World} (h : laidMetH Ybad.prog Rows.lawS4469AExactRow.laid W) : PowTab W := by
  rw [MakeChecks.laidMetH_plain _ _ _ (by kernel_rfl)] at h
  obtain ⟨ps, ⟨g1, t1, cs1, f1, p1, q1, hg1, ht1, hv1, hd1, ⟨g2, t2, cs2, f2, p2, q2, hg2, ht2, hv2, hd2, ⟨g3, t3, cs3, f3, p3, q3, hg3, ht3, hv3, hd3, _, _⟩, _⟩, _⟩, _, _⟩ := h
  obtain rfl := Option.some.inj ((show Ybad.prog.globalNamed ((Rows.lawS4469AExactRow.laid.map (·.1)).getD 2 default) = some 0 by kernel_rfl).symm.trans hg3)
  obtain rfl := Option.some.inj (g0.symm.trans ht3)
  rw [pow_datum] at hd3
  have hcs := Lib.cells_of_tab Ybad.underlying53 Ybad.underlying28 cells28 cells53 hd3
  have hv := hv3
  simp only [World.var?, hg3, Option.bind_some] at hv
  split at hv
  · rename_i c t fr heq
    simp at hv
    subst hv
    exact ⟨t, fr, by rw [heq, ← hcs]⟩
  · cases hv

/-- The argument, cell by cell. -/
theorem nums_open {W : World} {a0 : Option Addr} {len cap : Nat} {H : Type} {enc : TypeId × Value → H} {base : Nat} {spare : Nat → Bool} {held : Bool} {d : DataW H} {p : List MemPlace} (h : DataW.Trod enc Ybad.prog W base spare held 22 (.slice a0 len cap) d p) :
    ∃ zs : List Nat, zs.length = len ∧ (∀ z ∈ zs, z < 18446744073709551616) ∧ Nums W a0 zs ∧ ∀ b off, a0 = some ⟨b, off, Option.none⟩ → 0 < len → b < W.heap.size := by
  obtain ⟨fuel, hf⟩ := h
  rcases open_ints Ybad.underlying22 Ybad.underlying28 cells28 hf with ⟨hcs, _⟩ | ⟨x, l, c, zs, hcs, _, hl, hm, hz, _, hcell, hwz⟩
  · simp [Value.cells] at hcs
    obtain ⟨rfl, rfl, rfl⟩ := hcs
    exact ⟨[], rfl, by simp, fun t ht => by simp at ht, fun b off e => by cases e⟩
  · simp [Value.cells] at hcs
    obtain ⟨rfl, rfl, rfl⟩ := hcs
    have hzl : len ≤ zs.length := by
      have hz' : zs.length = if spare x.block = true then cap else len := by simpa using hz
      rw [hz']; split <;> omega
    have hb : ∀ n ∈ zs, 0 ≤ n ∧ n ≤ 18446744073709551615 := fun n hn => bounds_u64 (hwz n hn)
    refine ⟨(zs.take len).map Int.toNat, by simp; omega, ?_, ?_, ?_⟩
    · intro z hz'
      obtain ⟨n, hn, rfl⟩ := List.mem_map.1 hz'
      have := hb n (List.mem_of_mem_take hn)
      omega
    · intro t ht
      have htl : t < len := by simp at ht; omega
      obtain ⟨b, off, rfl, hc⟩ := ints_at hcell (by omega)
      refine ⟨b, off, rfl, ?_⟩
      rw [hc t (by omega)]
      have hmem : zs[t]'(by omega) ∈ zs := List.getElem_mem _
      have := hb _ hmem
      have e : zs.getD t 0 = zs[t]'(by omega) := by simp [List.getD, show t < zs.length by omega]
      rw [e]
      simp
      omega
    · intro b off e hpos
      obtain ⟨b', off', e', hc⟩ := ints_at hcell (by omega)
      simp at e
      rw [e] at e'
      simp at e'
      obtain ⟨rfl, rfl⟩ := e'
      exact World.block_lt_of_cell? W ⟨b, off + 0, Option.none⟩ (hc 0 (by omega))

theorem walk (a0 : Option Addr) (cap : Nat) (zs : List Nat) (w : World) (hz : ∀ z ∈ zs, z < 18446744073709551616) (hT : PowTab w) (hN : Nums w a0 zs) (hga : ∀ b off, a0 = some ⟨b, off, Option.none⟩ → 0 < zs.length → b < w.heap.size) :
    Calls Ybad.prog 3 #[.slice a0 zs.length cap] w fun e w' => e = .returned (.bool true) ∧ Below w.heap.size w w' := by
  by_cases hbig : 1024 < zs.length
  · exact law_big a0 zs.length cap w hbig
  · exact law_small a0 cap zs w (by omega) hz hT hN hga

set_option maxRecDepth 100000 in
theorem lifted (os : Os) (started : os.Started) (H : Type) (enc : TypeId × Value → H) :
    ReturnsInHanded {} Ybad.checked os 3 .any (fun w args => (Rows.lawS4469AExactSpec.pre enc Ybad.prog Ybad.f3 [] false w args ∧ laidMetH Ybad.prog Rows.lawS4469AExactRow.laid w) ∧ sizedMet enc Ybad.prog Ybad.f3 (OpenSpec.ofChange Rows.lawS4469AExactSpec) false w args)
      (Rows.lawS4469AExactSpec.post enc Ybad.prog Ybad.f3 false true false false) := by
  refine returnsInHanded_of_change_and (C := Ybad.checked) (X := fun w _ => laidMetH Ybad.prog Rows.lawS4469AExactRow.laid w) (fun _ _ _ hh h => h.of_heap hh) own started (by kernel_rfl) Ybad.func3
    (ChangeSpec.witness_shaped (enc := enc) (C := Ybad.checked) (os := os) (X := fun w _ => laidMetH Ybad.prog Rows.lawS4469AExactRow.laid w) false (World.doorLaid Ybad.prog 400 os) #[.slice Option.none 0 0] 8 rfl (World.shaped_of_RefB (by kernel_rfl) (by kernel_rfl)) (by kernel_rfl) (by kernel_rfl) (by kernel_rfl) (door_met os _)) ?_
  intro W base args ds gs before hval0 hW _ _ hL _
  have hval : ∀ (j : Nat) t v, Ybad.f3.params[j]? = some t → args[j]? = some v → Value.okWide Ybad.prog W .any base t v := hval0
  have hW' := hW
  obtain ⟨p, q, hA0, hV, rfl, hfz, hnd⟩ := hW
  have hA : DataW.TrodAll enc Ybad.prog W 0 (fun _ => true) true Ybad.f3.params.toList args.toList ds p := hA0
  rw [Ybad.params3] at hA hval
  obtain ⟨v0, vs0, d0, ds0, p0, q0, hargs, rfl, rfl, h0, r0⟩ := trodAll_cons hA
  obtain ⟨rfl, rfl, rfl⟩ := trodAll_nil r0
  obtain rfl : args = #[v0] := by cases args; simp_all
  obtain ⟨rfl, rfl⟩ := trodVars_none hV
  obtain ⟨a0, len0, cap0, rfl⟩ := okWide_slice Ybad.underlying22 (hval 0 22 v0 rfl rfl)
  have lt0 : ∀ x ∈ p0, x.block < W.heap.size := by obtain ⟨m, hm⟩ := h0; exact DataW.trod_lt m _ _ _ hm
  have hT := of_laid hL
  obtain ⟨zs, rfl, hz, hN, hga⟩ := nums_open h0
  clear hA0 hval0
  refine (walk a0 cap0 zs W hz hT hN hga).mono fun e W' ⟨he, bel⟩ => ?_
  subst he
  exact ⟨_, rfl, _, _, _, [], _, [], hW', trodAll_mk1 (shut_bool Ybad.underlying4 _), (trodAll_cons_mk (Below.trod laidOut (by kernel_rfl) (of_decide_eq_true (by kernel_rfl)) h0 bel lt0) trodAll_mk0), rfl, bel.frame _, fun h => by cases h⟩

theorem row_holds : Rows.LawS4469AExactSaid :=
  OpenClaim.holds_of_wide 3 Ybad.f3 rfl rfl rfl rfl rfl rfl rfl ⟨rfl, rfl, rfl, rfl, rfl⟩ rfl rfl rfl rfl rfl (by kernel_rfl) Ybad.func3 (by kernel_rfl)
    (of_decide_eq_true (by kernel_rfl)) (by unfold Func.isWrapper; first | (rw [if_pos (by decide +kernel)]; kernel_rfl) | (rw [if_neg (by decide +kernel)]; exact ⟨rfl, rfl⟩))
    (fun os started H enc _ => lifted os started H enc)

/-- THE STATEMENT: THE TIED CARD -/
theorem proved : Rows.LawS4469AExactCardSaid :=
  Claim7.holds_tied_plain_at .later [] [.data, .data, .data] true Rows.lawS4469AExactCard.stood.harness false
    row_holds (fun _ h => by cases h) (by kernel_rfl) (fun _ h => by cases h) lawS4469AExact_row_tie rfl ⟨rfl, rfl⟩ (by kernel_rfl) rfl
    (fun f fn hf hfn => by
      obtain rfl : f = 3 := Option.some.inj ((show Ybad.prog.funcNamed Rows.lawS4469AExactRow.func = some 3 by kernel_rfl).symm.trans hf) |>.symm
      obtain rfl : fn = Ybad.f3 := (Option.some.inj (Ybad.func3.symm.trans hfn)).symm
      exact ⟨by kernel_rfl, fun j t ht => by
        rw [Ybad.params3] at ht
        have hm : t ∈ [22] := by simpa using Array.mem_of_getElem? ht
        have hall : ([22].all fun u => !Ybad.prog.wantsStandIn u) = true := by kernel_rfl
        exact (show Ybad.prog.wantsStandIn t = false by simpa using List.all_eq_true.1 hall t hm)⟩)
    (by kernel_rfl)
end Go.Proofs.YbulkcnnkDoor.lawS4469AExact
