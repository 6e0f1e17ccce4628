/-
  THE PROOF OF 'Rows.LawS4466CSequenceSaid': the frame of the kit's shell, at three parameters, the first a slice of structs.
-/
import Derived.Test.YbulkcnluRows
import Derived.Test.YbulkcnluSeq
import Derived.WalkKit
import Derived.ProofKit
import Derived.OpenShut
import Derived.ChangeOld
import Derived.Below
import Derived.SizedLaws
import Derived.Deep.Slices
namespace Go.Proofs.Ybulkcnlu.lawS4466CSequence
open Go.ChangeShapes Go.WideShapes Go.ChangeAt Go.RowKit Go.Deep
set_option linter.unusedVariables false

theorem own : ownKnob Yba.prog.godebug = none := by kernel_rfl
theorem laidOut : laidOutB Yba.prog = true := by kernel_rfl
theorem bytes45 : Yba.prog.bytesOf 45 = 56 := by kernel_rfl

theorem walk (a0 : Option Addr) (len cap : Nat) (n rule : Int) (w : World) (hn : 0 ≤ n) (hlen : len ≤ cap) (hcap : cap ≤ 140737488351232) (hnil : a0 = none → len = 0) :
    Calls Yba.prog 3 #[.slice a0 len cap, .int .u16 n, .int .i64 rule] w fun e w' => e = .returned (.bool true) ∧ Below w.heap.size w w' := by
  by_cases hbig : 1024 < n
  · exact seq_big a0 len cap n rule w hbig
  · obtain ⟨m, rfl⟩ := Int.eq_ofNat_of_zero_le hn
    exact seq_small a0 len cap m rule w (by omega) hlen hcap hnil

set_option maxRecDepth 100000 in
theorem lifted (os : Os) (started : os.Started) (H : Type) (enc : TypeId × Value → H) :
    ReturnsInHanded {} Yba.checked os 3 .any (Rows.lawS4466CSequenceSpec.pre6 enc Yba.prog Yba.f3 Rows.lawS4466CSequenceRow.domain false) (Rows.lawS4466CSequenceSpec.post enc Yba.prog Yba.f3 false true false false) := by
  refine returnsInHanded_of_change_sized (C := Yba.checked) own started (by kernel_rfl) Yba.func3
    (ChangeSpec.witness6 (enc := enc) (C := Yba.checked) false ⟨#[], #[.slice none 0 0, .int .u16 0, .int .i64 0], []⟩ 8 (by kernel_rfl) (by kernel_rfl) (by kernel_rfl) (by kernel_rfl)) ?_
  intro W base args ds gs before hval0 hW hcnd hsz0 hholds
  have hval : ∀ (j : Nat) t v, Yba.f3.params[j]? = some t → args[j]? = some v → Value.okWide Yba.prog W .any base t v := hval0
  have hsz : (DataW.weightsEach Yba.prog (Yba.f3.params.toList ++ Rows.lawS4466CSequenceSpec.plain.varTypes Yba.prog) (ds ++ gs)).all (· ≤ reachBytes) = true := hsz0
  have hW' := hW
  obtain ⟨p, q, hA0, hV, rfl, hfz, hnd⟩ := hW
  have hA : DataW.TrodAll enc Yba.prog W 0 (fun _ => true) true Yba.f3.params.toList args.toList ds p := hA0
  rw [Yba.params3] at hA hval hsz
  obtain ⟨v0, vs0, d0, ds0, p0, q0, hargs, rfl, rfl, h0, r0⟩ := trodAll_cons hA
  obtain ⟨v1, vs1, d1, ds1, p1, q1, rfl, rfl, rfl, h1, r1⟩ := trodAll_cons r0
  obtain ⟨v2, vs2, d2, ds2, p2, q2, rfl, rfl, rfl, h2, r2⟩ := trodAll_cons r1
  obtain ⟨rfl, rfl, rfl⟩ := trodAll_nil r2
  obtain rfl : args = #[v0, v1, v2] := by cases args; simp_all
  obtain ⟨rfl, rfl⟩ := trodVars_none hV
  obtain ⟨a0, len0, cap0, rfl⟩ := okWide_slice Yba.underlying22 (hval 0 22 v0 rfl rfl)
  obtain ⟨n, rfl, rfl, rfl, wn⟩ := open_int Yba.underlying23 (hval 1 23 v1 rfl rfl) h1
  obtain ⟨rule, rfl, rfl, rfl, wr⟩ := open_int Yba.underlying3 (hval 2 3 v2 rfl rfl) h2
  have k0 := h0
  have lt0 : ∀ x ∈ p0, x.block < W.heap.size := by obtain ⟨m, hm⟩ := k0; exact DataW.trod_lt m _ _ _ hm
  have hn0 : 0 ≤ n := (bounds_u16 wn).1
  obtain ⟨hlen, hcap, hnil⟩ : len0 ≤ cap0 ∧ cap0 ≤ 140737488351232 ∧ (a0 = none → len0 = 0) := by
    obtain ⟨fuel, hf⟩ := h0
    rcases open_slice Yba.underlying22 hf with ⟨hcs, _⟩ | ⟨a, len', cap', m, k, D, Pl, hcs, _, hl, _, hm, hx, _⟩
    · simp [Value.cells] at hcs
      obtain ⟨rfl, rfl, rfl⟩ := hcs
      exact ⟨Nat.le_refl _, by omega, fun _ => rfl⟩
    · simp [Value.cells] at hcs
      obtain ⟨rfl, rfl, rfl⟩ := hcs
      simp only [if_true] at hm
      subst hm
      simp only [Prod.mk.injEq] at hx
      obtain ⟨hd, -⟩ := hx
      subst hd
      have := sized_slice hsz (j := 0) (t := 22) (e := 45) rfl rfl Yba.underlying22
      rw [bytes45] at this
      simp only [List.length_map, List.length_range, reachBytes] at this
      exact ⟨hl, by omega, fun h => by cases h⟩
  clear hA0 hval0
  refine (walk a0 len0 cap0 n rule W hn0 hlen hcap hnil).mono fun e W' ⟨he, bel⟩ => ?_
  subst he
  exact ⟨_, rfl, _, _, _, [], _, [], hW', trodAll_mk1 (shut_bool Yba.underlying4 _), (trodAll_cons_mk (Below.trod laidOut (by kernel_rfl) (of_decide_eq_true (by kernel_rfl)) k0 bel lt0) (trodAll_cons_mk (shut_int Yba.underlying23 wn) (trodAll_cons_mk (shut_int Yba.underlying3 wr) trodAll_mk0))), rfl, bel.frame _, fun h => by cases h⟩

theorem over : Rows.lawS4466CSequenceRow.holds Yba.pinned (OpenSpec.ofChange Rows.lawS4466CSequenceSpec) :=
  OpenClaim.holds_of_wide 3 Yba.f3 rfl rfl rfl rfl rfl rfl rfl ⟨rfl, rfl, rfl, rfl, rfl⟩ rfl rfl rfl rfl rfl (by kernel_rfl) Yba.func3 (by kernel_rfl)
    (of_decide_eq_true (by kernel_rfl)) (by unfold Func.isWrapper; first | (rw [if_pos (by decide +kernel)]; kernel_rfl) | (rw [if_neg (by decide +kernel)]; exact ⟨rfl, rfl⟩))
    (fun os started H enc _ => lifted os started H enc)

/-- THE STATEMENT -/
theorem proved : Rows.LawS4466CSequenceSaid := over
end Go.Proofs.Ybulkcnlu.lawS4466CSequence
