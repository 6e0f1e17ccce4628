/-
  THE PROOF OF 'Rows.LawS4467CAddSaid': the frame of the kit's shell, at four parameters.
-/
import Derived.Test.YbulkcnmiRows
import Derived.Test.YbulkcnmiWalk
import Derived.WalkKit
import Derived.ProofKit
import Derived.OpenShut
import Derived.ChangeOld
import Derived.Below
import Derived.Deep.Slices
namespace Go.Proofs.Ybulkcnmi.lawS4467CAdd
open Go.ChangeShapes Go.WideShapes Go.ChangeAt Go.RowKit Go.Deep
set_option linter.unusedVariables false

theorem own : ownKnob Yba.prog.godebug = none := by kernel_rfl
theorem laidOut : laidOutB Yba.prog = true := by kernel_rfl
theorem cells30 : Yba.prog.cellsOf 30 = 2 := by kernel_rfl
theorem cells5 : Yba.prog.cellsOf 5 = 1 := by kernel_rfl

section
variable {H : Type} {enc : TypeId × Value → H} {W : World} {base : Nat} {spare : Nat → Bool} {held : Bool}

/-- The pairs, cell by cell. -/
theorem pairs_open {a0 : Option Addr} {len cap : Nat} {d : DataW H} {p : List MemPlace} (h : DataW.Trod enc Yba.prog W base spare held 22 (.slice a0 len cap) d p) :
    ∀ t, t < len → ∃ b off x y, a0 = some ⟨b, off, none⟩ ∧ b < W.heap.size ∧ W.cell? ⟨b, off + t * 2, none⟩ = some (.int .u8 x) ∧ W.cell? ⟨b, off + t * 2 + 1, none⟩ = some (.int .u8 y) ∧ 0 ≤ x ∧ x ≤ 255 ∧ 0 ≤ y ∧ y ≤ 255 := by
  obtain ⟨fuel, hf⟩ := h
  intro t ht
  rcases open_slice Yba.underlying22 hf with ⟨hcs, _⟩ | ⟨a, len', cap', m, n, D, Pl, hcs, _, hl, _, hm, _, hel⟩
  · simp [Value.cells] at hcs
    omega
  · simp [Value.cells] at hcs
    obtain ⟨rfl, rfl, rfl⟩ := hcs
    have hlm : len ≤ m := by rw [hm]; split <;> omega
    rw [cells30] at hel
    have two : ∀ i, i < m → ∃ x y, W.cell? (a.add (i * 2)) = some (.int .u8 x) ∧ W.cell? (a.add (i * 2 + 1)) = some (.int .u8 y) ∧ 0 ≤ x ∧ x ≤ 255 ∧ 0 ≤ y ∧ y ≤ 255 := by
      intro i hi
      obtain ⟨cs, hc, hd⟩ := hel i hi
      obtain ⟨y0, y1, k, _, hlen, t0, t1⟩ := trod_struct2 Yba.underlying30 hd
      rw [cells30] at hlen
      match cs, hlen with
      | [c0, c1], _ =>
        simp [cells5] at t0 t1
        obtain ⟨x, e0, _, w0⟩ := DataW.trod_int Yba.underlying5 t0
        obtain ⟨y, e1, _, w1⟩ := DataW.trod_int Yba.underlying5 t1
        simp at e0 e1
        subst e0 e1
        have b0 := bounds_u8 w0
        have b1 := bounds_u8 w1
        have hcell := (World.cells?_some hc).2.2
        have g0 := hcell 0 (by omega)
        have g1 := hcell 1 (by omega)
        rw [add_add] at g0 g1
        exact ⟨x, y, by simpa using g0, by simpa using g1, b0.1, b0.2, b1.1, b1.2⟩
    obtain ⟨b, off, spot⟩ := a
    have hspot : spot = none := by
      obtain ⟨_, _, h0, _⟩ := two 0 (by omega)
      have := World.cell?_spot h0
      simpa [Addr.add] using this
    subst hspot
    obtain ⟨x, y, h0, h1, r⟩ := two t (by omega)
    rw [add_plain] at h0 h1
    exact ⟨b, off, x, y, rfl, World.block_lt_of_cell? W _ h0, h0, h1, r⟩

/-- The bytes, cell by cell. -/
theorem bytes_open {a0 : Option Addr} {len cap : Nat} {d : DataW H} {p : List MemPlace} (h : DataW.Trod enc Yba.prog W base spare held 23 (.slice a0 len cap) d p) :
    ∀ t, t < len → ∃ b off x, a0 = some ⟨b, off, none⟩ ∧ b < W.heap.size ∧ W.cell? ⟨b, off + t, none⟩ = some (.int .u8 x) ∧ 0 ≤ x ∧ x ≤ 255 := by
  obtain ⟨fuel, hf⟩ := h
  intro t ht
  rcases open_slice Yba.underlying23 hf with ⟨hcs, _⟩ | ⟨a, len', cap', m, n, D, Pl, hcs, _, hl, _, hm, _, hel⟩
  · simp [Value.cells] at hcs
    omega
  · simp [Value.cells] at hcs
    obtain ⟨rfl, rfl, rfl⟩ := hcs
    have hlm : len ≤ m := by rw [hm]; split <;> omega
    rw [cells5] at hel
    have one : ∀ i, i < m → ∃ x, W.cell? (a.add i) = some (.int .u8 x) ∧ 0 ≤ x ∧ x ≤ 255 := by
      intro i hi
      obtain ⟨cs, hc, hd⟩ := hel i hi
      obtain ⟨x, rfl, _, w0⟩ := DataW.trod_int Yba.underlying5 hd
      have b0 := bounds_u8 w0
      have g0 := (World.cells?_some hc).2.2 0 (by omega)
      rw [add_add] at g0
      exact ⟨x, by simpa using g0, b0.1, b0.2⟩
    obtain ⟨b, off, spot⟩ := a
    have hspot : spot = none := by
      obtain ⟨_, h0, _⟩ := one 0 (by omega)
      have := World.cell?_spot h0
      simpa [Addr.add] using this
    subst hspot
    obtain ⟨x, h0, r⟩ := one t (by omega)
    rw [add_plain] at h0
    exact ⟨b, off, x, rfl, World.block_lt_of_cell? W _ h0, h0, r⟩
end

theorem walk (pa ea : Option Addr) (plen pcap elen ecap : Nat) (key val : Int) (w : World) (hkey : 0 ≤ key ∧ key ≤ 255) (hval : 0 ≤ val ∧ val ≤ 255)
    (hp : ∀ t, t < plen → ∃ b off x y, pa = some ⟨b, off, none⟩ ∧ b < w.heap.size ∧ w.cell? ⟨b, off + t * 2, none⟩ = some (.int .u8 x) ∧ w.cell? ⟨b, off + t * 2 + 1, none⟩ = some (.int .u8 y) ∧ 0 ≤ x ∧ x ≤ 255 ∧ 0 ≤ y ∧ y ≤ 255)
    (he : ∀ t, t < elen → ∃ b off x, ea = some ⟨b, off, none⟩ ∧ b < w.heap.size ∧ w.cell? ⟨b, off + t, none⟩ = some (.int .u8 x) ∧ 0 ≤ x ∧ x ≤ 255) :
    Calls Yba.prog 3 #[.slice pa plen pcap, .slice ea elen ecap, .int .u8 key, .int .u8 val] w fun e w' => e = .returned (.bool true) ∧ Below w.heap.size w w' := by
  by_cases h1 : 4096 < plen
  · exact big1 pa ea plen pcap elen ecap key val w h1
  · by_cases h2 : 4096 < elen
    · exact big2 pa ea plen pcap elen ecap key val w h1 h2
    · exact small pa ea plen pcap elen ecap key val w (by omega) (by omega) hkey hval hp he

set_option maxRecDepth 100000 in
theorem lifted (os : Os) (started : os.Started) (H : Type) (enc : TypeId × Value → H) :
    ReturnsInHanded {} Yba.checked os 3 .any (Rows.lawS4467CAddSpec.pre6 enc Yba.prog Yba.f3 Rows.lawS4467CAddRow.domain false) (Rows.lawS4467CAddSpec.post enc Yba.prog Yba.f3 false true false false) := by
  refine returnsInHanded_of_change (C := Yba.checked) own started (by kernel_rfl) Yba.func3
    (ChangeSpec.witness6 (enc := enc) (C := Yba.checked) false ⟨#[], #[.slice none 0 0, .slice none 0 0, .int .u8 0, .int .u8 0], []⟩ 8 (by kernel_rfl) (by kernel_rfl) (by kernel_rfl) (by kernel_rfl)) ?_
  intro W base args ds gs before hval0 hW hcnd _
  have hval : ∀ (j : Nat) t v, Yba.f3.params[j]? = some t → args[j]? = some v → Value.okWide Yba.prog W .any base t v := hval0
  have hW' := hW
  obtain ⟨p, q, hA0, hV, rfl, hfz, hnd⟩ := hW
  have hA : DataW.TrodAll enc Yba.prog W 0 (fun _ => true) true Yba.f3.params.toList args.toList ds p := hA0
  rw [Yba.params3] at hA hval
  obtain ⟨v0, vs0, d0, ds0, p0, q0, hargs, rfl, rfl, h0, r0⟩ := trodAll_cons hA
  obtain ⟨v1, vs1, d1, ds1, p1, q1, rfl, rfl, rfl, h1, r1⟩ := trodAll_cons r0
  obtain ⟨v2, vs2, d2, ds2, p2, q2, rfl, rfl, rfl, h2, r2⟩ := trodAll_cons r1
  obtain ⟨v3, vs3, d3, ds3, p3, q3, rfl, rfl, rfl, h3, r3⟩ := trodAll_cons r2
  obtain ⟨rfl, rfl, rfl⟩ := trodAll_nil r3
  obtain rfl : args = #[v0, v1, v2, v3] := by cases args; simp_all
  obtain ⟨rfl, rfl⟩ := trodVars_none hV
  obtain ⟨a0, len0, cap0, rfl⟩ := okWide_slice Yba.underlying22 (hval 0 22 v0 rfl rfl)
  obtain ⟨a1, len1, cap1, rfl⟩ := okWide_slice Yba.underlying23 (hval 1 23 v1 rfl rfl)
  obtain ⟨key, rfl, rfl, rfl, wk⟩ := open_int Yba.underlying5 (hval 2 5 v2 rfl rfl) h2
  obtain ⟨val, rfl, rfl, rfl, wv⟩ := open_int Yba.underlying5 (hval 3 5 v3 rfl rfl) h3
  have lt0 : ∀ x ∈ p0, x.block < W.heap.size := by obtain ⟨m, hm⟩ := h0; exact DataW.trod_lt m _ _ _ hm
  have lt1 : ∀ x ∈ p1, x.block < W.heap.size := by obtain ⟨m, hm⟩ := h1; exact DataW.trod_lt m _ _ _ hm
  clear hA0 hval0
  refine (walk a0 a1 len0 cap0 len1 cap1 key val W (bounds_u8 wk) (bounds_u8 wv) (pairs_open h0) (bytes_open h1)).mono fun e W' ⟨he, bel⟩ => ?_
  subst he
  exact ⟨_, rfl, _, _, _, [], _, [], hW', trodAll_mk1 (shut_bool Yba.underlying4 _), (trodAll_cons_mk (Below.trod laidOut (by kernel_rfl) (of_decide_eq_true (by kernel_rfl)) h0 bel lt0) (trodAll_cons_mk (Below.trod laidOut (by kernel_rfl) (of_decide_eq_true (by kernel_rfl)) h1 bel lt1) (trodAll_cons_mk (shut_int Yba.underlying5 wk) (trodAll_cons_mk (shut_int Yba.underlying5 wv) trodAll_mk0)))), rfl, bel.frame _, fun h => by cases h⟩

theorem over : Rows.lawS4467CAddRow.holds Yba.pinned (OpenSpec.ofChange Rows.lawS4467CAddSpec) :=
  OpenClaim.holds_of_wide 3 Yba.f3 rfl rfl rfl rfl rfl rfl rfl ⟨rfl, rfl, rfl, rfl, rfl⟩ rfl rfl rfl rfl rfl (by kernel_rfl) Yba.func3 (by kernel_rfl)
    (of_decide_eq_true (by kernel_rfl)) (by unfold Func.isWrapper; first | (rw [if_pos (by decide +kernel)]; kernel_rfl) | (rw [if_neg (by decide +kernel)]; exact ⟨rfl, rfl⟩))
    (fun os started H enc _ => lifted os started H enc)

/-- THE STATEMENT -/
theorem proved : Rows.LawS4467CAddSaid := over
end Go.Proofs.Ybulkcnmi.lawS4467CAdd
