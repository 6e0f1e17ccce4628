/-
  The map operations over 'Inv'; addTo: ITS CONTRACT.
-/
import Derived.Test.YbulkcnmiInv
namespace Go.Proofs.Ybulkcnmi
open Go.RowKit
open Go.ChangeMaps (setBlock heap_setBlock_same heap_setBlock_other)

section
variable {w wr : World} {Ma M : Nat → Nat → Bool} {Ha H : Nat → Bool} {bk : Nat → Nat}

theorem zero27 (w : World) : (zeroValue 27).run Yba.prog w = .ok (.map none) w := by kernel_rfl
theorem zero4 (w : World) : (zeroValue 4).run Yba.prog w = .ok (.bool false) w := by kernel_rfl

theorem Inv.lookHit (h : Inv w Ma Ha H M bk wr) {k : Nat} (hk : k < 8) (hH : H k = true) (ok : Bool) :
    (Instr.lookup 26 (.map (some (w.heap.size + 2))) (.int .u8 k) ok).run Yba.prog wr = .ok (if ok then .tuple #[.map (some (bk k)), .bool true] else .map (some (bk k))) wr := by
  obtain ⟨es, c, hb, hes⟩ := h.outer
  have := run_look (P := Yba.prog) Yba.underlying26 Yba.underlying5 (zero27 wr) hb hes k hk ok
  simpa [outF, hH] using this
theorem Inv.lookMiss (h : Inv w Ma Ha H M bk wr) {k : Nat} (hk : k < 8) (hH : H k = false) (ok : Bool) :
    (Instr.lookup 26 (.map (some (w.heap.size + 2))) (.int .u8 k) ok).run Yba.prog wr = .ok (if ok then .tuple #[.map none, .bool false] else .map none) wr := by
  obtain ⟨es, c, hb, hes⟩ := h.outer
  have := run_look (P := Yba.prog) Yba.underlying26 Yba.underlying5 (zero27 wr) hb hes k hk ok
  simpa [outF, hH] using this
theorem Inv.lookIn (h : Inv w Ma Ha H M bk wr) {k v : Nat} (hk : k < 8) (hH : H k = true) (hv : v < 8) :
    (Instr.lookup 27 (.map (some (bk k))) (.int .u8 v) false).run Yba.prog wr = .ok (.bool (M k v)) wr := by
  obtain ⟨_, es, c, hb, hes⟩ := h.inner k hk hH
  have := run_look (P := Yba.prog) Yba.underlying27 Yba.underlying5 (zero4 wr) hb hes v hv false
  rw [this]
  unfold inF
  cases M k v <;> rfl
theorem lookNil (wr : World) (v : Nat) : (Instr.lookup 27 (.map none) (.int .u8 v) false).run Yba.prog wr = .ok (.bool false) wr :=
  run_look_nil (P := Yba.prog) Yba.underlying27 Yba.underlying5 (zero4 wr) v false

theorem Inv.updOut (h : Inv w Ma Ha H M bk wr) {k : Nat} (hk : k < 8) (hH : H k = false) :
    ∃ W, (Instr.mapUpdate 26 (.map (some (w.heap.size + 2))) (.int .u8 k) (.map (some wr.heap.size))).run Yba.prog (wr.alloc (.map #[] 0)) = .ok () W ∧ Inv w Ma Ha (up H k) M (upN bk k wr.heap.size) W := by
  have hsz := h.size
  obtain ⟨es, c, hb, hes⟩ := h.outer
  have hb' : (wr.alloc (.map #[] 0)).heap[w.heap.size + 2]? = some (.map es c) := (Below.heap_alloc _ _ _ (by omega)).trans hb
  obtain ⟨es', c', hrun, hes'⟩ := run_upd (P := Yba.prog) Yba.underlying26 Yba.underlying5 hb' hes k hk (.map (some wr.heap.size))
  exact ⟨_, hrun, h.newKey hk hH hb hes'⟩
theorem Inv.updIn (h : Inv w Ma Ha H M bk wr) {k v : Nat} (hk : k < 8) (hH : H k = true) (hv : v < 8) :
    ∃ W, (Instr.mapUpdate 27 (.map (some (bk k))) (.int .u8 v) (.bool true)).run Yba.prog wr = .ok () W ∧ Inv w Ma Ha H (up2 M k v) bk W := by
  obtain ⟨_, es, c, hb, hes⟩ := h.inner k hk hH
  obtain ⟨es', c', hrun, hes'⟩ := run_upd (P := Yba.prog) Yba.underlying27 Yba.underlying5 hb hes v hv (.bool true)
  exact ⟨_, hrun, h.setIn hk hH hb hes'⟩
/-- Both, at a key that was not there. -/
theorem Inv.updBoth (h : Inv w Ma Ha H M bk wr) {k v : Nat} (hk : k < 8) (hH : H k = false) (hv : v < 8) :
    ∃ W W', (Instr.mapUpdate 26 (.map (some (w.heap.size + 2))) (.int .u8 k) (.map (some wr.heap.size))).run Yba.prog (wr.alloc (.map #[] 0)) = .ok () W ∧
      (Instr.mapUpdate 27 (.map (some wr.heap.size)) (.int .u8 v) (.bool true)).run Yba.prog W = .ok () W' ∧ Inv w Ma Ha (up H k) (up2 M k v) (upN bk k wr.heap.size) W' := by
  obtain ⟨W, h1, hI⟩ := h.updOut hk hH
  obtain ⟨W', h2, hI'⟩ := hI.updIn (k := k) (v := v) hk (by simp [up]) hv
  refine ⟨W, W', h1, ?_, hI'⟩
  have e : upN bk k wr.heap.size k = wr.heap.size := by simp [upN]
  rw [e] at h2
  exact h2
theorem up_self {H : Nat → Bool} {k : Nat} (h : H k = true) : up H k = H := by
  funext i
  by_cases e : i = k <;> simp [up, e, h]
end

set_option maxHeartbeats 400000 in
theorem add_any (w wr : World) (Ma M : Nat → Nat → Bool) (Ha H : Nat → Bool) (bk : Nat → Nat) (k v : Nat) (hI : Inv w Ma Ha H M bk wr) (hk : k < 8) (hv : v < 8) :
    Calls Yba.prog 4 #[.map (some (w.heap.size + 2)), .int .u8 k, .int .u8 v] wr fun e w' => e = .returned (.tuple #[]) ∧ ∃ bk', Inv w Ma Ha (up H k) (up2 M k v) bk' w' ∧ (H k = true → bk' k = bk k) := by
  cases hH : H k with
  | true =>
    have h1 := hI.lookHit hk hH true
    simp only [if_true] at h1
    obtain ⟨W, h2, hI'⟩ := hI.updIn hk hH hv
    have HF : Hid (Inv w Ma Ha (up H k) (up2 M k v) bk W) := by rw [up_self hH]; exact hI'
    clear hI hI' hH
    go_enter Yba.func4, Yba.ntmps4
    go_wp2
    go_end0
    exact ⟨rfl, bk, HF.out, fun _ => rfl⟩
  | false =>
    have h1 := hI.lookMiss hk hH true
    simp only [if_true] at h1
    obtain ⟨W, W', h2, h3, hI'⟩ := hI.updBoth hk hH hv
    have HF : Hid (Inv w Ma Ha (up H k) (up2 M k v) (upN bk k wr.heap.size) W') := hI'
    have hmm := @run_makeMap Yba.prog
    clear hI hI' hH
    go_enter Yba.func4, Yba.ntmps4
    go_wp2
    go_end0
    exact ⟨rfl, _, HF.out, fun h => by cases h⟩
end Go.Proofs.Ybulkcnmi
