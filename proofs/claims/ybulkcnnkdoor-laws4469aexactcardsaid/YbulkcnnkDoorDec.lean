/-
  zzs4469adec: ITS CONTRACT.
-/
import Derived.Test.YbulkcnnkDoorFmt
namespace Go.Proofs.YbulkcnnkDoor
open Go.RowKit Go.Sort Go.Lib

/-- The digits of v that are still to come: none where v is 0. -/
def head (v : Nat) : List UInt8 := if v = 0 then [] else decDigits v

theorem head_step {v : Nat} (h : 0 < v) : head v = head (v / 10) ++ [UInt8.ofNat (48 + v % 10)] := by
  unfold head
  rw [if_neg (by omega), decDigits]
  by_cases h10 : v < 10
  · rw [dif_pos h10, if_pos (by omega), Nat.mod_eq_of_lt h10]; rfl
  · rw [dif_neg h10, if_neg (by omega)]

/-- What a round finds: i places are free; l stands behind them. -/
def RelD (w : World) (u i v : Nat) (l : List UInt8) (wr : World) : Prop :=
  ∃ arr, wr.heap[w.heap.size]? = some (.cells arr 35 (0, 0)) ∧ arr.size = 20 ∧ i + l.length = 20 ∧ v < 10 ^ i ∧ decDigits u = head v ++ l ∧
    (∀ j (hj : j < l.length), arr[i + j]? = some (.int .u8 ((l[j]).toNat : Int))) ∧ Below w.heap.size w wr ∧ w.heap.size < wr.heap.size

theorem reld_zero (w : World) (u : Nat) (hu : 0 < u) (h64 : u < 18446744073709551616) (arr : Array Value) (ha : arr.size = 20) : RelD w u 20 u [] (w.alloc (.cells arr 35)) := by
  refine ⟨arr, heap_alloc_new w _, ha, rfl, by omega, ?_, fun j hj => by simp at hj, (Below.refl _ _).alloc (Nat.le_refl _) _, by simp⟩
  simp [head]; omega

theorem reld_step {w wr : World} {u i v : Nat} {l : List UInt8} (h : RelD w u (i + 1) v l wr) (hv : 0 < v) :
    RelD w u i (v / 10) (UInt8.ofNat (48 + v % 10) :: l) (wr.setCell ⟨w.heap.size, i, none⟩ (.int .u8 (48 + (v : Int) % 10))) := by
  obtain ⟨arr, hb, hs, hl, hlt, hd, hc, hbel, hsz⟩ := h
  refine ⟨_, heap_setCell_same wr _ i arr 35 _ hb, by simpa using hs, by simp; omega, ?_, ?_, ?_, hbel.setCell (p := ⟨w.heap.size, i, none⟩) (Nat.le_refl _) _, by simpa using hsz⟩
  · rw [Nat.pow_succ] at hlt; omega
  · rw [hd, head_step hv]; simp
  · intro j hj
    rw [Array.getElem?_setIfInBounds]
    cases j with
    | zero =>
      have : i < arr.size := by omega
      have e : (UInt8.ofNat (48 + v % 10)).toNat = 48 + v % 10 := by simp; omega
      simp only [Nat.add_zero, if_true, this, List.getElem_cons_zero, e]
      simp
    | succ j =>
      rw [if_neg (by omega), show i + (j + 1) = i + 1 + j by omega, hc j (by simpa using hj)]
      simp

/-- What a walk reads off it. -/
theorem reld_cell {w wr : World} {u i v : Nat} {l : List UInt8} (h : RelD w u (i + 1) v l wr) : (∃ x, wr.cell? ⟨w.heap.size, i, none⟩ = some x) ∧ wr.frozen? ⟨w.heap.size, i, none⟩ = false := by
  obtain ⟨arr, hb, hs, hl, _⟩ := h
  refine ⟨⟨arr[i]'(by omega), ?_⟩, frozen_of_row wr _ _ _ _ hb⟩
  rw [cell_of_row wr _ _ _ _ _ hb, Array.getElem?_eq_getElem]

theorem reld_pos {w wr : World} {u i v : Nat} {l : List UInt8} (h : RelD w u i v l wr) (hv : 0 < v) : 0 < i := by
  obtain ⟨arr, _, _, _, hlt, _⟩ := h
  rcases Nat.eq_zero_or_pos i with rfl | h
  · simp at hlt; omega
  · exact h

theorem reld_end {w wr : World} {u i : Nat} {l : List UInt8} (h : RelD w u i 0 l wr) : i < 20 ∧ (20 - i) = (decDigits u).length ∧
    (convert 27 9 (.slice (some ⟨w.heap.size, i, none⟩) (decDigits u).length (20 - i))).run Ybad.prog wr = .ok (.string ⟨(decDigits u).toArray⟩) wr ∧ Below w.heap.size w wr := by
  obtain ⟨arr, hb, hs, hl, _, hd, hc, hbel, _⟩ := h
  have hd' : decDigits u = l := by rw [hd]; simp [head]
  have hpos : 0 < (decDigits u).length := by
    rw [decDigits_length, nDigits]
    split <;> omega
  rw [hd'] at hpos ⊢
  refine ⟨by omega, by omega, ?_, hbel⟩
  refine run_convert_bytes_back (P := Ybad.prog) wr 27 9 5 ⟨w.heap.size, i, none⟩ (20 - i) l Ybad.underlying27 Ybad.underlying5 Ybad.underlying9 (fun j hj => ?_)
  rw [Lib.add_plain, cell_of_row wr _ _ _ _ _ hb]
  exact hc j hj

set_option maxRecDepth 100000 in
set_option maxHeartbeats 1000000 in
theorem dec_any (u : Nat) (h64 : u < 18446744073709551616) (w : World) :
    Calls Ybad.prog 5 #[.int .u64 u] w fun e w' => e = .returned (.string ⟨(decDigits u).toArray⟩) ∧ Below w.heap.size w w' := by
  rcases Nat.eq_zero_or_pos u with rfl | hu
  · have hd : decDigits 0 = [48] := by rw [decDigits]; rfl
    rw [hd]
    go_enter Ybad.func5, Ybad.ntmps5
    go_wp2_with fail
    go_ret
    exact ⟨rfl, Below.refl _ _⟩
  · have hu0 : ((u : Int) == 0) = false := by rw [beq_eq_false_iff_ne]; omega
    have hu1 : (0 : Int) < (u : Int) := by omega
    have HR := Hid.mk (fun arr ha => reld_zero w u hu h64 arr ha)
    have hu2 : (u : Int) ≤ 18446744073709551615 := by omega
    go_enter Ybad.func5, Ybad.ntmps5
    go_wp2_with fail
    go_loopw [0, 4] (fun vu vi wr => ∃ (i v : Nat) (l : List UInt8), i ≤ 20 ∧ v ≤ u ∧ vu = .int .u64 v ∧ vi = .int .i64 i ∧ RelD w u i v l wr) (fun vu _ _ => (RowKit.intOf vu).toNat)
    case atStart => exact ⟨20, u, [], Nat.le_refl _, Nat.le_refl _, rfl, rfl, HR.out _ (by simp)⟩
    case round =>
      obtain ⟨i, v, l, hi, hvu, rfl, rfl, hR⟩ := hrel
      clear HR
      rcases Nat.eq_zero_or_pos v with rfl | hv
      · obtain ⟨hi20, hlen, hcv, hbel⟩ := reld_end hR
        have hal : Ybad.prog.arrayLen 35 = 20 := by simp [Program.arrayLen, Ybad.underlying35]
        have hsl : ∀ W, (Instr.sliceAt 35 (.pointer (some ⟨w.heap.size, 0, none⟩)) (some (.int .i64 (i : Int))) none none).run Ybad.prog W = .ok (.slice (some ⟨w.heap.size, i, none⟩) (decDigits u).length (20 - i)) W := fun W => by
          rw [run_sliceAt_array_l W 35 ⟨w.heap.size, 0, none⟩ (by simp [Program.arrayLen, Program.elem, Ybad.underlying35]) .i64 (i : Int) (by omega) (by rw [hal]; omega), hal, ← hlen]
          have h20 : ¬ 20 = i := by omega
          go_simp
        have HB := Hid.mk hbel
        clear hR hal hlen hbel
        go_wp2_with fail
        go_ret
        exact ⟨rfl, HB.out⟩
      · obtain ⟨k, rfl⟩ : ∃ k, i = k + 1 := ⟨i - 1, by have := reld_pos hR hv; omega⟩
        obtain ⟨⟨x, hx⟩, hf⟩ := reld_cell hR
        have HS := Hid.mk (reld_step hR hv)
        have hv1 : (0 : Int) < (v : Int) := by omega
        have hv2 : (v : Int) ≤ 18446744073709551615 := by omega
        clear hR
        go_wp2_with fail
        go_roundw
        case rel => exact ⟨k, v / 10, _, by omega, Nat.le_trans (Nat.div_le_self _ _) hvu, by go_num, rfl, HS.out⟩
        case measure => simp [RowKit.intOf]; omega
end Go.Proofs.YbulkcnnkDoor
