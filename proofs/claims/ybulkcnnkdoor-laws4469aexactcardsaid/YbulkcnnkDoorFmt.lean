/-
  strconv.FormatUint at base 10: ITS CONTRACT.
-/
import Derived.Test.YbulkcnnkDoorShelf
import Derived.Lib.ItoaMem
import Derived.WalkKit
import Derived.WalkSmall
namespace Go.Proofs.YbulkcnnkDoor
open Go.RowKit Go.Sort Go.Lib

/-- The table of powers, in the first variable's block. -/
def PowTab (w : World) : Prop := ∃ t fr, w.heap[0]? = some (.cells (pow10Tab.map fun z => Value.int .u64 z).toArray t fr)

theorem PowTab.tab {w : World} (h : PowTab w) {nm : String} (hg : Ybad.prog.globalNamed nm = some 0) : Lib.TabIs Ybad.prog w nm .u64 Lib.pow10Tab := by
  obtain ⟨t, fr, h0⟩ := h
  simp [Lib.TabIs, World.var?, hg, h0]
theorem PowTab.below {w w' : World} {B : Nat} (h : PowTab w) (hb : Below B w w') (hB : 0 < B) : PowTab w' := by
  obtain ⟨t, fr, h0⟩ := h
  exact ⟨t, fr, (hb.block 0 hB).trans h0⟩
theorem PowTab.pos {w : World} (h : PowTab w) : 0 < w.heap.size := by
  obtain ⟨t, fr, h0⟩ := h
  exact lt_of_block h0
theorem PowTab.alloc {w : World} (h : PowTab w) (o : Obj) : PowTab (w.alloc o) := h.below ((Below.refl w.heap.size w).alloc (Nat.le_refl _) o) h.pos

theorem Hid.mk {p : Prop} (h : p) : Hid p := h

theorem holds_zero0 (w : World) (T : TypeId) (nd : Nat) (hs : nd ≤ 24) : Holds (fun (b : UInt8) => Value.int .u8 (b.toNat : Int)) (w.alloc (.cells zeros24 T)) w.heap.size 0 (Array.replicate nd (0 : UInt8)) := fun j hj => by
  have hj' : j < nd := by simpa using hj
  refine ⟨?_, World.frozen?_alloc_new _ _ _ _⟩
  rw [World.cell?_alloc_new, zeros24_at _ (by omega), getElem!_pos _ j hj]
  simp

theorem below_putRow (w : World) (o : Obj) (off : Nat) (dk : Array UInt8) (k : Nat) : Below w.heap.size w ((putRow (fun (b : UInt8) => Value.int .u8 (b.toNat : Int)) (w.alloc o) w.heap.size off dk).drewN k) := by
  refine below_drewN ?_ k
  refine ((Below.refl w.heap.size w).alloc (Nat.le_refl _) o).trans ⟨rfl, rfl, rfl, by simp [putRow, mapBlock], fun j hj => ?_⟩
  simp only [putRow, mapBlock, Array.getElem?_modify]
  rw [if_neg (by omega)]

set_option maxRecDepth 100000 in
set_option maxHeartbeats 1000000 in
theorem ifmt_any (u : Nat) (hu64 : u < 18446744073709551616) (w : World) (hT : PowTab w) :
    Calls Ybad.prog 10 #[.int .u64 u, .int .i64 10] w fun e w' => e = .returned (.string ⟨(decDigits u).toArray⟩) ∧ Below w.heap.size w w' := by
  by_cases hs : u < 100
  · have hs1 : (u : Int) < 100 := by omega
    go_enter Ybad.func10, Ybad.ntmps10
    go_wp2_with (go_at_call 14; refine (Ybad.internal_strconv_small u hs _).mono ?_; rintro e w' ⟨rfl, rfl⟩)
    go_ret
    exact ⟨rfl, Below.refl _ _⟩
  · have hs1 : ¬ (u : Int) < 100 := by omega
    have hu1 : 1 ≤ u := by omega
    have hnd20 : nDigits u ≤ 20 := by have := numDigits_eq u hu1 hu64; split at this <;> omega
    have hal : Ybad.prog.arrayLen 45 = 24 := by simp [Program.arrayLen, Ybad.underlying45]
    have hsl2 : ∀ W, (Instr.sliceAt 45 (.pointer (some ⟨w.heap.size, 0, none⟩)) none (some (.int .i64 (nDigits u : Int))) none).run Ybad.prog W = .ok (.slice (some ⟨w.heap.size, 0, none⟩) (nDigits u) 24) W := fun W => by
      rw [run_sliceAt_array_h W 45 ⟨w.heap.size, 0, none⟩ (by simp [Program.arrayLen, Program.elem, Ybad.underlying45]) .i64 (nDigits u : Int) (by omega) (by rw [hal]; omega)]
      go_simp
    have hH0 := holds_zero0 w 45 (nDigits u) (by omega)
    have hfmt := Ybad.internal_strconv_formatBase10 w.heap.size 0 24 u (Array.replicate (nDigits u) 0) (w.alloc (.cells zeros24 45)) hH0 (by rw [Array.size_replicate]; exact lt_pow_nDigits u) hu64 (by rw [Array.size_replicate]; omega)
    rw [Array.size_replicate] at hfmt
    have HH0 := Hid.mk hH0
    have HF := Hid.mk hfmt
    clear hH0 hal hfmt
    go_enter Ybad.func10, Ybad.ntmps10
    go_wp2_with (go_at_call 15; refine (Any.internal_strconv_numDigits Ybad.laysM284 u hu1 hu64 _ ((hT.alloc _).tab (by kernel_rfl))).mono ?_; rintro e w' ⟨rfl, rfl⟩)
    refine HF.out.mono ?_
    rintro e w' ⟨rfl, k, v', dk, rfl, hF⟩
    have hcv : (convert 27 9 (.slice (some ⟨w.heap.size, 0, none⟩) (nDigits u) 24)).run Ybad.prog ((putRow (fun (b : UInt8) => Value.int .u8 (b.toNat : Int)) (w.alloc (.cells zeros24 45)) w.heap.size 0 dk).drewN k) = .ok (.string ⟨(decDigits u).toArray⟩) ((putRow (fun (b : UInt8) => Value.int .u8 (b.toNat : Int)) (w.alloc (.cells zeros24 45)) w.heap.size 0 dk).drewN k) := by
      have h := run_convert_bytes_back (P := Ybad.prog) ((putRow (fun (b : UInt8) => Value.int .u8 (b.toNat : Int)) (w.alloc (.cells zeros24 45)) w.heap.size 0 dk).drewN k) 27 9 5 ⟨w.heap.size, 0, none⟩ 24 (decDigits u) Ybad.underlying27 Ybad.underlying5 Ybad.underlying9 (fun j hj => by
        rw [row_is_numeral hF j hj, Lib.add_plain, World.cell?_drewN]
        exact cell?_putRow (fun (b : UInt8) => Value.int .u8 (b.toNat : Int)) _ w.heap.size 0 _ dk HH0.out (by rw [hF.size, Array.size_replicate]) j (by rw [hF.size]; rw [decDigits_length] at hj; exact hj))
      rw [decDigits_length] at h
      exact h
    have hbel := Hid.mk (below_putRow w (.cells zeros24 45) 0 dk k)
    generalize (putRow (fun (b : UInt8) => Value.int .u8 (b.toNat : Int)) (w.alloc (.cells zeros24 45)) w.heap.size 0 dk).drewN k = W at *
    go_wp2
    go_ret
    exact ⟨rfl, hbel.out⟩

set_option maxHeartbeats 400000 in
theorem fmt_any (u : Nat) (hu64 : u < 18446744073709551616) (w : World) (hT : PowTab w) :
    Calls Ybad.prog 7 #[.int .u64 u, .int .i64 10] w fun e w' => e = .returned (.string ⟨(decDigits u).toArray⟩) ∧ Below w.heap.size w w' := by
  go_enter Ybad.func7, Ybad.ntmps7
  go_wp2_with (go_at_call 10; refine (ifmt_any u hu64 _ hT).mono ?_; rintro e w' ⟨rfl, hb⟩)
  go_ret
  exact ⟨rfl, hb⟩
end Go.Proofs.YbulkcnnkDoor
