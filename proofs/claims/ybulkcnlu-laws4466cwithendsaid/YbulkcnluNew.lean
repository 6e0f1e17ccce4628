/-
  newInflight, (*inflight).mark: THEIR CONTRACTS.
-/
import Derived.Test.YbulkcnluBase
namespace Go.Proofs.Ybulkcnlu
open Go.MuLone Go.RowKit

theorem run_makeChan34 (w : World) : (Instr.makeChan 34 (.int .i64 0)).run Yba.prog w = .ok (.chan (some w.heap.size)) (w.alloc (.chan 0 #[] false 0 0 false)) := by
  kernel_rfl

set_option maxHeartbeats 400000 in
theorem new_any (rule : Int) (w : World) :
    Calls Yba.prog 5 #[.int .i64 rule] w fun e w' => e = .returned (.pointer (some ⟨w.heap.size + 1, 0, none⟩)) ∧
      w' = (w.alloc (.chan 0 #[] false 0 0 false)).alloc (fblock rule 0 w.heap.size 0 (.slice none 0 0)) := by
  have hmc := run_makeChan34
  go_enter Yba.func5, Yba.ntmps5
  go_wp2
  go_ret
  exact ⟨rfl, rfl⟩

set_option maxHeartbeats 400000 in
theorem mark_any (B k : Nat) (rule : Int) (ch : Nat) (v : Value) (w : World)
    (hb : w.heap[B]? = some (fblock rule 0 ch k v)) :
    Calls Yba.prog 7 #[.pointer (some ⟨B, 0, none⟩)] w fun e w' => e = .returned (.int .u64 k) ∧ w'.heap[B]? = some (fblock rule 0 ch k v) ∧ Only w w' (fun j => j = B) := by
  obtain ⟨-, c1, -, c4, -, -, -⟩ := fcells hb
  have f1 := ffree hb 1
  have HB : Hid (w.heap[B]? = some (fblock rule 0 ch k v)) := hb
  clear hb
  go_enter_defers Yba.func7, Yba.ntmps7
  go_wp2_with (go_at_call 11; refine (lock_free Yba.muLib ⟨B, 1, none⟩ _ c1 f1).mono ?_; rintro e w' ⟨rfl, rfl⟩)
  refine leaves_cons (f := 12) (args := #[.pointer (some ⟨B, 1, none⟩)]) (by simp) (by simp [go_sem]) ?_
  refine (unlock_deferred Yba.muLib ⟨B, 1, none⟩ .returning _ ?_ ?_).mono ?_
  · exact World.cell?_setCell_same w ⟨B, 1, none⟩ (.int .i32 1) c1
  · simp [f1]
  rintro e u' w'' ⟨rfl, rfl, rfl⟩
  exact ⟨_, results_tmp rfl _ _ _, rfl, fset1 (fset1 HB.out 1) 0, ((Only.refl w (fun j => j = B)).setCell (p := ⟨B, 1, none⟩) rfl _).setCell (p := ⟨B, 1, none⟩) rfl _⟩
end Go.Proofs.Ybulkcnlu
