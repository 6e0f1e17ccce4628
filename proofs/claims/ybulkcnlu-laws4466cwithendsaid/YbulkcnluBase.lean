/-
  THE BLOCK OF AN 'inflight', and 'Only': what a call may have turned. Plain facts on worlds; no walk.
-/
import Derived.Test.YbulkcnluLocks
import Derived.Conc.MuLone
import Derived.WalkKit
namespace Go.Proofs.Ybulkcnlu
open Go.MuLone Go.RowKit

/-- The block of an 'inflight': the cells rule, mu (two), changed, started, commits, waiting, readTS. -/
def fblock (rule m : Int) (ch : Nat) (k : Nat) (v : Value) : Obj :=
  .cells #[.int .i64 rule, .int .i32 m, .int .u32 0, .chan (some ch), .int .u64 k, v, .int .i64 0, .int .u64 0] 38 (0, 0)

/-- One pending commit, as cells. -/
def pend (k : Nat) (s : Value) : List Value := [.int .u64 k, .bool false, .int .u64 0, .int .u64 0, s]

/-- Of the blocks that were there only those of S may have turned. -/
structure Only (w w' : World) (S : Nat → Prop) : Prop where
  os : w'.os = w.os
  tape : w'.tape = w.tape
  output : w'.output = w.output
  size : w.heap.size ≤ w'.heap.size
  block : ∀ j, j < w.heap.size → ¬ S j → w'.heap[j]? = w.heap[j]?

theorem Only.refl (w : World) (S : Nat → Prop) : Only w w S := ⟨rfl, rfl, rfl, Nat.le_refl _, fun _ _ _ => rfl⟩
theorem Only.trans {a b c : World} {S : Nat → Prop} (h : Only a b S) (k : Only b c S) : Only a c S :=
  ⟨k.os.trans h.os, k.tape.trans h.tape, k.output.trans h.output, Nat.le_trans h.size k.size, fun i hi hs => (k.block i (Nat.lt_of_lt_of_le hi h.size) hs).trans (h.block i hi hs)⟩
theorem Only.mono {a b : World} {S T : Nat → Prop} (h : Only a b S) (hs : ∀ j, j < a.heap.size → S j → T j) : Only a b T :=
  ⟨h.os, h.tape, h.output, h.size, fun i hi ht => h.block i hi (fun k => ht (hs i hi k))⟩
theorem Only.alloc {a w : World} {S : Nat → Prop} (h : Only a w S) (o : Obj) : Only a (w.alloc o) S :=
  h.trans ⟨rfl, rfl, rfl, by simp, fun k hk _ => Below.heap_alloc w o k hk⟩
theorem Only.setCell {a w : World} {S : Nat → Prop} (h : Only a w S) {p : Addr} (hp : S p.block) (u : Value) : Only a (w.setCell p u) S :=
  h.trans ⟨rfl, rfl, rfl, by simp [World.setCell], fun k _ hs => Below.heap_setCell _ _ _ _ (fun e => hs (e ▸ hp))⟩
theorem Only.drew {a w : World} {S : Nat → Prop} (h : Only a w S) : Only a w.drew S := ⟨h.os, h.tape, h.output, h.size, h.block⟩
theorem Only.grown {a w w' : World} {S : Nat → Prop} {row : Option Nat} (h : Only a w S) (hg : w.grownBy w' row) (hr : ∀ k, row = some k → S k) : Only a w' S :=
  h.trans ⟨hg.os, hg.tape, hg.output, hg.size, fun k hk hs => hg.block k hk (fun e => hs (hr k e.symm))⟩
theorem Only.below {a b : World} {S : Nat → Prop} (h : Only a b S) {B : Nat} (hB : B ≤ a.heap.size) (hs : ∀ j, S j → B ≤ j) : Below B a b :=
  ⟨h.os, h.tape, h.output, h.size, fun k hk => h.block k (by omega) (fun e => by have := hs k e; omega)⟩

/-- The six facts that a walk reads off the block. -/
theorem fcells {w : World} {B : Nat} {rule m : Int} {ch k : Nat} {v : Value} (h : w.heap[B]? = some (fblock rule m ch k v)) :
    w.cell? ⟨B, 0, none⟩ = some (.int .i64 rule) ∧ w.cell? ⟨B, 1, none⟩ = some (.int .i32 m) ∧ w.cell? ⟨B, 3, none⟩ = some (.chan (some ch)) ∧ w.cell? ⟨B, 4, none⟩ = some (.int .u64 k) ∧
    w.cell? ⟨B, 5, none⟩ = some v ∧ w.cell? ⟨B, 6, none⟩ = some (.int .i64 0) ∧ w.cell? ⟨B, 7, none⟩ = some (.int .u64 0) := by
  simp [World.cell?, h, fblock]
theorem ffree {w : World} {B : Nat} {rule m : Int} {ch k : Nat} {v : Value} (h : w.heap[B]? = some (fblock rule m ch k v)) (j : Nat) : w.frozen? ⟨B, j, none⟩ = false := by
  simp [World.frozen?, h, fblock]

theorem fset1 {w : World} {B : Nat} {rule m : Int} {ch k : Nat} {v : Value} (h : w.heap[B]? = some (fblock rule m ch k v)) (m' : Int) :
    (w.setCell ⟨B, 1, none⟩ (.int .i32 m')).heap[B]? = some (fblock rule m' ch k v) := by
  rw [heap_setCell_same w B 1 _ 38 _ h]; simp [fblock]
theorem fset3 {w : World} {B : Nat} {rule m : Int} {ch k : Nat} {v : Value} (h : w.heap[B]? = some (fblock rule m ch k v)) (ch' : Nat) :
    (w.setCell ⟨B, 3, none⟩ (.chan (some ch'))).heap[B]? = some (fblock rule m ch' k v) := by
  rw [heap_setCell_same w B 3 _ 38 _ h]; simp [fblock]
theorem fset4 {w : World} {B : Nat} {rule m : Int} {ch k : Nat} {v : Value} (h : w.heap[B]? = some (fblock rule m ch k v)) :
    (w.setCell ⟨B, 4, none⟩ (.int .u64 ((k : Int) + 1))).heap[B]? = some (fblock rule m ch (k + 1) v) := by
  rw [heap_setCell_same w B 4 _ 38 _ h]; simp [fblock]
theorem fset5 {w : World} {B : Nat} {rule m : Int} {ch k : Nat} {v : Value} (h : w.heap[B]? = some (fblock rule m ch k v)) (v' : Value) :
    (w.setCell ⟨B, 5, none⟩ v').heap[B]? = some (fblock rule m ch k v') := by
  rw [heap_setCell_same w B 5 _ 38 _ h]; simp [fblock]

/-- The cells of a block that has just been laid. -/
theorem cells_new {W : World} {cs : List Value} {e : TypeId} {N : Nat} (hN : W.heap.size = N) (j : Nat) (u : Value) (h : cs[j]? = some u) :
    (W.alloc (.cells cs.toArray e)).cell? ((⟨N, 0, none⟩ : Addr).add j) = some u := by
  subst hN
  have hadd : (⟨W.heap.size, 0, none⟩ : Addr).add j = ⟨W.heap.size, j, none⟩ := by unfold Addr.add; split <;> simp_all
  rw [hadd]
  have hh : (W.alloc (.cells cs.toArray e)).heap[W.heap.size]? = some (.cells cs.toArray e (0, 0)) := by show (W.heap.push _)[W.heap.size]? = _; simp
  rw [cell_of_row _ _ _ _ _ _ hh]
  simpa using h

/-- What is owned is a slice value. -/
theorem own_shape {w : World} {base : Nat} {e : TypeId} {size : Nat} {v : Value} {n : Nat} {xs : List Value} (h : w.ownsRow base e size v n xs) : ∃ ga cp, v = .slice ga n cp := by
  rcases h.2 with ⟨rfl, rfl⟩ | ⟨g, cap, cur, rfl, _⟩
  · exact ⟨_, _, rfl⟩
  · exact ⟨_, _, rfl⟩

theorem info41 : (Yba.prog.info? 41).map (fun i => (i.zero, i.size, i.bytes)) = some (some (.agg #[.int .u64 0, .bool false, .int .u64 0, .int .u64 0, .slice none 0 0]), 5, 56) := by kernel_rfl
end Go.Proofs.Ybulkcnlu
