/-
  LawS4466CSequence: ITS WALK.
-/
import Derived.Test.YbulkcnluStart
import Derived.Test.YbulkcnluNew
import Derived.Deep.QuietTactic
import Derived.BigQuiet
import Derived.WalkSmall
import Derived.Lib.Builder
namespace Go.Proofs.Ybulkcnlu
open Go.MuLone Go.RowKit

set_option maxHeartbeats 400000 in
theorem seq_big (a0 : Option Addr) (len cap : Nat) (n rule : Int) (w : World) (hn : 1024 < n) :
    Calls Yba.prog 3 #[.slice a0 len cap, .int .u16 n, .int .i64 rule] w fun e w' => e = .returned (.bool true) ∧ Below w.heap.size w w' := by
  go_enter Yba.func3, Yba.ntmps3
  go_wp2_with fail
  go_ret
  exact ⟨rfl, Below.refl _ _⟩

theorem run_eql_chan (c : Nat) (w : World) : (binOp .eql 34 (.chan (some c)) (.chan (some c))).run Yba.prog w = .ok (.bool true) w := by
  have h : ∀ d : Nat, (Op.equalIn (d + 1) 34 (.chan (some c)) (.chan (some c))).run Yba.prog w = .ok true w := fun d => by
    simp [Op.equalIn, run_underlying Yba.underlying34]
  simp only [binOp]
  simp [Op.equal, Op.maxDepth, h 9999]

/-- What a round of the first loop finds. -/
def Rel (w : World) (rule : Int) (k : Nat) (wr : World) : Prop :=
  ∃ ga cp xs, wr.heap[w.heap.size + 1]? = some (fblock rule 0 w.heap.size k (.slice ga k cp)) ∧ wr.ownsRow (w.heap.size + 2) 41 5 (.slice ga k cp) k xs ∧
    (∀ j, j < k → xs[j * 5]? = some (.int .u64 j)) ∧ Below w.heap.size w wr ∧ w.heap.size + 2 ≤ wr.heap.size

theorem rel_zero (w : World) (rule : Int) : Rel w rule 0 ((w.alloc (.chan 0 #[] false 0 0 false)).alloc (fblock rule 0 w.heap.size 0 (.slice none 0 0))) := by
  refine ⟨none, 0, [], ?_, World.ownsRow_nil _ _ _ _, fun j hj => absurd hj (Nat.not_lt_zero _), ((Below.refl _ _).alloc (Nat.le_refl _) _).alloc (by simp) _, by simp⟩
  have := heap_alloc_new (w.alloc (.chan 0 #[] false 0 0 false)) (fblock rule 0 w.heap.size 0 (.slice none 0 0))
  simpa using this

theorem Rel.alloc {w wr : World} {rule : Int} {k : Nat} (h : Rel w rule k wr) (o : Obj) : Rel w rule k (wr.alloc o) := by
  obtain ⟨ga, cp, xs, hb, hown, hx, hbel, hsz⟩ := h
  exact ⟨ga, cp, xs, by rw [Below.heap_alloc _ _ _ (by omega)]; exact hb, hown.alloc o, hx, hbel.alloc (by omega) o, by simp; omega⟩

theorem Rel.drewN {w wr : World} {rule : Int} {k : Nat} (h : Rel w rule k wr) (q : Nat) : Rel w rule k (wr.drewN q) := by
  obtain ⟨ga, cp, xs, hb, hown, hx, hbel, hsz⟩ := h
  exact ⟨ga, cp, xs, hb, hown, hx, below_drewN hbel q, hsz⟩

/-- A row that is not empty has a head; its cells. -/
theorem own_head {w : World} {base : Nat} {e : TypeId} {size : Nat} {ga : Option Addr} {n m cp : Nat} {xs : List Value} (h : w.ownsRow base e size (.slice ga n cp) m xs) (hn : 0 < m) :
    ∃ g, ga = some ⟨g, 0, none⟩ ∧ ∀ j, j < m * size → w.cell? ⟨g, j, none⟩ = xs[j]? := by
  rcases h.2 with ⟨_, rfl⟩ | ⟨g, cap, cur, hv, _⟩
  · omega
  · simp only [Value.slice.injEq] at hv
    obtain ⟨rfl, rfl, rfl⟩ := hv
    exact ⟨g, rfl, fun j hj => h.cellAt j hj⟩

theorem rel_next {w wr w1 : World} {rule : Int} {k : Nat} {ga ga' : Option Addr} {cp cp' : Nat} {xs : List Value} {s : Value} (hbel : Below w.heap.size w wr) (hsz : w.heap.size + 2 ≤ wr.heap.size)
    (hown : wr.ownsRow (w.heap.size + 2) 41 5 (.slice ga k cp) k xs) (hx : ∀ j, j < k → xs[j * 5]? = some (.int .u64 j))
    (hb1 : w1.heap[w.heap.size + 1]? = some (fblock rule 0 w.heap.size (k + 1) (.slice ga' (k + 1) cp')))
    (hown1 : w1.ownsRow (w.heap.size + 2) 41 5 (.slice ga' (k + 1) cp') (k + 1) (xs ++ pend k s))
    (hon : Only wr w1 (fun j => j = w.heap.size + 1 ∨ (Value.slice ga k cp).ownBlock = some j)) :
    Rel w rule (k + 1) w1 ∧ ∃ g, ga' = some ⟨g, 0, none⟩ ∧ w1.cell? ⟨g, k * 5, none⟩ = some (.int .u64 k) ∧ w1.cell? ⟨g, k * 5 + 1, none⟩ = some (.bool false) ∧ w1.cell? ⟨g, k * 5 + 2, none⟩ = some (.int .u64 0) ∧
      w1.cell? ⟨g, k * 5 + 3, none⟩ = some (.int .u64 0) ∧ w1.cell? ⟨g, k * 5 + 4, none⟩ = some s := by
  have hl : xs.length = k * 5 := hown.1
  refine ⟨⟨ga', cp', _, hb1, hown1, ?_, ?_, ?_⟩, ?_⟩
  · intro j hj
    by_cases e : j < k
    · rw [List.getElem?_append_left (by omega)]; exact hx j e
    · obtain rfl : j = k := by omega
      rw [List.getElem?_append_right (by omega), hl]; simp [pend]
  · refine hbel.trans (hon.below (by omega) (fun j hj => ?_))
    rcases hj with rfl | hj
    · omega
    · have := (hown.lt j hj).1; omega
  · have := hon.size; omega
  · obtain ⟨g, rfl, hc⟩ := own_head hown1 (by omega)
    refine ⟨g, rfl, ?_, ?_, ?_, ?_, ?_⟩ <;> rw [hc _ (by omega), List.getElem?_append_right (by omega), hl] <;> simp [pend]

set_option maxRecDepth 100000 in
set_option maxHeartbeats 1000000 in
theorem seq_small (a0 : Option Addr) (len cap : Nat) (n : Nat) (rule : Int) (w : World) (hn : n ≤ 1024) (hlen : len ≤ cap) (hcap : cap ≤ 140737488351232) (hnil : a0 = none → len = 0) :
    Calls Yba.prog 3 #[.slice a0 len cap, .int .u16 n, .int .i64 rule] w fun e w' => e = .returned (.bool true) ∧ Below w.heap.size w w' := by
  have hr0 : Hid (Rel w rule 0 ((w.alloc (.chan 0 #[] false 0 0 false)).alloc (fblock rule 0 w.heap.size 0 (.slice none 0 0)))) := rel_zero w rule
  have hc3 : ((w.alloc (.chan 0 #[] false 0 0 false)).alloc (fblock rule 0 w.heap.size 0 (.slice none 0 0))).cell? ⟨w.heap.size + 1, 3, none⟩ = some (.chan (some w.heap.size)) := by
    obtain ⟨_, _, _, hb, _⟩ := rel_zero w rule
    exact (fcells hb).2.2.1
  go_enter Yba.func3, Yba.ntmps3
  go_wp2_with (go_at_call 5; refine (new_any _ _).mono ?_; rintro e w' ⟨rfl, rfl⟩)
  go_loopw [9] (fun i wr => ∃ k : Nat, k ≤ n ∧ i = .int .i64 k ∧ Rel w rule k wr) (fun i _ => n - (intOf i).toNat)
  case atStart => exact ⟨0, Nat.zero_le _, rfl, hr0.out⟩
  case round =>
    obtain ⟨k, hk, rfl, hR⟩ := hrel
    clear hr0 hc3
    by_cases hlt : k < n
    · obtain ⟨ga, cp, xs, hb, hown, hx, hbel, hsz⟩ := hR
      have HB : Hid (wr.heap[w.heap.size + 1]? = some (fblock rule 0 w.heap.size k (.slice ga k cp))) := hb
      clear hb
      obtain ⟨m, hm, hmod⟩ : ∃ m : Nat, m ≤ len ∧ (k : Int) % ((len : Int) + 1) = (m : Int) :=
        ⟨k % (len + 1), by have := Nat.mod_lt k (show 0 < len + 1 by omega); omega, by simp⟩
      go_wp2_with fail
      refine (start_any (w.heap.size + 1) (w.heap.size + 2) k k rule w.heap.size (.slice ga k cp) xs a0 m cap wr HB.out hown (by omega) hsz (by omega) (by omega)).mono ?_
      rintro e w1 ⟨rfl, ga', cp', hb1, hown1, hon1⟩
      obtain ⟨hR, g, hga, e0, e1, e2, e3, e4⟩ := rel_next hbel hsz hown hx hb1 hown1 hon1
      have c5 := (fcells hb1).2.2.2.2.1
      clear hb1 hown1 hon1 hown hbel hx HB
      have HR : Hid (Rel w rule (k + 1) w1) := hR
      clear hR
      subst hga
      go_wp2_with fail
      rcases Nat.eq_zero_or_pos m with rfl | hpos
      · have hd : decide ((0 : Int) < ((0 : Nat) : Int)) = false := by simp
        go_quiet (fail)
        go_wp2
        go_roundw
        case rel => exact ⟨k + 1, by omega, by go_num, (HR.out.alloc _).drewN _⟩
        case measure => simp [intOf]; omega
      · have hd : (0 : Int) < (m : Int) := by omega
        obtain ⟨a, rfl⟩ : ∃ a, a0 = some a := by cases a0 with | none => have := hnil rfl; omega | some a => exact ⟨a, rfl⟩
        have hpp := fun wx => Lib.run_neq_ptr_same (P := Yba.prog) (w := wx) a Yba.underlying42 (Option.eq_some_of_isSome (o := Yba.prog.info? 45) (by kernel_rfl))
        go_quiet (fail)
        go_wp2
        go_roundw
        case rel => exact ⟨k + 1, by omega, by go_num, (HR.out.alloc _).drewN _⟩
        case measure => simp [intOf]; omega
    · obtain rfl : k = n := by omega
      obtain ⟨ga, cp, xs, hb, hown, hx, hbel, hsz⟩ := hR
      obtain ⟨c0, -, c3, c4, c5, c6, c7⟩ := fcells hb
      have HB : Hid (wr.heap[w.heap.size + 1]? = some (fblock rule 0 w.heap.size k (.slice ga k cp))) := hb
      clear hb
      have HX : Hid (∀ j, j < k → xs[j * 5]? = some (.int .u64 j)) := hx
      clear hx
      have hch := run_eql_chan w.heap.size
      go_wp2_with fail
      go_loop [13] (fun i => ∃ j : Nat, j ≤ k ∧ i = .int .i64 j) (fun i => k - (intOf i).toNat)
      case atStart => exact ⟨0, Nat.zero_le _, rfl⟩
      case round =>
        obtain ⟨j, hj, rfl⟩ := hrel
        by_cases hjk : j < k
        · obtain ⟨g, rfl, hc⟩ := own_head hown (by omega)
          have hcj : wr.cell? ⟨g, j * 5, none⟩ = some (.int .u64 j) := by rw [hc _ (by omega)]; exact HX.out j hjk
          clear hc
          go_wp2_with fail
          go_round
          case rel => exact ⟨j + 1, by omega, by go_num⟩
          case measure => simp [intOf]; omega
        · go_wp2_with (go_at_call 7; refine (mark_any (w.heap.size + 1) k rule w.heap.size (.slice ga k cp) _ HB.out).mono ?_; rintro e w1 ⟨rfl, hb1, hon1⟩; obtain ⟨d0, -, d3, d4, d5, d6, d7⟩ := fcells hb1)
          go_ret
          exact ⟨rfl, hbel.trans (hon1.below (by omega) (fun j hj => by omega))⟩
end Go.Proofs.Ybulkcnlu
