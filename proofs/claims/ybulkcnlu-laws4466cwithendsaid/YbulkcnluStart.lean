/-
  (*inflight).start: ITS CONTRACT.
-/
import Derived.Test.YbulkcnluBase
namespace Go.Proofs.Ybulkcnlu
open Go.MuLone Go.RowKit

set_option maxHeartbeats 400000 in
theorem start_any (B base n k : Nat) (rule : Int) (ch : Nat) (v : Value) (xs : List Value) (sa : Option Addr) (sl sc : Nat) (w : World)
    (hb : w.heap[B]? = some (fblock rule 0 ch k v)) (hown : w.ownsRow base 41 5 v n xs) (hB : B < base) (hbase : base ≤ w.heap.size) (hk : k ≤ 2000) (hn : n ≤ 2000) :
    Calls Yba.prog 6 #[.pointer (some ⟨B, 0, none⟩), .slice sa sl sc] w fun e w' => e = .returned (.int .u64 k) ∧ ∃ ga cp, w'.heap[B]? = some (fblock rule 0 ch (k + 1) (.slice ga (n + 1) cp)) ∧
      w'.ownsRow base 41 5 (.slice ga (n + 1) cp) (n + 1) (xs ++ pend k (.slice sa sl sc)) ∧ Only w w' (fun j => j = B ∨ v.ownBlock = some j) := by
  obtain ⟨i0, hi, hz0, hz1, hz2⟩ := info_parts info41
  obtain ⟨-, c1, -, c4, c5, -, -⟩ := fcells hb
  have fr := ffree hb
  have f1 := fr 1
  have f4 := fr 4
  have f5 := fr 5
  clear fr
  have hb2 := fset4 (fset1 hb 1)
  have hlt := lt_of_block hb
  have hne : v.ownBlock ≠ some B := fun e => by have := (hown.lt B e).1; omega
  have hown2 : ((w.setCell ⟨B, 1, none⟩ (.int .i32 1)).setCell ⟨B, 4, none⟩ (.int .u64 ((k : Int) + 1))).ownsRow base 41 5 v n xs :=
    ownsRow_setCell_other (ownsRow_setCell_other hown (a := ⟨B, 1, none⟩) hne _) (a := ⟨B, 4, none⟩) hne _
  have HB : Hid (((w.setCell ⟨B, 1, none⟩ (.int .i32 1)).setCell ⟨B, 4, none⟩ (.int .u64 ((k : Int) + 1))).heap[B]? = some (fblock rule 1 ch (k + 1) v)) := hb2
  have HO : Hid (Only w ((w.setCell ⟨B, 1, none⟩ (.int .i32 1)).setCell ⟨B, 4, none⟩ (.int .u64 ((k : Int) + 1))) (fun j => j = B ∨ v.ownBlock = some j)) :=
    ((Only.refl w _).setCell (p := ⟨B, 1, none⟩) (.inl rfl) _).setCell (p := ⟨B, 4, none⟩) (.inl rfl) _
  clear hb hb2 hown
  go_enter_defers Yba.func6, Yba.ntmps6
  go_wp2_with (first
    | (go_at_call 11; refine (lock_free Yba.muLib ⟨B, 1, none⟩ _ c1 f1).mono ?_; rintro e w' ⟨rfl, rfl⟩)
    | (at_builtin; refine wpList_append_own _ rfl _ _ 36 rfl base 41 i0 (.agg #[.int .u64 0, .bool false, .int .u64 0, .int .u64 0, .slice none 0 0]) 5 56 Yba.underlying36 hi hz0 hz1 hz2 rfl (by decide) _ _ _ rfl (hown2.alloc _) ⟨w.heap.size, 0, none⟩ 1 1 (pend k (.slice sa sl sc)) ?cx rfl ?c1 ?c2 ?c3 ?c4 ?c5 ?_))
  case cx => rfl
  case c1 => exact cells_new (by simp)
  case c2 => intro u hu; simp [pend] at hu; rcases hu with rfl | rfl | rfl | rfl | rfl <;> rfl
  case c3 => unfold maxLen; omega
  case c4 => omega
  case c5 => simp; omega
  intro v' w1 hown' hgrow _
  have hb1 : w1.heap[B]? = some (fblock rule 1 ch (k + 1) v) := by
    rw [hgrow.block B (by simp; omega) (fun e => hne e.symm), Below.heap_alloc _ _ _ (by simpa using hlt)]
    exact HB.out
  have ho1 : Only w w1 (fun j => j = B ∨ v.ownBlock = some j) := (HO.out.alloc _).grown hgrow (fun j hj => .inr hj)
  obtain ⟨-, d1, -, -, d5, -, -⟩ := fcells hb1
  have g1 := ffree hb1 1
  have g5 := ffree hb1 5
  have HB1 : Hid (w1.heap[B]? = some (fblock rule 1 ch (k + 1) v)) := hb1
  have HO1 : Hid (Only w w1 (fun j => j = B ∨ v.ownBlock = some j)) := ho1
  have HW1 : Hid (w1.ownsRow base 41 5 v' (n + 1) (xs ++ pend k (.slice sa sl sc))) := hown'
  have HN : Hid (v'.ownBlock ≠ some B) := fun e => by have := (hown'.lt B e).1; omega
  obtain ⟨ga, cp, hv⟩ := own_shape hown'
  have HV : Hid (v' = .slice ga (n + 1) cp) := hv
  clear hv hgrow hown' hb1 ho1 c1 c4 c5 f1 f4 f5 hown2
  rw [HV.out]
  go_wp2
  refine leaves_cons (f := 12) (args := #[.pointer (some ⟨B, 1, none⟩)]) (by simp) (by simp [go_sem]) ?_
  refine (unlock_deferred Yba.muLib ⟨B, 1, none⟩ .returning _ ?_ ?_).mono ?_
  · exact (World.cell?_setCell_other _ ⟨B, 5, none⟩ ⟨B, 1, none⟩ _ (by simp)).trans d1
  · simp [g1]
  rintro e u' w'' ⟨rfl, rfl, rfl⟩
  refine ⟨_, results_tmp rfl _ _ _, rfl, ⟨ga, cp, fset1 (fset5 HB1.out _) 0, ?_, ?_⟩⟩
  · rw [← HV.out]
    exact ownsRow_setCell_other (ownsRow_setCell_other HW1.out (a := ⟨B, 5, none⟩) HN.out _) (a := ⟨B, 1, none⟩) HN.out _
  · exact (HO1.out.setCell (p := ⟨B, 5, none⟩) (.inl rfl) _).setCell (p := ⟨B, 1, none⟩) (.inl rfl) _
end Go.Proofs.Ybulkcnlu
