/-
  slices.Delete[[]uint64,uint64]: ITS CONTRACT.
-/
import Derived.Test.YbulkcnluDelete
namespace Go.Proofs.Ybulkcnlu
open Go.MuLone Go.RowKit

set_option maxHeartbeats 1000000 in
theorem delete1 (base g N cap i : Nat) (xs : List Value) (w : World) (hown : w.ownsRow base 35 1 (.slice (some ⟨g, 0, none⟩) (N + 1) cap) (N + 1) xs) (hN : N ≤ 2000) (hi : i ≤ N) (hone : ∀ u ∈ xs, u.oneCell' = true) :
    Calls Yba.prog 10 #[.slice (some ⟨g, 0, none⟩) (N + 1) cap, .int .i64 i, .int .i64 ((i : Int) + 1)] w fun e w' => e = .returned (.slice (some ⟨g, 0, none⟩) N cap) ∧
      w'.ownsRow base 35 1 (.slice (some ⟨g, 0, none⟩) N cap) N (xs.take (i * 1) ++ xs.drop ((i + 1) * 1)) ∧ Only w w' (fun j => j = g) := by
  obtain ⟨i0, hi0, hz0, hz1, hz2⟩ := info_parts info35
  obtain ⟨cur, hcur, hNc, hcm, hcs, htake, hbg⟩ := own_open hown
  have hone' : ∀ u ∈ cur.toList.take ((N + 1) * 1), u.oneCell' = true := by rw [htake]; exact hone
  clear hown hone
  have hfin := fun w' hw => own_deleted (w' := w') (base := base) (z := Value.cells (.int .u64 0) |>.toList) rfl hNc hcm hcs hi htake hbg hcur hw
  have HF : Hid (∀ w', w' = (w.drew.setRow g (delCur 1 i N cur)).setRow g (clrCur 1 N (Value.cells (.int .u64 0) |>.toList) (delCur 1 i N cur)) →
      w'.ownsRow base 35 1 (.slice (some ⟨g, 0, none⟩) N cap) N (xs.take (i * 1) ++ xs.drop ((i + 1) * 1)) ∧ Only w w' (fun j => j = g)) := hfin
  have HS : Hid (cur.size = cap * 1) := hcs
  have HC : Hid (w.heap[g]? = some (.cells cur 35 (0, 0))) := hcur
  have hclr := fun c => run_clear (P := Yba.prog) (w.drew.setRow g (delCur 1 i N cur)) 48 0 35 i0 (.int .u64 0) 1 Yba.underlying48 hi0 hz0 rfl (by intro u hu; simp [Value.cells] at hu; subst hu; rfl) g N cap c (delCur 1 i N cur)
    (setRow_heap w.drew g cur _ 35 _ hcur) (delCur_size hcs hNc hi) hNc
  rw [Nat.mul_one] at hclr
  have HCL := Hid.mk hclr
  clear hclr
  unfold maxLen at hcm
  clear htake hcs hcur hfin
  have hb1 : i ≤ cap := by omega
  have hb2 : (i : Int) + 1 ≤ (N : Int) + 1 := by omega
  have hb3 : 0 ≤ (i : Int) + 1 := by omega
  have hc2 : ¬ cap = N := by omega
  go_enter Yba.func10, Yba.ntmps10
  go_wp2_with fail
  rcases Nat.lt_or_ge (i + 1) cap with hcap | hcap
  · have hc1 : ¬ cap = i + 1 := by omega
    go_region_law (refine step_del rfl (.tmp 22) (.tmp 25) 48 rfl 35 i0 1 Yba.underlying48 hi0 hz1 g i N cap cur (by exact HC.out) HS.out hNc hi hone' (by rfl) ⟨g, i + 1, none⟩ (cap - (i + 1)) (by rfl) (fun _ => by rw [Nat.mul_one]) ?_)
    have hclr := HCL.out
    go_wp2
    go_ret
    exact ⟨rfl, HF.out _ rfl⟩
  · obtain rfl : i = N := by omega
    obtain rfl : cap = i + 1 := by omega
    have hb4 : (i : Int) ≤ (i : Int) + 1 := by omega
    go_region_law (refine step_del rfl (.tmp 22) (.tmp 25) 48 rfl 35 i0 1 Yba.underlying48 hi0 hz1 g i i (i + 1) cur (by exact HC.out) HS.out hNc hi hone' (by rfl) ⟨g, 0, none⟩ 0 (by rw [Nat.sub_self]; rfl) (fun h => absurd h (Nat.lt_irrefl _)) ?_)
    have hclr := HCL.out
    go_wp2
    go_ret
    exact ⟨rfl, HF.out _ rfl⟩

end Go.Proofs.Ybulkcnlu
