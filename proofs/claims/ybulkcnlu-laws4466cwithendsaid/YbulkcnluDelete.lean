/-
  slices.Delete's two instances: THEIR CONTRACTS.
-/
import Derived.Test.YbulkcnluDel
namespace Go.Proofs.Ybulkcnlu
open Go.MuLone Go.RowKit

theorem info35 : (Yba.prog.info? 35).map (fun i => (i.zero, i.size, i.bytes)) = some (some (.int .u64 0), 1, 8) := by kernel_rfl

theorem Hid.mk {p : Prop} (h : p) : Hid p := h
theorem own_open {w : World} {base e size g N cap : Nat} {xs : List Value} (hown : w.ownsRow base e size (.slice (some ⟨g, 0, none⟩) (N + 1) cap) (N + 1) xs) :
    ∃ cur, w.heap[g]? = some (.cells cur e (0, 0)) ∧ N + 1 ≤ cap ∧ cap ≤ maxLen ∧ cur.size = cap * size ∧ cur.toList.take ((N + 1) * size) = xs ∧ base ≤ g := by
  rcases hown.2 with ⟨h, _⟩ | ⟨g', cap', cur, h, hb, hh, h1, h2, h3, h4⟩
  · simp at h
  · simp only [Value.slice.injEq, Option.some.injEq, Addr.mk.injEq, and_true, true_and] at h
    obtain ⟨rfl, rfl⟩ := h
    exact ⟨cur, hh, h1, h2, h3, h4, hb⟩

set_option maxHeartbeats 1000000 in
theorem delete5 (base g N cap i : Nat) (xs : List Value) (w : World) (hown : w.ownsRow base 41 5 (.slice (some ⟨g, 0, none⟩) (N + 1) cap) (N + 1) xs) (hN : N ≤ 2000) (hi : i ≤ N) (hone : ∀ u ∈ xs, u.oneCell' = true) :
    Calls Yba.prog 14 #[.slice (some ⟨g, 0, none⟩) (N + 1) cap, .int .i64 i, .int .i64 ((i : Int) + 1)] w fun e w' => e = .returned (.slice (some ⟨g, 0, none⟩) N cap) ∧
      w'.ownsRow base 41 5 (.slice (some ⟨g, 0, none⟩) N cap) N (xs.take (i * 5) ++ xs.drop ((i + 1) * 5)) ∧ Only w w' (fun j => j = g) := by
  obtain ⟨i0, hi0, hz0, hz1, hz2⟩ := info_parts info41
  obtain ⟨cur, hcur, hNc, hcm, hcs, htake, hbg⟩ := own_open hown
  have hone' : ∀ u ∈ cur.toList.take ((N + 1) * 5), u.oneCell' = true := by rw [htake]; exact hone
  clear hown hone
  have hfin := fun w' hw => own_deleted (w' := w') (base := base) (z := Value.cells (.agg #[.int .u64 0, .bool false, .int .u64 0, .int .u64 0, .slice none 0 0]) |>.toList) rfl hNc hcm hcs hi htake hbg hcur hw
  have HF : Hid (∀ w', w' = (w.drew.setRow g (delCur 5 i N cur)).setRow g (clrCur 5 N (Value.cells (.agg #[.int .u64 0, .bool false, .int .u64 0, .int .u64 0, .slice none 0 0]) |>.toList) (delCur 5 i N cur)) →
      w'.ownsRow base 41 5 (.slice (some ⟨g, 0, none⟩) N cap) N (xs.take (i * 5) ++ xs.drop ((i + 1) * 5)) ∧ Only w w' (fun j => j = g)) := hfin
  have HS : Hid (cur.size = cap * 5) := hcs
  have HC : Hid (w.heap[g]? = some (.cells cur 41 (0, 0))) := hcur
  have hclr := fun c => run_clear (P := Yba.prog) (w.drew.setRow g (delCur 5 i N cur)) 36 0 41 i0 (.agg #[.int .u64 0, .bool false, .int .u64 0, .int .u64 0, .slice none 0 0]) 5 Yba.underlying36 hi0 hz0 rfl (by intro u hu; simp [Value.cells] at hu; rcases hu with rfl | rfl | rfl | rfl | rfl <;> rfl) g N cap c (delCur 5 i N cur)
    (setRow_heap w.drew g cur _ 41 _ hcur) (delCur_size hcs hNc hi) hNc
  have HCL := Hid.mk hclr
  clear hclr
  unfold maxLen at hcm
  clear htake hcs hcur hfin
  have hb1 : i ≤ cap := by omega
  have hb2 : (i : Int) + 1 ≤ (N : Int) + 1 := by omega
  have hb3 : 0 ≤ (i : Int) + 1 := by omega
  have hc2 : ¬ cap = N := by omega
  go_enter Yba.func14, Yba.ntmps14
  go_wp2_with fail
  rcases Nat.lt_or_ge (i + 1) cap with hcap | hcap
  · have hc1 : ¬ cap = i + 1 := by omega
    go_region_law (refine step_del rfl (.tmp 22) (.tmp 25) 36 rfl 41 i0 5 Yba.underlying36 hi0 hz1 g i N cap cur (by exact HC.out) HS.out hNc hi hone' (by rfl) ⟨g, (i + 1) * 5, none⟩ (cap - (i + 1)) (by rfl) (fun _ => rfl) ?_)
    have hclr := HCL.out
    go_wp2
    go_ret
    exact ⟨rfl, HF.out _ rfl⟩
  · obtain rfl : i = N := by omega
    obtain rfl : cap = i + 1 := by omega
    have hb4 : (i : Int) ≤ (i : Int) + 1 := by omega
    go_region_law (refine step_del rfl (.tmp 22) (.tmp 25) 36 rfl 41 i0 5 Yba.underlying36 hi0 hz1 g i i (i + 1) cur (by exact HC.out) HS.out hNc hi hone' (by rfl) ⟨g, 0, none⟩ 0 (by rw [Nat.sub_self]; rfl) (fun h => absurd h (Nat.lt_irrefl _)) ?_)
    have hclr := HCL.out
    go_wp2
    go_ret
    exact ⟨rfl, HF.out _ rfl⟩

end Go.Proofs.Ybulkcnlu
