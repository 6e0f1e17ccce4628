/-
  LawS4466CWithEnd: ITS WALK.
-/
import Derived.Test.YbulkcnluWith
namespace Go.Proofs.Ybulkcnlu
open Go.MuLone Go.RowKit

set_option maxHeartbeats 400000 in
theorem with_big (a0 : Option Addr) (len cap : Nat) (w : World) (hn : 1024 < len) :
    Calls Yba.prog 4 #[.slice a0 len cap] w fun e w' => e = .returned (.bool true) ∧ Below w.heap.size w w' := by
  have h : (1024 : Int) < (len : Int) := by omega
  go_enter Yba.func4, Yba.ntmps4
  go_wp2_with fail
  go_ret
  exact ⟨rfl, Below.refl _ _⟩

set_option maxRecDepth 100000 in
set_option maxHeartbeats 2000000 in
theorem with_small (a0 : Option Addr) (len cap : Nat) (zs : List Int) (w : World) (hn : len ≤ 1024) (hz : ∀ j, j < len → 0 ≤ zs.getD j 0 ∧ zs.getD j 0 ≤ 255)
    (hcell : ∀ j, j < len → ∃ b off, a0 = some ⟨b, off, none⟩ ∧ b < w.heap.size ∧ w.cell? ⟨b, off + j, none⟩ = some (.int .u8 (zs.getD j 0))) :
    Calls Yba.prog 4 #[.slice a0 len cap] w fun e w' => e = .returned (.bool true) ∧ Below w.heap.size w w' := by
  have hr0 := Hid.mk (rele_zero w)
  have HC := Hid.mk hcell
  have HZ := Hid.mk hz
  clear hcell hz
  go_enter Yba.func4, Yba.ntmps4
  go_wp2_with (go_at_call 5; refine (new_any _ _).mono ?_; rintro e w' ⟨rfl, rfl⟩)
  go_loopw [18, 4, 5] (fun i vl nx wr => ∃ t k n L la lc, t ≤ len ∧ i = .int .i64 (t : Nat) ∧ k ≤ t ∧ n ≤ t ∧ vl = .slice la n lc ∧ nx = .int .u64 (k : Nat) ∧ RelE w k n L (.slice la n lc) wr) (fun i _ _ _ => len - (intOf i).toNat)
  case atStart => exact ⟨0, 0, 0, [], none, 0, Nat.zero_le _, rfl, Nat.le_refl _, Nat.le_refl _, rfl, rfl, hr0.out⟩
  case round =>
    obtain ⟨t, k, n, L, la, lc, ht, rfl, hk, hn', rfl, rfl, hR⟩ := hrel
    clear hr0
    by_cases hlt : t < len
    · obtain ⟨ch, ga, cp, rfl, hb, hc, hN, hown, hl, hs, hkk, hbel, hsz⟩ := hR
      obtain ⟨b, off, rfl, hbw, hcx⟩ := HC.out t hlt
      obtain ⟨hz0, hz1⟩ := HZ.out t hlt
      have hcw : wr.cell? ⟨b, off + t, none⟩ = some (.int .u8 (zs.getD t 0)) := (hbel.cell hbw).trans hcx
      clear hcx
      generalize hx : zs.getD t 0 = x at *
      clear hx
      have HR := Hid.mk (And.intro hb (And.intro hc (And.intro hown (And.intro hl (And.intro hs (And.intro hkk hbel))))))
      clear hb hc hown hl hs hkk hbel
      by_cases hpar : x % 2 = 0
      · have hp : (x % 2 == 0) = true := by rw [beq_iff_eq]; exact hpar
        clear hpar
        go_wp2_with fail
        refine (start_any (w.heap.size + 1) (w.heap.size + 2) L.length k 0 ch (.slice ga L.length cp) (commits L) none 0 0 wr HR.out.1 HR.out.2.2.1 (by omega) hsz (by omega) (by omega)).mono ?_
        rintro e w1 ⟨rfl, ga', cp', hb1, hown1, hon1⟩
        have hM := rele_start rfl HR.out.1 HR.out.2.1 hN HR.out.2.2.1 HR.out.2.2.2.1 HR.out.2.2.2.2.1 HR.out.2.2.2.2.2.1 HR.out.2.2.2.2.2.2 hsz hb1 hown1 hon1
        obtain ⟨M, hl1, hLM⟩ := hM.live
        have hsz1 := hM.size
        have HM := Hid.mk hM
        have HLM := Hid.mk hLM
        clear hM hLM hb1 hown1 hon1 HR hcw
        obtain ⟨i0, hi, hz0', hz1', hz2'⟩ := info_parts info35
        go_wp2_with (at_builtin; refine wpList_append_own _ rfl _ _ 48 rfl (w.heap.size + 2) 35 i0 (.int .u64 0) 1 8 Yba.underlying48 hi hz0' hz1' hz2' rfl (by decide) _ _ _ rfl (hl1.alloc _) ⟨w1.heap.size, 0, none⟩ 1 1 [.int .u64 k] rfl rfl ?c1 ?c2 ?c3 ?c4 ?c5 ?_)
        case c1 => exact cells_new rfl
        case c2 => intro u hu; simp at hu; subst hu; rfl
        case c3 => unfold maxLen; omega
        case c4 => omega
        case c5 => simp; omega
        intro v' w2 hown' hgrow _
        have hR2 := rele_push HM.out hl1 HLM.out hown' hgrow
        obtain ⟨la', lc', hv⟩ := own_shape hown'
        rw [hv]
        rw [hv] at hR2
        clear hown' hgrow hv HM HLM hl1 hi hz0' hz1' hz2'
        obtain ⟨ga2, cp2, c4, c5⟩ := rele_block hR2
        have HR2 := Hid.mk hR2
        clear hR2
        go_wp2_with fail
        go_loopw [11] (fun j wx => ∃ s : Nat, s ≤ (L.length + 1) ∧ j = .int .i64 s ∧ ∃ nq, wx = World.drewN w2 nq) (fun j _ => (L.length + 1) - (intOf j).toNat)
        case atStart => exact ⟨0, Nat.zero_le _, rfl, 0, rfl⟩
        case round =>
          obtain ⟨s, hsn, rfl, nq0, rfl⟩ := hrel
          by_cases hsl : s < (L.length + 1)
          · obtain ⟨g, g', y, rfl, rfl, e0, e1⟩ := rele_cells HR2.out ga2 cp2 c5 s hsl
            have hs1 : (s : Int) < ((L.length + 1) : Nat) := by omega
            go_wp2_with fail
            go_quiet (fail)
            go_wp2
            go_roundw
            case rel => exact ⟨s + 1, by omega, by go_num, _, rfl⟩
            case measure => simp [intOf]; omega
          · have hs1 : ¬ (s : Int) < ((L.length + 1) : Nat) := by omega
            go_wp2_with fail
            go_roundw
            case rel => exact ⟨t + 1, k + 1, (L.length + 1), L ++ [k], la', lc', by omega, by go_num, by omega, by omega, rfl, by go_num, HR2.out.drewN _⟩
            case measure => simp [intOf]; omega
      · have hp : (x % 2 == 0) = false := by rw [beq_eq_false_iff_ne]; exact hpar
        clear hpar
        obtain ⟨q, hq⟩ : ∃ q : Nat, x / 2 % ((k : Int) + 1) = (q : Int) := Int.eq_ofNat_of_zero_le (Int.emod_nonneg _ (by omega))
        go_wp2_with fail
        refine (end_any (w.heap.size + 1) (w.heap.size + 2) ch k 0 ga cp L q wr HR.out.1 HR.out.2.1 HR.out.2.2.1 (by omega) (by omega) HR.out.2.2.2.2.1).mono ?_
        rintro e w1 ⟨rfl, hE⟩
        have hG := rele_end HR.out.1 HR.out.2.1 hN HR.out.2.2.1 HR.out.2.2.2.1 HR.out.2.2.2.2.1 HR.out.2.2.2.2.2.1 HR.out.2.2.2.2.2.2 hsz hE
        have HG := Hid.mk hG
        clear hE hG HR hcw
        by_cases hmem : q ∈ L
        · have hidx := idx_mem hmem
          have hlti : L.idxOf q < L.length := List.idxOf_lt_length_of_mem hmem
          obtain ⟨gl, rfl, -⟩ := own_head HG.out.live (by omega)
          go_wp2_with (go_at_call 9; refine (sindex_any (w.heap.size + 2) _ lc L q _ HG.out.live (by omega)).mono ?_; rintro e w' ⟨rfl, hw⟩; obtain rfl := hw.symm)
          refine (delete1' (w.heap.size + 2) gl L.length lc (L.idxOf q) (nums L) w1 HG.out.live (by omega) hlti (nums_one L)).mono ?_
          rintro e w2 ⟨rfl, hown2, hon2⟩
          have hR2 := rele_hit HG.out hmem rfl hown2 hon2
          clear hown2 hon2 HG hidx
          obtain ⟨ga2, cp2, c4, c5⟩ := rele_block hR2
          have HR2 := Hid.mk hR2
          clear hR2
          go_wp2_with fail
          go_loopw [11] (fun j wx => ∃ s : Nat, s ≤ (L.length - 1) ∧ j = .int .i64 s ∧ ∃ nq, wx = World.drewN w2 nq) (fun j _ => (L.length - 1) - (intOf j).toNat)
          case atStart => exact ⟨0, Nat.zero_le _, rfl, 0, rfl⟩
          case round =>
            obtain ⟨s, hsn, rfl, nq0, rfl⟩ := hrel
            by_cases hsl : s < (L.length - 1)
            · obtain ⟨g, g', y, rfl, hla, e0, e1⟩ := rele_cells HR2.out ga2 cp2 c5 s hsl
              obtain rfl : gl = g' := by simpa using hla
              clear hla
              have hs1 : (s : Int) < ((L.length - 1) : Nat) := by omega
              go_wp2_with fail
              go_quiet (fail)
              go_wp2
              go_roundw
              case rel => exact ⟨s + 1, by omega, by go_num, _, rfl⟩
              case measure => simp [intOf]; omega
            · have hs1 : ¬ (s : Int) < ((L.length - 1) : Nat) := by omega
              go_wp2_with fail
              go_roundw
              case rel => exact ⟨t + 1, k, (L.length - 1), L.erase q, some ⟨gl, 0, none⟩, lc, by omega, by go_num, by omega, by omega, rfl, by go_num, HR2.out.drewN _⟩
              case measure => simp [intOf]; omega
        · have hidx := idx_miss hmem
          have hR2 := rele_miss HG.out hmem
          obtain ⟨ga2, cp2, c4, c5⟩ := rele_block hR2
          have HR2 := Hid.mk hR2
          clear hR2
          go_wp2_with (go_at_call 9; refine (sindex_any (w.heap.size + 2) _ lc L q _ HG.out.live (by omega)).mono ?_; rintro e w' ⟨rfl, hw⟩; obtain rfl := hw.symm)
          clear HG hidx
          go_loopw [11] (fun j wx => ∃ s : Nat, s ≤ L.length ∧ j = .int .i64 s ∧ ∃ nq, wx = World.drewN w1 nq) (fun j _ => L.length - (intOf j).toNat)
          case atStart => exact ⟨0, Nat.zero_le _, rfl, 0, rfl⟩
          case round =>
            obtain ⟨s, hsn, rfl, nq0, rfl⟩ := hrel
            by_cases hsl : s < L.length
            · obtain ⟨g, g', y, rfl, rfl, e0, e1⟩ := rele_cells HR2.out ga2 cp2 c5 s hsl
              have hs1 : (s : Int) < (L.length : Nat) := by omega
              go_wp2_with fail
              go_quiet (fail)
              go_wp2
              go_roundw
              case rel => exact ⟨s + 1, by omega, by go_num, _, rfl⟩
              case measure => simp [intOf]; omega
            · have hs1 : ¬ (s : Int) < (L.length : Nat) := by omega
              go_wp2_with fail
              go_roundw
              case rel => exact ⟨t + 1, k, L.length, L, la, lc, by omega, by go_num, by omega, by omega, rfl, by go_num, HR2.out.drewN _⟩
              case measure => simp [intOf]; omega
    · obtain ⟨_, _, _, _, _, _, _, _, _, _, _, hbel, _⟩ := hR
      go_wp2_with fail
      go_ret
      exact ⟨rfl, hbel⟩
end Go.Proofs.Ybulkcnlu
