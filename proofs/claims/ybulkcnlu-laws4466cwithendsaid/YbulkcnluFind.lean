/-
  cmp.Compare[uint64], the closure of (*inflight).index, slices.BinarySearchFunc, (*inflight).index, slices.Index[[]uint64,uint64]: THEIR CONTRACTS.
-/
import Derived.Test.YbulkcnluBase
namespace Go.Proofs.Ybulkcnlu
open Go.MuLone Go.RowKit

/-- What cmp.Compare answers at two numbers. -/
def cmp3 (a b : Nat) : Int := if a < b then -1 else if b < a then 1 else 0

theorem cmp3_lt {a b : Nat} (h : a < b) : cmp3 a b = -1 := by simp [cmp3, h]
theorem cmp3_ge {a b : Nat} (h : ¬ a < b) : 0 ≤ cmp3 a b := by unfold cmp3; rw [if_neg h]; split <;> omega

set_option maxHeartbeats 400000 in
theorem compare_any (a b : Nat) (w : World) : Calls Yba.prog 20 #[.int .u64 a, .int .u64 b] w fun e w' => e = .returned (.int .i64 (cmp3 a b)) ∧ w' = w := by
  rcases Nat.lt_trichotomy a b with h | h | h
  · have h1 : (a : Int) < b := by omega
    have hc : cmp3 a b = -1 := cmp3_lt h
    rw [hc]
    go_enter Yba.func20, Yba.ntmps20
    go_wp2
    go_ret
    exact ⟨rfl, rfl⟩
  · subst h
    have hc : cmp3 a a = 0 := by simp [cmp3]
    rw [hc]
    go_enter Yba.func20, Yba.ntmps20
    go_wp2
    go_ret
    exact ⟨rfl, rfl⟩
  · have h1 : (b : Int) < a := by omega
    have hc : cmp3 a b = 1 := by simp [cmp3, h]; omega
    rw [hc]
    go_enter Yba.func20, Yba.ntmps20
    go_wp2
    go_ret
    exact ⟨rfl, rfl⟩

set_option maxHeartbeats 400000 in
theorem less_any (a b : Nat) (w : World) : Calls Yba.prog 19 #[.agg #[.int .u64 a, .bool false, .int .u64 0, .int .u64 0, .slice none 0 0], .int .u64 b] w fun e w' => e = .returned (.int .i64 (cmp3 a b)) ∧ Only w w' (fun _ => False) := by
  go_enter Yba.func19, Yba.ntmps19
  go_wp2_with (go_at_call 20; refine (compare_any _ _ _).mono ?_; rintro e w' ⟨rfl, rfl⟩)
  go_ret
  exact ⟨rfl, (Only.refl _ _).alloc _⟩

theorem Only.owns {w w' : World} {S : Nat → Prop} (h : Only w w' S) {base : Nat} {e : TypeId} {size : Nat} {v : Value} {n : Nat} {xs : List Value} (hown : w.ownsRow base e size v n xs) (hs : ∀ k, v.ownBlock = some k → ¬ S k) :
    w'.ownsRow base e size v n xs := by
  refine ⟨hown.1, ?_⟩
  rcases hown.2 with h0 | ⟨g, cap, cur, rfl, hb, hg, rest⟩
  · exact .inl h0
  · exact .inr ⟨g, cap, cur, rfl, hb, by rw [h.block g (lt_of_block hg) (hs g rfl)]; exact hg, rest⟩

/-- The cells of the commits whose numbers are L, none with writes. -/
def commits (L : List Nat) : List Value := L.flatMap fun q => pend q (.slice none 0 0)

theorem commits_append (L M : List Nat) : commits (L ++ M) = commits L ++ commits M := by simp [commits]
theorem commits_length (L : List Nat) : (commits L).length = L.length * 5 := by
  induction L with
  | nil => rfl
  | cons q L ih => simp only [commits, List.flatMap_cons, List.length_append, List.length_cons] at ih ⊢; rw [ih]; simp [pend]; omega
theorem commits_at (L : List Nat) (t : Nat) (ht : t < L.length) : (commits L)[t * 5]? = some (.int .u64 (L[t]'ht)) ∧ (commits L)[t * 5 + 1]? = some (.bool false) ∧ (commits L)[t * 5 + 2]? = some (.int .u64 0) ∧
    (commits L)[t * 5 + 3]? = some (.int .u64 0) ∧ (commits L)[t * 5 + 4]? = some (.slice none 0 0) := by
  have hsp : L = L.take t ++ (L[t] :: L.drop (t + 1)) := by rw [List.getElem_cons_drop, List.take_append_drop]
  have hl : (commits (L.take t)).length = t * 5 := by rw [commits_length, List.length_take]; congr 1; omega
  have hc : commits L = commits (L.take t) ++ (pend L[t] (.slice none 0 0) ++ commits (L.drop (t + 1))) := by
    have e : commits (L[t] :: L.drop (t + 1)) = pend L[t] (.slice none 0 0) ++ commits (L.drop (t + 1)) := by simp only [commits, List.flatMap_cons]
    rw [← e, ← commits_append, ← hsp]
  rw [hc]
  refine ⟨?_, ?_, ?_, ?_, ?_⟩ <;> rw [List.getElem?_append_right (by omega), hl] <;> simp [pend]

/-- A row that is not empty has a head; its cells. -/
theorem own_head {w : World} {base : Nat} {e : TypeId} {size : Nat} {ga : Option Addr} {n m cp : Nat} {xs : List Value} (h : w.ownsRow base e size (.slice ga n cp) m xs) (hn : 0 < m) :
    ∃ g, ga = some ⟨g, 0, none⟩ ∧ ∀ j, j < m * size → w.cell? ⟨g, j, none⟩ = xs[j]? := by
  rcases h.2 with ⟨_, rfl⟩ | ⟨g, cap, cur, hv, _⟩
  · omega
  · simp only [Value.slice.injEq] at hv
    obtain ⟨rfl, rfl, rfl⟩ := hv
    exact ⟨g, rfl, fun j hj => h.cellAt j hj⟩

set_option maxRecDepth 100000 in
set_option maxHeartbeats 1000000 in
theorem search_any (base : Nat) (ga : Option Addr) (cp : Nat) (L : List Nat) (q : Nat) (w : World) (hown : w.ownsRow base 41 5 (.slice ga L.length cp) L.length (commits L)) (hL : L.length ≤ 2000) (hs : L.Pairwise (· < ·)) :
    Calls Yba.prog 18 #[.slice ga L.length cp, .int .u64 q, .func (.func 19) #[] #[]] w fun e w' => ∃ (i : Nat) (b : Bool), e = .returned (.tuple #[.int .i64 i, .bool b]) ∧ i ≤ L.length ∧
      (∀ (t : Nat) (ht : t < L.length), t < i → L[t] < q) ∧ (∀ (t : Nat) (ht : t < L.length), i ≤ t → q ≤ L[t]) ∧ Only w w' (fun _ => False) := by
  go_enter Yba.func18, Yba.ntmps18
  go_wp2_with fail
  go_loopw [9, 10] (fun x y wr => ∃ i j : Nat, i ≤ j ∧ j ≤ L.length ∧ x = .int .i64 i ∧ y = .int .i64 j ∧ (∀ (t : Nat) (ht : t < L.length), t < i → L[t] < q) ∧ (∀ (t : Nat) (ht : t < L.length), j ≤ t → q ≤ L[t]) ∧ Only w wr (fun _ => False))
    (fun x y _ => (intOf y).toNat - (intOf x).toNat)
  case atStart => exact ⟨0, L.length, Nat.zero_le _, Nat.le_refl _, rfl, rfl, fun t ht h => by omega, fun t ht h => by omega, Only.refl _ _⟩
  case round =>
    obtain ⟨i, j, hij, hj, rfl, rfl, hlo, hhi, hon⟩ := hrel
    by_cases hlt : i < j
    · obtain ⟨h, hih, hhj, hmid⟩ : ∃ h : Nat, i ≤ h ∧ h < j ∧ ((i : Int) + (j : Int)) / 2 = (h : Int) := ⟨(i + j) / 2, by omega, by omega, by omega⟩
      have hL' : h < L.length := by omega
      obtain ⟨g, rfl, hc⟩ := own_head (hon.owns hown (fun _ _ => id)) (by omega)
      obtain ⟨a0, a1, a2, a3, a4⟩ := commits_at L h hL'
      have e0 := (hc (h * 5) (by omega)).trans a0
      have e1 := (hc (h * 5 + 1) (by omega)).trans a1
      have e2 := (hc (h * 5 + 2) (by omega)).trans a2
      have e3 := (hc (h * 5 + 3) (by omega)).trans a3
      have e4 := (hc (h * 5 + 4) (by omega)).trans a4
      clear hc a0 a1 a2 a3 a4
      have HS : Hid (L.Pairwise (· < ·)) := hs
      have HLO : Hid (∀ (t : Nat) (ht : t < L.length), t < i → L[t] < q) := hlo
      have HHI : Hid (∀ (t : Nat) (ht : t < L.length), j ≤ t → q ≤ L[t]) := hhi
      have HON : Hid (Only w wr (fun _ => False)) := hon
      clear hs hlo hhi hon hown
      generalize hx : L[h] = x at *
      have HX : Hid (L[h] = x) := hx
      clear hx
      by_cases hq : x < q
      · have hcm := cmp3_lt hq
        go_wp2_with (go_at_call 19; refine (less_any _ _ _).mono ?_; rintro e w' ⟨rfl, hon'⟩)
        go_roundw
        case rel =>
          refine ⟨h + 1, j, by omega, hj, by go_num, rfl, fun t ht hlt' => ?_, HHI.out, HON.out.trans hon'⟩
          rcases Nat.lt_or_ge t h with h1 | h1
          · have := List.pairwise_iff_getElem.1 HS.out t h ht hL' h1
            have := HX.out; omega
          · obtain rfl : t = h := by omega
            have := HX.out; omega
        case measure => simp [intOf]; omega
      · have hcm := cmp3_ge hq
        go_wp2_with (go_at_call 19; refine (less_any _ _ _).mono ?_; rintro e w' ⟨rfl, hon'⟩)
        go_roundw
        case rel =>
          refine ⟨i, h, hih, by omega, rfl, rfl, HLO.out, fun t ht hlt' => ?_, HON.out.trans hon'⟩
          rcases Nat.lt_or_ge h t with h1 | h1
          · have := List.pairwise_iff_getElem.1 HS.out h t hL' ht h1
            have := HX.out; omega
          · obtain rfl : t = h := by omega
            have := HX.out; omega
        case measure => simp [intOf]; omega
    · obtain rfl : i = j := by omega
      by_cases hil : i < L.length
      · obtain ⟨g, rfl, hc⟩ := own_head (hon.owns hown (fun _ _ => id)) (by omega)
        obtain ⟨a0, a1, a2, a3, a4⟩ := commits_at L i hil
        have e0 := (hc (i * 5) (by omega)).trans a0
        have e1 := (hc (i * 5 + 1) (by omega)).trans a1
        have e2 := (hc (i * 5 + 2) (by omega)).trans a2
        have e3 := (hc (i * 5 + 3) (by omega)).trans a3
        have e4 := (hc (i * 5 + 4) (by omega)).trans a4
        clear hc a0 a1 a2 a3 a4
        have HLO : Hid (∀ (t : Nat) (ht : t < L.length), t < i → L[t] < q) := hlo
        have HHI : Hid (∀ (t : Nat) (ht : t < L.length), i ≤ t → q ≤ L[t]) := hhi
        have HON : Hid (Only w wr (fun _ => False)) := hon
        clear hs hlo hhi hon hown
        generalize hx : L[i] = x at *
        clear hx
        go_wp2_with (go_at_call 19; refine (less_any _ _ _).mono ?_; rintro e w' ⟨rfl, hon'⟩)
        go_ret2
        exact ⟨i, _, rfl, hj, HLO.out, HHI.out, HON.out.trans hon'⟩
      · have HLO : Hid (∀ (t : Nat) (ht : t < L.length), t < i → L[t] < q) := hlo
        have HHI : Hid (∀ (t : Nat) (ht : t < L.length), i ≤ t → q ≤ L[t]) := hhi
        have HON : Hid (Only w wr (fun _ => False)) := hon
        clear hs hlo hhi hon hown
        go_wp2_with fail
        go_ret2
        exact ⟨i, _, rfl, hj, HLO.out, HHI.out, HON.out⟩

set_option maxHeartbeats 400000 in
theorem index_any (B base : Nat) (ga : Option Addr) (cp : Nat) (rule m : Int) (ch k : Nat) (L : List Nat) (q : Nat) (w : World) (hb : w.heap[B]? = some (fblock rule m ch k (.slice ga L.length cp)))
    (hown : w.ownsRow base 41 5 (.slice ga L.length cp) L.length (commits L)) (hL : L.length ≤ 2000) (hs : L.Pairwise (· < ·)) :
    Calls Yba.prog 13 #[.pointer (some ⟨B, 0, none⟩), .int .u64 q] w fun e w' => ∃ (i : Nat), e = .returned (.int .i64 i) ∧ i ≤ L.length ∧
      (∀ (t : Nat) (ht : t < L.length), t < i → L[t] < q) ∧ (∀ (t : Nat) (ht : t < L.length), i ≤ t → q ≤ L[t]) ∧ Only w w' (fun _ => False) := by
  have c5 := (fcells hb).2.2.2.2.1
  go_enter Yba.func13, Yba.ntmps13
  go_wp2_with (go_at_call 18; refine (search_any base ga cp L q _ hown hL hs).mono ?_; rintro e w' ⟨i, b, rfl, h1, h2, h3, h4⟩)
  go_ret
  exact ⟨i, rfl, h1, h2, h3, h4⟩

/-- What slices.Index answers. -/
def idx (L : List Nat) (q : Nat) : Int := if q ∈ L then (L.idxOf q : Int) else -1

theorem idx_hit {L : List Nat} {q i : Nat} (hi : i < L.length) (h : q ∉ L.take i) (hx : L[i] = q) : idx L q = (i : Int) := by
  have hm : q ∈ L := hx ▸ List.getElem_mem hi
  have hsp : L = L.take i ++ (q :: L.drop (i + 1)) := by rw [← hx, List.getElem_cons_drop, List.take_append_drop]
  have : L.idxOf q = i := by
    rw [hsp, List.idxOf_append, if_neg h, List.idxOf_cons_self, List.length_take]; omega
  simp [idx, hm, this]
theorem idx_miss {L : List Nat} {q : Nat} (h : q ∉ L) : idx L q = -1 := by simp [idx, h]
theorem notin_succ {L : List Nat} {q i x : Nat} (hi : i < L.length) (h : q ∉ L.take i) (hx : L[i] = x) (hq : ¬ q = x) : q ∉ L.take (i + 1) := by
  rw [List.take_succ_eq_append_getElem hi, List.mem_append, hx]
  simp [h, hq]
theorem ret_int {k : IntKind} {a b : Int} (h : a = b) : Ending.returned (.int k a) = .returned (.int k b) := by rw [h]

set_option maxHeartbeats 400000 in
theorem sindex_any (base : Nat) (ga : Option Addr) (cp : Nat) (L : List Nat) (q : Nat) (w : World) (hown : w.ownsRow base 35 1 (.slice ga L.length cp) L.length (L.map fun (x : Nat) => Value.int .u64 x)) (hL : L.length ≤ 2000) :
    Calls Yba.prog 9 #[.slice ga L.length cp, .int .u64 q] w fun e w' => e = .returned (.int .i64 (idx L q)) ∧ w' = w := by
  go_enter Yba.func9, Yba.ntmps9
  go_wp2_with fail
  go_loop [5, 8] (fun _ x => ∃ i : Nat, i ≤ L.length ∧ x = .int .i64 i ∧ q ∉ L.take i) (fun _ x => L.length - (intOf x).toNat)
  case atStart => exact ⟨0, Nat.zero_le _, rfl, by simp⟩
  case round =>
    obtain ⟨i, hi, rfl, hni⟩ := hrel
    have HN : Hid (q ∉ L.take i) := hni
    clear hni
    by_cases hlt : i < L.length
    · obtain ⟨g, rfl, hc⟩ := own_head hown (by omega)
      have e0 : w.cell? ⟨g, i, none⟩ = some (.int .u64 (L[i] : Nat)) := by rw [hc i (by omega)]; simp [hlt]
      clear hc hown
      generalize hx : L[i] = x at *
      have HX : Hid (L[i] = x) := hx
      clear hx
      by_cases hq : q = x
      · subst hq
        go_wp2_with fail
        go_ret
        exact ⟨ret_int (idx_hit hlt HN.out HX.out).symm, rfl⟩
      · have h1 : ((q : Int) == (x : Int)) = false := by rw [beq_eq_false_iff_ne]; omega
        go_wp2_with fail
        go_round
        case rel => exact ⟨i + 1, by omega, by go_num, notin_succ hlt HN.out HX.out hq⟩
        case measure => simp [intOf]; omega
    · have hall : q ∉ L := by have := HN.out; rwa [List.take_of_length_le (by omega)] at this
      go_wp2_with fail
      go_ret
      exact ⟨ret_int (idx_miss hall).symm, rfl⟩
end Go.Proofs.Ybulkcnlu
