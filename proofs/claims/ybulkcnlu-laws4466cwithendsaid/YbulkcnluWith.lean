/-
  LawS4466CWithEnd: WHAT A ROUND FINDS, AND WHAT IT DOES TO IT.
-/
import Derived.Test.YbulkcnluStart
import Derived.Test.YbulkcnluEnd
import Derived.Test.YbulkcnluDelete1
import Derived.Deep.QuietTactic
import Derived.BigQuiet
import Derived.WalkSmall
namespace Go.Proofs.Ybulkcnlu
open Go.MuLone Go.RowKit

/-- The numbers as cells. -/
def nums (L : List Nat) : List Value := L.map fun (x : Nat) => Value.int .u64 x

/-- What a round finds: k starts so far; L: the numbers started and not ended, n of them. -/
def RelE (w : World) (k n : Nat) (L : List Nat) (vl : Value) (wr : World) : Prop :=
  ∃ ch ga cp, L.length = n ∧ wr.heap[w.heap.size + 1]? = some (fblock 0 0 ch k (.slice ga n cp)) ∧ wr.heap[ch]? = some openCh ∧ w.heap.size ≤ ch ∧ wr.ownsRow (w.heap.size + 2) 41 5 (.slice ga n cp) n (commits L) ∧
    wr.ownsRow (w.heap.size + 2) 35 1 vl n (nums L) ∧ L.Pairwise (· < ·) ∧ (∀ q ∈ L, q < k) ∧ Below w.heap.size w wr ∧ w.heap.size + 2 ≤ wr.heap.size

theorem rele_zero (w : World) : RelE w 0 0 [] (.slice none 0 0) ((w.alloc openCh).alloc (fblock 0 0 w.heap.size 0 (.slice none 0 0))) := by
  refine ⟨w.heap.size, none, 0, rfl, ?_, ?_, Nat.le_refl _, World.ownsRow_nil _ _ _ _, World.ownsRow_nil _ _ _ _, List.Pairwise.nil, by simp, ((Below.refl _ _).alloc (Nat.le_refl _) _).alloc (by simp) _, by simp⟩
  · have := heap_alloc_new (w.alloc openCh) (fblock 0 0 w.heap.size 0 (.slice none 0 0))
    simpa using this
  · rw [Below.heap_alloc _ _ _ (by simp)]
    exact heap_alloc_new w openCh

/-- Two rows of different element types lie in different blocks. -/
theorem own_apart {w : World} {base base' e e' size size' n n' : Nat} {v v' : Value} {xs xs' : List Value} (h : w.ownsRow base e size v n xs) (h' : w.ownsRow base' e' size' v' n' xs') (hne : e ≠ e') : ∀ j, v.ownBlock = some j → v'.ownBlock ≠ some j := by
  intro j hj hj'
  rcases h.2 with ⟨rfl, _⟩ | ⟨g, cap, cur, rfl, _, hg, _⟩
  · simp [Value.ownBlock] at hj
  · rcases h'.2 with ⟨rfl, _⟩ | ⟨g', cap', cur', rfl, _, hg', _⟩
    · simp [Value.ownBlock] at hj'
    · simp [Value.ownBlock] at hj hj'
      rw [hj] at hg
      rw [hj', hg] at hg'
      simp at hg'
      exact hne hg'.2
/-- A row's block is no channel's. -/
theorem own_chan {w : World} {base e size n c : Nat} {v : Value} {xs : List Value} (h : w.ownsRow base e size v n xs) (hc : w.heap[c]? = some openCh) : v.ownBlock ≠ some c := by
  intro hj
  rcases h.2 with ⟨rfl, _⟩ | ⟨g, cap, cur, rfl, _, hg, _⟩
  · simp [Value.ownBlock] at hj
  · simp [Value.ownBlock] at hj
    rw [hj, hc] at hg
    simp [openCh] at hg

/-- Behind 'start', ahead of the append to live. -/
structure MidE (w : World) (k n : Nat) (L : List Nat) (vl : Value) (w1 : World) : Prop where
  len : L.length = n + 1
  blk : ∃ ch ga cp, w1.heap[w.heap.size + 1]? = some (fblock 0 0 ch (k + 1) (.slice ga (n + 1) cp)) ∧ w1.heap[ch]? = some openCh ∧ w.heap.size ≤ ch ∧ w1.ownsRow (w.heap.size + 2) 41 5 (.slice ga (n + 1) cp) (n + 1) (commits L)
  live : ∃ M, w1.ownsRow (w.heap.size + 2) 35 1 vl n (nums M) ∧ L = M ++ [k]
  sorted : L.Pairwise (· < ·)
  less : ∀ q ∈ L, q < k + 1
  below : Below w.heap.size w w1
  size : w.heap.size + 2 ≤ w1.heap.size

theorem rele_start {w wr w1 : World} {k n ch : Nat} {L : List Nat} {vl : Value} {ga ga' : Option Addr} {cp cp' : Nat}
    (hn : L.length = n) (hb : wr.heap[w.heap.size + 1]? = some (fblock 0 0 ch k (.slice ga n cp))) (hc : wr.heap[ch]? = some openCh) (hN : w.heap.size ≤ ch) (hown : wr.ownsRow (w.heap.size + 2) 41 5 (.slice ga n cp) n (commits L))
    (hl : wr.ownsRow (w.heap.size + 2) 35 1 vl n (nums L)) (hs : L.Pairwise (· < ·)) (hk : ∀ q ∈ L, q < k) (hbel : Below w.heap.size w wr) (hsz : w.heap.size + 2 ≤ wr.heap.size)
    (hb1 : w1.heap[w.heap.size + 1]? = some (fblock 0 0 ch (k + 1) (.slice ga' (n + 1) cp'))) (hown1 : w1.ownsRow (w.heap.size + 2) 41 5 (.slice ga' (n + 1) cp') (n + 1) (commits L ++ pend k (.slice none 0 0)))
    (hon : Only wr w1 (fun j => j = w.heap.size + 1 ∨ (Value.slice ga n cp).ownBlock = some j)) : MidE w k n (L ++ [k]) vl w1 := by
  have hne : ch ≠ w.heap.size + 1 := fun e => by rw [← e, hc] at hb; simp [openCh, fblock] at hb
  have hcl : commits L ++ pend k (.slice none 0 0) = commits (L ++ [k]) := by rw [commits_append]; simp [commits]
  refine ⟨by simp [hn], ⟨ch, ga', cp', hb1, ?_, hN, hcl ▸ hown1⟩, ⟨L, ?_, rfl⟩, ?_, ?_, ?_, ?_⟩
  · rw [hon.block ch (lt_of_block hc) (fun h => h.elim hne (own_chan hown hc))]; exact hc
  · refine hon.owns hl (fun j hj h => ?_)
    rcases h with rfl | h
    · have := (hl.lt _ hj).1; omega
    · exact own_apart hl hown (by decide) j hj h
  · rw [List.pairwise_append]
    exact ⟨hs, List.pairwise_singleton _ _, fun a ha b hb => by simp at hb; subst hb; exact hk a ha⟩
  · intro q hq
    simp at hq
    rcases hq with hq | rfl
    · have := hk q hq; omega
    · omega
  · refine hbel.trans (hon.below (by omega) (fun j hj => ?_))
    rcases hj with rfl | hj
    · omega
    · have := (hown.lt j hj).1; omega
  · have := hon.size; omega

theorem rele_push {w w1 w2 : World} {k n : Nat} {L M : List Nat} {vl v' : Value} {o : Obj} (h : MidE w k n L vl w1) (hl : w1.ownsRow (w.heap.size + 2) 35 1 vl n (nums M)) (hLM : L = M ++ [k])
    (hown : w2.ownsRow (w.heap.size + 2) 35 1 v' (n + 1) (nums M ++ [.int .u64 k])) (hg : (w1.alloc o).grownBy w2 vl.ownBlock) : RelE w (k + 1) (n + 1) L v' w2 := by
  obtain ⟨ch, ga, cp, hb, hc, hN, hcm⟩ := h.blk
  have hno : ∀ j, vl.ownBlock = some j → w.heap.size + 2 ≤ j := fun j hj => (hl.lt j hj).1
  have hk : ∀ j, j < w1.heap.size → vl.ownBlock ≠ some j → w2.heap[j]? = w1.heap[j]? := fun j hj hne => by
    rw [hg.block j (by simp; omega) (fun e => hne e.symm), Below.heap_alloc _ _ _ hj]
  refine ⟨ch, ga, cp, h.len, ?_, ?_, hN, ?_, ?_, h.sorted, h.less, ?_, ?_⟩
  · rw [hk _ (lt_of_block hb) (fun e => by have := hno _ e; omega)]; exact hb
  · rw [hk _ (lt_of_block hc) (own_chan hl hc)]; exact hc
  · refine ((hcm.alloc o).kept hg ?_)
    cases hv : Value.ownBlock (.slice ga (n + 1) cp) with
    | none => exact .inl rfl
    | some j => exact .inr (fun e => own_apart hcm hl (by decide) j hv e.symm)
  · have : nums L = nums M ++ [.int .u64 k] := by rw [hLM]; simp [nums]
    rw [this]; exact hown
  · refine (h.below.alloc (by have := h.size; omega) o).grown hg (by have := h.size; simp; omega) (fun j hj => by have := hno j hj; omega)
  · have h1 := hg.size; have := h.size; simp at h1; omega

/-- Behind 'end', ahead of slices.Index. -/
structure GapE (w : World) (k : Nat) (q : Nat) (L : List Nat) (vl : Value) (w1 : World) : Prop where
  blk : ∃ ch ga cp, w1.heap[w.heap.size + 1]? = some (fblock 0 0 ch k (.slice ga (L.erase q).length cp)) ∧ w1.heap[ch]? = some openCh ∧ w.heap.size ≤ ch ∧ w1.ownsRow (w.heap.size + 2) 41 5 (.slice ga (L.erase q).length cp) (L.erase q).length (commits (L.erase q))
  live : w1.ownsRow (w.heap.size + 2) 35 1 vl L.length (nums L)
  sorted : L.Pairwise (· < ·)
  less : ∀ q ∈ L, q < k
  below : Below w.heap.size w w1
  size : w.heap.size + 2 ≤ w1.heap.size

theorem rele_end {w wr w1 : World} {k ch q : Nat} {L : List Nat} {vl : Value} {ga : Option Addr} {cp : Nat}
    (hb : wr.heap[w.heap.size + 1]? = some (fblock 0 0 ch k (.slice ga L.length cp))) (hc : wr.heap[ch]? = some openCh) (hN : w.heap.size ≤ ch) (hown : wr.ownsRow (w.heap.size + 2) 41 5 (.slice ga L.length cp) L.length (commits L))
    (hl : wr.ownsRow (w.heap.size + 2) 35 1 vl L.length (nums L)) (hs : L.Pairwise (· < ·)) (hk : ∀ q ∈ L, q < k) (hbel : Below w.heap.size w wr) (hsz : w.heap.size + 2 ≤ wr.heap.size)
    (he : EndPost (w.heap.size + 1) (w.heap.size + 2) k 0 ch (Value.slice ga L.length cp).ownBlock (L.erase q) wr w1) : GapE w k q L vl w1 := by
  obtain ⟨ch', ga', cp', hb1, hc1, hown1, hon, hch'⟩ := he
  refine ⟨⟨ch', ga', cp', hb1, hc1, ?_, hown1⟩, ?_, hs, hk, ?_, ?_⟩
  · rcases hch' with rfl | h <;> omega
  · refine hon.owns hl (fun j hj h => ?_)
    rcases h with rfl | rfl | h
    · have := (hl.lt _ hj).1; omega
    · exact own_chan hl hc hj
    · exact own_apart hl hown (by decide) j hj h
  · refine hbel.trans (hon.below (by omega) (fun j hj => ?_))
    rcases hj with rfl | rfl | hj
    · omega
    · omega
    · have := (hown.lt j hj).1; omega
  · have := hon.size; omega

theorem rele_miss {w w1 : World} {k q : Nat} {L : List Nat} {vl : Value} (h : GapE w k q L vl w1) (hq : q ∉ L) : RelE w k L.length L vl w1 := by
  obtain ⟨ch, ga, cp, hb, hc, hN, hown⟩ := h.blk
  rw [List.erase_of_not_mem hq] at hb hown
  exact ⟨ch, ga, cp, rfl, hb, hc, hN, hown, h.live, h.sorted, h.less, h.below, h.size⟩

theorem rele_hit {w w1 w2 : World} {k q g : Nat} {L : List Nat} {vl v' : Value} (h : GapE w k q L vl w1) (hq : q ∈ L) (hvl : vl.ownBlock = some g)
    (hown2 : w2.ownsRow (w.heap.size + 2) 35 1 v' (L.length - 1) ((nums L).take (L.idxOf q) ++ (nums L).drop (L.idxOf q + 1))) (hon : Only w1 w2 (fun j => j = g)) : RelE w k (L.length - 1) (L.erase q) v' w2 := by
  obtain ⟨ch, ga, cp, hb, hc, hN, hown⟩ := h.blk
  have hle : (L.erase q).length = L.length - 1 := List.length_erase_of_mem hq
  have hgb := (h.live.lt g hvl).1
  have hsub : (L.erase q).Sublist L := List.erase_sublist
  refine ⟨ch, ga, cp, hle, ?_, ?_, hN, ?_, ?_, h.sorted.sublist hsub, fun x hx => h.less x (hsub.subset hx), ?_, ?_⟩
  · rw [hon.block _ (lt_of_block hb) (by omega), ← hle]; exact hb
  · rw [hon.block _ (lt_of_block hc) (fun e => own_chan h.live hc (e ▸ hvl))]; exact hc
  · rw [← hle]
    exact hon.owns hown (fun j hj e => own_apart hown h.live (by decide) j hj (e ▸ hvl))
  · have e1 : nums (L.erase q) = (nums L).take (L.idxOf q) ++ (nums L).drop (L.idxOf q + 1) := by
      rw [List.erase_eq_eraseIdx_of_idxOf (i := L.idxOf q) rfl, List.eraseIdx_eq_take_drop_succ]; simp [nums]
    rw [e1]; exact hown2
  · exact h.below.trans (hon.below (by have := h.size; omega) (fun j hj => by omega))
  · have := hon.size; have := h.size; omega
theorem nums_one (L : List Nat) : ∀ u ∈ nums L, u.oneCell' = true := by
  intro u hu
  simp [nums] at hu
  obtain ⟨q, _, rfl⟩ := hu
  rfl
theorem delete1' (base g n cap i : Nat) (xs : List Value) (w : World) (hown : w.ownsRow base 35 1 (.slice (some ⟨g, 0, none⟩) n cap) n xs) (hN : n ≤ 2000) (hi : i < n) (hone : ∀ u ∈ xs, u.oneCell' = true) :
    Calls Yba.prog 10 #[.slice (some ⟨g, 0, none⟩) n cap, .int .i64 i, .int .i64 ((i : Int) + 1)] w fun e w' => e = .returned (.slice (some ⟨g, 0, none⟩) (n - 1) cap) ∧
      w'.ownsRow base 35 1 (.slice (some ⟨g, 0, none⟩) (n - 1) cap) (n - 1) (xs.take i ++ xs.drop (i + 1)) ∧ Only w w' (fun j => j = g) := by
  obtain ⟨N, rfl⟩ : ∃ N, n = N + 1 := ⟨n - 1, by omega⟩
  have h := delete1 base g N cap i xs w hown (by omega) (by omega) hone
  simp only [Nat.mul_one] at h
  exact h
theorem idx_mem {L : List Nat} {q : Nat} (h : q ∈ L) : idx L q = (L.idxOf q : Int) := by simp [idx, h]
theorem RelE.drewN {w wr : World} {k n : Nat} {L : List Nat} {vl : Value} (h : RelE w k n L vl wr) (q : Nat) : RelE w k n L vl (wr.drewN q) := by
  obtain ⟨ch, ga, cp, h1, h2, h3, h4, h5, h6, h7, h8, h9, h10⟩ := h
  exact ⟨ch, ga, cp, h1, h2, h3, h4, h5, h6, h7, h8, below_drewN h9 q, h10⟩
/-- The two numbers that the inner loop compares are one. -/
theorem rele_cells {w wr : World} {k n : Nat} {L : List Nat} {la : Option Addr} {lc : Nat} (h : RelE w k n L (.slice la n lc) wr) (ga : Option Addr) (cp : Nat) (hc : wr.cell? ⟨w.heap.size + 1, 5, none⟩ = some (.slice ga n cp)) (s : Nat) (hs : s < n) :
    ∃ (g g' : Nat) (y : Int), ga = some ⟨g, 0, none⟩ ∧ la = some ⟨g', 0, none⟩ ∧ wr.cell? ⟨g, s * 5, none⟩ = some (.int .u64 y) ∧ wr.cell? ⟨g', s, none⟩ = some (.int .u64 y) := by
  obtain ⟨ch, ga1, cp1, rfl, hb, _, _, hown, hl, _⟩ := h
  obtain ⟨-, -, -, -, c5, -, -⟩ := fcells hb
  rw [c5] at hc
  simp at hc
  obtain ⟨rfl, rfl⟩ := hc
  obtain ⟨g, rfl, h1⟩ := own_head hown (by omega)
  obtain ⟨g', rfl, h2⟩ := own_head hl (by omega)
  refine ⟨g, g', L[s], rfl, rfl, ?_, ?_⟩
  · rw [h1 _ (by omega)]; exact (commits_at L s hs).1
  · rw [h2 _ (by omega)]; simp [nums, hs]
theorem rele_block {w wr : World} {k n : Nat} {L : List Nat} {vl : Value} (h : RelE w k n L vl wr) : ∃ ga cp, wr.cell? ⟨w.heap.size + 1, 4, none⟩ = some (.int .u64 k) ∧ wr.cell? ⟨w.heap.size + 1, 5, none⟩ = some (.slice ga n cp) := by
  obtain ⟨ch, ga, cp, h1, h2, _⟩ := h
  exact ⟨ga, cp, (fcells h2).2.2.2.1, (fcells h2).2.2.2.2.1⟩
end Go.Proofs.Ybulkcnlu
