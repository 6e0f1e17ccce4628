/-
  (*inflight).broadcast, (*inflight).end: THEIR CONTRACTS.
-/
import Derived.Test.YbulkcnluFind
import Derived.Test.YbulkcnluDelete
import Derived.Test.YbulkcnluNew
import Derived.Conc.EventLaws
namespace Go.Proofs.Ybulkcnlu
open Go.MuLone Go.RowKit

/-- An open channel without a buffer, at which nothing happened. -/
def openCh : Obj := .chan 0 #[] false 0 0 false
/-- The world with the channel closed. -/
def shutCh (w : World) (c : Nat) : World := { w with heap := w.heap.setIfInBounds c (.chan 0 #[] true 0 0 false) }

theorem run_close (w : World) (c : Nat) (h : w.heap[c]? = some openCh) : (Builtin.close_ #[34] 0 #[.chan (some c)]).run Yba.prog w = .ok (.tuple #[]) (shutCh w c) := run_close_open _ _ h
theorem run_makeCh (w : World) : (Instr.makeChan 34 (.int .i64 0)).run Yba.prog w = .ok (.chan (some w.heap.size)) (w.alloc openCh) := run_makeChan34 w
theorem shutCh_other (w : World) (c j : Nat) (h : j ≠ c) : (shutCh w c).heap[j]? = w.heap[j]? := by
  simp only [shutCh, Array.getElem?_setIfInBounds]
  rw [if_neg (fun e => h e.symm)]
@[simp] theorem shutCh_size (w : World) (c : Nat) : (shutCh w c).heap.size = w.heap.size := by simp [shutCh]
theorem Only.shutCh {a w : World} {S : Nat → Prop} (h : Only a w S) {c : Nat} (hc : S c) : Only a (shutCh w c) S :=
  h.trans ⟨rfl, rfl, rfl, by simp, fun k _ hs => shutCh_other w c k (fun e => hs (e ▸ hc))⟩

set_option maxHeartbeats 400000 in
theorem broadcast_any (B ch k : Nat) (rule m : Int) (v : Value) (w : World) (hb : w.heap[B]? = some (fblock rule m ch k v)) (hch : w.heap[ch]? = some openCh) :
    Calls Yba.prog 15 #[.pointer (some ⟨B, 0, none⟩)] w fun e w' => e = .returned (.tuple #[]) ∧ w'.heap[B]? = some (fblock rule m w.heap.size k v) ∧ w'.heap[w.heap.size]? = some openCh ∧ Only w w' (fun j => j = B ∨ j = ch) := by
  have hne : B ≠ ch := fun e => by rw [e, hch] at hb; simp [openCh, fblock] at hb
  have c3 := (fcells hb).2.2.1
  have hlt := lt_of_block hb
  have hb1 : (shutCh w ch).heap[B]? = some (fblock rule m ch k v) := (shutCh_other w ch B hne).trans hb
  have d3 := (fcells hb1).2.2.1
  have g3 := ffree hb1 3
  have hcl := run_close w ch hch
  have hmk := run_makeCh (shutCh w ch)
  have hb2 := fset3 hb1 w.heap.size
  have hfin : (((shutCh w ch).setCell ⟨B, 3, none⟩ (.chan (some w.heap.size))).alloc openCh).heap[B]? = some (fblock rule m w.heap.size k v) := by rw [Below.heap_alloc _ _ _ (by simpa using hlt)]; exact hb2
  have hnew : (((shutCh w ch).setCell ⟨B, 3, none⟩ (.chan (some w.heap.size))).alloc openCh).heap[w.heap.size]? = some openCh := by
    have := heap_alloc_new ((shutCh w ch).setCell ⟨B, 3, none⟩ (.chan (some w.heap.size))) openCh
    simpa using this
  have hon : Only w (((shutCh w ch).setCell ⟨B, 3, none⟩ (.chan (some w.heap.size))).alloc openCh) (fun j => j = B ∨ j = ch) :=
    (((Only.refl w (fun j => j = B ∨ j = ch)).shutCh (.inr rfl)).setCell (p := ⟨B, 3, none⟩) (.inl rfl) _).alloc _
  have HF := Hid.mk (And.intro hfin (And.intro hnew hon))
  clear hfin hnew hon hb hch hb1 hb2
  go_enter Yba.func15, Yba.ntmps15
  go_wp2
  go_end0
  exact ⟨rfl, HF.out⟩

theorem erase_none {L : List Nat} {q i : Nat} (hs : L.Pairwise (· < ·)) (h2 : ∀ (t : Nat) (ht : t < L.length), t < i → L[t] < q) (h3 : ∀ (t : Nat) (ht : t < L.length), i ≤ t → q ≤ L[t])
    (hne : ∀ (h : i < L.length), L[i] ≠ q) : L.erase q = L := by
  apply List.erase_of_not_mem
  intro hm
  obtain ⟨t, ht, e⟩ := List.getElem_of_mem hm
  rcases Nat.lt_trichotomy t i with h | h | h
  · have := h2 t ht h; omega
  · subst h; exact hne ht e
  · have hi : i < L.length := by omega
    have h4 := List.pairwise_iff_getElem.1 hs i t hi ht h
    have h5 := h3 i hi (Nat.le_refl _)
    omega
theorem erase_at {L : List Nat} {q i : Nat} (h2 : ∀ (t : Nat) (ht : t < L.length), t < i → L[t] < q) (hi : i < L.length) (he : L[i] = q) : L.erase q = L.take i ++ L.drop (i + 1) := by
  have hsp : L = L.take i ++ (q :: L.drop (i + 1)) := by rw [← he, List.getElem_cons_drop, List.take_append_drop]
  have hni : q ∉ L.take i := by
    intro hm
    obtain ⟨t, ht, e⟩ := List.getElem_of_mem hm
    rw [List.length_take] at ht
    rw [List.getElem_take] at e
    have := h2 t (by omega) (by omega)
    omega
  conv => lhs; rw [hsp]
  rw [List.erase_append_right _ hni, List.erase_cons_head]
theorem commits_cut (L : List Nat) (i : Nat) (hi : i < L.length) : (commits L).take (i * 5) ++ (commits L).drop ((i + 1) * 5) = commits (L.take i ++ L.drop (i + 1)) := by
  have h1 : commits L = commits (L.take i) ++ commits (L.drop i) := by rw [← commits_append, List.take_append_drop]
  have h2 : commits L = commits (L.take (i + 1)) ++ commits (L.drop (i + 1)) := by rw [← commits_append, List.take_append_drop]
  have l1 : (commits (L.take i)).length = i * 5 := by rw [commits_length, List.length_take]; congr 1; omega
  have l2 : (commits (L.take (i + 1))).length = (i + 1) * 5 := by rw [commits_length, List.length_take]; congr 1; omega
  rw [commits_append]
  congr 1
  · rw [h1, ← l1, List.take_left]
  · rw [h2, ← l2, List.drop_left]
theorem commits_one (L : List Nat) : ∀ u ∈ commits L, u.oneCell' = true := by
  intro u hu
  simp only [commits, List.mem_flatMap] at hu
  obtain ⟨q, _, hu⟩ := hu
  simp [pend] at hu
  rcases hu with rfl | rfl | rfl | rfl | rfl <;> rfl

/-- What 'end' leaves. -/
def EndPost (B base k : Nat) (rule : Int) (ch : Nat) (own : Option Nat) (L : List Nat) (w w' : World) : Prop :=
  ∃ ch' ga' cp', w'.heap[B]? = some (fblock rule 0 ch' k (.slice ga' L.length cp')) ∧ w'.heap[ch']? = some openCh ∧ w'.ownsRow base 41 5 (.slice ga' L.length cp') L.length (commits L) ∧
    Only w w' (fun j => j = B ∨ j = ch ∨ own = some j) ∧ (ch' = ch ∨ w.heap.size ≤ ch')

theorem end_post {B base k : Nat} {rule : Int} {ch ch' : Nat} {own : Option Nat} {L : List Nat} {w w1 : World} {ga' : Option Addr} {cp' : Nat} (hB : B < base) (hb : w1.heap[B]? = some (fblock rule 1 ch' k (.slice ga' L.length cp'))) (hc : w1.heap[ch']? = some openCh)
    (hown : w1.ownsRow base 41 5 (.slice ga' L.length cp') L.length (commits L)) (hon : Only w w1 (fun j => j = B ∨ j = ch ∨ own = some j)) (hch' : ch' = ch ∨ w.heap.size ≤ ch') : EndPost B base k rule ch own L w (w1.setCell ⟨B, 1, none⟩ (.int .i32 0)) := by
  have hne : B ≠ ch' := fun e => by rw [e, hc] at hb; simp [openCh, fblock] at hb
  refine ⟨ch', ga', cp', fset1 hb 0, ?_, ?_, hon.setCell (p := ⟨B, 1, none⟩) (.inl rfl) _, hch'⟩
  · rw [Below.heap_setCell _ _ _ _ (fun e => hne e.symm)]; exact hc
  · exact ownsRow_setCell_other hown (a := ⟨B, 1, none⟩) (fun e => by have := (hown.lt B e).1; omega) _

theorem delete5' (base g n cap i : Nat) (xs : List Value) (w : World) (hown : w.ownsRow base 41 5 (.slice (some ⟨g, 0, none⟩) n cap) n xs) (hN : n ≤ 2000) (hi : i < n) (hone : ∀ u ∈ xs, u.oneCell' = true) :
    Calls Yba.prog 14 #[.slice (some ⟨g, 0, none⟩) n cap, .int .i64 i, .int .i64 ((i : Int) + 1)] w fun e w' => e = .returned (.slice (some ⟨g, 0, none⟩) (n - 1) cap) ∧
      w'.ownsRow base 41 5 (.slice (some ⟨g, 0, none⟩) (n - 1) cap) (n - 1) (xs.take (i * 5) ++ xs.drop ((i + 1) * 5)) ∧ Only w w' (fun j => j = g) := by
  obtain ⟨N, rfl⟩ : ∃ N, n = N + 1 := ⟨n - 1, by omega⟩
  exact delete5 base g N cap i xs w hown (by omega) (by omega) hone

set_option maxRecDepth 100000 in
set_option maxHeartbeats 1000000 in
theorem end_any (B base ch k : Nat) (rule : Int) (ga : Option Addr) (cp : Nat) (L : List Nat) (q : Nat) (w : World) (hb : w.heap[B]? = some (fblock rule 0 ch k (.slice ga L.length cp))) (hch : w.heap[ch]? = some openCh)
    (hown : w.ownsRow base 41 5 (.slice ga L.length cp) L.length (commits L)) (hB : B < base) (hL : L.length ≤ 2000) (hs : L.Pairwise (· < ·)) :
    Calls Yba.prog 8 #[.pointer (some ⟨B, 0, none⟩), .int .u64 q] w fun e w' => e = .returned (.tuple #[]) ∧ EndPost B base k rule ch (Value.slice ga L.length cp).ownBlock (L.erase q) w w' := by
  have hne : B ≠ ch := fun e => by rw [e, hch] at hb; simp [openCh, fblock] at hb
  have hno : (Value.slice ga L.length cp).ownBlock ≠ some B := fun e => by have := (hown.lt B e).1; omega
  obtain ⟨-, c1, -, -, -, -, -⟩ := fcells hb
  have f1 := ffree hb 1
  have hb1 := fset1 hb 1
  have hch1 : (w.setCell ⟨B, 1, none⟩ (.int .i32 1)).heap[ch]? = some openCh := by rw [Below.heap_setCell _ _ _ _ (fun e => hne e.symm)]; exact hch
  have hown1 : (w.setCell ⟨B, 1, none⟩ (.int .i32 1)).ownsRow base 41 5 (.slice ga L.length cp) L.length (commits L) := ownsRow_setCell_other hown (a := ⟨B, 1, none⟩) hno _
  have hon1 : Only w (w.setCell ⟨B, 1, none⟩ (.int .i32 1)) (fun j => j = B ∨ j = ch ∨ (Value.slice ga L.length cp).ownBlock = some j) := (Only.refl w _).setCell (p := ⟨B, 1, none⟩) (.inl rfl) _
  have H1 := Hid.mk (And.intro hb1 (And.intro hch1 (And.intro hown1 hon1)))
  clear hb hch hown hb1 hch1 hown1 hon1
  have HS := Hid.mk hs
  clear hs
  go_enter_defers Yba.func8, Yba.ntmps8
  go_wp2_with (go_at_call 11; refine (lock_free Yba.muLib ⟨B, 1, none⟩ _ c1 f1).mono ?_; rintro e w' ⟨rfl, rfl⟩)
  refine (index_any B base ga cp rule 1 ch k L q _ H1.out.1 H1.out.2.2.1 hL HS.out).mono ?_
  rintro e w1 ⟨i, rfl, hi, h2, h3, hon2⟩
  have hbw : w1.heap[B]? = some (fblock rule 1 ch k (.slice ga L.length cp)) := by rw [hon2.block B (lt_of_block H1.out.1) id]; exact H1.out.1
  have hchw : w1.heap[ch]? = some openCh := by rw [hon2.block ch (lt_of_block H1.out.2.1) id]; exact H1.out.2.1
  have hownw := hon2.owns H1.out.2.2.1 (fun _ _ => id)
  have honw := H1.out.2.2.2.trans (hon2.mono (fun _ _ h => h.elim))
  have hsz : w.heap.size ≤ w1.heap.size := honw.size
  clear H1 hon2 c1 f1
  obtain ⟨-, d1, -, -, d5, -, -⟩ := fcells hbw
  have g1 := ffree hbw 1
  have g5 := ffree hbw 5
  have HW := Hid.mk (And.intro hbw (And.intro hchw (And.intro hownw honw)))
  clear hbw hchw hownw honw
  have H23 := Hid.mk (And.intro h2 h3)
  clear h2 h3
  by_cases hin : i < L.length
  · obtain ⟨g, rfl, hc⟩ := own_head HW.out.2.2.1 (by omega)
    have e0 := (hc (i * 5) (by omega)).trans (commits_at L i hin).1
    clear hc
    generalize hx : L[i] = x at e0
    have HX := Hid.mk hx
    clear hx
    by_cases hq : x = q
    · subst hq
      go_wp2_with fail
      refine (delete5' base g L.length cp i (commits L) w1 HW.out.2.2.1 hL hin (commits_one L)).mono ?_
      rintro e w2 ⟨rfl, hown2, hon2⟩
      have hle : (L.erase x).length = L.length - 1 := by rw [List.length_erase_of_mem (by rw [← HX.out]; exact List.getElem_mem hin)]
      have hne1 : B ≠ g := fun e => hno (by simp [Value.ownBlock, e])
      have hne2 : ch ≠ g := fun e => by
        have h := HW.out.2.1
        rcases HW.out.2.2.1.2 with ⟨h0, _⟩ | ⟨g', _, _, h0, _, hh, _⟩
        · simp at h0
        · simp at h0
          rw [e, h0.1, hh] at h
          simp [openCh] at h
      have hb2 : w2.heap[B]? = some (fblock rule 1 ch k (.slice (some ⟨g, 0, none⟩) L.length cp)) := by rw [hon2.block B (lt_of_block HW.out.1) hne1]; exact HW.out.1
      have hch2 : w2.heap[ch]? = some openCh := by rw [hon2.block ch (lt_of_block HW.out.2.1) hne2]; exact HW.out.2.1
      rw [commits_cut L i hin, ← erase_at H23.out.1 hin HX.out, ← hle] at hown2
      have hb3 := fset5 hb2 (.slice (some ⟨g, 0, none⟩) (L.length - 1) cp)
      have hch3 : (w2.setCell ⟨B, 5, none⟩ (.slice (some ⟨g, 0, none⟩) (L.length - 1) cp)).heap[ch]? = some openCh := by rw [Below.heap_setCell _ _ _ _ (fun e => hne e.symm)]; exact hch2
      have hown3 := ownsRow_setCell_other hown2 (a := ⟨B, 5, none⟩) (by simp [Value.ownBlock]; omega) (.slice (some ⟨g, 0, none⟩) (L.length - 1) cp)
      have hon3 : Only w (w2.setCell ⟨B, 5, none⟩ (.slice (some ⟨g, 0, none⟩) (L.length - 1) cp)) (fun j => j = B ∨ j = ch ∨ (Value.slice (some ⟨g, 0, none⟩) L.length cp).ownBlock = some j) :=
        (HW.out.2.2.2.trans (hon2.mono (fun j _ h => by subst h; exact .inr (.inr rfl)))).setCell (p := ⟨B, 5, none⟩) (.inl rfl) _
      have p5 := (fcells hb2).2.2.2.2.1
      have r5 := ffree hb2 5
      have H3 := Hid.mk (And.intro hb3 (And.intro hch3 (And.intro hown3 hon3)))
      have HLE := Hid.mk hle
      clear hb2 hch2 hown2 hon2 hb3 hch3 hown3 hon3 HW H23 d1 d5 g1 g5 e0 hle
      go_wp2_with fail
      refine (broadcast_any B ch k rule 1 (.slice (some ⟨g, 0, none⟩) (L.length - 1) cp) _ H3.out.1 H3.out.2.1).mono ?_
      rintro e w4 ⟨rfl, hb4, hch4, hon4⟩
      have hfr : (w2.setCell ⟨B, 5, none⟩ (.slice (some ⟨g, 0, none⟩) (L.length - 1) cp)).heap.size = w2.heap.size := by simp
      rw [hfr] at hb4 hch4
      have hown4 : w4.ownsRow base 41 5 (.slice (some ⟨g, 0, none⟩) (L.erase x).length cp) (L.erase x).length (commits (L.erase x)) :=
        hon4.owns H3.out.2.2.1 (fun j hj => by simp [Value.ownBlock] at hj; omega)
      have hon4' : Only w w4 (fun j => j = B ∨ j = ch ∨ (Value.slice (some ⟨g, 0, none⟩) L.length cp).ownBlock = some j) :=
        H3.out.2.2.2.trans (hon4.mono (fun j _ h => h.elim .inl (fun h => .inr (.inl h))))
      obtain ⟨-, p1, -, -, -, -, -⟩ := fcells hb4
      have r1 := ffree hb4 1
      have hsz4 : w.heap.size ≤ w2.heap.size := by have := H3.out.2.2.2.size; rwa [hfr] at this
      have hend : EndPost B base k rule ch (Value.slice (some ⟨g, 0, none⟩) L.length cp).ownBlock (L.erase x) w (w4.setCell ⟨B, 1, none⟩ (.int .i32 0)) :=
        end_post hB (by rw [HLE.out]; exact hb4) hch4 hown4 hon4' (.inr hsz4)
      have HE := Hid.mk hend
      clear hb4 hch4 hon4 hown4 hon4' hend H3 hfr p5 r5
      go_wp2_with fail
      refine leaves_cons (f := 12) (args := #[.pointer (some ⟨B, 1, none⟩)]) (by simp) (by simp [go_sem]) ?_
      refine (unlock_deferred Yba.muLib ⟨B, 1, none⟩ .returning _ p1 r1).mono ?_
      rintro e u' w'' ⟨rfl, rfl, rfl⟩
      exact ⟨_, results_none rfl _ _ _, rfl, HE.out⟩
    · have h1 : ((x : Int) != (q : Int)) = true := by rw [bne_iff_ne]; omega
      have h0 : ((i : Int) == (L.length : Int)) = false := by rw [beq_eq_false_iff_ne]; omega
      go_wp2_with fail
      refine leaves_cons (f := 12) (args := #[.pointer (some ⟨B, 1, none⟩)]) (by simp) (by simp [go_sem]) ?_
      refine (unlock_deferred Yba.muLib ⟨B, 1, none⟩ .returning _ d1 g1).mono ?_
      rintro e u' w'' ⟨rfl, rfl, rfl⟩
      refine ⟨_, results_none rfl _ _ _, rfl, ?_⟩
      rw [erase_none HS.out H23.out.1 H23.out.2 (fun h => by have := HX.out; omega)]
      exact end_post hB HW.out.1 HW.out.2.1 HW.out.2.2.1 HW.out.2.2.2 (.inl rfl)
  · obtain rfl : i = L.length := by omega
    go_wp2_with fail
    refine leaves_cons (f := 12) (args := #[.pointer (some ⟨B, 1, none⟩)]) (by simp) (by simp [go_sem]) ?_
    refine (unlock_deferred Yba.muLib ⟨B, 1, none⟩ .returning _ d1 g1).mono ?_
    rintro e u' w'' ⟨rfl, rfl, rfl⟩
    refine ⟨_, results_none rfl _ _ _, rfl, ?_⟩
    rw [erase_none HS.out H23.out.1 H23.out.2 (fun h => absurd h (Nat.lt_irrefl _))]
    exact end_post hB HW.out.1 HW.out.2.1 HW.out.2.2.1 HW.out.2.2.2 (.inl rfl)
end Go.Proofs.Ybulkcnlu
