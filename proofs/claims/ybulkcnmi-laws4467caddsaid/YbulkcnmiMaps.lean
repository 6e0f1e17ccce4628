/-
  MAPS KEYED BY A uint8 BELOW 8, OF WHATEVER ELEMENTS: what a block's entries hold, by a plain function; look-up, update, len.
-/
import Derived.Test.YbulkcnmiProg
import Derived.WalkKit
import Derived.MapKept
import Derived.ChangeMaps5
namespace Go.Proofs.Ybulkcnmi
open Go.RowKit
open Go.ChangeMaps (setBlock)

/-- The entries as a list of numbers and values. -/
def enc (p : Nat × Value) : Value × Value := (.int .u8 p.1, p.2)
def findA (k : Nat) : List (Nat × Value) → Nat → Option (Nat × Value)
  | [], _ => none
  | p :: A, n => if k = p.1 then some (n, p.2) else findA k A (n + 1)
def updA (k : Nat) (v : Value) : List (Nat × Value) → List (Nat × Value)
  | [] => [(k, v)]
  | p :: A => if k = p.1 then (k, v) :: A else p :: updA k v A
def lookA (k : Nat) : List (Nat × Value) → Option Value
  | [] => none
  | p :: A => if k = p.1 then some p.2 else lookA k A

theorem findA_look (k : Nat) : ∀ (A : List (Nat × Value)) (n : Nat), (findA k A n).map Prod.snd = lookA k A
  | [], _ => rfl
  | p :: A, n => by
    unfold findA lookA
    split
    · rfl
    · exact findA_look k A (n + 1)

theorem findNow_rep (k : Nat) : ∀ (A : List (Nat × Value)) (l : List MapEntry) (n : Nat), l.map (fun e => (e.key, e.val)) = A.map enc → Instr.findNow (.int .u8) (.int .u8 k) l n = some (findA k A n)
  | [], l, n, h => by
    simp at h
    subst h
    rfl
  | p :: A, [], n, h => by simp at h
  | p :: A, e :: l, n, h => by
    simp only [List.map_cons, List.cons.injEq, enc, Prod.mk.injEq] at h
    obtain ⟨⟨h1, h2⟩, h3⟩ := h
    unfold Instr.findNow findA
    rw [h1]
    by_cases hk : k = p.1
    · subst hk
      simp [Instr.sameNow, h2]
    · have : ((k : Int) == (p.1 : Int)) = false := by rw [beq_eq_false_iff_ne]; omega
      simp only [Instr.sameNow, if_true, this]
      rw [if_neg hk]
      exact findNow_rep k A l (n + 1) h3

/-- The entry that is found, changed in place. -/
theorem set_upd (k : Nat) (v : Value) : ∀ (A : List (Nat × Value)) (n i : Nat) (u : Value), findA k A n = some (i, u) → n ≤ i ∧ A[i - n]? = some (k, u) ∧ A.set (i - n) (k, v) = updA k v A
  | [], n, i, u, h => by simp [findA] at h
  | p :: A, n, i, u, h => by
    unfold findA at h
    by_cases hk : k = p.1
    · rw [if_pos hk] at h
      simp at h
      obtain ⟨rfl, rfl⟩ := h
      refine ⟨Nat.le_refl _, ?_, ?_⟩
      · simp [hk]
      · simp [updA, hk]
    · rw [if_neg hk] at h
      obtain ⟨h1, h2, h3⟩ := set_upd k v A (n + 1) i u h
      obtain ⟨j, rfl⟩ : ∃ j, i = n + 1 + j := ⟨i - (n + 1), by omega⟩
      rw [show n + 1 + j - (n + 1) = j by omega] at h2 h3
      refine ⟨by omega, ?_, ?_⟩
      · rw [show n + 1 + j - n = j + 1 by omega]; simpa using h2
      · rw [show n + 1 + j - n = j + 1 by omega]
        simp [updA, hk, h3]
theorem push_upd (k : Nat) (v : Value) : ∀ (A : List (Nat × Value)) (n : Nat), findA k A n = none → A ++ [(k, v)] = updA k v A
  | [], _, _ => rfl
  | p :: A, n, h => by
    unfold findA at h
    by_cases hk : k = p.1
    · rw [if_pos hk] at h; cases h
    · rw [if_neg hk] at h
      simp [updA, hk, push_upd k v A (n + 1) h]

theorem look_upd (k : Nat) (v : Value) (i : Nat) : ∀ A : List (Nat × Value), lookA i (updA k v A) = if i = k then some v else lookA i A
  | [] => by simp [updA, lookA]
  | p :: A => by
    unfold updA
    by_cases hk : k = p.1
    · rw [if_pos hk]
      unfold lookA
      by_cases hi : i = k
      · simp [hi]
      · have : ¬ i = p.1 := by omega
        simp [hi, this]
    · rw [if_neg hk]
      unfold lookA
      by_cases hi : i = p.1
      · simp [hi]; omega
      · rw [if_neg hi, look_upd k v i A]
        simp [hi]
theorem keys_upd (k : Nat) (v : Value) : ∀ A : List (Nat × Value), ∀ i, i ∈ (updA k v A).map Prod.fst ↔ i = k ∨ i ∈ A.map Prod.fst
  | [], i => by simp [updA]
  | p :: A, i => by
    unfold updA
    by_cases hk : k = p.1
    · rw [if_pos hk]; simp [hk]
    · rw [if_neg hk]
      have := keys_upd k v A i
      simp only [List.map_cons, List.mem_cons, this]
      constructor
      · rintro (h | h | h)
        · exact .inr (.inl h)
        · exact .inl h
        · exact .inr (.inr h)
      · rintro (h | h | h)
        · exact .inr (.inl h)
        · exact .inl h
        · exact .inr (.inr h)
theorem nodup_upd (k : Nat) (v : Value) : ∀ A : List (Nat × Value), (A.map Prod.fst).Nodup → ((updA k v A).map Prod.fst).Nodup
  | [], _ => by simp [updA]
  | p :: A, h => by
    simp only [List.map_cons, List.nodup_cons] at h
    unfold updA
    by_cases hk : k = p.1
    · rw [if_pos hk]
      simp only [List.map_cons, List.nodup_cons]
      exact ⟨hk ▸ h.1, h.2⟩
    · rw [if_neg hk]
      simp only [List.map_cons, List.nodup_cons, keys_upd]
      refine ⟨?_, nodup_upd k v A h.2⟩
      rintro (e | e)
      · exact hk e.symm
      · exact h.1 e
theorem look_keys (k : Nat) : ∀ A : List (Nat × Value), (lookA k A).isSome = true ↔ k ∈ A.map Prod.fst
  | [] => by simp [lookA]
  | p :: A => by
    unfold lookA
    by_cases hk : k = p.1
    · simp [hk]
    · rw [if_neg hk, look_keys k A]; simp [hk]

/-- THE ENTRIES HOLD JUST WHAT f SAYS, at keys below 8. -/
def Holds (es : Array MapEntry) (f : Nat → Option Value) : Prop :=
  ∃ A : List (Nat × Value), es.toList.map (fun e => (e.key, e.val)) = A.map enc ∧ (A.map Prod.fst).Nodup ∧ (∀ i ∈ A.map Prod.fst, i < 8) ∧ ∀ i, i < 8 → lookA i A = f i

theorem holds_empty : Holds #[] (fun _ => none) := ⟨[], rfl, List.nodup_nil, by simp, fun _ _ => rfl⟩

theorem Holds.congr {es : Array MapEntry} {f g : Nat → Option Value} (h : Holds es f) (he : ∀ i, i < 8 → f i = g i) : Holds es g := by
  obtain ⟨A, h1, h2, h3, h4⟩ := h
  exact ⟨A, h1, h2, h3, fun i hi => (h4 i hi).trans (he i hi)⟩

/-- len(m) -/
theorem Holds.size {es : Array MapEntry} {f : Nat → Option Value} (h : Holds es f) : es.size = ((List.range 8).filter (fun i => (f i).isSome)).length := by
  obtain ⟨A, h1, h2, h3, h4⟩ := h
  have e1 : es.size = (A.map Prod.fst).length := by
    have := congrArg List.length h1
    simpa using this
  rw [e1]
  refine List.Perm.length_eq ((List.perm_ext_iff_of_nodup h2 (List.Pairwise.filter _ List.nodup_range)).2 (fun i => ?_))
  rw [List.mem_filter, List.mem_range]
  constructor
  · intro hi
    have := h3 i hi
    refine ⟨this, ?_⟩
    rw [← h4 i this]
    exact (look_keys i A).2 hi
  · rintro ⟨hi, hs⟩
    rw [← h4 i hi] at hs
    exact (look_keys i A).1 hs

section
variable {P : Program} {w : World} {t kt e : TypeId} {b : Nat} {es : Array MapEntry} {clock : Nat} {f : Nat → Option Value}

theorem isKey (k : Nat) : MapKept.IsKey (.int .u8) (.int .u8 (k : Int)) := by simp [MapKept.IsKey]

/-- 'm[k]', 'v, ok := m[k]' -/
theorem run_look (ht : P.underlying t = some (.map kt e)) (hk : P.underlying kt = some (.int .u8)) {z : Value} (hz : (zeroValue e).run P w = .ok z w) (hb : w.heap[b]? = some (.map es clock)) (h : Holds es f) (k : Nat) (hk8 : k < 8) (ok : Bool) :
    (Instr.lookup t (.map (some b)) (.int .u8 k) ok).run P w = .ok (if ok then .tuple #[(f k).getD z, .bool (f k).isSome] else (f k).getD z) w := by
  obtain ⟨A, h1, h2, h3, h4⟩ := h
  have hf := findNow_rep k A es.toList 0 h1
  have hl := findA_look k A 0
  rw [h4 k hk8] at hl
  cases hr : findA k A 0 with
  | none =>
    rw [hr] at hl hf
    simp at hl
    simp [Instr.lookup, run_underlying ht, MapKept.run_getObj_map hb, MapKept.run_checkKey hk (isKey k), MapKept.run_findKey hk hf, hz, ← hl, Result.andThen]
  | some p =>
    rw [hr] at hl hf
    simp at hl
    simp [Instr.lookup, run_underlying ht, MapKept.run_getObj_map hb, MapKept.run_checkKey hk (isKey k), MapKept.run_findKey hk hf, ← hl, Result.andThen]

/-- 'm[k]' at a nil map -/
theorem run_look_nil (ht : P.underlying t = some (.map kt e)) (hk : P.underlying kt = some (.int .u8)) {z : Value} (hz : (zeroValue e).run P w = .ok z w) (k : Nat) (ok : Bool) :
    (Instr.lookup t (.map none) (.int .u8 k) ok).run P w = .ok (if ok then .tuple #[z, .bool false] else z) w := by
  have hf : Instr.findNow (.int .u8) (.int .u8 (k : Int)) [] 0 = some none := rfl
  simp [Instr.lookup, run_underlying ht, MapKept.run_checkKey hk (isKey k), MapKept.run_findKey hk hf, hz, Result.andThen]

/-- 'm[k] = v' -/
theorem run_upd (ht : P.underlying t = some (.map kt e)) (hk : P.underlying kt = some (.int .u8)) (hb : w.heap[b]? = some (.map es clock)) (h : Holds es f) (k : Nat) (hk8 : k < 8) (v : Value) :
    ∃ es' clock', (Instr.mapUpdate t (.map (some b)) (.int .u8 k) v).run P w = .ok () (setBlock w b (.map es' clock')) ∧ Holds es' (fun i => if i = k then some v else f i) := by
  obtain ⟨A, h1, h2, h3, h4⟩ := h
  have hf := findNow_rep k A es.toList 0 h1
  have hfin : ∀ es' : Array MapEntry, es'.toList.map (fun e => (e.key, e.val)) = (updA k v A).map enc → Holds es' (fun i => if i = k then some v else f i) := fun es' he =>
    ⟨updA k v A, he, nodup_upd k v A h2, fun i hi => by
      rcases (keys_upd k v A i).1 hi with rfl | hi
      · exact hk8
      · exact h3 i hi, fun i hi => by rw [look_upd, h4 i hi]⟩
  cases hr : findA k A 0 with
  | none =>
    rw [hr] at hf
    refine ⟨es.push ⟨.int .u8 k, v, clock⟩, clock + 1, ?_, hfin _ ?_⟩
    · simp [Instr.mapUpdate, run_underlying ht, MapKept.run_getObj_map hb, MapKept.run_checkKey hk (isKey k), MapKept.run_findKey hk hf, MapKept.run_setObj_map _ hb, Result.andThen, setBlock]
    · rw [← push_upd k v A 0 hr, Array.toList_push, List.map_append, List.map_append, h1]; rfl
  | some p =>
    obtain ⟨i, u⟩ := p
    rw [hr] at hf
    obtain ⟨_, s2, s3⟩ := set_upd k v A 0 i u hr
    rw [Nat.sub_zero] at s2 s3
    have hei : (es.toList.map (fun e => (e.key, e.val)))[i]? = some (.int .u8 k, u) := by rw [h1]; simp [s2, enc]
    obtain ⟨e0, he0, hek, hev⟩ : ∃ e0, es[i]? = some e0 ∧ e0.key = .int .u8 k ∧ e0.val = u := by
      simp at hei
      obtain ⟨e0, h, h'⟩ := hei
      exact ⟨e0, h, h'.1, h'.2⟩
    refine ⟨es.modify i (fun e => { e with key := .int .u8 k, val := v }), clock, ?_, hfin _ ?_⟩
    · simp [Instr.mapUpdate, run_underlying ht, MapKept.run_getObj_map hb, MapKept.run_checkKey hk (isKey k), MapKept.run_findKey hk hf, he0, hek, MapKept.run_keyThatStays (isKey k), MapKept.run_setObj_map _ hb, Result.andThen, setBlock]
    · rw [← s3, List.map_set, ← h1]
      apply List.ext_getElem?
      intro j
      simp only [List.getElem?_map, List.getElem?_set, Array.getElem?_toList, Array.getElem?_modify]
      by_cases hj : i = j
      · subst hj
        have hlt : i < es.size := (Array.getElem?_eq_some_iff.1 he0).1
        simp [hlt, enc]
      · simp [hj]

/-- len(m) -/
theorem run_len (ht : P.underlying t = some (.map kt e)) (hb : w.heap[b]? = some (.map es clock)) (ty : TypeId) : (Builtin.len_ #[t] ty #[.map (some b)]).run P w = .ok (.int .i64 es.size) w := by
  simp [Builtin.len_, run_underlying ht, MapKept.run_getObj_map hb, goInt, Result.andThen]
theorem run_len_nil (ht : P.underlying t = some (.map kt e)) (ty : TypeId) : (Builtin.len_ #[t] ty #[.map none]).run P w = .ok (.int .i64 0) w := by
  simp [Builtin.len_, run_underlying ht, goInt]
end
end Go.Proofs.Ybulkcnmi
