/-
  THE CALL's OWN MEMORY: the two arrays, the map of maps; what each step does to it.
-/
import Derived.Test.YbulkcnmiMaps
import Derived.Deep.Draws
namespace Go.Proofs.Ybulkcnmi
open Go.RowKit
open Go.ChangeMaps (setBlock heap_setBlock_same heap_setBlock_other)

def up (H : Nat → Bool) (k : Nat) : Nat → Bool := fun i => if i = k then true else H i
def up2 (M : Nat → Nat → Bool) (k v : Nat) : Nat → Nat → Bool := fun i j => if i = k ∧ j = v then true else M i j
def upN (b : Nat → Nat) (k s : Nat) : Nat → Nat := fun i => if i = k then s else b i

/-- What the outer map holds; what an inner one holds. -/
def outF (H : Nat → Bool) (bk : Nat → Nat) : Nat → Option Value := fun i => if H i = true then some (.map (some (bk i))) else none
def inF (M : Nat → Nat → Bool) (i : Nat) : Nat → Option Value := fun j => if M i j = true then some (.bool true) else none

/-- Ma, Ha: what the arrays model, has hold; H, M: what the maps hold; bk: the inner maps' blocks. -/
structure Inv (w : World) (Ma : Nat → Nat → Bool) (Ha H : Nat → Bool) (M : Nat → Nat → Bool) (bk : Nat → Nat) (wr : World) : Prop where
  model : ∃ arr, wr.heap[w.heap.size]? = some (.cells arr 25 (0, 0)) ∧ arr.size = 64 ∧ ∀ i j, i < 8 → j < 8 → arr[i * 8 + j]? = some (.bool (Ma i j))
  has : ∃ arr, wr.heap[w.heap.size + 1]? = some (.cells arr 24 (0, 0)) ∧ arr.size = 8 ∧ ∀ i, i < 8 → arr[i]? = some (.bool (Ha i))
  outer : ∃ es clock, wr.heap[w.heap.size + 2]? = some (.map es clock) ∧ Holds es (outF H bk)
  inner : ∀ i, i < 8 → H i = true → w.heap.size + 2 < bk i ∧ ∃ es clock, wr.heap[bk i]? = some (.map es clock) ∧ Holds es (inF M i)
  apart : ∀ i j, i < 8 → j < 8 → H i = true → H j = true → bk i = bk j → i = j
  bare : ∀ i j, i < 8 → H i = false → M i j = false
  below : Below w.heap.size w wr
  size : w.heap.size + 3 ≤ wr.heap.size

section
variable {w wr : World} {Ma M : Nat → Nat → Bool} {Ha H : Nat → Bool} {bk : Nat → Nat}

theorem Inv.frame (h : Inv w Ma Ha H M bk wr) {w' : World} (hb : ∀ j, j < wr.heap.size → w'.heap[j]? = wr.heap[j]?) (hbel : Below w.heap.size w w') (hs : wr.heap.size ≤ w'.heap.size) : Inv w Ma Ha H M bk w' := by
  obtain ⟨a1, h1, r1⟩ := h.model
  obtain ⟨a2, h2, r2⟩ := h.has
  obtain ⟨es, c, h3, r3⟩ := h.outer
  have hsz := h.size
  refine ⟨⟨a1, (hb _ (by omega)).trans h1, r1⟩, ⟨a2, (hb _ (by omega)).trans h2, r2⟩, ⟨es, c, (hb _ (by omega)).trans h3, r3⟩, fun i hi hH => ?_, h.apart, h.bare, hbel, by omega⟩
  obtain ⟨hlt, es, c, h4, r4⟩ := h.inner i hi hH
  exact ⟨hlt, es, c, (hb _ (lt_of_block h4)).trans h4, r4⟩

theorem Inv.alloc (h : Inv w Ma Ha H M bk wr) (o : Obj) : Inv w Ma Ha H M bk (wr.alloc o) :=
  h.frame (fun j hj => Below.heap_alloc _ _ _ hj) (h.below.alloc (by have := h.size; omega) o) (by simp)
theorem Inv.drewN (h : Inv w Ma Ha H M bk wr) (n : Nat) : Inv w Ma Ha H M bk (wr.drewN n) :=
  h.frame (fun _ _ => rfl) ⟨h.below.os, h.below.tape, h.below.output, h.below.size, h.below.block⟩ (Nat.le_refl _)

theorem Inv.congrA (h : Inv w Ma Ha H M bk wr) {Ma' : Nat → Nat → Bool} {Ha' : Nat → Bool} (h1 : ∀ i j, i < 8 → j < 8 → Ma i j = Ma' i j) (h2 : ∀ i, i < 8 → Ha i = Ha' i) : Inv w Ma' Ha' H M bk wr := by
  obtain ⟨a1, e1, s1, r1⟩ := h.model
  obtain ⟨a2, e2, s2, r2⟩ := h.has
  exact ⟨⟨a1, e1, s1, fun i j hi hj => by rw [← h1 i j hi hj]; exact r1 i j hi hj⟩, ⟨a2, e2, s2, fun i hi => by rw [← h2 i hi]; exact r2 i hi⟩, h.outer, h.inner, h.apart, h.bare, h.below, h.size⟩

theorem setBlock_size (w : World) (b : Nat) (o : Obj) : (setBlock w b o).heap.size = w.heap.size := by simp [setBlock]
theorem below_setBlock {B : Nat} {a w : World} (h : Below B a w) {b : Nat} (hb : B ≤ b) (o : Obj) : Below B a (setBlock w b o) :=
  h.trans ⟨rfl, rfl, rfl, by simp [setBlock], fun k hk => by simp only [setBlock, Array.getElem?_setIfInBounds]; rw [if_neg (by omega)]⟩

/-- m[k] = a new map -/
theorem Inv.newKey (h : Inv w Ma Ha H M bk wr) {k : Nat} (hk : k < 8) (hH : H k = false) {es es' : Array MapEntry} {c c' : Nat} (hb : wr.heap[w.heap.size + 2]? = some (.map es c))
    (hes : Holds es' (fun i => if i = k then some (.map (some wr.heap.size)) else outF H bk i)) :
    Inv w Ma Ha (up H k) M (upN bk k wr.heap.size) (setBlock (wr.alloc (.map #[] 0)) (w.heap.size + 2) (.map es' c')) := by
  have hsz := h.size
  have hb' : (wr.alloc (.map #[] 0)).heap[w.heap.size + 2]? = some (.map es c) := (Below.heap_alloc _ _ _ (by omega)).trans hb
  have hoth : ∀ j, j < wr.heap.size → j ≠ w.heap.size + 2 → (setBlock (wr.alloc (.map #[] 0)) (w.heap.size + 2) (.map es' c')).heap[j]? = wr.heap[j]? := fun j hj hne =>
    (heap_setBlock_other hb' _ hne).trans (Below.heap_alloc _ _ _ hj)
  have hnew : (setBlock (wr.alloc (.map #[] 0)) (w.heap.size + 2) (.map es' c')).heap[wr.heap.size]? = some (.map #[] 0) :=
    (heap_setBlock_other hb' _ (by omega)).trans (MapKept.heap_alloc wr _).1
  obtain ⟨a1, h1, r1⟩ := h.model
  obtain ⟨a2, h2, r2⟩ := h.has
  refine ⟨⟨a1, (hoth _ (by omega) (by omega)).trans h1, r1⟩, ⟨a2, (hoth _ (by omega) (by omega)).trans h2, r2⟩, ⟨es', c', heap_setBlock_same hb' _, hes.congr (fun i hi => ?_)⟩, fun i hi hi' => ?_, ?_, ?_, ?_, ?_⟩
  · unfold outF up upN
    by_cases e : i = k <;> simp [e]
  · by_cases e : i = k
    · subst e
      refine ⟨by simp [upN]; omega, #[], 0, by simpa [upN] using hnew, holds_empty.congr (fun j hj => ?_)⟩
      simp [inF, h.bare i j hi hH]
    · have hHi : H i = true := by simpa [up, e] using hi'
      obtain ⟨hlt, es, c, h4, r4⟩ := h.inner i hi hHi
      refine ⟨by simpa [upN, e] using hlt, es, c, ?_, r4⟩
      simp only [upN, e, if_false]
      exact (hoth _ (lt_of_block h4) (by omega)).trans h4
  · intro i j hi hj hi' hj' he
    by_cases ei : i = k <;> by_cases ej : j = k
    · omega
    · have hHj : H j = true := by simpa [up, ej] using hj'
      obtain ⟨_, _, _, h4, _⟩ := h.inner j hj hHj
      have := lt_of_block h4
      simp [upN, ei, ej] at he
      omega
    · have hHi : H i = true := by simpa [up, ei] using hi'
      obtain ⟨_, _, _, h4, _⟩ := h.inner i hi hHi
      have := lt_of_block h4
      simp [upN, ei, ej] at he
      omega
    · have hHi : H i = true := by simpa [up, ei] using hi'
      have hHj : H j = true := by simpa [up, ej] using hj'
      simp [upN, ei, ej] at he
      exact h.apart i j hi hj hHi hHj he
  · intro i j hi hi'
    by_cases e : i = k
    · simp [up, e] at hi'
    · exact h.bare i j hi (by simpa [up, e] using hi')
  · exact below_setBlock (h.below.alloc (by omega) _) (by omega) _
  · rw [setBlock_size]; simp; omega

/-- s[v] = true, s the map under k -/
theorem Inv.setIn (h : Inv w Ma Ha H M bk wr) {k v : Nat} (hk : k < 8) (hH : H k = true) {es es' : Array MapEntry} {c c' : Nat} (hb : wr.heap[bk k]? = some (.map es c))
    (hes : Holds es' (fun j => if j = v then some (.bool true) else inF M k j)) :
    Inv w Ma Ha H (up2 M k v) bk (setBlock wr (bk k) (.map es' c')) := by
  have hsz := h.size
  have hbk := (h.inner k hk hH).1
  have hoth : ∀ j, j ≠ bk k → (setBlock wr (bk k) (.map es' c')).heap[j]? = wr.heap[j]? := fun j hne => heap_setBlock_other hb _ hne
  obtain ⟨a1, h1, r1⟩ := h.model
  obtain ⟨a2, h2, r2⟩ := h.has
  obtain ⟨eo, co, h3, r3⟩ := h.outer
  refine ⟨⟨a1, (hoth _ (by omega)).trans h1, r1⟩, ⟨a2, (hoth _ (by omega)).trans h2, r2⟩, ⟨eo, co, (hoth _ (by omega)).trans h3, r3⟩, fun i hi hHi => ?_, h.apart, ?_, ?_, ?_⟩
  · by_cases e : i = k
    · subst e
      refine ⟨hbk, es', c', heap_setBlock_same hb _, hes.congr (fun j hj => ?_)⟩
      unfold inF up2
      by_cases ej : j = v <;> simp [ej]
    · obtain ⟨hlt, es1, c1, h4, r4⟩ := h.inner i hi hHi
      refine ⟨hlt, es1, c1, (hoth _ (fun he => e (h.apart i k hi hk hHi hH he))).trans h4, r4.congr (fun j hj => ?_)⟩
      simp [inF, up2, e]
  · intro i j hi hHi
    have e : i ≠ k := fun e => by rw [e, hH] at hHi; cases hHi
    simp [up2, e, h.bare i j hi hHi]
  · exact below_setBlock h.below (by omega) _
  · rw [setBlock_size]; exact hsz

/-- has[k] = true -/
theorem Inv.setHas (h : Inv w Ma Ha H M bk wr) {k : Nat} (hk : k < 8) : Inv w Ma (up Ha k) H M bk (wr.setCell ⟨w.heap.size + 1, k, none⟩ (.bool true)) := by
  have hsz := h.size
  have hoth : ∀ j, j ≠ w.heap.size + 1 → (wr.setCell ⟨w.heap.size + 1, k, none⟩ (.bool true)).heap[j]? = wr.heap[j]? := fun j hne => Below.heap_setCell _ _ _ _ hne
  obtain ⟨a1, h1, r1⟩ := h.model
  obtain ⟨a2, h2, s2, r2⟩ := h.has
  obtain ⟨eo, co, h3, r3⟩ := h.outer
  refine ⟨⟨a1, (hoth _ (by omega)).trans h1, r1⟩, ⟨_, heap_setCell_same wr _ k a2 24 _ h2, by simpa using s2, fun i hi => ?_⟩, ⟨eo, co, (hoth _ (by omega)).trans h3, r3⟩, fun i hi hHi => ?_, h.apart, h.bare, ?_, ?_⟩
  · rw [Array.getElem?_setIfInBounds]
    by_cases e : k = i
    · subst e; simp [s2, hk, up]
    · have e' : ¬ i = k := fun h => e h.symm
      rw [if_neg e, r2 i hi]; simp [up, e']
  · obtain ⟨hlt, es1, c1, h4, r4⟩ := h.inner i hi hHi
    exact ⟨hlt, es1, c1, (hoth _ (by omega)).trans h4, r4⟩
  · exact h.below.setCell (p := ⟨w.heap.size + 1, k, none⟩) (by simp) _
  · simpa using hsz

/-- model[k][v] = true -/
theorem Inv.setModel (h : Inv w Ma Ha H M bk wr) {k v : Nat} (hk : k < 8) (hv : v < 8) : Inv w (up2 Ma k v) Ha H M bk (wr.setCell ⟨w.heap.size, k * 8 + v, none⟩ (.bool true)) := by
  have hsz := h.size
  have hoth : ∀ j, j ≠ w.heap.size → (wr.setCell ⟨w.heap.size, k * 8 + v, none⟩ (.bool true)).heap[j]? = wr.heap[j]? := fun j hne => Below.heap_setCell _ _ _ _ hne
  obtain ⟨a1, h1, s1, r1⟩ := h.model
  obtain ⟨a2, h2, r2⟩ := h.has
  obtain ⟨eo, co, h3, r3⟩ := h.outer
  refine ⟨⟨_, heap_setCell_same wr _ _ a1 25 _ h1, by simpa using s1, fun i j hi hj => ?_⟩, ⟨a2, (hoth _ (by omega)).trans h2, r2⟩, ⟨eo, co, (hoth _ (by omega)).trans h3, r3⟩, fun i hi hHi => ?_, h.apart, h.bare, ?_, ?_⟩
  · rw [Array.getElem?_setIfInBounds]
    by_cases e : k * 8 + v = i * 8 + j
    · obtain rfl : k = i := by omega
      obtain rfl : v = j := by omega
      have : k * 8 + v < a1.size := by omega
      simp [this, up2]
    · rw [if_neg e, r1 i j hi hj]
      have : ¬ (i = k ∧ j = v) := fun h => e (by rw [h.1, h.2])
      simp [up2, this]
  · obtain ⟨hlt, es1, c1, h4, r4⟩ := h.inner i hi hHi
    exact ⟨hlt, es1, c1, (hoth _ (by omega)).trans h4, r4⟩
  · exact h.below.setCell (p := ⟨w.heap.size, k * 8 + v, none⟩) (by simp) _
  · simpa using hsz

/-- The cells that a walk reads and writes. -/
theorem Inv.hasAt (h : Inv w Ma Ha H M bk wr) {i : Nat} (hi : i < 8) : wr.cell? ⟨w.heap.size + 1, i, none⟩ = some (.bool (Ha i)) ∧ wr.frozen? ⟨w.heap.size + 1, i, none⟩ = false := by
  obtain ⟨a2, h2, _, r2⟩ := h.has
  exact ⟨by rw [cell_of_row wr _ _ _ _ _ h2]; exact r2 i hi, frozen_of_row wr _ _ _ _ h2⟩
theorem Inv.modelAt (h : Inv w Ma Ha H M bk wr) {i j : Nat} (hi : i < 8) (hj : j < 8) : wr.cell? ⟨w.heap.size, i * 8 + j, none⟩ = some (.bool (Ma i j)) ∧ wr.frozen? ⟨w.heap.size, i * 8 + j, none⟩ = false := by
  obtain ⟨a1, h1, _, r1⟩ := h.model
  exact ⟨by rw [cell_of_row wr _ _ _ _ _ h1]; exact r1 i j hi hj, frozen_of_row wr _ _ _ _ h1⟩
end

/-- At the beginning. -/
theorem inv_zero (w : World) (a1 a2 : Array Value) (s1 : a1.size = 64) (s2 : a2.size = 8) (r1 : ∀ i, i < 64 → a1[i]? = some (.bool false)) (r2 : ∀ i, i < 8 → a2[i]? = some (.bool false)) :
    Inv w (fun _ _ => false) (fun _ => false) (fun _ => false) (fun _ _ => false) (fun _ => 0) (((w.alloc (.cells a1 25)).alloc (.cells a2 24)).alloc (.map #[] 0)) := by
  have e0 : (w.alloc (.cells a1 25)).heap.size = w.heap.size + 1 := by simp
  have e1 : ((w.alloc (.cells a1 25)).alloc (.cells a2 24)).heap.size = w.heap.size + 2 := by simp
  refine ⟨⟨a1, ?_, s1, fun i j hi hj => r1 _ (by omega)⟩, ⟨a2, ?_, s2, fun i hi => r2 i hi⟩, ⟨#[], 0, ?_, holds_empty.congr (fun i hi => by simp [outF])⟩, fun i hi h => by simp at h, fun i j hi hj h => by simp at h, fun i j hi h => rfl, ?_, ?_⟩
  · rw [Below.heap_alloc _ _ _ (by omega), Below.heap_alloc _ _ _ (by omega)]
    exact (MapKept.heap_alloc w _).1
  · rw [Below.heap_alloc _ _ _ (by omega), ← e0]
    exact (MapKept.heap_alloc _ _).1
  · rw [← e1]
    exact (MapKept.heap_alloc _ _).1
  · exact (((Below.refl _ _).alloc (Nat.le_refl _) _).alloc (by omega) _).alloc (by omega) _
  · simp
end Go.Proofs.Ybulkcnmi
