/-
  slices.Delete at i, i+1: the row that is owned loses element i. The laws on append over one's own row and on clear; then the two instances.
-/
import Derived.Test.YbulkcnluBase
import Derived.Deep.RegionLaw
namespace Go.Proofs.Ybulkcnlu
open Go.MuLone Go.RowKit

/-- The cells behind 'append(s[:i], s[i+1:]...)', s of N+1 elements. -/
def delCur (size i N : Nat) (cur : Array Value) : Array Value :=
  (cur.toList.take (i * size) ++ ((cur.toList.drop ((i + 1) * size)).take ((N - i) * size)) ++ cur.toList.drop (N * size)).toArray
/-- And behind 'clear(s[N:N+1])'. -/
def clrCur (size N : Nat) (z : List Value) (cur : Array Value) : Array Value :=
  (cur.toList.take (N * size) ++ z ++ cur.toList.drop (N * size + size)).toArray

theorem delCur_size {size i N cap : Nat} {cur : Array Value} (hcs : cur.size = cap * size) (hN : N + 1 ≤ cap) (hi : i ≤ N) : (delCur size i N cur).size = cap * size := by
  have h1 : (i + 1) * size ≤ (N + 1) * size := Nat.mul_le_mul_right _ (by omega)
  have h2 : (N + 1) * size ≤ cap * size := Nat.mul_le_mul_right _ hN
  have h3 : (N - i) * size + (i + 1) * size = (N + 1) * size := by rw [← Nat.add_mul]; congr 1; omega
  have h4 : (N + 1) * size = N * size + size := Nat.succ_mul N size
  have h5 : (i + 1) * size = i * size + size := Nat.succ_mul i size
  simp only [delCur, List.size_toArray, List.length_append, List.length_take, List.length_drop, Array.length_toList, hcs]
  omega
theorem clrCur_size {size N cap : Nat} {cur : Array Value} {z : List Value} (hz : z.length = size) (hcs : cur.size = cap * size) (hN : N + 1 ≤ cap) : (clrCur size N z cur).size = cap * size := by
  have h2 : (N + 1) * size ≤ cap * size := Nat.mul_le_mul_right _ hN
  have h4 : (N + 1) * size = N * size + size := Nat.succ_mul N size
  simp only [clrCur, List.size_toArray, List.length_append, List.length_take, List.length_drop, Array.length_toList, hcs, hz]
  omega
theorem del_take {size i N cap : Nat} {cur : Array Value} {z : List Value} (hcs : cur.size = cap * size) (hN : N + 1 ≤ cap) (hi : i ≤ N) :
    (clrCur size N z (delCur size i N cur)).toList.take (N * size) = (cur.toList.take ((N + 1) * size)).take (i * size) ++ (cur.toList.take ((N + 1) * size)).drop ((i + 1) * size) := by
  have h1 : (i + 1) * size ≤ (N + 1) * size := Nat.mul_le_mul_right _ (by omega)
  have h2 : (N + 1) * size ≤ cap * size := Nat.mul_le_mul_right _ hN
  have h3 : (N - i) * size + (i + 1) * size = (N + 1) * size := by rw [← Nat.add_mul]; congr 1; omega
  have h4 : (N + 1) * size = N * size + size := Nat.succ_mul N size
  have h5 : (i + 1) * size = i * size + size := Nat.succ_mul i size
  have hl : cur.toList.length = cap * size := by simpa using hcs
  simp only [clrCur, delCur]
  rw [List.append_assoc, List.take_append_of_le_length (by simp only [List.length_append, List.length_take, List.length_drop, hl]; omega), List.take_take, Nat.min_self]
  rw [List.take_append_of_le_length (by simp only [List.length_append, List.length_take, List.length_drop, hl]; omega)]
  rw [List.take_of_length_le (by simp only [List.length_append, List.length_take, List.length_drop, hl]; omega)]
  rw [List.take_take, Nat.min_eq_left (by omega), List.drop_take]
  congr 2
  omega

theorem step_del {P : Program} {ops : Array Oper} {o : Oper} {a : Act} {w : World} {K : Act → World → Prop} {Q : Exit → Act → World → Prop} {E : Prop}
    (hg : o.guard = none) (s x : Operand) (t : TypeId) (hop : o.op = Op.call { callee := Callee.builtin Builtin.append, args := #[s, x], argTypes := #[t, t] })
    (e : TypeId) (i0 : TypeInfo) (size : Nat) (h1 : P.underlying t = some (.slice e)) (h2 : P.info? e = some i0) (h4 : i0.size = size)
    (g i N cap : Nat) (cur : Array Value) (hcur : w.heap[g]? = some (.cells cur e (0, 0))) (hcs : cur.size = cap * size) (hN : N + 1 ≤ cap) (hi : i ≤ N) (hone : ∀ u ∈ cur.toList.take ((N + 1) * size), u.oneCell' = true)
    (hs : a.eval s = .slice (some ⟨g, 0, none⟩) i cap)
    (ad : Addr) (c : Nat) (hx : a.eval x = .slice (some ad) (N - i) c) (had : i < N → ad = ⟨g, (i + 1) * size, none⟩)
    (hK : K (a.put o.dst (.slice (some ⟨g, 0, none⟩) N cap)) (w.setRow g (delCur size i N cur))) :
    if Region.wanted o (yielded ops a.tmps) = true then Oper.wp P o a w K Q else E := by
  have hw : Region.wanted o (yielded ops a.tmps) = true := by simp [Region.wanted, hg]
  rw [if_pos hw]
  subst h4
  have e1 : (i + 1) * i0.size ≤ (N + 1) * i0.size := Nat.mul_le_mul_right _ (by omega)
  have e2 : (N + 1) * i0.size ≤ cap * i0.size := Nat.mul_le_mul_right _ hN
  have e3 : (N - i) * i0.size + (i + 1) * i0.size = (N + 1) * i0.size := by rw [← Nat.add_mul]; congr 1; omega
  have e4 : (N + 1) * i0.size = N * i0.size + i0.size := Nat.succ_mul N i0.size
  have e5 : (i + 1) * i0.size = i * i0.size + i0.size := Nat.succ_mul i i0.size
  have hl : cur.toList.length = cap * i0.size := by simpa using hcs
  have hnl : ((cur.toList.drop ((i + 1) * i0.size)).take ((N - i) * i0.size)).length = (N - i) * i0.size := by rw [List.length_take, List.length_drop]; omega
  have hrun := run_append_room (P := P) w t o.type e i0 h1 h2 g i cap cur hcur ad (N - i) c ((cur.toList.drop ((i + 1) * i0.size)).take ((N - i) * i0.size)) hnl
    (by
      intro j u hj
      have hjl : j < (N - i) * i0.size := by
        have := (List.getElem?_eq_some_iff.1 hj).1
        omega
      have hiN : i < N := by
        rcases Nat.lt_or_ge i N with h | h
        · exact h
        · rw [show N - i = 0 by omega] at hjl; omega
      rw [had hiN]
      have hadd : (⟨g, (i + 1) * i0.size, none⟩ : Addr).add j = ⟨g, (i + 1) * i0.size + j, none⟩ := by unfold Addr.add; split <;> simp_all
      rw [hadd, cell_of_row w g _ cur e (0, 0) hcur]
      rw [List.getElem?_take, if_pos hjl, List.getElem?_drop] at hj
      simpa using hj)
    (by
      intro u hu
      refine hone u ?_
      rw [← e3, Nat.add_comm, List.take_add]
      exact List.mem_append_right _ hu)
    (by omega) (by rw [hnl]; omega)
  rw [hnl] at hrun
  have hres : i + (N - i) = N := by omega
  have hcells : i * i0.size + (N - i) * i0.size = N * i0.size := by rw [← Nat.add_mul, hres]
  rw [hres, hcells] at hrun
  change _ = Result.ok _ (w.setRow g (delCur i0.size i N cur)) at hrun
  unfold Oper.wp
  simp [execOp, hop, resolve, invoke, builtin, hs, hx, hrun, Result.andThen]
  exact hK

theorem run_clear {P : Program} (w : World) (t ty : TypeId) (e : TypeId) (i0 : TypeInfo) (z : Value) (size : Nat) (ht : P.underlying t = some (.slice e)) (hi : P.info? e = some i0) (hz : i0.zero = some z) (hzs : z.cells.size = size) (hz1 : ∀ u ∈ z.cells.toList, u.oneCell' = true)
    (g N cap c : Nat) (cur : Array Value) (hcur : w.heap[g]? = some (.cells cur e (0, 0))) (hcs : cur.size = cap * size) (hN : N + 1 ≤ cap) :
    (Builtin.clear_ #[t] ty #[.slice (some ⟨g, N * size, none⟩) 1 c]).run P w = .ok (.tuple #[]) (w.setRow g (clrCur size N z.cells.toList cur)) := by
  have h2 : (N + 1) * size ≤ cap * size := Nat.mul_le_mul_right _ hN
  have h4 : (N + 1) * size = N * size + size := Nat.succ_mul N size
  have hzc : (Builtin.zeroCells z.cells 1).toList = z.cells.toList := by
    apply List.ext_getElem?
    intro j
    by_cases hj : j < z.cells.size
    · simp [Builtin.zeroCells, hj, Nat.mod_eq_of_lt hj]
    · simp [Builtin.zeroCells, hj]
  have hst := run_storeCells_at P g (N * size) e z.cells.toList 0 cur w hcur (by simp [hzs]; omega) hz1
  simp only [Nat.add_zero] at hst
  have hlen : z.cells.toList.length = size := by simpa using hzs
  rw [hlen] at hst
  change _ = Result.ok _ (w.setRow g (clrCur size N z.cells.toList cur)) at hst
  simp [Builtin.clear_, run_underlying ht, zeroValue, typeInfo, hi, hz, hzc, hst]

/-- What is owned behind both. -/
theorem own_deleted {w w' : World} {base e size g N cap i : Nat} {cur : Array Value} {xs z : List Value} (hz : z.length = size) (hN : N + 1 ≤ cap) (hcm : cap ≤ maxLen) (hcs : cur.size = cap * size) (hi : i ≤ N) (hxs : cur.toList.take ((N + 1) * size) = xs) (hb : base ≤ g)
    (hcur : w.heap[g]? = some (.cells cur e (0, 0))) (hw : w' = (w.drew.setRow g (delCur size i N cur)).setRow g (clrCur size N z (delCur size i N cur))) :
    w'.ownsRow base e size (.slice (some ⟨g, 0, none⟩) N cap) N (xs.take (i * size) ++ xs.drop ((i + 1) * size)) ∧ Only w w' (fun j => j = g) := by
  subst hw
  have hc1 : (w.drew.setRow g (delCur size i N cur)).heap[g]? = some (.cells (delCur size i N cur) e (0, 0)) := setRow_heap w.drew g cur _ e _ hcur
  have ht := del_take (z := z) hcs hN hi
  rw [hxs] at ht
  refine ⟨⟨?_, .inr ⟨g, cap, _, rfl, hb, setRow_heap _ g _ _ e _ hc1, by omega, hcm, clrCur_size hz (delCur_size hcs hN hi) hN, ht⟩⟩, ?_⟩
  · rw [← ht, List.length_take, Array.length_toList, clrCur_size hz (delCur_size hcs hN hi) hN]
    exact Nat.min_eq_left (Nat.mul_le_mul_right _ (by omega))
  · exact ⟨rfl, rfl, rfl, by simp, fun k _ hs => (setRow_other _ g k _ (fun e => hs e)).trans (setRow_other w.drew g k _ (fun e => hs e))⟩
end Go.Proofs.Ybulkcnlu
