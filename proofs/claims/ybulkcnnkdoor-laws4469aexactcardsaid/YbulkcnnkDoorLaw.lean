/-
  LawS4469AExact: ITS WALK.
-/
import Derived.Test.YbulkcnnkDoorStr
import Derived.Lib.AppendStr
namespace Go.Proofs.YbulkcnnkDoor
open Go.RowKit Go.Lib

def numsV (zs : List Nat) : List Value := zs.map fun (z : Nat) => Value.int .u64 z
def bytesV (l : List UInt8) : List Value := l.map fun b => Value.int .u8 (b.toNat : Int)

theorem info28 : (Ybad.prog.info? 28).map (fun i => (i.zero, i.size, i.bytes)) = some (some (.int .u64 0), 1, 8) := by kernel_rfl
theorem info5 : (Ybad.prog.info? 5).map (fun i => (i.zero, i.size, i.bytes)) = some (some (.int .u8 0), 1, 1) := by kernel_rfl

set_option maxHeartbeats 400000 in
theorem law_big (a0 : Option Addr) (len cap : Nat) (w : World) (h : 1024 < len) :
    Calls Ybad.prog 3 #[.slice a0 len cap] w fun e w' => e = .returned (.bool true) ∧ Below w.heap.size w w' := by
  have h1 : (1024 : Int) < (len : Int) := by omega
  go_enter Ybad.func3, Ybad.ntmps3
  go_wp2_with fail
  go_ret
  exact ⟨rfl, Below.refl _ _⟩

/-- Behind copy: the numbers lie in the first new block, the slice's own cell in the second. -/
structure Copied (w : World) (zs : List Nat) (W : World) : Prop where
  row : W.heap[w.heap.size]? = some (.cells (numsV zs).toArray 28 (0, 0))
  cell : W.heap[w.heap.size + 1]? = some (.cells #[.slice (some ⟨w.heap.size, 0, none⟩) zs.length zs.length] 22 (0, 0))
  below : Below w.heap.size w W
  size : W.heap.size = w.heap.size + 2

theorem copied (w : World) (a0 : Option Addr) (cap : Nat) (zs : List Nat) (hN : Nums w a0 zs) (hga : ∀ b off, a0 = some ⟨b, off, none⟩ → 0 < zs.length → b < w.heap.size) (cur : Array Value) (hcur : cur.size = zs.length) (ty : TypeId) :
    ∃ W, (Builtin.copy_ #[22, 22] ty #[.slice (some ⟨w.heap.size, 0, none⟩) zs.length zs.length, .slice a0 zs.length cap]).run Ybad.prog ((w.alloc (.cells cur 28)).alloc (.cells #[.slice (some ⟨w.heap.size, 0, none⟩) zs.length zs.length] 22)) = .ok (.int .i64 zs.length) W ∧ Copied w zs W := by
  have e0 : (w.alloc (.cells cur 28)).heap.size = w.heap.size + 1 := by simp
  have hrow : ((w.alloc (.cells cur 28)).alloc (.cells #[.slice (some ⟨w.heap.size, 0, none⟩) zs.length zs.length] 22)).heap[w.heap.size]? = some (.cells cur 28 (0, 0)) := by
    rw [Below.heap_alloc _ _ _ (by omega)]; exact heap_alloc_new w _
  have hcell : ((w.alloc (.cells cur 28)).alloc (.cells #[.slice (some ⟨w.heap.size, 0, none⟩) zs.length zs.length] 22)).heap[w.heap.size + 1]? = some (.cells #[.slice (some ⟨w.heap.size, 0, none⟩) zs.length zs.length] 22 (0, 0)) := by
    rw [← e0]; exact heap_alloc_new _ _
  have hbel : Below w.heap.size w ((w.alloc (.cells cur 28)).alloc (.cells #[.slice (some ⟨w.heap.size, 0, none⟩) zs.length zs.length] 22)) := ((Below.refl _ _).alloc (Nat.le_refl _) _).alloc (by omega) _
  rcases Nat.eq_zero_or_pos zs.length with h0 | hpos
  · obtain rfl : zs = [] := List.eq_nil_of_length_eq_zero h0
    refine ⟨_, run_copy_none (P := Ybad.prog) _ 22 22 ty 28 _ _ 0 0 0 cap Ybad.underlying22 (by kernel_rfl) rfl, ?_, hcell, hbel, by simp⟩
    rw [hrow]
    have : cur = #[] := Array.eq_empty_of_size_eq_zero hcur
    rw [this]; rfl
  · obtain ⟨b, off, rfl, _⟩ := hN 0 hpos
    have hlen : (numsV zs).length = zs.length := by simp [numsV]
    have hrun := run_copy_row (P := Ybad.prog) ((w.alloc (.cells cur 28)).alloc (.cells #[.slice (some ⟨w.heap.size, 0, none⟩) zs.length zs.length] 22)) 22 22 ty 28 w.heap.size 0 zs.length zs.length ⟨b, off, none⟩ zs.length cap cur 28 (numsV zs)
      Ybad.underlying22 (by kernel_rfl) hrow (by rw [hlen]; exact (Nat.min_self _).symm)
      (fun j v hj => by
        have hjl : j < zs.length := by have := (List.getElem?_eq_some_iff.1 hj).1; omega
        obtain ⟨b', off', e, hc⟩ := hN j hjl
        simp at e
        obtain ⟨rfl, rfl⟩ := e
        rw [Lib.add_plain, hbel.cell (hga b off rfl hpos), hc]
        simpa [numsV, hjl] using hj)
      (by rw [hlen]; omega)
      (fun v hv => by
        simp [numsV] at hv
        obtain ⟨z, _, rfl⟩ := hv
        rfl)
    have hfull : ((cur.toList.take 0 ++ numsV zs ++ cur.toList.drop (0 + (numsV zs).length)).toArray) = (numsV zs).toArray := by
      have : cur.toList.drop (0 + (numsV zs).length) = [] := by apply List.drop_eq_nil_of_le; simp [hlen, hcur]
      rw [this]; simp
    rw [hfull, hlen] at hrun
    refine ⟨_, hrun, setRow_heap _ _ cur _ 28 _ hrow, (setRow_other _ _ _ _ (by omega)).trans hcell, hbel.trans ⟨rfl, rfl, rfl, by simp, fun k hk => setRow_other _ _ _ _ (by omega)⟩, by simp⟩

theorem joinTail_append (sep : List UInt8) (r s : List (List UInt8)) : joinTail sep (r ++ s) = joinTail sep r ++ joinTail sep s := by simp [joinTail]
theorem joined_first (zs : List Nat) (h : 0 < zs.length) : joined (zs.take 1) = decDigits zs[0] := by
  cases zs with
  | nil => simp at h
  | cons z zs => simp [joined, join_one]
theorem joined_next (zs : List Nat) (t : Nat) (ht : t + 1 < zs.length) : joined (zs.take (t + 2)) = joined (zs.take (t + 1)) ++ [46] ++ decDigits zs[t + 1] := by
  rw [List.take_succ_eq_append_getElem ht]
  cases zs with
  | nil => simp at ht
  | cons z zs =>
    simp only [joined, List.take_succ_cons, List.cons_append, List.map_cons, List.map_append, List.map_nil, join_cons, joinTail_append]
    simp [joinTail]

/-- What a round of the law's loop finds. -/
def RelL (W : World) (zs : List Nat) (t m : Nat) (v : Value) (wr : World) : Prop :=
  m = (joined (zs.take t)).length ∧ wr.ownsRow W.heap.size 5 1 v m (bytesV (joined (zs.take t))) ∧ Below W.heap.size W wr

theorem rell_zero (W w5 : World) (zs : List Nat) (h : Below W.heap.size W w5) : RelL W zs 0 0 (.slice none 0 0) w5 := by
  refine ⟨by simp [joined, join_nil], ?_, h⟩
  have := World.ownsRow_nil w5 W.heap.size 5 1
  simpa [joined, join_nil, bytesV] using this

theorem joined_take_len (zs : List Nat) (h : ∀ z ∈ zs, z < 18446744073709551616) (t : Nat) : (joined (zs.take t)).length ≤ 20 + zs.length * 21 := by
  have := joined_len (zs.take t) (fun z hz => h z (List.mem_of_mem_take hz))
  have h2 : (zs.take t).length ≤ zs.length := by rw [List.length_take]; omega
  omega

theorem own_shape {w : World} {base : Nat} {e : TypeId} {size : Nat} {v : Value} {n : Nat} {xs : List Value} (h : w.ownsRow base e size v n xs) : ∃ ga cp, v = .slice ga n cp := by
  rcases h.2 with ⟨rfl, rfl⟩ | ⟨g, cap, cur, rfl, _⟩
  · exact ⟨_, _, rfl⟩
  · exact ⟨_, _, rfl⟩

theorem strCells_eq (l : List UInt8) : Lib.strCells ⟨l.toArray⟩ = bytesV l := by simp [Lib.strCells, bytesV]

/-- string(want) -/
theorem rell_string {W wr : World} {zs : List Nat} {t m : Nat} {v : Value} (h : RelL W zs t m v wr) : (convert 27 9 v).run Ybad.prog wr = .ok (.string ⟨(joined (zs.take t)).toArray⟩) wr := by
  obtain ⟨hm, hown, _⟩ := h
  rcases hown.2 with ⟨rfl, h0⟩ | ⟨g, cp, cur, rfl, _⟩
  · have hnil : joined (zs.take t) = [] := List.eq_nil_of_length_eq_zero (by omega)
    rw [hnil, run_convert_bytes_string (P := Ybad.prog) wr 27 9 5 none 0 0 Ybad.underlying27 Ybad.underlying5 Ybad.underlying9]
    simp [Conv.bytesToString]
    rfl
  · subst hm
    refine run_convert_bytes_back (P := Ybad.prog) wr 27 9 5 ⟨g, 0, none⟩ cp (joined (zs.take t)) Ybad.underlying27 Ybad.underlying5 Ybad.underlying9 (fun j hj => ?_)
    rw [Lib.add_plain, Nat.zero_add, hown.cellAt j (by omega)]
    simp [bytesV, hj]

/-- The world in which the loop goes. -/
structure Ready (w : World) (a0 : Option Addr) (zs : List Nat) (V : World) : Prop where
  cell : V.cell? ⟨w.heap.size + 1, 0, none⟩ = some (.slice (some ⟨w.heap.size, 0, none⟩) zs.length zs.length)
  numc : Nums V (some ⟨w.heap.size, 0, none⟩) zs
  numa : Nums V a0 zs
  below : Below w.heap.size w V
  size : w.heap.size + 2 < V.heap.size

theorem ready {w W : World} {a0 : Option Addr} {zs : List Nat} (h : Copied w zs W) (hN : Nums w a0 zs) (hga : ∀ b off, a0 = some ⟨b, off, none⟩ → 0 < zs.length → b < w.heap.size) (o : Obj) : Ready w a0 zs (W.alloc o) := by
  have hsz := h.size
  have hbel : Below w.heap.size w (W.alloc o) := h.below.alloc (by omega) o
  refine ⟨?_, ?_, hN.below hbel hga, hbel, by simp; omega⟩
  · rw [cell_of_row _ _ _ _ _ _ ((Below.heap_alloc _ _ _ (by omega)).trans h.cell)]; rfl
  · intro t ht
    refine ⟨_, _, rfl, ?_⟩
    rw [cell_of_row _ _ _ _ _ _ ((Below.heap_alloc _ _ _ (by omega)).trans h.row)]
    simp [numsV, ht]

theorem Ready.later {w V wr : World} {a0 : Option Addr} {zs : List Nat} (h : Ready w a0 zs V) (hga : ∀ b off, a0 = some ⟨b, off, none⟩ → 0 < zs.length → b < w.heap.size) (hb : Below V.heap.size V wr) : Ready w a0 zs wr := by
  have hsz := h.size
  refine ⟨(hb.cell (p := ⟨w.heap.size + 1, 0, none⟩) (by simp; omega)).trans h.cell, h.numc.below hb (fun b off e _ => by simp at e; omega), h.numa.below hb (fun b off e hp => by have := hga b off e hp; omega), h.below.trans (hb.mono (by omega)), by have := hb.size; omega⟩

theorem rell_first {V wr w1 w2 : World} {zs : List Nat} {m : Nat} {v v' : Value} (h0 : 0 < zs.length) (h : RelL V zs 0 m v wr) (hb1 : Below wr.heap.size wr w1)
    (hown : w2.ownsRow V.heap.size 5 1 v' (m + (decDigits zs[0]).length) (bytesV (joined (zs.take 0)) ++ bytesV (decDigits zs[0]))) (hg : w1.grownBy w2 v.ownBlock) : RelL V zs 1 (m + (decDigits zs[0]).length) v' w2 := by
  obtain ⟨hm, ho, hbel⟩ := h
  have e : joined (zs.take 1) = joined (zs.take 0) ++ decDigits zs[0] := by rw [joined_first zs h0]; simp [joined, join_nil]
  refine ⟨by rw [e, List.length_append, hm], ?_, ?_⟩
  · rw [e]; simpa [bytesV] using hown
  · exact (hbel.trans (hb1.mono hbel.size)).grown hg (by have := hb1.size; have := hbel.size; omega) (fun k hk => (ho.lt k hk).1)

theorem rell_next {V wr w1 w2 w3 : World} {zs : List Nat} {t m : Nat} {v v' v'' : Value} {o : Obj} (ht : t + 1 < zs.length) (h : RelL V zs (t + 1) m v wr)
    (hown1 : w1.ownsRow V.heap.size 5 1 v' (m + 1) (bytesV (joined (zs.take (t + 1))) ++ [.int .u8 46])) (hg1 : (wr.alloc o).grownBy w1 v.ownBlock) (hb2 : Below w1.heap.size w1 w2)
    (hown : w3.ownsRow V.heap.size 5 1 v'' (m + 1 + (decDigits zs[t + 1]).length) (bytesV (joined (zs.take (t + 1))) ++ [.int .u8 46] ++ bytesV (decDigits zs[t + 1]))) (hg : w2.grownBy w3 v'.ownBlock) :
    RelL V zs (t + 2) (m + 1 + (decDigits zs[t + 1]).length) v'' w3 := by
  obtain ⟨hm, ho, hbel⟩ := h
  have e := joined_next zs t ht
  have hbel1 : Below V.heap.size V w1 := (hbel.alloc hbel.size o).grown hg1 (by have := hbel.size; simp; omega) (fun k hk => (ho.lt k hk).1)
  refine ⟨by rw [e]; simp [hm]; omega, ?_, ?_⟩
  · rw [e]; simpa [bytesV] using hown
  · exact (hbel1.trans (hb2.mono hbel1.size)).grown hg (by have := hb2.size; have := hbel1.size; omega) (fun k hk => (hown1.lt k hk).1)

theorem own_below {w w' : World} {base : Nat} {e : TypeId} {size : Nat} {v : Value} {n : Nat} {xs : List Value} (h : w.ownsRow base e size v n xs) (hb : Below w.heap.size w w') : w'.ownsRow base e size v n xs :=
  h.kept (row := none) ⟨hb.os, hb.tape, hb.output, hb.size, fun k hk _ => hb.block k hk⟩ (by cases hv : v.ownBlock <;> simp)

theorem cells_new {W : World} {cs : List Value} {e : TypeId} {N : Nat} (hN : W.heap.size = N) (j : Nat) (u : Value) (h : cs[j]? = some u) :
    (W.alloc (.cells cs.toArray e)).cell? ((⟨N, 0, none⟩ : Addr).add j) = some u := by
  subst hN
  rw [Lib.add_plain, cell_of_row _ _ _ _ _ _ (heap_alloc_new W _), Nat.zero_add]
  simpa using h

set_option maxRecDepth 100000 in
set_option maxHeartbeats 2000000 in
theorem law_small (a0 : Option Addr) (cap : Nat) (zs : List Nat) (w : World) (hn : zs.length ≤ 1024) (hz : ∀ z ∈ zs, z < 18446744073709551616) (hT : PowTab w) (hN : Nums w a0 zs) (hga : ∀ b off, a0 = some ⟨b, off, none⟩ → 0 < zs.length → b < w.heap.size) :
    Calls Ybad.prog 3 #[.slice a0 zs.length cap] w fun e w' => e = .returned (.bool true) ∧ Below w.heap.size w w' := by
  obtain ⟨i0, hi, hz0, hz1, hz2⟩ := info_parts info28
  have hmk := run_make (P := Ybad.prog) w 22 28 i0 (.int .u64 0) Ybad.underlying22 hi hz0 .i64 .i64 zs.length zs.length (by omega) (by omega) (by rw [hz2]; omega) (by omega)
  rw [hz1, Nat.mul_one, Int.toNat_natCast] at hmk
  obtain ⟨W, hcp, hC⟩ := copied w a0 cap zs hN hga (madeCells #[.int .u64 0] zs.length) (by simp [madeCells]) 3
  have h1 : ¬ (1024 : Int) < (zs.length : Int) := by omega
  have HC := Hid.mk hC
  have HN := Hid.mk hN
  have HT := Hid.mk hT
  have HZ := Hid.mk hz
  have HGA := Hid.mk hga
  clear hC hN hT hz hga hi hz0 hz1 hz2
  go_enter Ybad.func3, Ybad.ntmps3
  go_wp2_with fail
  have hRd := ready HC.out HN.out HGA.out (.cells #[.pointer (some ⟨w.heap.size + 1, 0, none⟩)] 25)
  generalize hV : W.alloc (.cells #[.pointer (some ⟨w.heap.size + 1, 0, none⟩)] 25) = V at *
  have hV25 : V.cell? ⟨W.heap.size, 0, none⟩ = some (.pointer (some ⟨w.heap.size + 1, 0, none⟩)) := by rw [← hV]; simp
  clear hV hmk hcp HC
  have hsz := hRd.size
  have hT' : PowTab V := HT.out.below hRd.below HT.out.pos
  refine (string_any (w.heap.size + 1) (some ⟨w.heap.size, 0, none⟩) zs.length zs V hn HZ.out hT' hRd.cell (by omega) hRd.numc (fun b off e _ => by simp at e; omega)).mono ?_
  rintro e w5 ⟨rfl, hb5⟩
  have HR5 := Hid.mk (rell_zero V w5 zs hb5)
  have c5 := (hRd.later HGA.out hb5).cell
  have HRD := Hid.mk hRd
  clear hRd hb5 hT' hV25 HN HT
  obtain ⟨i5, hi, hz0, hz1, hz2⟩ := info_parts info5
  go_wp2_with fail
  go_loopw [23, 6] (fun i vw wr => ∃ (t m : Nat) (la : Option Addr) (lc : Nat), t ≤ zs.length ∧ i = .int .i64 t ∧ vw = .slice la m lc ∧ RelL V zs t m (.slice la m lc) wr) (fun i _ _ => zs.length - (RowKit.intOf i).toNat)
  case atStart => exact ⟨0, 0, none, 0, Nat.zero_le _, rfl, rfl, HR5.out⟩
  case round =>
    obtain ⟨t, m, la, lc, ht, rfl, rfl, hR⟩ := hrel
    clear HR5 c5
    have hml : m ≤ 30000 := by have := joined_take_len zs HZ.out t; have := hR.1; omega
    by_cases hlt : t < zs.length
    · obtain ⟨b, off, e, hc⟩ := (HRD.out.later HGA.out hR.2.2).numc t hlt
      simp at e
      obtain ⟨rfl, rfl⟩ := e
      rw [Nat.zero_add] at hc
      have hz64 : zs[t] < 18446744073709551616 := HZ.out _ (List.getElem_mem hlt)
      have hdl := dec_length_le zs[t] hz64
      have h1' : (t : Int) < (zs.length : Int) := by omega
      have HR := Hid.mk hR
      clear hR
      cases t with
      | zero =>
        go_wp2_with fail
        refine (dec_any zs[0] hz64 wr).mono ?_
        rintro e w1 ⟨rfl, hb1⟩
        have hown1 := own_below HR.out.2.1 hb1
        have hs1 : V.heap.size ≤ w1.heap.size := Nat.le_trans HR.out.2.2.size hb1.size
        have HB1 := Hid.mk hb1
        clear hb1
        go_wp2_with (at_builtin; refine wpList_append_own_string _ rfl _ _ 27 9 rfl V.heap.size 5 i5 Ybad.underlying27 Ybad.underlying9 hi hz0 hz1 hz2 _ _ _ rfl hown1 ⟨(decDigits zs[0]).toArray⟩ rfl ?c1 ?c2 ?c3 ?_)
        case c1 => show m + (decDigits zs[0]).length ≤ maxLen; unfold maxLen; omega
        case c2 => show m + (decDigits zs[0]).length ≤ _; omega
        case c3 => exact hs1
        intro v' w2 hown' hgrow _
        rw [strCells_eq] at hown'
        have hR2 := rell_first hlt HR.out HB1.out hown' hgrow
        obtain ⟨la', lc', hv⟩ := own_shape hown'
        rw [hv]
        rw [hv] at hR2
        have HR2 := Hid.mk hR2
        clear hR2 hv hown' hgrow hown1 HB1
        go_wp2
        go_roundw
        case rel => exact ⟨1, _, la', lc', by omega, by go_num, rfl, HR2.out⟩
        case measure => simp [RowKit.intOf]; omega
      | succ s =>
        have hown0 := HR.out.2.1
        have hs0 : V.heap.size ≤ wr.heap.size := HR.out.2.2.size
        have hpos : (0 : Int) < ((s + 1 : Nat) : Int) := by omega
        go_wp2_with (at_builtin; refine wpList_append_own _ rfl _ _ 27 rfl V.heap.size 5 i5 (.int .u8 0) 1 1 Ybad.underlying27 hi hz0 hz1 hz2 rfl (by decide) _ _ _ rfl (hown0.alloc _) ⟨wr.heap.size, 0, none⟩ 1 1 [.int .u8 46] rfl rfl ?d1 ?d2 ?d3 ?d4 ?d5 ?_)
        case d1 => exact cells_new rfl
        case d2 => intro u hu; simp at hu; subst hu; rfl
        case d3 => unfold maxLen; omega
        case d4 => omega
        case d5 => simp; omega
        intro v' w1 hown1 hgrow1 _
        have HG1 := Hid.mk hgrow1
        have hs1 : V.heap.size ≤ w1.heap.size := by have := hgrow1.size; simp at this; omega
        clear hgrow1 hown0
        go_wp2_with fail
        refine (dec_any zs[s + 1] hz64 w1).mono ?_
        rintro e w2 ⟨rfl, hb2⟩
        have hown2 := own_below hown1 hb2
        have hs2 : V.heap.size ≤ w2.heap.size := Nat.le_trans hs1 hb2.size
        have HB2 := Hid.mk hb2
        have HO1 := Hid.mk hown1
        clear hb2 hown1
        go_wp2_with (at_builtin; refine wpList_append_own_string _ rfl _ _ 27 9 rfl V.heap.size 5 i5 Ybad.underlying27 Ybad.underlying9 hi hz0 hz1 hz2 _ _ _ rfl hown2 ⟨(decDigits zs[s + 1]).toArray⟩ rfl ?e1 ?e2 ?e3 ?_)
        case e1 => show m + 1 + (decDigits zs[s + 1]).length ≤ maxLen; unfold maxLen; omega
        case e2 => show m + 1 + (decDigits zs[s + 1]).length ≤ _; omega
        case e3 => exact hs2
        intro v'' w3 hown' hgrow _
        rw [strCells_eq] at hown'
        have hR3 := rell_next hlt HR.out HO1.out HG1.out HB2.out (by rw [List.append_assoc]; exact hown') hgrow
        obtain ⟨la', lc', hv⟩ := own_shape hown'
        rw [hv]
        rw [hv] at hR3
        have HR3 := Hid.mk hR3
        clear hR3 hv hown' hgrow hown2 HB2 HO1 HG1
        go_wp2
        go_roundw
        case rel => exact ⟨s + 2, _, la', lc', by omega, by go_num, rfl, HR3.out⟩
        case measure => simp [RowKit.intOf]; omega
    · obtain rfl : t = zs.length := by omega
      have hcv := rell_string hR
      rw [List.take_length] at hcv
      have hRl := HRD.out.later HGA.out hR.2.2
      have c6 := hRl.cell
      have HRL := Hid.mk hRl
      clear hRl hR
      go_wp2_with fail
      refine (eqs_any (some ⟨w.heap.size, 0, none⟩) a0 zs.length cap zs wr (by omega) HRL.out.numc HRL.out.numa).mono ?_
      rintro e w2 ⟨rfl, q, rfl⟩
      go_wp2_with fail
      go_ret
      exact ⟨rfl, below_drewN HRL.out.below q⟩
end Go.Proofs.YbulkcnnkDoor
