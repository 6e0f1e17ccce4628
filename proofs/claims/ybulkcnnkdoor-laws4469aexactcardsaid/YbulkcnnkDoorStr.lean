/-
  zzs4469aeq, zzeqs4469a, (oid).String: THEIR CONTRACTS.
-/
import Derived.Test.YbulkcnnkDoorDec
import Derived.Deep.QuietTactic
import Derived.BigQuiet
namespace Go.Proofs.YbulkcnnkDoor
open Go.RowKit Go.Lib

/-- A slice's cells hold the numbers zs. -/
def Nums (w : World) (ga : Option Addr) (zs : List Nat) : Prop :=
  ∀ t (ht : t < zs.length), ∃ b off, ga = some ⟨b, off, none⟩ ∧ w.cell? ⟨b, off + t, none⟩ = some (.int .u64 (zs[t] : Nat))

theorem Nums.below {w w' : World} {ga : Option Addr} {zs : List Nat} {B : Nat} (h : Nums w ga zs) (hb : Below B w w') (hB : ∀ b off, ga = some ⟨b, off, none⟩ → 0 < zs.length → b < B) : Nums w' ga zs := by
  intro t ht
  obtain ⟨b, off, rfl, hc⟩ := h t ht
  exact ⟨b, off, rfl, (hb.cell (hB b off rfl (by omega))).trans hc⟩

set_option maxRecDepth 100000 in
set_option maxHeartbeats 1000000 in
theorem eq_any (ga gb : Option Addr) (ca cb : Nat) (zs : List Nat) (w : World) (hn : zs.length ≤ 2000) (ha : Nums w ga zs) (hb : Nums w gb zs) :
    Calls Ybad.prog 9 #[.slice ga zs.length ca, .slice gb zs.length cb] w fun e w' => e = .returned (.bool true) ∧ ∃ q, w' = w.drewN q := by
  have HA := Hid.mk ha
  have HB := Hid.mk hb
  clear ha hb
  go_enter Ybad.func9, Ybad.ntmps9
  go_wp2_with fail
  go_loopw [13] (fun i wr => ∃ t : Nat, t ≤ zs.length ∧ i = .int .i64 t ∧ ∃ q, wr = World.drewN w q) (fun i _ => zs.length - (RowKit.intOf i).toNat)
  case atStart => exact ⟨0, Nat.zero_le _, rfl, 0, rfl⟩
  case round =>
    obtain ⟨t, ht, rfl, q, rfl⟩ := hrel
    by_cases hlt : t < zs.length
    · obtain ⟨b, off, rfl, e1⟩ := HA.out t hlt
      obtain ⟨b', off', rfl, e2⟩ := HB.out t hlt
      have h1 : (t : Int) < (zs.length : Int) := by omega
      generalize zs[t] = z at *
      go_wp2_with fail
      go_quiet (fail)
      go_wp2
      go_roundw
      case rel => exact ⟨t + 1, by omega, by go_num, _, rfl⟩
      case measure => simp [RowKit.intOf]; omega
    · go_wp2_with fail
      go_ret
      exact ⟨rfl, _, rfl⟩

set_option maxHeartbeats 400000 in
theorem eqs_any (ga gb : Option Addr) (ca cb : Nat) (zs : List Nat) (w : World) (hn : zs.length ≤ 2000) (ha : Nums w ga zs) (hb : Nums w gb zs) :
    Calls Ybad.prog 6 #[.slice ga zs.length ca, .slice gb zs.length cb] w fun e w' => e = .returned (.bool true) ∧ ∃ q, w' = w.drewN q := by
  have HA := Hid.mk ha
  have HB := Hid.mk hb
  clear ha hb
  go_enter Ybad.func6, Ybad.ntmps6
  go_wp2_with (go_at_call 9; refine (eq_any ga gb ca cb zs _ hn HA.out HB.out).mono ?_; rintro e w' ⟨rfl, q, rfl⟩)
  go_ret
  exact ⟨rfl, _, rfl⟩

/-- The texts of the numbers. -/
def texts (zs : List Nat) : List ByteArray := zs.map fun z => ⟨(decDigits z).toArray⟩
def joined (zs : List Nat) : List UInt8 := Lib.join (zs.map decDigits) [46]

theorem info9 : (Ybad.prog.info? 9).map (fun i => (i.zero, i.size, i.bytes)) = some (some (.string ⟨#[]⟩), 1, 16) := by kernel_rfl

/-- What a round of String's loop finds: the first t texts are laid. -/
def RelS (w : World) (zs : List Nat) (t : Nat) (wr : World) : Prop :=
  ∃ arr, wr.heap[w.heap.size + 1]? = some (.cells arr 9 (0, 0)) ∧ arr.size = zs.length ∧ (∀ j, j < t → arr[j]? = (texts zs)[j]?.map Value.string) ∧ Below w.heap.size w wr ∧ w.heap.size + 1 < wr.heap.size

theorem rels_zero (w : World) (zs : List Nat) (o : Obj) (arr : Array Value) (ha : arr.size = zs.length) : RelS w zs 0 ((w.alloc o).alloc (.cells arr 9)) := by
  refine ⟨arr, ?_, ha, fun j hj => absurd hj (Nat.not_lt_zero _), ((Below.refl _ _).alloc (Nat.le_refl _) _).alloc (by simp) _, by simp⟩
  have := heap_alloc_new (w.alloc o) (.cells arr 9)
  simpa using this

theorem rels_step {w wr w1 : World} {zs : List Nat} {t : Nat} (ht : t < zs.length) (h : RelS w zs t wr) (hb : Below wr.heap.size wr w1) :
    RelS w zs (t + 1) (w1.setCell ⟨w.heap.size + 1, t, none⟩ (.string ⟨(decDigits zs[t]).toArray⟩)) ∧ (∃ x, w1.cell? ⟨w.heap.size + 1, t, none⟩ = some x) ∧ w1.frozen? ⟨w.heap.size + 1, t, none⟩ = false := by
  obtain ⟨arr, h1, h2, h3, h4, h5⟩ := h
  have hb1 : w1.heap[w.heap.size + 1]? = some (.cells arr 9 (0, 0)) := (hb.block _ h5).trans h1
  refine ⟨⟨_, heap_setCell_same w1 _ t arr 9 _ hb1, by simpa using h2, fun j hj => ?_, (h4.trans (hb.mono h4.size)).setCell (p := ⟨w.heap.size + 1, t, none⟩) (by simp) _, by have := hb.size; simp; omega⟩, ⟨arr[t]'(by omega), ?_⟩, frozen_of_row w1 _ _ _ _ hb1⟩
  · rw [Array.getElem?_setIfInBounds]
    by_cases e : t = j
    · subst e
      have : t < arr.size := by omega
      simp [this, texts, ht]
    · rw [if_neg e]; exact h3 j (by omega)
  · rw [cell_of_row w1 _ _ _ _ _ hb1, Array.getElem?_eq_getElem]

theorem rels_cells {w wr : World} {zs : List Nat} (h : RelS w zs zs.length wr) : ∀ (j : Nat) x, (texts zs)[j]? = some x → wr.cell? ⟨w.heap.size + 1, 0 + j, none⟩ = some (.string x) := by
  obtain ⟨arr, h1, h2, h3, h4, h5⟩ := h
  intro j x hx
  have hj : j < zs.length := by
    have := (List.getElem?_eq_some_iff.1 hx).1
    simpa [texts] using this
  rw [cell_of_row wr _ _ _ _ _ h1, Nat.zero_add, h3 j hj, hx]
  rfl

theorem dec_length_le (z : Nat) (h : z < 18446744073709551616) : (decDigits z).length ≤ 20 := by
  rw [decDigits_length]
  rcases Nat.eq_zero_or_pos z with rfl | hz
  · rw [nDigits]; simp
  · have := numDigits_eq z hz h; split at this <;> omega

theorem joinTail_len (sep : List UInt8) : ∀ (r : List (List UInt8)), (∀ x ∈ r, x.length ≤ 20) → (joinTail sep r).length ≤ r.length * (sep.length + 20)
  | [], _ => by simp [joinTail]
  | x :: r, h => by
    have ih := joinTail_len sep r (fun y hy => h y (by simp [hy]))
    have hx := h x (by simp)
    simp only [joinTail, List.map_cons, List.flatten_cons, List.length_append, List.length_cons] at ih ⊢
    rw [Nat.add_mul, Nat.one_mul]
    omega

theorem joined_len (zs : List Nat) (h : ∀ z ∈ zs, z < 18446744073709551616) : (joined zs).length ≤ 20 + zs.length * 21 := by
  unfold joined
  cases zs with
  | nil => simp [join_nil]
  | cons z zs =>
    rw [List.map_cons, join_cons, List.length_append]
    have h1 := dec_length_le z (h z (by simp))
    have h2 := joinTail_len [46] (zs.map decDigits) (fun x hx => by
      obtain ⟨y, hy, rfl⟩ := List.mem_map.1 hx
      exact dec_length_le y (h y (by simp [hy])))
    simp at h2
    simp
    omega

set_option maxRecDepth 100000 in
set_option maxHeartbeats 1000000 in
theorem string_any (p : Nat) (ga : Option Addr) (cp : Nat) (zs : List Nat) (w : World) (hn : zs.length ≤ 1024) (hz : ∀ z ∈ zs, z < 18446744073709551616) (hT : PowTab w) (hp : w.cell? ⟨p, 0, none⟩ = some (.slice ga zs.length cp)) (hpw : p < w.heap.size)
    (hN : Nums w ga zs) (hga : ∀ b off, ga = some ⟨b, off, none⟩ → 0 < zs.length → b < w.heap.size) :
    Calls Ybad.prog 4 #[.agg #[.pointer (some ⟨p, 0, none⟩)]] w fun e w' => e = .returned (.string ⟨(joined zs).toArray⟩) ∧ Below w.heap.size w w' := by
  obtain ⟨i0, hi, hz0, hz1, hz2⟩ := info_parts info9
  have hmk := run_make (P := Ybad.prog) (w.alloc (.cells #[.pointer (some ⟨p, 0, none⟩)] 25)) 32 9 i0 (.string ⟨#[]⟩) Ybad.underlying32 hi hz0 .i64 .i64 zs.length zs.length (by omega) (by omega) (by rw [hz2]; omega) (by omega)
  rw [hz1, Nat.mul_one, Int.toNat_natCast] at hmk
  have hsz0 : (w.alloc (.cells #[.pointer (some ⟨p, 0, none⟩)] 25)).heap.size = w.heap.size + 1 := by simp
  rw [hsz0] at hmk
  have HN := Hid.mk hN
  have HT := Hid.mk hT
  have HZ := Hid.mk hz
  have HGA := Hid.mk hga
  have HR0 := Hid.mk (fun arr ha => rels_zero w zs (.cells #[.pointer (some ⟨p, 0, none⟩)] 25) arr ha)
  clear hN hT hz hga hi hz0 hz1 hz2 hsz0
  go_enter Ybad.func4, Ybad.ntmps4
  go_wp2_with fail
  go_loopw [17] (fun i wr => ∃ t : Nat, t ≤ zs.length ∧ i = .int .i64 t ∧ RelS w zs t wr) (fun i _ => zs.length - (RowKit.intOf i).toNat)
  case atStart => exact ⟨0, Nat.zero_le _, rfl, HR0.out _ (by simp [madeCells])⟩
  case round =>
    obtain ⟨t, ht, rfl, hR⟩ := hrel
    clear HR0 hmk hp
    by_cases hlt : t < zs.length
    · obtain ⟨b, off, rfl, hc⟩ := HN.out t hlt
      have hbel : Below w.heap.size w wr := by obtain ⟨_, _, _, _, h, _⟩ := hR; exact h
      have hcw : wr.cell? ⟨b, off + t, none⟩ = some (.int .u64 (zs[t] : Nat)) := (hbel.cell (HGA.out b off rfl (by omega))).trans hc
      have hT' : Hid (PowTab wr) := HT.out.below hbel HT.out.pos
      have hz64 : zs[t] < 18446744073709551616 := HZ.out _ (List.getElem_mem hlt)
      have hstep := Hid.mk (fun w1 hb => rels_step hlt hR (w1 := w1) hb)
      clear hR hbel hc
      generalize hzt : zs[t] = z at *
      clear hzt
      have h1 : (t : Int) < (zs.length : Int) := by omega
      go_wp2_with (go_at_call 7; refine (fmt_any z hz64 _ hT'.out).mono ?_; rintro e w1 ⟨rfl, hb1⟩; obtain ⟨hS, ⟨x, hx⟩, hf⟩ := hstep.out w1 hb1; have HS := Hid.mk hS; clear hS)
      go_roundw
      case rel => exact ⟨t + 1, by omega, by go_num, HS.out⟩
      case measure => simp [RowKit.intOf]; omega
    · obtain rfl : t = zs.length := by omega
      have hbel : Below w.heap.size w wr := by obtain ⟨_, _, _, _, h, _⟩ := hR; exact h
      have hsz : w.heap.size + 1 < wr.heap.size := by obtain ⟨_, _, _, _, _, h⟩ := hR; exact h
      have hjl := joined_len zs HZ.out
      have etx : (texts zs).map (·.data.toList) = zs.map decDigits := by simp [texts]
      have hJ := Ybad.strings_Join (w.heap.size + 1) 0 zs.length (texts zs) ⟨#[46]⟩ wr (rels_cells hR) hsz (by simp [texts]; omega) (by simp [texts]) (by rw [etx]; show (joined zs).length ≤ _; omega)
      rw [etx, show (texts zs).length = zs.length by simp [texts]] at hJ
      have HJ := Hid.mk hJ
      have HB := Hid.mk hbel
      clear hJ hbel hR etx
      go_wp2_with fail
      refine HJ.out.mono ?_
      rintro e w2 ⟨rfl, hb2⟩
      have HB2 := Hid.mk (HB.out.trans (hb2.mono HB.out.size))
      clear hb2
      go_wp2_with fail
      go_ret
      exact ⟨rfl, HB2.out⟩
end Go.Proofs.YbulkcnnkDoor
