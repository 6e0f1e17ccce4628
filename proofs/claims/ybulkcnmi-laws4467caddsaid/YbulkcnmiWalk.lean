/-
  LawS4467CAdd: ITS WALK.
-/
import Derived.Test.YbulkcnmiAdd
import Derived.Deep.QuietTactic
import Derived.BigQuiet
import Derived.WalkSpells
namespace Go.Proofs.Ybulkcnmi
open Go.RowKit

theorem Hid.mk {p : Prop} (h : p) : Hid p := h

theorem inv_start (w : World) (a1 a2 : Array Value) (h1 : a1 = Array.replicate 64 (.bool false)) (h2 : a2 = Array.replicate 8 (.bool false)) :
    Inv w (fun _ _ => false) (fun _ => false) (fun _ => false) (fun _ _ => false) (fun _ => 0) (((w.alloc (.cells a1 25)).alloc (.cells a2 24)).alloc (.map #[] 0)) :=
  inv_zero w a1 a2 (by simp [h1]) (by simp [h2]) (fun i hi => by simp [h1, hi]) (fun i hi => by simp [h2, hi])

/-- How many of the first n numbers f takes. -/
def cnt (f : Nat → Bool) (n : Nat) : Nat := ((List.range n).filter f).length
theorem cnt_zero (f : Nat → Bool) : cnt f 0 = 0 := rfl
theorem cnt_yes {f : Nat → Bool} {n : Nat} (h : f n = true) : cnt f (n + 1) = cnt f n + 1 := by simp [cnt, List.range_succ, List.filter_append, h]
theorem cnt_no {f : Nat → Bool} {n : Nat} (h : f n = false) : cnt f (n + 1) = cnt f n := by simp [cnt, List.range_succ, List.filter_append, h]
theorem cnt_le (f : Nat → Bool) (n : Nat) : cnt f n ≤ n := by
  have := List.length_filter_le f (List.range n)
  simpa [cnt] using this
theorem cnt_none {f : Nat → Bool} (h : ∀ j, f j = false) (n : Nat) : cnt f n = 0 := by simp [cnt, h]
theorem cnt_congr {f g : Nat → Bool} (h : ∀ i, f i = g i) (n : Nat) : cnt f n = cnt g n := by
  have : f = g := funext h
  rw [this]
section
variable {w wr : World} {Ma M : Nat → Nat → Bool} {Ha H : Nat → Bool} {bk : Nat → Nat}
theorem Inv.lenOut (h : Inv w Ma Ha H M bk wr) (ty : TypeId) : (Builtin.len_ #[26] ty #[.map (some (w.heap.size + 2))]).run Yba.prog wr = .ok (.int .i64 (cnt H 8)) wr := by
  obtain ⟨es, c, hb, hes⟩ := h.outer
  rw [run_len (P := Yba.prog) Yba.underlying26 hb ty, hes.size]
  have := cnt_congr (f := fun i => (outF H bk i).isSome) (g := H) (fun i => by cases hh : H i <;> simp [outF, hh]) 8
  unfold cnt at this ⊢
  rw [this]
theorem Inv.lenIn (h : Inv w Ma Ha H M bk wr) {k : Nat} (hk : k < 8) (hH : H k = true) (ty : TypeId) : (Builtin.len_ #[27] ty #[.map (some (bk k))]).run Yba.prog wr = .ok (.int .i64 (cnt (M k) 8)) wr := by
  obtain ⟨_, es, c, hb, hes⟩ := h.inner k hk hH
  rw [run_len (P := Yba.prog) Yba.underlying27 hb ty, hes.size]
  have := cnt_congr (f := fun i => (inF M k i).isSome) (g := M k) (fun i => by cases hh : M k i <;> simp [inF, hh]) 8
  unfold cnt at this ⊢
  rw [this]
end

/-- A byte's remainder by eight. -/
theorem mod8 (x : Int) : ∃ k : Nat, k < 8 ∧ x % 8 = (k : Int) := ⟨(x % 8).toNat, by omega, by omega⟩

set_option maxRecDepth 100000 in
set_option maxHeartbeats 400000 in
theorem big1 (pa ea : Option Addr) (plen pcap elen ecap : Nat) (key val : Int) (w : World) (h : 4096 < plen) :
    Calls Yba.prog 3 #[.slice pa plen pcap, .slice ea elen ecap, .int .u8 key, .int .u8 val] w fun e w' => e = .returned (.bool true) ∧ Below w.heap.size w w' := by
  have h1 : (4096 : Int) < (plen : Int) := by omega
  go_enter Yba.func3, Yba.ntmps3
  go_wp2_with fail
  go_ret
  exact ⟨rfl, Below.refl _ _⟩
set_option maxRecDepth 100000 in
set_option maxHeartbeats 400000 in
theorem big2 (pa ea : Option Addr) (plen pcap elen ecap : Nat) (key val : Int) (w : World) (h : ¬ 4096 < plen) (h' : 4096 < elen) :
    Calls Yba.prog 3 #[.slice pa plen pcap, .slice ea elen ecap, .int .u8 key, .int .u8 val] w fun e w' => e = .returned (.bool true) ∧ Below w.heap.size w w' := by
  have h1 : ¬ (4096 : Int) < (plen : Int) := by omega
  have h2 : (4096 : Int) < (elen : Int) := by omega
  go_enter Yba.func3, Yba.ntmps3
  go_wp2_with fail
  go_ret
  exact ⟨rfl, Below.refl _ _⟩

set_option maxRecDepth 100000 in
set_option maxHeartbeats 2000000 in
theorem small (pa ea : Option Addr) (plen pcap elen ecap : Nat) (key val : Int) (w : World) (hpl : plen ≤ 4096) (hel : elen ≤ 4096) (hkey : 0 ≤ key ∧ key ≤ 255) (hval : 0 ≤ val ∧ val ≤ 255)
    (hp : ∀ t, t < plen → ∃ b off x y, pa = some ⟨b, off, none⟩ ∧ b < w.heap.size ∧ w.cell? ⟨b, off + t * 2, none⟩ = some (.int .u8 x) ∧ w.cell? ⟨b, off + t * 2 + 1, none⟩ = some (.int .u8 y) ∧ 0 ≤ x ∧ x ≤ 255 ∧ 0 ≤ y ∧ y ≤ 255)
    (he : ∀ t, t < elen → ∃ b off x, ea = some ⟨b, off, none⟩ ∧ b < w.heap.size ∧ w.cell? ⟨b, off + t, none⟩ = some (.int .u8 x) ∧ 0 ≤ x ∧ x ≤ 255) :
    Calls Yba.prog 3 #[.slice pa plen pcap, .slice ea elen ecap, .int .u8 key, .int .u8 val] w fun e w' => e = .returned (.bool true) ∧ Below w.heap.size w w' := by
  have h1 : ¬ (4096 : Int) < (plen : Int) := by omega
  have h2 : ¬ (4096 : Int) < (elen : Int) := by omega
  have HP := Hid.mk hp
  have HE := Hid.mk he
  clear hp he
  have hmm := @run_makeMap Yba.prog
  go_enter Yba.func3, Yba.ntmps3
  go_wp2_with fail
  rw [show w.heap.size + 1 + 1 = w.heap.size + 2 from rfl]
  go_loopw [45] (fun i wr => ∃ (t : Nat) (H : Nat → Bool) (M : Nat → Nat → Bool) (bk : Nat → Nat), t ≤ elen ∧ i = .int .i64 t ∧ Inv w M H H M bk wr) (fun i _ => elen - (intOf i).toNat)
  case atStart => exact ⟨0, _, _, _, Nat.zero_le _, rfl, inv_start w _ _ rfl rfl⟩
  case round =>
    obtain ⟨t, H, M, bk, ht, rfl, hI⟩ := hrel
    by_cases hlt : t < elen
    · obtain ⟨b, off, x, rfl, hbw, hcx, hx0, hx1⟩ := HE.out t hlt
      have hcw : wr.cell? ⟨b, off + t, none⟩ = some (.int .u8 x) := (hI.below.cell hbw).trans hcx
      clear hcx
      obtain ⟨k, hk, hmod⟩ := mod8 x
      obtain ⟨d1, d2⟩ := hI.hasAt hk
      cases hH : H k with
      | true =>
        have hl := hI.lookHit hk hH true
        simp only [if_true] at hl
        have hf := hI.setHas hk
        rw [up_self hH] at hf
        have HF := Hid.mk hf
        clear hf hI hH
        go_wp2_with fail
        go_roundw
        case rel => exact ⟨t + 1, H, M, bk, by omega, by go_num, HF.out⟩
        case measure => simp [intOf]; omega
      | false =>
        have hl := hI.lookMiss hk hH true
        simp only [if_true] at hl
        obtain ⟨W, hu, hI'⟩ := hI.updOut hk hH
        obtain ⟨f1, f2⟩ := hI'.hasAt hk
        have HF := Hid.mk (hI'.setHas hk)
        clear hI hI' hH
        go_wp2_with fail
        go_roundw
        case rel => exact ⟨t + 1, up H k, M, _, by omega, by go_num, HF.out⟩
        case measure => simp [intOf]; omega
    · clear HE
      go_wp2_with fail
      go_loopw [67] (fun i wr => ∃ (t : Nat) (H : Nat → Bool) (M : Nat → Nat → Bool) (bk : Nat → Nat), t ≤ plen ∧ i = .int .i64 t ∧ Inv w M H H M bk wr) (fun i _ => plen - (intOf i).toNat)
      case atStart => exact ⟨0, H, M, bk, Nat.zero_le _, rfl, hI⟩
      case round =>
        clear hI H M bk
        obtain ⟨s, H, M, bk, hs, rfl, hI⟩ := hrel
        by_cases hlt2 : s < plen
        · obtain ⟨b, off, x, y, rfl, hbw, hcx, hcy, hx0, hx1, hy0, hy1⟩ := HP.out s hlt2
          have hcw : wr.cell? ⟨b, off + s * 2, none⟩ = some (.int .u8 x) := (hI.below.cell hbw).trans hcx
          have hcw' : wr.cell? ⟨b, off + s * 2 + 1, none⟩ = some (.int .u8 y) := (hI.below.cell hbw).trans hcy
          clear hcx hcy
          obtain ⟨k, hk, hmod⟩ := mod8 x
          obtain ⟨v, hv, hmodv⟩ := mod8 y
          have hI0 := hI.alloc (.cells #[.int .u8 x, .int .u8 y] 30)
          have hsz0 : (wr.alloc (.cells #[.int .u8 x, .int .u8 y] 30)).heap.size = wr.heap.size + 1 := by simp
          cases hH : H k with
          | true =>
            have hl := hI0.lookHit hk hH true
            simp only [if_true] at hl
            obtain ⟨W, hu, hI'⟩ := hI0.updIn hk hH hv
            obtain ⟨f1, f2⟩ := hI'.hasAt hk
            obtain ⟨m1, m2⟩ := hI'.modelAt hk hv
            have hf := (hI'.setHas hk).setModel hk hv
            rw [up_self hH] at hf
            have HF := Hid.mk hf
            clear hI hI' hH hI0 hf hsz0
            go_wp2_with fail
            go_roundw
            case rel => exact ⟨s + 1, H, up2 M k v, bk, by omega, by go_num, HF.out⟩
            case measure => simp [intOf]; omega
          | false =>
            have hl := hI0.lookMiss hk hH true
            simp only [if_true] at hl
            obtain ⟨W, W', hu, hu', hI'⟩ := hI0.updBoth hk hH hv
            rw [hsz0] at hu hu'
            obtain ⟨f1, f2⟩ := hI'.hasAt hk
            obtain ⟨m1, m2⟩ := hI'.modelAt hk hv
            have HF := Hid.mk ((hI'.setHas hk).setModel hk hv)
            clear hI hI' hH hI0 hsz0
            go_wp2_with fail
            go_roundw
            case rel => exact ⟨s + 1, up H k, up2 M k v, _, by omega, by go_num, HF.out⟩
            case measure => simp [intOf]; omega
        · clear HP
          obtain ⟨k, hk, hmod⟩ := mod8 key
          obtain ⟨v, hv, hmodv⟩ := mod8 val
          have hne : ∀ (wx : World) (r : Option Nat), (binOp .neq 27 (.map r) (.map none)).run Yba.prog wx = .ok (.bool (!r.isNone)) wx := fun wx r => run_neq_map_nil wx 27 5 4 r Yba.underlying27
          have hne : ∀ (wx : World) (r : Option Nat), (binOp .neq 27 (.map r) (.map none)).run Yba.prog wx = .ok (.bool (!r.isNone)) wx := fun wx r => run_neq_map_nil wx 27 5 4 r Yba.underlying27
          have hne : ∀ (wx : World) (r : Option Nat), (binOp .neq 27 (.map r) (.map none)).run Yba.prog wx = .ok (.bool (!r.isNone)) wx := fun wx r => run_neq_map_nil wx 27 5 4 r Yba.underlying27
          have hne : ∀ (wx : World) (r : Option Nat), (binOp .neq 27 (.map r) (.map none)).run Yba.prog wx = .ok (.bool (!r.isNone)) wx := fun wx r => run_neq_map_nil wx 27 5 4 r Yba.underlying27
          cases hH : H k with
          | true =>
            have hl := hI.lookHit hk hH false
            simp only [Bool.false_eq_true, if_false] at hl
            have HI := Hid.mk hI
            clear hI
            go_wp2_with fail
            refine (add_any w wr M M H H bk k v HI.out hk hv).mono ?_
            rintro e W1 ⟨rfl, bk', hI1, hbk⟩
            have hbk' := hbk hH
            obtain ⟨f1, f2⟩ := hI1.hasAt hk
            obtain ⟨m1, m2⟩ := hI1.modelAt hk hv
            have hI2 := (hI1.setHas hk).setModel hk hv
            have hold := hI2.lookIn (k := k) (v := v) hk (by simp [up]) hv
            rw [hbk', show up2 M k v k v = true by simp [up2]] at hold
            generalize hW : (W1.setCell ⟨w.heap.size + 1, k, none⟩ (.bool true)).setCell ⟨w.heap.size, k * 8 + v, none⟩ (.bool true) = W2 at *
            generalize up H k = H2 at *
            generalize up2 M k v = M2 at *
            clear hI1 hbk hbk' HI hl hH
            clear hmm
            go_wp2_with fail
            have HI2 := Hid.mk hI2
            clear hI2 hold hmod hmodv hne hW f1 f2 m1 m2
            go_loop [26, 27] (fun c i => ∃ s : Nat, s ≤ 8 ∧ i = .int .i64 s ∧ c = .int .i64 (cnt H2 s)) (fun _ i => 8 - (intOf i).toNat)
            case atStart => exact ⟨0, Nat.zero_le _, rfl, rfl⟩
            case round =>
              obtain ⟨i, hi, rfl, rfl⟩ := hrel
              have hcl := cnt_le H2 i
              by_cases hi8 : i < 8
              · have hi1 : (i : Int) < 8 := by omega
                have d1 := (HI2.out.hasAt hi8).1
                cases hh : H2 i with
                | true =>
                  have hc := Hid.mk (cnt_yes hh)
                  rw [hh] at d1
                  clear hh
                  go_wp2_with fail
                  go_round
                  case rel => exact ⟨i + 1, by omega, by go_num, by rw [hc.out]; go_num⟩
                  case measure => simp [intOf]; omega
                | false =>
                  have hc := Hid.mk (cnt_no hh)
                  rw [hh] at d1
                  clear hh
                  go_wp2_with fail
                  go_round
                  case rel => exact ⟨i + 1, by omega, by go_num, by rw [hc.out]⟩
                  case measure => simp [intOf]; omega
              · obtain rfl : i = 8 := by omega
                have hlen := fun ty => HI2.out.lenOut ty
                go_wp2_with fail
                clear hlen hcl
                go_loopw [28] (fun i wx => ∃ s : Nat, s ≤ 8 ∧ i = .int .i64 s ∧ ∃ q, wx = World.drewN W2 q) (fun i _ => 8 - (intOf i).toNat)
                case atStart => exact ⟨0, Nat.zero_le _, rfl, 0, rfl⟩
                case round =>
                  obtain ⟨i, hi, rfl, q0, rfl⟩ := hrel
                  by_cases hi8 : i < 8
                  · have hi1 : (i : Int) < 8 := by omega
                    have d1 := (HI2.out.hasAt hi8).1
                    cases hh : H2 i with
                    | true =>
                      have hl := fun q => (HI2.out.drewN q).lookHit hi8 hh true
                      simp only [if_true] at hl
                      rw [hh] at d1
                      have HH := Hid.mk hh
                      clear hh
                      go_wp2_with fail
                      go_loopw [32, 33] (fun n j wx => ∃ s : Nat, s ≤ 8 ∧ j = .int .i64 s ∧ n = .int .i64 (cnt (M2 i) s) ∧ ∃ q, wx = World.drewN W2 q) (fun _ j _ => 8 - (intOf j).toNat)
                      case atStart => exact ⟨0, Nat.zero_le _, rfl, rfl, _, rfl⟩
                      case round =>
                        obtain ⟨j, hj, rfl, rfl, q1, rfl⟩ := hrel
                        have hcl := cnt_le (M2 i) j
                        by_cases hj8 : j < 8
                        · have hj1 : (j : Int) < 8 := by omega
                          have m1 := (HI2.out.modelAt hi8 hj8).1
                          have hin := fun q => (HI2.out.drewN q).lookIn (k := i) (v := j) hi8 HH.out hj8
                          cases hm : M2 i j with
                          | true =>
                            have hc := Hid.mk (cnt_yes hm)
                            rw [hm] at m1
                            simp only [hm] at hin
                            clear hm
                            go_wp2_with fail
                            go_quiet (fail)
                            go_wp2
                            go_roundw
                            case rel => exact ⟨j + 1, by omega, by go_num, by rw [hc.out]; go_num, _, rfl⟩
                            case measure => simp [intOf]; omega
                          | false =>
                            have hc := Hid.mk (cnt_no hm)
                            rw [hm] at m1
                            simp only [hm] at hin
                            clear hm
                            go_wp2_with fail
                            go_quiet (fail)
                            go_wp2
                            go_roundw
                            case rel => exact ⟨j + 1, by omega, by go_num, by rw [hc.out], _, rfl⟩
                            case measure => simp [intOf]; omega
                        · obtain rfl : j = 8 := by omega
                          have hlen := fun ty q => (HI2.out.drewN q).lenIn hi8 HH.out ty
                          go_wp2_with fail
                          go_roundw
                          case rel => exact ⟨i + 1, by omega, by go_num, _, rfl⟩
                          case measure => simp [intOf]; omega
                    | false =>
                      have hl := fun q => (HI2.out.drewN q).lookMiss hi8 hh true
                      simp only [if_true] at hl
                      rw [hh] at d1
                      have HH := Hid.mk hh
                      clear hh
                      go_wp2_with fail
                      go_loopw [32, 33] (fun n j wx => ∃ s : Nat, s ≤ 8 ∧ j = .int .i64 s ∧ n = .int .i64 0 ∧ ∃ q, wx = World.drewN W2 q) (fun _ j _ => 8 - (intOf j).toNat)
                      case atStart => exact ⟨0, Nat.zero_le _, rfl, rfl, _, rfl⟩
                      case round =>
                        obtain ⟨j, hj, rfl, rfl, q1, rfl⟩ := hrel
                        by_cases hj8 : j < 8
                        · have hj1 : (j : Int) < 8 := by omega
                          have m1 := (HI2.out.modelAt hi8 hj8).1
                          rw [HI2.out.bare i j hi8 HH.out] at m1
                          have hin := fun q => lookNil (World.drewN W2 q) j
                          go_wp2_with fail
                          go_quiet (fail)
                          go_wp2
                          go_roundw
                          case rel => exact ⟨j + 1, by omega, by go_num, rfl, _, rfl⟩
                          case measure => simp [intOf]; omega
                        · have hlen := fun ty wx => run_len_nil (P := Yba.prog) (w := wx) Yba.underlying27 ty
                          go_wp2_with fail
                          go_roundw
                          case rel => exact ⟨i + 1, by omega, by go_num, _, rfl⟩
                          case measure => simp [intOf]; omega
                  · go_wp2_with fail
                    go_ret
                    exact ⟨rfl, (HI2.out.drewN _).below⟩
          | false =>
            have hl := hI.lookMiss hk hH false
            simp only [Bool.false_eq_true, if_false] at hl
            have HI := Hid.mk hI
            clear hI
            go_wp2_with fail
            refine (add_any w wr M M H H bk k v HI.out hk hv).mono ?_
            rintro e W1 ⟨rfl, bk', hI1, -⟩
            obtain ⟨f1, f2⟩ := hI1.hasAt hk
            obtain ⟨m1, m2⟩ := hI1.modelAt hk hv
            have hI2 := (hI1.setHas hk).setModel hk hv
            generalize hW : (W1.setCell ⟨w.heap.size + 1, k, none⟩ (.bool true)).setCell ⟨w.heap.size, k * 8 + v, none⟩ (.bool true) = W2 at *
            generalize up H k = H2 at *
            generalize up2 M k v = M2 at *
            clear hI1 HI hl hH
            clear hmm
            go_wp2_with fail
            have HI2 := Hid.mk hI2
            clear hI2 hmod hmodv hne hW f1 f2 m1 m2
            go_loop [26, 27] (fun c i => ∃ s : Nat, s ≤ 8 ∧ i = .int .i64 s ∧ c = .int .i64 (cnt H2 s)) (fun _ i => 8 - (intOf i).toNat)
            case atStart => exact ⟨0, Nat.zero_le _, rfl, rfl⟩
            case round =>
              obtain ⟨i, hi, rfl, rfl⟩ := hrel
              have hcl := cnt_le H2 i
              by_cases hi8 : i < 8
              · have hi1 : (i : Int) < 8 := by omega
                have d1 := (HI2.out.hasAt hi8).1
                cases hh : H2 i with
                | true =>
                  have hc := Hid.mk (cnt_yes hh)
                  rw [hh] at d1
                  clear hh
                  go_wp2_with fail
                  go_round
                  case rel => exact ⟨i + 1, by omega, by go_num, by rw [hc.out]; go_num⟩
                  case measure => simp [intOf]; omega
                | false =>
                  have hc := Hid.mk (cnt_no hh)
                  rw [hh] at d1
                  clear hh
                  go_wp2_with fail
                  go_round
                  case rel => exact ⟨i + 1, by omega, by go_num, by rw [hc.out]⟩
                  case measure => simp [intOf]; omega
              · obtain rfl : i = 8 := by omega
                have hlen := fun ty => HI2.out.lenOut ty
                go_wp2_with fail
                clear hlen hcl
                go_loopw [28] (fun i wx => ∃ s : Nat, s ≤ 8 ∧ i = .int .i64 s ∧ ∃ q, wx = World.drewN W2 q) (fun i _ => 8 - (intOf i).toNat)
                case atStart => exact ⟨0, Nat.zero_le _, rfl, 0, rfl⟩
                case round =>
                  obtain ⟨i, hi, rfl, q0, rfl⟩ := hrel
                  by_cases hi8 : i < 8
                  · have hi1 : (i : Int) < 8 := by omega
                    have d1 := (HI2.out.hasAt hi8).1
                    cases hh : H2 i with
                    | true =>
                      have hl := fun q => (HI2.out.drewN q).lookHit hi8 hh true
                      simp only [if_true] at hl
                      rw [hh] at d1
                      have HH := Hid.mk hh
                      clear hh
                      go_wp2_with fail
                      go_loopw [32, 33] (fun n j wx => ∃ s : Nat, s ≤ 8 ∧ j = .int .i64 s ∧ n = .int .i64 (cnt (M2 i) s) ∧ ∃ q, wx = World.drewN W2 q) (fun _ j _ => 8 - (intOf j).toNat)
                      case atStart => exact ⟨0, Nat.zero_le _, rfl, rfl, _, rfl⟩
                      case round =>
                        obtain ⟨j, hj, rfl, rfl, q1, rfl⟩ := hrel
                        have hcl := cnt_le (M2 i) j
                        by_cases hj8 : j < 8
                        · have hj1 : (j : Int) < 8 := by omega
                          have m1 := (HI2.out.modelAt hi8 hj8).1
                          have hin := fun q => (HI2.out.drewN q).lookIn (k := i) (v := j) hi8 HH.out hj8
                          cases hm : M2 i j with
                          | true =>
                            have hc := Hid.mk (cnt_yes hm)
                            rw [hm] at m1
                            simp only [hm] at hin
                            clear hm
                            go_wp2_with fail
                            go_quiet (fail)
                            go_wp2
                            go_roundw
                            case rel => exact ⟨j + 1, by omega, by go_num, by rw [hc.out]; go_num, _, rfl⟩
                            case measure => simp [intOf]; omega
                          | false =>
                            have hc := Hid.mk (cnt_no hm)
                            rw [hm] at m1
                            simp only [hm] at hin
                            clear hm
                            go_wp2_with fail
                            go_quiet (fail)
                            go_wp2
                            go_roundw
                            case rel => exact ⟨j + 1, by omega, by go_num, by rw [hc.out], _, rfl⟩
                            case measure => simp [intOf]; omega
                        · obtain rfl : j = 8 := by omega
                          have hlen := fun ty q => (HI2.out.drewN q).lenIn hi8 HH.out ty
                          go_wp2_with fail
                          go_roundw
                          case rel => exact ⟨i + 1, by omega, by go_num, _, rfl⟩
                          case measure => simp [intOf]; omega
                    | false =>
                      have hl := fun q => (HI2.out.drewN q).lookMiss hi8 hh true
                      simp only [if_true] at hl
                      rw [hh] at d1
                      have HH := Hid.mk hh
                      clear hh
                      go_wp2_with fail
                      go_loopw [32, 33] (fun n j wx => ∃ s : Nat, s ≤ 8 ∧ j = .int .i64 s ∧ n = .int .i64 0 ∧ ∃ q, wx = World.drewN W2 q) (fun _ j _ => 8 - (intOf j).toNat)
                      case atStart => exact ⟨0, Nat.zero_le _, rfl, rfl, _, rfl⟩
                      case round =>
                        obtain ⟨j, hj, rfl, rfl, q1, rfl⟩ := hrel
                        by_cases hj8 : j < 8
                        · have hj1 : (j : Int) < 8 := by omega
                          have m1 := (HI2.out.modelAt hi8 hj8).1
                          rw [HI2.out.bare i j hi8 HH.out] at m1
                          have hin := fun q => lookNil (World.drewN W2 q) j
                          go_wp2_with fail
                          go_quiet (fail)
                          go_wp2
                          go_roundw
                          case rel => exact ⟨j + 1, by omega, by go_num, rfl, _, rfl⟩
                          case measure => simp [intOf]; omega
                        · have hlen := fun ty wx => run_len_nil (P := Yba.prog) (w := wx) Yba.underlying27 ty
                          go_wp2_with fail
                          go_roundw
                          case rel => exact ⟨i + 1, by omega, by go_num, _, rfl⟩
                          case measure => simp [intOf]; omega
                  · go_wp2_with fail
                    go_ret
                    exact ⟨rfl, (HI2.out.drewN _).below⟩
end Go.Proofs.Ybulkcnmi
