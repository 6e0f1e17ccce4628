/-
  THE LIBRARY's CONTRACTS AT THIS DUMP, in plain words, as the kit's tools lay-shelf and lay-plain wrote them for this program (those that this proof uses).
-/
import Derived.Shelf.Strings.OnBuilder
import Derived.Shelf.Strconv.Itoa0
import Derived.Shelf.Strconv.Itoa1
import Derived.Shelf.LaysM
import Derived.Shelf.Strconv.Itoa2
import Derived.Test.YbulkcnnkDoorProg
namespace Go.Proofs
open Go.Shelf
def Ybad.lays156_ren : Go.Shelf.Ren := ⟨fun | 156 => 8 | 165 => 11 | 166 => 12 | 169 => 13 | 240 => 18 | 241 => 19 | 276 => 25 | 277 => 26 | n => n, fun | 31 => 32 | 9 => 9 | 3 => 3 | 4 => 4 | 0 => 0 | 20 => 20 | 72 => 38 | 76 => 42 | 70 => 36 | 37 => 27 | 75 => 41 | 127 => 50 | 164 => 59 | 5 => 5 | 80 => 26 | n => n, fun | n => n⟩
theorem Ybad.lays156 : Go.Proofs.Lays.n156 Ybad.prog Ybad.lays156_ren := {
  mixed := by kernel_rfl
  f156 := Ybad.func8.trans (congrArg some (by kernel_rfl))
  f165 := Ybad.func11.trans (congrArg some (by kernel_rfl))
  f166 := Ybad.func12.trans (congrArg some (by kernel_rfl))
  f169 := Ybad.func13.trans (congrArg some (by kernel_rfl))
  f240 := Ybad.func18.trans (congrArg some (by kernel_rfl))
  f241 := Ybad.func19.trans (congrArg some (by kernel_rfl))
  f276 := Ybad.func25.trans (congrArg some (by kernel_rfl))
  f277 := Ybad.func26.trans (congrArg some (by kernel_rfl))
  t0 := Ybad.underlying0
  a0 := Ybad.isAgg0
  z0 := Ybad.sizeOf0
  v0 := Ybad.zeroValue0
  t3 := Ybad.underlying3
  a3 := Ybad.isAgg3
  z3 := Ybad.sizeOf3
  v3 := Ybad.zeroValue3
  t4 := Ybad.underlying4
  a4 := Ybad.isAgg4
  z4 := Ybad.sizeOf4
  v4 := Ybad.zeroValue4
  t9 := Ybad.underlying9
  a9 := Ybad.isAgg9
  z9 := Ybad.sizeOf9
  v9 := Ybad.zeroValue9
  t20 := Ybad.underlying20
  a20 := Ybad.isAgg20
  z20 := Ybad.sizeOf20
  v20 := Ybad.zeroValue20
  t31 := Ybad.underlying32
  a31 := Ybad.isAgg32
  z31 := Ybad.sizeOf32
  v31 := Ybad.zeroValue32
  t37 := Ybad.underlying27
  a37 := Ybad.isAgg27
  z37 := Ybad.sizeOf27
  v37 := Ybad.zeroValue27
  t70 := Ybad.underlying36
  a70 := Ybad.isAgg36
  z70 := Ybad.sizeOf36
  v70 := Ybad.zeroValue36
  t72 := Ybad.underlying38
  a72 := Ybad.isAgg38
  z72 := Ybad.sizeOf38
  v72 := Ybad.zeroValue38
  t75 := Ybad.underlying41
  a75 := Ybad.isAgg41
  z75 := Ybad.sizeOf41
  v75 := Ybad.zeroValue41
  t76 := Ybad.underlying42
  a76 := Ybad.isAgg42
  z76 := Ybad.sizeOf42
  v76 := Ybad.zeroValue42
  t127 := Ybad.underlying50
  a127 := Ybad.isAgg50
  z127 := Ybad.sizeOf50
  v127 := Ybad.zeroValue50
  t164 := Ybad.underlying59
  a164 := Ybad.isAgg59
  z164 := Ybad.sizeOf59
  v164 := Ybad.zeroValue59 }
theorem Ybad.Builder_Extra_156 : Builder.Extra Ybad.prog Ybad.lays156_ren := {
  sizeBuilder := by kernel_rfl
  liesBuilder := by kernel_rfl
  t5 := Ybad.underlying5
  a5 := Ybad.isAgg5
  z5 := Ybad.sizeOf5
  v5 := Ybad.zeroValue5
  infoByte := by kernel_rfl
  cellsByte := by kernel_rfl
  sizeByte := by kernel_rfl
  neB5 := by decide }
open Go.RowKit in
theorem Ybad.strings_Join_none (a : Option Addr) (c : Nat) (sep : ByteArray) (w : World) :
    Calls Ybad.prog 8 #[.slice a 0 c, .string sep] w fun e w' => e = .returned (.string ⟨#[]⟩) ∧ w' = w := Any.strings_Join_none Ybad.lays156 Ybad.Builder_Extra_156 a c sep w
open Go.RowKit in
theorem Ybad.strings_Join (bk o c : Nat) (xs : List ByteArray) (sep : ByteArray) (w : World) (hcells : ∀ (j : Nat) x, xs[j]? = some x → w.cell? ⟨bk, o + j, none⟩ = some (.string x)) (hbk : bk < w.heap.size) (hN : xs.length ≤ 140737488355328) (hcap : xs.length ≤ c) (hlen : (Lib.join (xs.map (·.data.toList)) sep.data.toList).length ≤ 140737488355328) :
    Calls Ybad.prog 8 #[.slice (some ⟨bk, o, none⟩) xs.length c, .string sep] w fun e w' => e = .returned (.string ⟨(Lib.join (xs.map (·.data.toList)) sep.data.toList).toArray⟩) ∧ Below w.heap.size w w' := Any.strings_Join Ybad.lays156 Ybad.Builder_Extra_156 bk o c xs sep w hcells hbk hN hcap hlen
def Ybad.lays283_ren : Go.Shelf.Ren := ⟨fun | 283 => 14 | n => n, fun | 3 => 3 | 9 => 9 | 4 => 4 | n => n, fun | n => n⟩
theorem Ybad.lays283 : Go.Proofs.Lays.n283 Ybad.prog Ybad.lays283_ren := {
  mixed := by kernel_rfl
  f283 := Ybad.func14.trans (congrArg some (by kernel_rfl))
  t3 := Ybad.underlying3
  a3 := Ybad.isAgg3
  z3 := Ybad.sizeOf3
  v3 := Ybad.zeroValue3
  t4 := Ybad.underlying4
  a4 := Ybad.isAgg4
  z4 := Ybad.sizeOf4
  v4 := Ybad.zeroValue4
  t9 := Ybad.underlying9
  a9 := Ybad.isAgg9
  z9 := Ybad.sizeOf9
  v9 := Ybad.zeroValue9 }
open Go.Lib in
theorem Ybad.internal_strconv_small (i : Nat) (h : i < 100) (w : World) :
    Calls Ybad.prog 14 #[.int .i64 i] w fun e w' => e = .returned (.string ⟨(Lib.decDigits i).toArray⟩) ∧ w' = w := Any.internal_strconv_small Ybad.lays283 i h w
def Ybad.laysM284_ren : Go.Shelf.Ren := ⟨fun | 284 => 15 | 129 => 21 | 317 => 20 | 318 => 22 | n => n, fun | 53 => 28 | 3 => 3 | 212 => 53 | 0 => 0 | 4 => 4 | 46 => 57 | 5 => 5 | 9 => 9 | n => n, fun | 17 => 0 | n => n⟩
theorem Ybad.laysM284 : Go.Proofs.LaysM.n284 Ybad.prog Ybad.laysM284_ren := {
  mixed := by kernel_rfl
  f129 := Ybad.func21.trans (congrArg some (by kernel_rfl))
  f284 := Ybad.func15.trans (congrArg some (by kernel_rfl))
  f317 := Ybad.func20.trans (congrArg some (by kernel_rfl))
  f318 := Ybad.func22.trans (congrArg some (by kernel_rfl))
  t0 := Ybad.underlying0
  a0 := Ybad.isAgg0
  z0 := Ybad.sizeOf0
  v0 := Ybad.zeroValue0
  t3 := Ybad.underlying3
  a3 := Ybad.isAgg3
  z3 := Ybad.sizeOf3
  v3 := Ybad.zeroValue3
  t4 := Ybad.underlying4
  a4 := Ybad.isAgg4
  z4 := Ybad.sizeOf4
  v4 := Ybad.zeroValue4
  t5 := Ybad.underlying5
  a5 := Ybad.isAgg5
  z5 := Ybad.sizeOf5
  v5 := Ybad.zeroValue5
  t9 := Ybad.underlying9
  a9 := Ybad.isAgg9
  z9 := Ybad.sizeOf9
  v9 := Ybad.zeroValue9
  t46 := Ybad.underlying57
  a46 := Ybad.isAgg57
  z46 := Ybad.sizeOf57
  v46 := Ybad.zeroValue57
  t53 := Ybad.underlying28
  a53 := Ybad.isAgg28
  z53 := Ybad.sizeOf28
  v53 := Ybad.zeroValue28
  t212 := Ybad.underlying53
  a212 := Ybad.isAgg53
  z212 := Ybad.sizeOf53
  v212 := Ybad.zeroValue53
  g17 := by kernel_rfl
  i0 := by kernel_rfl
  i3 := by kernel_rfl
  i4 := by kernel_rfl
  i5 := by kernel_rfl
  i9 := by kernel_rfl
  i46 := by kernel_rfl
  i53 := by kernel_rfl
  i212 := by kernel_rfl
  m17 := by kernel_rfl }
def Ybad.lays285_ren : Go.Shelf.Ren := ⟨fun | 285 => 16 | n => n, fun | 37 => 27 | 53 => 28 | 3 => 3 | 4 => 4 | 51 => 54 | 9 => 9 | 5 => 5 | 0 => 0 | n => n, fun | n => n⟩
theorem Ybad.lays285 : Go.Proofs.Lays.n285 Ybad.prog Ybad.lays285_ren := {
  mixed := by kernel_rfl
  f285 := Ybad.func16.trans (congrArg some (by kernel_rfl))
  t0 := Ybad.underlying0
  a0 := Ybad.isAgg0
  z0 := Ybad.sizeOf0
  v0 := Ybad.zeroValue0
  t3 := Ybad.underlying3
  a3 := Ybad.isAgg3
  z3 := Ybad.sizeOf3
  v3 := Ybad.zeroValue3
  t4 := Ybad.underlying4
  a4 := Ybad.isAgg4
  z4 := Ybad.sizeOf4
  v4 := Ybad.zeroValue4
  t5 := Ybad.underlying5
  a5 := Ybad.isAgg5
  z5 := Ybad.sizeOf5
  v5 := Ybad.zeroValue5
  t9 := Ybad.underlying9
  a9 := Ybad.isAgg9
  z9 := Ybad.sizeOf9
  v9 := Ybad.zeroValue9
  t37 := Ybad.underlying27
  a37 := Ybad.isAgg27
  z37 := Ybad.sizeOf27
  v37 := Ybad.zeroValue27
  t51 := Ybad.underlying54
  a51 := Ybad.isAgg54
  z51 := Ybad.sizeOf54
  v51 := Ybad.zeroValue54
  t53 := Ybad.underlying28
  a53 := Ybad.isAgg28
  z53 := Ybad.sizeOf28
  v53 := Ybad.zeroValue28 }
open Go.RowKit Go.Sort Go.Lib in
theorem Ybad.internal_strconv_formatBase10 (blk off cap : Nat) (u : Nat) (d : Array UInt8) (w : World) (hH : Holds (fun (b : UInt8) => Value.int .u8 (b.toNat : Int)) w blk off d) (hu : u < 10 ^ d.size) (hu64 : u < 18446744073709551616) (hsz : d.size < 4611686018427387904) :
    Calls Ybad.prog 16 #[.slice (some ⟨blk, off, none⟩) d.size cap, .int .u64 u] w fun e w' =>
      e = .returned (.tuple #[]) ∧ ∃ (n v' : Nat) (dk : Array UInt8), w' = (putRow (fun (b : UInt8) => Value.int .u8 (b.toNat : Int)) w blk off dk).drewN n ∧ FmtInv d.size u 0 v' dk := Any.internal_strconv_formatBase10 Ybad.lays285 blk off cap u d w hH hu hu64 hsz

end Go.Proofs
