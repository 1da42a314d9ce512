/-
  THE SHELF's CONTRACTS THAT THIS SEAT's ROAD USES, laid at this dump in plain words by the kit's tools (lay-shelf.mjs, lay-plain.mjs); others left out.
-/
import Derived.Shelf.Strings.Trim
import Derived.Shelf.Strings.SlTrimAscii
import Derived.Shelf.Strconv.Itoa0
import Derived.Shelf.LaysM
import Derived.Shelf.LaysC
import Derived.Shelf.Strconv.Lower
import Derived.Shelf.Bits.Mul64
import Derived.Test.Qxb6606304aDoorProg
namespace Go.Proofs
open Go.Shelf
def Tryd.lays161_ren : Go.Shelf.Ren := ⟨fun | 161 => 15 | 231 => 20 | 227 => 21 | 233 => 22 | 235 => 23 | 228 => 30 | 197 => 31 | 151 => 32 | 260 => 40 | 152 => 41 | 137 => 56 | 119 => 57 | 224 => 58 | 225 => 59 | 217 => 75 | 266 => 84 | n => n, fun | 9 => 9 | 4 => 4 | 3 => 3 | 5 => 5 | 117 => 49 | 116 => 48 | 0 => 0 | 124 => 52 | 105 => 62 | 21 => 21 | 119 => 106 | 46 => 56 | 139 => 109 | 138 => 108 | n => n, fun | 3 => 5 | 4 => 6 | n => n⟩
theorem Tryd.lays161 : Go.Proofs.Lays.n161 Tryd.prog Tryd.lays161_ren := {
  mixed := by kernel_rfl
  f119 := Tryd.func57.trans (congrArg some (by kernel_rfl))
  f137 := Tryd.func56.trans (congrArg some (by kernel_rfl))
  f151 := Tryd.func32.trans (congrArg some (by kernel_rfl))
  f152 := Tryd.func41.trans (congrArg some (by kernel_rfl))
  f161 := Tryd.func15.trans (congrArg some (by kernel_rfl))
  f197 := Tryd.func31.trans (congrArg some (by kernel_rfl))
  f217 := Tryd.func75.trans (congrArg some (by kernel_rfl))
  f224 := Tryd.func58.trans (congrArg some (by kernel_rfl))
  f225 := Tryd.func59.trans (congrArg some (by kernel_rfl))
  f227 := Tryd.func21.trans (congrArg some (by kernel_rfl))
  f228 := Tryd.func30.trans (congrArg some (by kernel_rfl))
  f231 := Tryd.func20.trans (congrArg some (by kernel_rfl))
  f233 := Tryd.func22.trans (congrArg some (by kernel_rfl))
  f235 := Tryd.func23.trans (congrArg some (by kernel_rfl))
  f260 := Tryd.func40.trans (congrArg some (by kernel_rfl))
  f266 := Tryd.func84.trans (congrArg some (by kernel_rfl))
  t0 := Tryd.underlying0
  a0 := Tryd.isAgg0
  z0 := Tryd.sizeOf0
  v0 := Tryd.zeroValue0
  t3 := Tryd.underlying3
  a3 := Tryd.isAgg3
  z3 := Tryd.sizeOf3
  v3 := Tryd.zeroValue3
  t4 := Tryd.underlying4
  a4 := Tryd.isAgg4
  z4 := Tryd.sizeOf4
  v4 := Tryd.zeroValue4
  t5 := Tryd.underlying5
  a5 := Tryd.isAgg5
  z5 := Tryd.sizeOf5
  v5 := Tryd.zeroValue5
  t9 := Tryd.underlying9
  a9 := Tryd.isAgg9
  z9 := Tryd.sizeOf9
  v9 := Tryd.zeroValue9
  t21 := Tryd.underlying21
  a21 := Tryd.isAgg21
  z21 := Tryd.sizeOf21
  v21 := Tryd.zeroValue21
  t46 := Tryd.underlying56
  a46 := Tryd.isAgg56
  z46 := Tryd.sizeOf56
  v46 := Tryd.zeroValue56
  t105 := Tryd.underlying62
  a105 := Tryd.isAgg62
  z105 := Tryd.sizeOf62
  v105 := Tryd.zeroValue62
  t116 := Tryd.underlying48
  a116 := Tryd.isAgg48
  z116 := Tryd.sizeOf48
  t117 := Tryd.underlying49
  a117 := Tryd.isAgg49
  z117 := Tryd.sizeOf49
  v117 := Tryd.zeroValue49
  t119 := Tryd.underlying106
  a119 := Tryd.isAgg106
  z119 := Tryd.sizeOf106
  t124 := Tryd.underlying52
  a124 := Tryd.isAgg52
  z124 := Tryd.sizeOf52
  v124 := Tryd.zeroValue52
  t138 := Tryd.underlying108
  a138 := Tryd.isAgg108
  z138 := Tryd.sizeOf108
  v138 := Tryd.zeroValue108
  t139 := Tryd.underlying109
  a139 := Tryd.isAgg109
  z139 := Tryd.sizeOf109
  v139 := Tryd.zeroValue109
  g3 := by kernel_rfl
  g4 := by kernel_rfl }
open Go.RowKit in
theorem Tryd.trimLeft_blanks (s : ByteArray) (w : World) :
    Calls Tryd.prog 15 #[.string s, .string ⟨#[32, 9, 10, 13]⟩] w fun e w' => e = .returned (.string ⟨(Lib.trimLeftS s.data.toList [32, 9, 10, 13]).toArray⟩) ∧ Below w.heap.size w w' :=
  Any.strings_TrimLeft_laid Tryd.lays161 (by kernel_rfl) s ⟨#[32, 9, 10, 13]⟩ w (by decide) (ascii_of_all (by decide))
def Tryd.lays129_ren : Go.Shelf.Ren := ⟨fun | 129 => 64 | n => n, fun | 53 => 23 | 3 => 3 | 4 => 4 | 46 => 56 | 5 => 5 | 9 => 9 | n => n, fun | n => n⟩
theorem Tryd.lays129 : Go.Proofs.Lays.n129 Tryd.prog Tryd.lays129_ren := {
  mixed := by kernel_rfl
  f129 := Tryd.func64.trans (congrArg some (by kernel_rfl))
  t3 := Tryd.underlying3
  a3 := Tryd.isAgg3
  z3 := Tryd.sizeOf3
  v3 := Tryd.zeroValue3
  t4 := Tryd.underlying4
  a4 := Tryd.isAgg4
  z4 := Tryd.sizeOf4
  v4 := Tryd.zeroValue4
  t5 := Tryd.underlying5
  a5 := Tryd.isAgg5
  z5 := Tryd.sizeOf5
  v5 := Tryd.zeroValue5
  t9 := Tryd.underlying9
  a9 := Tryd.isAgg9
  z9 := Tryd.sizeOf9
  v9 := Tryd.zeroValue9
  t46 := Tryd.underlying56
  a46 := Tryd.isAgg56
  z46 := Tryd.sizeOf56
  v46 := Tryd.zeroValue56
  t53 := Tryd.underlying23
  a53 := Tryd.isAgg23
  z53 := Tryd.sizeOf23
  v53 := Tryd.zeroValue23 }
theorem Tryd.bits_Len64 (x : Int) (w : World) (h0 : 0 ≤ x) (h1 : x ≤ 18446744073709551615) :
    Calls Tryd.prog 64 #[.int .u64 x] w fun e w' => e = .returned (.int .i64 (Lib.bitLen x.toNat)) ∧ w' = w := Any.bits_Len64 Tryd.lays129 x w h0 h1
def Tryd.lays321_ren : Go.Shelf.Ren := ⟨fun | 321 => 33 | n => n, fun | 5 => 5 | n => n, fun | n => n⟩
theorem Tryd.lays321 : Go.Proofs.Lays.n321 Tryd.prog Tryd.lays321_ren := {
  mixed := by kernel_rfl
  f321 := Tryd.func33.trans (congrArg some (by kernel_rfl))
  t5 := Tryd.underlying5
  a5 := Tryd.isAgg5
  z5 := Tryd.sizeOf5
  v5 := Tryd.zeroValue5 }
open Go.RowKit in
theorem Tryd.internal_strconv_lower (c : Int) (w : World) :
    Calls Tryd.prog 33 #[.int .u8 c] w fun e w' => e = .returned (.int .u8 (bits .or .u8 c 32)) ∧ w' = w := Any.internal_strconv_lower Tryd.lays321 c w
def Tryd.lays264_ren : Go.Shelf.Ren := ⟨fun | 264 => 80 | n => n, fun | 53 => 23 | 46 => 56 | n => n, fun | n => n⟩
theorem Tryd.lays264 : Go.Proofs.Lays.n264 Tryd.prog Tryd.lays264_ren := {
  mixed := by kernel_rfl
  f264 := Tryd.func80.trans (congrArg some (by kernel_rfl))
  t46 := Tryd.underlying56
  a46 := Tryd.isAgg56
  z46 := Tryd.sizeOf56
  v46 := Tryd.zeroValue56
  t53 := Tryd.underlying23
  a53 := Tryd.isAgg23
  z53 := Tryd.sizeOf23
  v53 := Tryd.zeroValue23 }
open Go.RowKit Go.Lib in
theorem Tryd.bits_Mul64 (x y : Nat) (hx : x < 18446744073709551616) (hy : y < 18446744073709551616) (w : World) :
    Calls Tryd.prog 80 #[.int .u64 x, .int .u64 y] w fun e w' => e = .returned (.tuple #[.int .u64 ((x * y / 18446744073709551616 : Nat) : Int), .int .u64 ((x * y % 18446744073709551616 : Nat) : Int)]) ∧ w' = w := Any.bits_Mul64 Tryd.lays264 x y hx hy w
end Go.Proofs
