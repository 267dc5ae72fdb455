/-
  THE SHELF'S CONTRACT OF strings.ContainsRune AT THIS PROGRAM, IN PLAIN WORDS (written by the kit's tools lay-shelf and lay-plain for this program).
-/
import Derived.Shelf.Strings.Runes
import Derived.Test.Qxb6001130aProg
namespace Go.Proofs
open Go.Shelf
def Try.lays151_ren : Go.Shelf.Ren := ⟨fun | 151 => 33 | 152 => 35 | 137 => 36 | 119 => 37 | 224 => 38 | 225 => 39 | 217 => 40 | 266 => 41 | n => n, fun | 9 => 9 | 21 => 21 | 4 => 4 | 3 => 3 | 5 => 5 | 0 => 0 | 46 => 49 | n => n, fun | n => n⟩
theorem Try.lays151 : Go.Proofs.Lays.n151 Try.prog Try.lays151_ren := {
  mixed := by kernel_rfl
  f119 := Try.func37.trans (congrArg some (by kernel_rfl))
  f137 := Try.func36.trans (congrArg some (by kernel_rfl))
  f151 := Try.func33.trans (congrArg some (by kernel_rfl))
  f152 := Try.func35.trans (congrArg some (by kernel_rfl))
  f217 := Try.func40.trans (congrArg some (by kernel_rfl))
  f224 := Try.func38.trans (congrArg some (by kernel_rfl))
  f225 := Try.func39.trans (congrArg some (by kernel_rfl))
  f266 := Try.func41.trans (congrArg some (by kernel_rfl))
  t0 := Try.underlying0
  a0 := Try.isAgg0
  z0 := Try.sizeOf0
  v0 := Try.zeroValue0
  t3 := Try.underlying3
  a3 := Try.isAgg3
  z3 := Try.sizeOf3
  v3 := Try.zeroValue3
  t4 := Try.underlying4
  a4 := Try.isAgg4
  z4 := Try.sizeOf4
  v4 := Try.zeroValue4
  t5 := Try.underlying5
  a5 := Try.isAgg5
  z5 := Try.sizeOf5
  v5 := Try.zeroValue5
  t9 := Try.underlying9
  a9 := Try.isAgg9
  z9 := Try.sizeOf9
  v9 := Try.zeroValue9
  t21 := Try.underlying21
  a21 := Try.isAgg21
  z21 := Try.sizeOf21
  v21 := Try.zeroValue21
  t46 := Try.underlying49
  a46 := Try.isAgg49
  z46 := Try.sizeOf49
  v46 := Try.zeroValue49 }
open Go.RowKit Go.Lib in
theorem Try.strings_ContainsRune_ascii (s : ByteArray) (r : Int) (w : World) (h0 : 0 ≤ r) (h1 : r < 128) :
    Calls Try.prog 33 #[.string s, .int .i32 r] w fun e w' => e = .returned (.bool (decide (0 ≤ Lib.indexByte s.data.toList r.toNat.toUInt8))) ∧ w' = w := Any.strings_ContainsRune_ascii Try.lays151 s r w h0 h1
end Go.Proofs
