/-
  THE SHELF'S CONTRACTS AT THIS PROGRAM, IN PLAIN WORDS (written by the kit's tools lay-shelf and lay-plain for this program; the ones that are used here): strings.IndexByte, Index, Count, HasPrefix.
-/
import Derived.Shelf.Small.Strs
import Derived.Shelf.Strings.Search3
import Derived.Shelf.Strings.Count
import Derived.Shelf.LaysM
import Derived.Shelf.Strings.Shaped
import Derived.Shelf.Strings.Prefix
import Derived.Test.Qxb6000828aProg
namespace Go.Proofs
open Go.Shelf
def Try.lays137_ren : Go.Shelf.Ren := ⟨fun | 137 => 24 | 217 => 29 | 266 => 33 | n => n, fun | 9 => 9 | 5 => 5 | 3 => 3 | n => n, fun | n => n⟩
theorem Try.lays137 : Go.Proofs.Lays.n137 Try.prog Try.lays137_ren := {
  mixed := by kernel_rfl
  f137 := Try.func24.trans (congrArg some (by kernel_rfl))
  f217 := Try.func29.trans (congrArg some (by kernel_rfl))
  f266 := Try.func33.trans (congrArg some (by kernel_rfl))
  t3 := Try.underlying3
  a3 := Try.isAgg3
  z3 := Try.sizeOf3
  v3 := Try.zeroValue3
  t5 := Try.underlying5
  a5 := Try.isAgg5
  z5 := Try.sizeOf5
  v5 := Try.zeroValue5
  t9 := Try.underlying9
  a9 := Try.isAgg9
  z9 := Try.sizeOf9
  v9 := Try.zeroValue9 }
open Go.RowKit in
theorem Try.strings_IndexByte (s : ByteArray) (c : Int) (w : World) :
    Calls Try.prog 24 #[.string s, .int .u8 c] w fun e w' => e = .returned (.int .i64 (Lib.indexByte s.data.toList c.toNat.toUInt8)) ∧ w' = w := Any.strings_IndexByte Try.lays137 s c w
def Try.lays143_ren : Go.Shelf.Ren := ⟨fun | 143 => 25 | 219 => 30 | 217 => 29 | 225 => 34 | 224 => 35 | 267 => 36 | 266 => 33 | 314 => 37 | n => n, fun | 9 => 9 | 3 => 3 | 4 => 4 | 5 => 5 | 46 => 39 | 146 => 41 | 51 => 40 | n => n, fun | 1 => 0 | n => n⟩
theorem Try.lays143 : Go.Proofs.Lays.n143 Try.prog Try.lays143_ren := {
  mixed := by kernel_rfl
  f143 := Try.func25.trans (congrArg some (by kernel_rfl))
  f217 := Try.func29.trans (congrArg some (by kernel_rfl))
  f219 := Try.func30.trans (congrArg some (by kernel_rfl))
  f224 := Try.func35.trans (congrArg some (by kernel_rfl))
  f225 := Try.func34.trans (congrArg some (by kernel_rfl))
  f266 := Try.func33.trans (congrArg some (by kernel_rfl))
  f267 := Try.func36.trans (congrArg some (by kernel_rfl))
  f314 := Try.func37.trans (congrArg some (by kernel_rfl))
  t3 := Try.underlying3
  a3 := Try.isAgg3
  z3 := Try.sizeOf3
  v3 := Try.zeroValue3
  t4 := Try.underlying4
  a4 := Try.isAgg4
  z4 := Try.sizeOf4
  v4 := Try.zeroValue4
  t5 := Try.underlying5
  a5 := Try.isAgg5
  z5 := Try.sizeOf5
  v5 := Try.zeroValue5
  t9 := Try.underlying9
  a9 := Try.isAgg9
  z9 := Try.sizeOf9
  v9 := Try.zeroValue9
  t46 := Try.underlying39
  a46 := Try.isAgg39
  z46 := Try.sizeOf39
  v46 := Try.zeroValue39
  t51 := Try.underlying40
  a51 := Try.isAgg40
  z51 := Try.sizeOf40
  v51 := Try.zeroValue40
  t146 := Try.underlying41
  a146 := Try.isAgg41
  z146 := Try.sizeOf41
  v146 := Try.zeroValue41
  g1 := by kernel_rfl }
open Go.RowKit Go.Lib in
theorem Try.strings_Index (s sub : ByteArray) (m : Int) (w : World) (hs : s.size < 4294967281) (hm : w.cell? ⟨0, 0, none⟩ = some (.int .i64 m)) :
    Calls Try.prog 25 #[.string s, .string sub] w fun e w' => e = .returned (.int .i64 (Lib.index s.data.toList sub.data.toList)) ∧ w' = w := Any.strings_Index Try.lays143 s sub m w hs hm
def Try.lays138_ren : Go.Shelf.Ren := ⟨fun | 138 => 26 | 195 => 31 | 218 => 32 | 143 => 25 | 219 => 30 | 217 => 29 | 225 => 34 | 224 => 35 | 267 => 36 | 266 => 33 | 314 => 37 | n => n, fun | 9 => 9 | 3 => 3 | 4 => 4 | 5 => 5 | 0 => 0 | 46 => 39 | 146 => 41 | 51 => 40 | n => n, fun | 1 => 0 | n => n⟩
theorem Try.lays138 : Go.Proofs.Lays.n138 Try.prog Try.lays138_ren := {
  mixed := by kernel_rfl
  f138 := Try.func26.trans (congrArg some (by kernel_rfl))
  f143 := Try.func25.trans (congrArg some (by kernel_rfl))
  f195 := Try.func31.trans (congrArg some (by kernel_rfl))
  f217 := Try.func29.trans (congrArg some (by kernel_rfl))
  f218 := Try.func32.trans (congrArg some (by kernel_rfl))
  f219 := Try.func30.trans (congrArg some (by kernel_rfl))
  f224 := Try.func35.trans (congrArg some (by kernel_rfl))
  f225 := Try.func34.trans (congrArg some (by kernel_rfl))
  f266 := Try.func33.trans (congrArg some (by kernel_rfl))
  f267 := Try.func36.trans (congrArg some (by kernel_rfl))
  f314 := Try.func37.trans (congrArg some (by kernel_rfl))
  t0 := Try.underlying0
  a0 := Try.isAgg0
  z0 := Try.sizeOf0
  v0 := Try.zeroValue0
  t3 := Try.underlying3
  a3 := Try.isAgg3
  z3 := Try.sizeOf3
  v3 := Try.zeroValue3
  t4 := Try.underlying4
  a4 := Try.isAgg4
  z4 := Try.sizeOf4
  v4 := Try.zeroValue4
  t5 := Try.underlying5
  a5 := Try.isAgg5
  z5 := Try.sizeOf5
  v5 := Try.zeroValue5
  t9 := Try.underlying9
  a9 := Try.isAgg9
  z9 := Try.sizeOf9
  v9 := Try.zeroValue9
  t46 := Try.underlying39
  a46 := Try.isAgg39
  z46 := Try.sizeOf39
  v46 := Try.zeroValue39
  t51 := Try.underlying40
  a51 := Try.isAgg40
  z51 := Try.sizeOf40
  v51 := Try.zeroValue40
  t146 := Try.underlying41
  a146 := Try.isAgg41
  z146 := Try.sizeOf41
  v146 := Try.zeroValue41
  g1 := by kernel_rfl }
open Go.RowKit Go.Lib in
theorem Try.strings_Count_one (s : ByteArray) (c : UInt8) (w : World) :
    Calls Try.prog 26 #[.string s, .string ⟨#[c]⟩] w fun e w' => e = .returned (.int .i64 (Lib.countByte s.data.toList c)) ∧ w' = w := Any.strings_Count_one Try.lays138 s c w
def Try.laysM143_ren : Go.Shelf.Ren := ⟨fun | 143 => 25 | 219 => 30 | 217 => 29 | 225 => 34 | 224 => 35 | 267 => 36 | 266 => 33 | 314 => 37 | n => n, fun | 9 => 9 | 3 => 3 | 4 => 4 | 5 => 5 | 46 => 39 | 146 => 41 | 51 => 40 | n => n, fun | 1 => 0 | n => n⟩
theorem Try.laysM143 : Go.Proofs.LaysM.n143 Try.prog Try.laysM143_ren := {
  mixed := by kernel_rfl
  f143 := Try.func25.trans (congrArg some (by kernel_rfl))
  f217 := Try.func29.trans (congrArg some (by kernel_rfl))
  f219 := Try.func30.trans (congrArg some (by kernel_rfl))
  f224 := Try.func35.trans (congrArg some (by kernel_rfl))
  f225 := Try.func34.trans (congrArg some (by kernel_rfl))
  f266 := Try.func33.trans (congrArg some (by kernel_rfl))
  f267 := Try.func36.trans (congrArg some (by kernel_rfl))
  f314 := Try.func37.trans (congrArg some (by kernel_rfl))
  t3 := Try.underlying3
  a3 := Try.isAgg3
  z3 := Try.sizeOf3
  v3 := Try.zeroValue3
  t4 := Try.underlying4
  a4 := Try.isAgg4
  z4 := Try.sizeOf4
  v4 := Try.zeroValue4
  t5 := Try.underlying5
  a5 := Try.isAgg5
  z5 := Try.sizeOf5
  v5 := Try.zeroValue5
  t9 := Try.underlying9
  a9 := Try.isAgg9
  z9 := Try.sizeOf9
  v9 := Try.zeroValue9
  t46 := Try.underlying39
  a46 := Try.isAgg39
  z46 := Try.sizeOf39
  v46 := Try.zeroValue39
  t51 := Try.underlying40
  a51 := Try.isAgg40
  z51 := Try.sizeOf40
  v51 := Try.zeroValue40
  t146 := Try.underlying41
  a146 := Try.isAgg41
  z146 := Try.sizeOf41
  v146 := Try.zeroValue41
  g1 := by kernel_rfl
  i3 := by kernel_rfl
  i4 := by kernel_rfl
  i5 := by kernel_rfl
  i9 := by kernel_rfl
  i46 := by kernel_rfl
  i51 := by kernel_rfl
  i146 := by kernel_rfl
  m1 := by kernel_rfl
  s1_3 := fun w h => Go.Proofs.cell_of_shapedOpen_int (zero := #[.int .i64 0]) (t := 3) h (of_decide_eq_true (by kernel_rfl)) (by kernel_rfl) rfl (by kernel_rfl) (by kernel_rfl) Try.underlying3 }
def Try.lays99_ren : Go.Shelf.Ren := ⟨fun | 99 => 23 | 206 => 28 | n => n, fun | 9 => 9 | 4 => 4 | 3 => 3 | n => n, fun | n => n⟩
theorem Try.lays99 : Go.Proofs.Lays.n99 Try.prog Try.lays99_ren := {
  mixed := by kernel_rfl
  f99 := Try.func23.trans (congrArg some (by kernel_rfl))
  f206 := Try.func28.trans (congrArg some (by kernel_rfl))
  t3 := Try.underlying3
  a3 := Try.isAgg3
  z3 := Try.sizeOf3
  v3 := Try.zeroValue3
  t4 := Try.underlying4
  a4 := Try.isAgg4
  z4 := Try.sizeOf4
  v4 := Try.zeroValue4
  t9 := Try.underlying9
  a9 := Try.isAgg9
  z9 := Try.sizeOf9
  v9 := Try.zeroValue9 }
open Go.RowKit Go.Lib in
theorem Try.strings_HasPrefix (s p : ByteArray) (w : World) :
    Calls Try.prog 23 #[.string s, .string p] w fun e w' => e = .returned (.bool (Lib.hasPrefix s.data.toList p.data.toList)) ∧ w' = w := Any.strings_HasPrefix Try.lays99 s p w
end Go.Proofs
