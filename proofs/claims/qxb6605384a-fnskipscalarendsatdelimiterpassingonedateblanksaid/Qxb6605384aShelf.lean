/-
  THE SHELF's CONTRACTS AT THIS DUMP THAT THIS SEAT's PROOFS USE (written by the kit's lay-shelf.mjs and lay-plain.mjs for this program; cut to the functions on the roads).
-/
import Derived.Shelf.Small.Utf8
import Derived.Shelf.Small.Strs
import Derived.Shelf.Strings.Runes
import Derived.Test.Qxb6605384aProg
namespace Go.Proofs
open Go.Shelf
def Try.lays137_ren : Go.Shelf.Ren := ⟨fun | 137 => 44 | 217 => 48 | 266 => 49 | n => n, fun | 9 => 9 | 5 => 5 | 3 => 3 | n => n, fun | n => n⟩
theorem Try.lays137 : Go.Proofs.Lays.n137 Try.prog Try.lays137_ren := {
  mixed := by kernel_rfl
  f137 := Try.func44.trans (congrArg some (by kernel_rfl))
  f217 := Try.func48.trans (congrArg some (by kernel_rfl))
  f266 := Try.func49.trans (congrArg some (by kernel_rfl))
  t3 := Try.underlying3
  a3 := Try.isAgg3
  z3 := Try.sizeOf3
  v3 := Try.zeroValue3
  t5 := Try.underlying5
  a5 := Try.isAgg5
  z5 := Try.sizeOf5
  v5 := Try.zeroValue5
  t9 := Try.underlying9
  a9 := Try.isAgg9
  z9 := Try.sizeOf9
  v9 := Try.zeroValue9 }
open Go.RowKit in
/-- strings.IndexByte: "IndexByte returns the index of the first instance of c in s, or -1 if c is not present in s.": IT RETURNS 'Lib.indexByte s c'; the world is as it was. (LAID: no walk: one application.) -/
theorem Try.strings_IndexByte (s : ByteArray) (c : Int) (w : World) :
    Calls Try.prog 44 #[.string s, .int .u8 c] w fun e w' => e = .returned (.int .i64 (Lib.indexByte s.data.toList c.toNat.toUInt8)) ∧ w' = w := Any.strings_IndexByte Try.lays137 s c w
def Try.lays151_ren : Go.Shelf.Ren := ⟨fun | 151 => 36 | 152 => 41 | 137 => 44 | 119 => 45 | 224 => 46 | 225 => 47 | 217 => 48 | 266 => 49 | n => n, fun | 9 => 9 | 21 => 21 | 4 => 4 | 3 => 3 | 5 => 5 | 0 => 0 | 46 => 37 | n => n, fun | n => n⟩
theorem Try.lays151 : Go.Proofs.Lays.n151 Try.prog Try.lays151_ren := {
  mixed := by kernel_rfl
  f119 := Try.func45.trans (congrArg some (by kernel_rfl))
  f137 := Try.func44.trans (congrArg some (by kernel_rfl))
  f151 := Try.func36.trans (congrArg some (by kernel_rfl))
  f152 := Try.func41.trans (congrArg some (by kernel_rfl))
  f217 := Try.func48.trans (congrArg some (by kernel_rfl))
  f224 := Try.func46.trans (congrArg some (by kernel_rfl))
  f225 := Try.func47.trans (congrArg some (by kernel_rfl))
  f266 := Try.func49.trans (congrArg some (by kernel_rfl))
  t0 := Try.underlying0
  a0 := Try.isAgg0
  z0 := Try.sizeOf0
  v0 := Try.zeroValue0
  t3 := Try.underlying3
  a3 := Try.isAgg3
  z3 := Try.sizeOf3
  v3 := Try.zeroValue3
  t4 := Try.underlying4
  a4 := Try.isAgg4
  z4 := Try.sizeOf4
  v4 := Try.zeroValue4
  t5 := Try.underlying5
  a5 := Try.isAgg5
  z5 := Try.sizeOf5
  v5 := Try.zeroValue5
  t9 := Try.underlying9
  a9 := Try.isAgg9
  z9 := Try.sizeOf9
  v9 := Try.zeroValue9
  t21 := Try.underlying21
  a21 := Try.isAgg21
  z21 := Try.sizeOf21
  v21 := Try.zeroValue21
  t46 := Try.underlying37
  a46 := Try.isAgg37
  z46 := Try.sizeOf37
  v46 := Try.zeroValue37 }
open Go.RowKit Go.Lib in
theorem Try.strings_ContainsRune_ascii (s : ByteArray) (r : Int) (w : World) (h0 : 0 ≤ r) (h1 : r < 128) :
    Calls Try.prog 36 #[.string s, .int .i32 r] w fun e w' => e = .returned (.bool (decide (0 ≤ Lib.indexByte s.data.toList r.toNat.toUInt8))) ∧ w' = w := Any.strings_ContainsRune_ascii Try.lays151 s r w h0 h1
end Go.Proofs
