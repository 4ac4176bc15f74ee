/-
  THE SHELF's CONTRACTS AT THIS DUMP THAT THIS SEAT's PROOFS USE (written by the kit's lay-shelf.mjs and lay-plain.mjs for this program; cut to the functions on the roads).
-/
import Derived.Ground.PaProg
import Derived.Shelf.Path.FileSmall
import Derived.Shelf.Path.FCleanPre
import Derived.Shelf.Path.FCleanRel
import Derived.Shelf.Path.FCleanAbs
import Derived.Shelf.Path.FClean
import Derived.Shelf.Path.CleanRules
import Derived.Shelf.Path.FJoin
import Derived.Shelf.Path.JoinRules
import Derived.Test.Qxb6604484aFmtProg
namespace Go.Proofs
open Go.Shelf
def Tryf.laysPa35_ren : Go.Shelf.Ren := ⟨fun | 35 => 39 | 52 => 45 | 58 => 50 | n => n, fun | 9 => 9 | 4 => 4 | 3 => 3 | n => n, fun | n => n⟩
theorem Tryf.laysPa35 : Go.Proofs.Lays.p35 Tryf.prog Tryf.laysPa35_ren := {
  mixed := by kernel_rfl
  f35 := Tryf.func39.trans (congrArg some (by kernel_rfl))
  f52 := Tryf.func45.trans (congrArg some (by kernel_rfl))
  f58 := Tryf.func50.trans (congrArg some (by kernel_rfl))
  t3 := Tryf.underlying3
  a3 := Tryf.isAgg3
  z3 := Tryf.sizeOf3
  v3 := Tryf.zeroValue3
  t4 := Tryf.underlying4
  a4 := Tryf.isAgg4
  z4 := Tryf.sizeOf4
  v4 := Tryf.zeroValue4
  t9 := Tryf.underlying9
  a9 := Tryf.isAgg9
  z9 := Tryf.sizeOf9
  v9 := Tryf.zeroValue9 }
open Go.RowKit Go.Lib in
/-- path/filepath.IsAbs (linux): "IsAbs reports whether the path is absolute.": IT RETURNS 'Pa.isAbs path'; the world is as it was. (LAID: no walk: one application.) -/
theorem Tryf.filepath_IsAbs (s : ByteArray) (w : World) :
    Calls Tryf.prog 39 #[.string s] w fun e w' => e = .returned (.bool (Pa.isAbs s.data.toList)) ∧ w' = w := Any.filepath_IsAbs Tryf.laysPa35 s w
def Tryf.laysPah37_ren : Go.Shelf.Ren := ⟨fun | 37 => 40 | 54 => 46 | 59 => 51 | 56 => 52 | 60 => 53 | 61 => 54 | 62 => 55 | 63 => 56 | 64 => 57 | 66 => 59 | 70 => 63 | 73 => 66 | n => n, fun | 9 => 9 | 3 => 3 | 4 => 4 | 5 => 5 | 53 => 89 | 0 => 0 | 55 => 93 | 30 => 68 | n => n, fun | n => n⟩
theorem Tryf.laysPah37 : Go.Proofs.Lays.ph37 Tryf.prog Tryf.laysPah37_ren := {
  mixed := by kernel_rfl
  f37 := Tryf.func40.trans (congrArg some (by kernel_rfl))
  f54 := Tryf.func46.trans (congrArg some (by kernel_rfl))
  f56 := Tryf.func52.trans (congrArg some (by kernel_rfl))
  f59 := Tryf.func51.trans (congrArg some (by kernel_rfl))
  f60 := Tryf.func53.trans (congrArg some (by kernel_rfl))
  f61 := Tryf.func54.trans (congrArg some (by kernel_rfl))
  f62 := Tryf.func55.trans (congrArg some (by kernel_rfl))
  f63 := Tryf.func56.trans (congrArg some (by kernel_rfl))
  f64 := Tryf.func57.trans (congrArg some (by kernel_rfl))
  f66 := Tryf.func59.trans (congrArg some (by kernel_rfl))
  f70 := Tryf.func63.trans (congrArg some (by kernel_rfl))
  f73 := Tryf.func66.trans (congrArg some (by kernel_rfl))
  t0 := Tryf.underlying0
  a0 := Tryf.isAgg0
  z0 := Tryf.sizeOf0
  v0 := Tryf.zeroValue0
  t3 := Tryf.underlying3
  a3 := Tryf.isAgg3
  z3 := Tryf.sizeOf3
  v3 := Tryf.zeroValue3
  t4 := Tryf.underlying4
  a4 := Tryf.isAgg4
  z4 := Tryf.sizeOf4
  v4 := Tryf.zeroValue4
  t5 := Tryf.underlying5
  a5 := Tryf.isAgg5
  z5 := Tryf.sizeOf5
  v5 := Tryf.zeroValue5
  t9 := Tryf.underlying9
  a9 := Tryf.isAgg9
  z9 := Tryf.sizeOf9
  v9 := Tryf.zeroValue9
  t30 := Tryf.underlying68
  a30 := Tryf.isAgg68
  z30 := Tryf.sizeOf68
  v30 := Tryf.zeroValue68
  t53 := Tryf.underlying89
  a53 := Tryf.isAgg89
  z53 := Tryf.sizeOf89
  v53 := Tryf.zeroValue89
  t55 := Tryf.underlying93
  a55 := Tryf.isAgg93
  z55 := Tryf.sizeOf93
  v55 := Tryf.zeroValue93
  info5 := by kernel_rfl }
open Go.RowKit Go.Lib in
/-- path/filepath.Clean (linux): "Clean returns the shortest path name equivalent to path by purely lexical processing. It applies the following rules iteratively until no further processing can be done: 1. Replace multiple Separator elements with a single one. 2. Eliminate each . path name element (the current directory). 3. Eliminate each inner .. path name element (the parent directory) along with the non-.. element that precedes it. 4. Eliminate .. elements that begin a rooted path: that is, replace "/.." by "/" at the beginning of a path, assuming Separator is '/'. The returned path ends in a slash only if it represents a root directory, such as "/" on Unix .. If the result of this process is an empty string, Clean returns the string ".".": IT RETURNS 'Pa.clean path'. (LAID: no walk: one application.) -/
theorem Tryf.filepath_Clean (s : ByteArray) (w : World) (hbig : s.size ≤ 281474976710656) :
    Calls Tryf.prog 40 #[.string s] w fun e w' => e = .returned (.string ⟨(Pa.clean s.data.toList).toArray⟩) ∧ Below w.heap.size w w' := Any.filepath_Clean Tryf.laysPah37 s w hbig
open Go.RowKit Go.Lib in
theorem Tryf.filepath_Clean_rules (s : ByteArray) (w : World) (hbig : s.size ≤ 281474976710656) :
    Calls Tryf.prog 40 #[.string s] w fun e w' => e = .returned (.string ⟨(Pa.cleanEls s.data.toList).toArray⟩) ∧ Below w.heap.size w w' := Any.filepath_Clean_rules Tryf.laysPah37 s w hbig
def Tryf.laysPah38_ren : Go.Shelf.Ren := ⟨fun | 38 => 41 | 55 => 47 | 65 => 58 | 37 => 40 | 67 => 60 | 68 => 61 | 69 => 62 | 54 => 46 | 71 => 64 | 72 => 65 | 59 => 51 | 56 => 52 | 60 => 53 | 61 => 54 | 62 => 55 | 63 => 56 | 64 => 57 | 74 => 67 | 75 => 68 | 66 => 59 | 70 => 63 | 73 => 66 | n => n, fun | 26 => 67 | 9 => 9 | 3 => 3 | 0 => 0 | 4 => 4 | 20 => 20 | 60 => 99 | 38 => 101 | 58 => 97 | 30 => 68 | 35 => 55 | 63 => 104 | 5 => 5 | 53 => 89 | 55 => 93 | 64 => 105 | 45 => 94 | n => n, fun | n => n⟩
theorem Tryf.laysPah38 : Go.Proofs.Lays.ph38 Tryf.prog Tryf.laysPah38_ren := {
  mixed := by kernel_rfl
  f37 := Tryf.func40.trans (congrArg some (by kernel_rfl))
  f38 := Tryf.func41.trans (congrArg some (by kernel_rfl))
  f54 := Tryf.func46.trans (congrArg some (by kernel_rfl))
  f55 := Tryf.func47.trans (congrArg some (by kernel_rfl))
  f56 := Tryf.func52.trans (congrArg some (by kernel_rfl))
  f59 := Tryf.func51.trans (congrArg some (by kernel_rfl))
  f60 := Tryf.func53.trans (congrArg some (by kernel_rfl))
  f61 := Tryf.func54.trans (congrArg some (by kernel_rfl))
  f62 := Tryf.func55.trans (congrArg some (by kernel_rfl))
  f63 := Tryf.func56.trans (congrArg some (by kernel_rfl))
  f64 := Tryf.func57.trans (congrArg some (by kernel_rfl))
  f65 := Tryf.func58.trans (congrArg some (by kernel_rfl))
  f66 := Tryf.func59.trans (congrArg some (by kernel_rfl))
  f67 := Tryf.func60.trans (congrArg some (by kernel_rfl))
  f68 := Tryf.func61.trans (congrArg some (by kernel_rfl))
  f69 := Tryf.func62.trans (congrArg some (by kernel_rfl))
  f70 := Tryf.func63.trans (congrArg some (by kernel_rfl))
  f71 := Tryf.func64.trans (congrArg some (by kernel_rfl))
  f72 := Tryf.func65.trans (congrArg some (by kernel_rfl))
  f73 := Tryf.func66.trans (congrArg some (by kernel_rfl))
  f74 := Tryf.func67.trans (congrArg some (by kernel_rfl))
  f75 := Tryf.func68.trans (congrArg some (by kernel_rfl))
  t0 := Tryf.underlying0
  a0 := Tryf.isAgg0
  z0 := Tryf.sizeOf0
  v0 := Tryf.zeroValue0
  t3 := Tryf.underlying3
  a3 := Tryf.isAgg3
  z3 := Tryf.sizeOf3
  v3 := Tryf.zeroValue3
  t4 := Tryf.underlying4
  a4 := Tryf.isAgg4
  z4 := Tryf.sizeOf4
  v4 := Tryf.zeroValue4
  t5 := Tryf.underlying5
  a5 := Tryf.isAgg5
  z5 := Tryf.sizeOf5
  v5 := Tryf.zeroValue5
  t9 := Tryf.underlying9
  a9 := Tryf.isAgg9
  z9 := Tryf.sizeOf9
  v9 := Tryf.zeroValue9
  t20 := Tryf.underlying20
  a20 := Tryf.isAgg20
  z20 := Tryf.sizeOf20
  v20 := Tryf.zeroValue20
  t26 := Tryf.underlying67
  a26 := Tryf.isAgg67
  z26 := Tryf.sizeOf67
  v26 := Tryf.zeroValue67
  t30 := Tryf.underlying68
  a30 := Tryf.isAgg68
  z30 := Tryf.sizeOf68
  v30 := Tryf.zeroValue68
  t35 := Tryf.underlying55
  a35 := Tryf.isAgg55
  z35 := Tryf.sizeOf55
  v35 := Tryf.zeroValue55
  t38 := Tryf.underlying101
  a38 := Tryf.isAgg101
  z38 := Tryf.sizeOf101
  v38 := Tryf.zeroValue101
  t45 := Tryf.underlying94
  a45 := Tryf.isAgg94
  z45 := Tryf.sizeOf94
  v45 := Tryf.zeroValue94
  t53 := Tryf.underlying89
  a53 := Tryf.isAgg89
  z53 := Tryf.sizeOf89
  v53 := Tryf.zeroValue89
  t55 := Tryf.underlying93
  a55 := Tryf.isAgg93
  z55 := Tryf.sizeOf93
  v55 := Tryf.zeroValue93
  t58 := Tryf.underlying97
  a58 := Tryf.isAgg97
  z58 := Tryf.sizeOf97
  v58 := Tryf.zeroValue97
  t60 := Tryf.underlying99
  a60 := Tryf.isAgg99
  z60 := Tryf.sizeOf99
  v60 := Tryf.zeroValue99
  t63 := Tryf.underlying104
  a63 := Tryf.isAgg104
  z63 := Tryf.sizeOf104
  v63 := Tryf.zeroValue104
  t64 := Tryf.underlying105
  a64 := Tryf.isAgg105
  z64 := Tryf.sizeOf105
  v64 := Tryf.zeroValue105
  sizeBuilder := by kernel_rfl
  liesBuilder := by kernel_rfl
  info5 := by kernel_rfl
  cellsByte := by kernel_rfl
  sizeByte := by kernel_rfl
  neB5 := by kernel_rfl }
open Go.RowKit Go.Lib in
/-- path/filepath.Join (linux): "Join joins any number of path elements into a single path, separating them with an OS specific Separator. Empty elements are ignored. The result is Cleaned. However, if the argument list is empty or all its elements are empty, Join returns an empty string.": THE ARGUMENT AS strings.Join's CONTRACT HAS IT: a slice of xs.length strings at ⟨bk, o⟩, capacity c, whose cells hold xs. IT RETURNS 'Pa.fjoin (the elements)' (Derived/Lib/FJoinFns.lean); what was there before the call is as it was ('Below'). IT ASKS that the elements' lengths and their number together stay within 2^47 (strings.Join's contract's own bound). (LAID: no walk: one application.) -/
theorem Tryf.filepath_Join (bk o c : Nat) (xs : List ByteArray) (w : World) (hcells : ∀ (j : Nat) x, xs[j]? = some x → w.cell? ⟨bk, o + j, none⟩ = some (.string x)) (hbk : bk < w.heap.size) (hcap : xs.length ≤ c) (hlen : Lib.lens (xs.map (·.data.toList)) + xs.length ≤ 140737488355328) :
    Calls Tryf.prog 41 #[.slice (some ⟨bk, o, none⟩) xs.length c] w fun e w' => e = .returned (.string ⟨(Pa.fjoin (xs.map (·.data.toList))).toArray⟩) ∧ Below w.heap.size w w' := Any.filepath_Join Tryf.laysPah38 bk o c xs w hcells hbk hcap hlen
end Go.Proofs
