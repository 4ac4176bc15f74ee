/-
  No cell of these rows narrows 'for every input' (looked for: loops, veiled, ifaces, maps, wideKeys, modest, calm, conditions, laid).
  DERIVED. THE GIVEN ROWS OF THIS SEAT. 1 by the template 'for every input the law returns true; each argument reads behind the call as it read before'; 0 by the template 'total and deterministic' (their statements: Qxb6601959aTotals.lean).
  GIVEN WITH THE SEED: the statements are not yours to turn. If you find one false, say at which input.
  Laid BY PROGRAM, IN A SANDBOX (cutbox-rows.mjs): the forced cells as the released guide's own fill.sh prints them over the translation fe05cb5fce6e549a… (all of the seat's roots in one cut). By AI agents, Wed Nov 11 2026. No macro, syntax, notation, axiom, sorry.
-/
import Derived.Test.Qxb6601959aChecked
import GoSem.Claim
import GoSem.ClaimJoined
import GoSem.ClaimMapViews
import Derived.JoinedTies
import Derived.KernelRfl
namespace Go.Proofs.Qxb6601959a
/- THE CELL 'sum', in the pinned program and in every row, IS THE sha256 OF THE DUMP (.gsa) THAT Qxb6601959aProg.lean LOADS. Nothing in Lean hashes anything: it is a label: what it is worth is what the hold of that sum in a sandbox is worth. -/
noncomputable def Try.pinned : Pinned := { name := "qxb6601959a", sum := "fe05cb5fce6e549a0db7733021651ecfd61deee800dbdc4ec72a2446bdd1231b", checked := Try.checked }
namespace Rows
def none {H : Type} : Left H := { results := [], args := [] }

/-- 'zzlaws_pkg_config_b1.FnNotInPathMatchesCodePointRanges': WHATEVER THE INPUT: true; the input reads as it did. -/
def fnNotInPathMatchesCodePointRangesSpec : ChangeSpec := { name := "fnNotInPathMatchesCodePointRanges", fn := fun _ => fun
  | [d] => { results := [.lit (.bool true)], args := [d] }
  | _ => none }
def fnNotInPathMatchesCodePointRangesRow : OpenClaim := { program := "qxb6601959a", sum := "fe05cb5fce6e549a0db7733021651ecfd61deee800dbdc4ec72a2446bdd1231b", func := "example.com/bizalom/bizalom/zzlaws_pkg_config_b1.FnNotInPathMatchesCodePointRanges", spec := "fnNotInPathMatchesCodePointRanges", inPlace := ["internal/bytealg.IndexByteString", "internal/bytealg.IndexString"], named := ["internal/bytealg.MaxLen"], apart := false }
def FnNotInPathMatchesCodePointRangesSaid : Prop := fnNotInPathMatchesCodePointRangesRow.holds Try.pinned (OpenSpec.ofChange fnNotInPathMatchesCodePointRangesSpec)

/-- ITS FALSE NEIGHBOUR: 'it returns false'. Refute it at one input. -/
def fnNotInPathMatchesCodePointRangesWrong : ChangeSpec := { name := "fnNotInPathMatchesCodePointRanges", fn := fun _ => fun
  | [d] => { results := [.lit (.bool false)], args := [d] }
  | _ => none }
def FnNotInPathMatchesCodePointRangesWrongFalsely : Prop := fnNotInPathMatchesCodePointRangesRow.holds Try.pinned (OpenSpec.ofChange fnNotInPathMatchesCodePointRangesWrong)

end Rows
end Go.Proofs.Qxb6601959a
