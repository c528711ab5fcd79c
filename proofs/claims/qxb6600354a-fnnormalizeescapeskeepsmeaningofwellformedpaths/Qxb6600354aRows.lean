/-
  No cell of these rows narrows 'for every input' (looked for: loops, veiled, ifaces, maps, wideKeys, modest, calm, conditions, laid).
  DERIVED. THE GIVEN ROWS OF THIS SEAT. 2 by the template 'for every input the law returns true; each argument reads behind the call as it read before'; 0 by the template 'total and deterministic' (their statements: Qxb6600354aTotals.lean).
  GIVEN WITH THE SEED: the statements are not yours to turn. If you find one false, say at which input.
  Laid BY PROGRAM, IN A SANDBOX (cutbox-rows.mjs): the forced cells as the released guide's own fill.sh prints them over the translation 8b3ed77d858897a5… (all of the seat's roots in one cut). By AI agents, Wed Nov 11 2026. No macro, syntax, notation, axiom, sorry.
-/
import Derived.Test.Qxb6600354aChecked
import GoSem.Claim
import GoSem.ClaimJoined
import GoSem.ClaimMapViews
import Derived.JoinedTies
import Derived.KernelRfl
namespace Go.Proofs.Qxb6600354a
/- THE CELL 'sum', in the pinned program and in every row, IS THE sha256 OF THE DUMP (.gsa) THAT Qxb6600354aProg.lean LOADS. Nothing in Lean hashes anything: it is a label: what it is worth is what the hold of that sum in a sandbox is worth. -/
noncomputable def Try.pinned : Pinned := { name := "qxb6600354a", sum := "8b3ed77d858897a5afaac0834016c57cee58c726d769ab77440d2d47b893b6d0", checked := Try.checked }
namespace Rows
def none {H : Type} : Left H := { results := [], args := [] }

/-- 'zzlaws_internal_route_b1.FnNormalizeEscapesKeepsMeaningOfWellFormedPaths': WHATEVER THE INPUT: true; the input reads as it did. -/
def fnNormalizeEscapesKeepsMeaningOfWellFormedPathsSpec : ChangeSpec := { name := "fnNormalizeEscapesKeepsMeaningOfWellFormedPaths", fn := fun _ => fun
  | [d] => { results := [.lit (.bool true)], args := [d] }
  | _ => none }
def fnNormalizeEscapesKeepsMeaningOfWellFormedPathsRow : OpenClaim := { program := "qxb6600354a", sum := "8b3ed77d858897a5afaac0834016c57cee58c726d769ab77440d2d47b893b6d0", func := "example.com/causeway/causeway/zzlaws_internal_route_b1.FnNormalizeEscapesKeepsMeaningOfWellFormedPaths", spec := "fnNormalizeEscapesKeepsMeaningOfWellFormedPaths", inPlace := ["internal/bytealg.IndexByteString", "internal/abi.NoEscape", "internal/bytealg.MakeNoZero"], apart := false }
def FnNormalizeEscapesKeepsMeaningOfWellFormedPathsSaid : Prop := fnNormalizeEscapesKeepsMeaningOfWellFormedPathsRow.holds Try.pinned (OpenSpec.ofChange fnNormalizeEscapesKeepsMeaningOfWellFormedPathsSpec)

/-- ITS FALSE NEIGHBOUR: 'it returns false'. Refute it at one input. -/
def fnNormalizeEscapesKeepsMeaningOfWellFormedPathsWrong : ChangeSpec := { name := "fnNormalizeEscapesKeepsMeaningOfWellFormedPaths", fn := fun _ => fun
  | [d] => { results := [.lit (.bool false)], args := [d] }
  | _ => none }
def FnNormalizeEscapesKeepsMeaningOfWellFormedPathsWrongFalsely : Prop := fnNormalizeEscapesKeepsMeaningOfWellFormedPathsRow.holds Try.pinned (OpenSpec.ofChange fnNormalizeEscapesKeepsMeaningOfWellFormedPathsWrong)

/-- 'zzlaws_internal_route_b1.FnNormalizeEscapesShrinksByWholeEscapes': WHATEVER THE INPUT: true; the input reads as it did. -/
def fnNormalizeEscapesShrinksByWholeEscapesSpec : ChangeSpec := { name := "fnNormalizeEscapesShrinksByWholeEscapes", fn := fun _ => fun
  | [d] => { results := [.lit (.bool true)], args := [d] }
  | _ => none }
def fnNormalizeEscapesShrinksByWholeEscapesRow : OpenClaim := { program := "qxb6600354a", sum := "8b3ed77d858897a5afaac0834016c57cee58c726d769ab77440d2d47b893b6d0", func := "example.com/causeway/causeway/zzlaws_internal_route_b1.FnNormalizeEscapesShrinksByWholeEscapes", spec := "fnNormalizeEscapesShrinksByWholeEscapes", inPlace := ["internal/bytealg.IndexByteString", "internal/abi.NoEscape", "internal/bytealg.MakeNoZero"], apart := false }
def FnNormalizeEscapesShrinksByWholeEscapesSaid : Prop := fnNormalizeEscapesShrinksByWholeEscapesRow.holds Try.pinned (OpenSpec.ofChange fnNormalizeEscapesShrinksByWholeEscapesSpec)

/-- ITS FALSE NEIGHBOUR: 'it returns false'. Refute it at one input. -/
def fnNormalizeEscapesShrinksByWholeEscapesWrong : ChangeSpec := { name := "fnNormalizeEscapesShrinksByWholeEscapes", fn := fun _ => fun
  | [d] => { results := [.lit (.bool false)], args := [d] }
  | _ => none }
def FnNormalizeEscapesShrinksByWholeEscapesWrongFalsely : Prop := fnNormalizeEscapesShrinksByWholeEscapesRow.holds Try.pinned (OpenSpec.ofChange fnNormalizeEscapesShrinksByWholeEscapesWrong)

end Rows
end Go.Proofs.Qxb6600354a
