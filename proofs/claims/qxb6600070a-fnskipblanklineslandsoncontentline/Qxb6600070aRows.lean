/-
  No cell of these rows narrows 'for every input' (looked for: loops, veiled, ifaces, maps, wideKeys, modest, calm, conditions, laid).
  DERIVED. THE GIVEN ROWS OF THIS SEAT. 3 by the template 'for every input the law returns true; each argument reads behind the call as it read before'; 0 by the template 'total and deterministic' (their statements: Qxb6600070aTotals.lean).
  GIVEN WITH THE SEED: the statements are not yours to turn. If you find one false, say at which input.
  Laid BY PROGRAM, IN A SANDBOX (cutbox-rows.mjs): the forced cells as the released guide's own fill.sh prints them over the translation db7a2247d4e1cec2… (all of the seat's roots in one cut). By AI agents, Wed Nov 11 2026. No macro, syntax, notation, axiom, sorry.
-/
import Derived.Test.Qxb6600070aChecked
import GoSem.Claim
import GoSem.ClaimJoined
import GoSem.ClaimMapViews
import Derived.JoinedTies
import Derived.KernelRfl
namespace Go.Proofs.Qxb6600070a
/- THE CELL 'sum', in the pinned program and in every row, IS THE sha256 OF THE DUMP (.gsa) THAT Qxb6600070aProg.lean LOADS. Nothing in Lean hashes anything: it is a label: what it is worth is what the hold of that sum in a sandbox is worth. -/
noncomputable def Try.pinned : Pinned := { name := "qxb6600070a", sum := "db7a2247d4e1cec2a64f7472db46e01942dfc82df12d6f999c02fe9643ee31ce", checked := Try.checked }
namespace Rows
def none {H : Type} : Left H := { results := [], args := [] }

/-- 'zzlaws_internal_document_b1.FnSkipBlankLinesIdempotentAndBounded': WHATEVER THE INPUT: true; the input reads as it did. -/
def fnSkipBlankLinesIdempotentAndBoundedSpec : ChangeSpec := { name := "fnSkipBlankLinesIdempotentAndBounded", fn := fun _ => fun
  | [d1, d2] => { results := [.lit (.bool true)], args := [d1, d2] }
  | _ => none }
def fnSkipBlankLinesIdempotentAndBoundedRow : OpenClaim := { program := "qxb6600070a", sum := "db7a2247d4e1cec2a64f7472db46e01942dfc82df12d6f999c02fe9643ee31ce", func := "example.com/nodewright/nodewright/zzlaws_internal_document_b1.FnSkipBlankLinesIdempotentAndBounded", spec := "fnSkipBlankLinesIdempotentAndBounded", inPlace := ["internal/bytealg.IndexByte"], apart := false }
def FnSkipBlankLinesIdempotentAndBoundedSaid : Prop := fnSkipBlankLinesIdempotentAndBoundedRow.holds Try.pinned (OpenSpec.ofChange fnSkipBlankLinesIdempotentAndBoundedSpec)

/-- ITS FALSE NEIGHBOUR: 'it returns false'. Refute it at one input. -/
def fnSkipBlankLinesIdempotentAndBoundedWrong : ChangeSpec := { name := "fnSkipBlankLinesIdempotentAndBounded", fn := fun _ => fun
  | [d1, d2] => { results := [.lit (.bool false)], args := [d1, d2] }
  | _ => none }
def FnSkipBlankLinesIdempotentAndBoundedWrongFalsely : Prop := fnSkipBlankLinesIdempotentAndBoundedRow.holds Try.pinned (OpenSpec.ofChange fnSkipBlankLinesIdempotentAndBoundedWrong)

/-- 'zzlaws_internal_document_b1.FnSkipBlankLinesPassesBlankPrefix': WHATEVER THE INPUT: true; the input reads as it did. -/
def fnSkipBlankLinesPassesBlankPrefixSpec : ChangeSpec := { name := "fnSkipBlankLinesPassesBlankPrefix", fn := fun _ => fun
  | [d1, d2] => { results := [.lit (.bool true)], args := [d1, d2] }
  | _ => none }
def fnSkipBlankLinesPassesBlankPrefixRow : OpenClaim := { program := "qxb6600070a", sum := "db7a2247d4e1cec2a64f7472db46e01942dfc82df12d6f999c02fe9643ee31ce", func := "example.com/nodewright/nodewright/zzlaws_internal_document_b1.FnSkipBlankLinesPassesBlankPrefix", spec := "fnSkipBlankLinesPassesBlankPrefix", inPlace := ["internal/bytealg.IndexByte"], apart := false }
def FnSkipBlankLinesPassesBlankPrefixSaid : Prop := fnSkipBlankLinesPassesBlankPrefixRow.holds Try.pinned (OpenSpec.ofChange fnSkipBlankLinesPassesBlankPrefixSpec)

/-- ITS FALSE NEIGHBOUR: 'it returns false'. Refute it at one input. -/
def fnSkipBlankLinesPassesBlankPrefixWrong : ChangeSpec := { name := "fnSkipBlankLinesPassesBlankPrefix", fn := fun _ => fun
  | [d1, d2] => { results := [.lit (.bool false)], args := [d1, d2] }
  | _ => none }
def FnSkipBlankLinesPassesBlankPrefixWrongFalsely : Prop := fnSkipBlankLinesPassesBlankPrefixRow.holds Try.pinned (OpenSpec.ofChange fnSkipBlankLinesPassesBlankPrefixWrong)

/-- 'zzlaws_internal_document_b1.FnSkipBlankLinesLandsOnContentLine': WHATEVER THE INPUT: true; the input reads as it did. -/
def fnSkipBlankLinesLandsOnContentLineSpec : ChangeSpec := { name := "fnSkipBlankLinesLandsOnContentLine", fn := fun _ => fun
  | [d1, d2, d3] => { results := [.lit (.bool true)], args := [d1, d2, d3] }
  | _ => none }
def fnSkipBlankLinesLandsOnContentLineRow : OpenClaim := { program := "qxb6600070a", sum := "db7a2247d4e1cec2a64f7472db46e01942dfc82df12d6f999c02fe9643ee31ce", func := "example.com/nodewright/nodewright/zzlaws_internal_document_b1.FnSkipBlankLinesLandsOnContentLine", spec := "fnSkipBlankLinesLandsOnContentLine", inPlace := ["internal/bytealg.IndexByte"], apart := false }
def FnSkipBlankLinesLandsOnContentLineSaid : Prop := fnSkipBlankLinesLandsOnContentLineRow.holds Try.pinned (OpenSpec.ofChange fnSkipBlankLinesLandsOnContentLineSpec)

/-- ITS FALSE NEIGHBOUR: 'it returns false'. Refute it at one input. -/
def fnSkipBlankLinesLandsOnContentLineWrong : ChangeSpec := { name := "fnSkipBlankLinesLandsOnContentLine", fn := fun _ => fun
  | [d1, d2, d3] => { results := [.lit (.bool false)], args := [d1, d2, d3] }
  | _ => none }
def FnSkipBlankLinesLandsOnContentLineWrongFalsely : Prop := fnSkipBlankLinesLandsOnContentLineRow.holds Try.pinned (OpenSpec.ofChange fnSkipBlankLinesLandsOnContentLineWrong)

end Rows
end Go.Proofs.Qxb6600070a
