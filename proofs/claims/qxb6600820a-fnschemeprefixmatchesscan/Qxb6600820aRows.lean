/-
  No cell of these rows narrows 'for every input' (looked for: loops, veiled, ifaces, maps, wideKeys, modest, calm, conditions, laid).
  DERIVED. THE GIVEN ROWS OF THIS SEAT. 4 by the template 'for every input the law returns true; each argument reads behind the call as it read before'; 0 by the template 'total and deterministic' (their statements: Qxb6600820aTotals.lean).
  GIVEN WITH THE SEED: the statements are not yours to turn. If you find one false, say at which input.
  Laid BY PROGRAM, IN A SANDBOX (cutbox-rows.mjs): the forced cells as the released guide's own fill.sh prints them over the translation facc87892d4eb281… (all of the seat's roots in one cut). By AI agents, Wed Nov 11 2026. No macro, syntax, notation, axiom, sorry.
-/
import Derived.Test.Qxb6600820aChecked
import GoSem.Claim
import GoSem.ClaimJoined
import GoSem.ClaimMapViews
import Derived.JoinedTies
import Derived.KernelRfl
namespace Go.Proofs.Qxb6600820a
/- THE CELL 'sum', in the pinned program and in every row, IS THE sha256 OF THE DUMP (.gsa) THAT Qxb6600820aProg.lean LOADS. Nothing in Lean hashes anything: it is a label: what it is worth is what the hold of that sum in a sandbox is worth. -/
noncomputable def Try.pinned : Pinned := { name := "qxb6600820a", sum := "facc87892d4eb28159952cc5df9c3c81201f1388cd81280b767d0a9f295d1ffb", checked := Try.checked }
namespace Rows
def none {H : Type} : Left H := { results := [], args := [] }

/-- 'zzlaws_model_b1.FnSchemePrefixMatchesScan': WHATEVER THE INPUT: true; the input reads as it did. -/
def fnSchemePrefixMatchesScanSpec : ChangeSpec := { name := "fnSchemePrefixMatchesScan", fn := fun _ => fun
  | [d] => { results := [.lit (.bool true)], args := [d] }
  | _ => none }
def fnSchemePrefixMatchesScanRow : OpenClaim := { program := "qxb6600820a", sum := "facc87892d4eb28159952cc5df9c3c81201f1388cd81280b767d0a9f295d1ffb", func := "example.com/sluice/sluice/zzlaws_model_b1.FnSchemePrefixMatchesScan", spec := "fnSchemePrefixMatchesScan", inPlace := ["internal/bytealg.IndexByteString"], apart := false }
def FnSchemePrefixMatchesScanSaid : Prop := fnSchemePrefixMatchesScanRow.holds Try.pinned (OpenSpec.ofChange fnSchemePrefixMatchesScanSpec)

/-- ITS FALSE NEIGHBOUR: 'it returns false'. Refute it at one input. -/
def fnSchemePrefixMatchesScanWrong : ChangeSpec := { name := "fnSchemePrefixMatchesScan", fn := fun _ => fun
  | [d] => { results := [.lit (.bool false)], args := [d] }
  | _ => none }
def FnSchemePrefixMatchesScanWrongFalsely : Prop := fnSchemePrefixMatchesScanRow.holds Try.pinned (OpenSpec.ofChange fnSchemePrefixMatchesScanWrong)

/-- 'zzlaws_model_b1.FnSchemePrefixIdempotentAndMaximal': WHATEVER THE INPUT: true; the input reads as it did. -/
def fnSchemePrefixIdempotentAndMaximalSpec : ChangeSpec := { name := "fnSchemePrefixIdempotentAndMaximal", fn := fun _ => fun
  | [d] => { results := [.lit (.bool true)], args := [d] }
  | _ => none }
def fnSchemePrefixIdempotentAndMaximalRow : OpenClaim := { program := "qxb6600820a", sum := "facc87892d4eb28159952cc5df9c3c81201f1388cd81280b767d0a9f295d1ffb", func := "example.com/sluice/sluice/zzlaws_model_b1.FnSchemePrefixIdempotentAndMaximal", spec := "fnSchemePrefixIdempotentAndMaximal", inPlace := ["internal/bytealg.IndexByteString"], apart := false }
def FnSchemePrefixIdempotentAndMaximalSaid : Prop := fnSchemePrefixIdempotentAndMaximalRow.holds Try.pinned (OpenSpec.ofChange fnSchemePrefixIdempotentAndMaximalSpec)

/-- ITS FALSE NEIGHBOUR: 'it returns false'. Refute it at one input. -/
def fnSchemePrefixIdempotentAndMaximalWrong : ChangeSpec := { name := "fnSchemePrefixIdempotentAndMaximal", fn := fun _ => fun
  | [d] => { results := [.lit (.bool false)], args := [d] }
  | _ => none }
def FnSchemePrefixIdempotentAndMaximalWrongFalsely : Prop := fnSchemePrefixIdempotentAndMaximalRow.holds Try.pinned (OpenSpec.ofChange fnSchemePrefixIdempotentAndMaximalWrong)

/-- 'zzlaws_model_b1.FnSchemePrefixStableUnderAppend': WHATEVER THE INPUT: true; the input reads as it did. -/
def fnSchemePrefixStableUnderAppendSpec : ChangeSpec := { name := "fnSchemePrefixStableUnderAppend", fn := fun _ => fun
  | [d1, d2] => { results := [.lit (.bool true)], args := [d1, d2] }
  | _ => none }
def fnSchemePrefixStableUnderAppendRow : OpenClaim := { program := "qxb6600820a", sum := "facc87892d4eb28159952cc5df9c3c81201f1388cd81280b767d0a9f295d1ffb", func := "example.com/sluice/sluice/zzlaws_model_b1.FnSchemePrefixStableUnderAppend", spec := "fnSchemePrefixStableUnderAppend", inPlace := ["internal/bytealg.IndexByteString"], apart := false }
def FnSchemePrefixStableUnderAppendSaid : Prop := fnSchemePrefixStableUnderAppendRow.holds Try.pinned (OpenSpec.ofChange fnSchemePrefixStableUnderAppendSpec)

/-- ITS FALSE NEIGHBOUR: 'it returns false'. Refute it at one input. -/
def fnSchemePrefixStableUnderAppendWrong : ChangeSpec := { name := "fnSchemePrefixStableUnderAppend", fn := fun _ => fun
  | [d1, d2] => { results := [.lit (.bool false)], args := [d1, d2] }
  | _ => none }
def FnSchemePrefixStableUnderAppendWrongFalsely : Prop := fnSchemePrefixStableUnderAppendRow.holds Try.pinned (OpenSpec.ofChange fnSchemePrefixStableUnderAppendWrong)

/-- 'zzlaws_model_b1.FnFreezeScopeStringInjective': WHATEVER THE INPUT: true; the input reads as it did. -/
def fnFreezeScopeStringInjectiveSpec : ChangeSpec := { name := "fnFreezeScopeStringInjective", fn := fun _ => fun
  | [d1, d2, d3, d4] => { results := [.lit (.bool true)], args := [d1, d2, d3, d4] }
  | _ => none }
def fnFreezeScopeStringInjectiveRow : OpenClaim := { program := "qxb6600820a", sum := "facc87892d4eb28159952cc5df9c3c81201f1388cd81280b767d0a9f295d1ffb", func := "example.com/sluice/sluice/zzlaws_model_b1.FnFreezeScopeStringInjective", spec := "fnFreezeScopeStringInjective", apart := false }
def FnFreezeScopeStringInjectiveSaid : Prop := fnFreezeScopeStringInjectiveRow.holds Try.pinned (OpenSpec.ofChange fnFreezeScopeStringInjectiveSpec)

/-- ITS FALSE NEIGHBOUR: 'it returns false'. Refute it at one input. -/
def fnFreezeScopeStringInjectiveWrong : ChangeSpec := { name := "fnFreezeScopeStringInjective", fn := fun _ => fun
  | [d1, d2, d3, d4] => { results := [.lit (.bool false)], args := [d1, d2, d3, d4] }
  | _ => none }
def FnFreezeScopeStringInjectiveWrongFalsely : Prop := fnFreezeScopeStringInjectiveRow.holds Try.pinned (OpenSpec.ofChange fnFreezeScopeStringInjectiveWrong)

end Rows
end Go.Proofs.Qxb6600820a
