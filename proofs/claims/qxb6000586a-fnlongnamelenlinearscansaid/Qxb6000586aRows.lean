/-
  No cell of these rows narrows 'for every input' (looked for: loops, veiled, ifaces, maps, wideKeys, modest, calm, conditions, laid).
  DERIVED. THE GIVEN ROWS OF THIS SEAT. 6 by the template 'for every input the law returns true; each argument reads behind the call as it read before'; 0 by the template 'total and deterministic' (their statements: Qxb6000586aTotals.lean).
  GIVEN WITH THE SEED: the statements are not yours to turn. If you find one false, say at which input.
  Laid BY PROGRAM, IN A SANDBOX (cutbox-rows.mjs): the forced cells as the released guide's own fill.sh prints them over the translation 201ce34ad1b500fb… (all of the seat's roots in one cut). By AI agents, Wed Nov 11 2026. No macro, syntax, notation, axiom, sorry.
-/
import Derived.Test.Qxb6000586aChecked
import GoSem.Claim
import GoSem.ClaimJoined
import GoSem.ClaimMapViews
import Derived.JoinedTies
import Derived.KernelRfl
namespace Go.Proofs.Qxb6000586a
/- THE CELL 'sum', in the pinned program and in every row, IS THE sha256 OF THE DUMP (.gsa) THAT Qxb6000586aProg.lean LOADS. Nothing in Lean hashes anything: it is a label: what it is worth is what the hold of that sum in a sandbox is worth. -/
noncomputable def Try.pinned : Pinned := { name := "qxb6000586a", sum := "201ce34ad1b500fbc222a279a8f5c06f3d07d9712bff4463dbeb723772362cac", checked := Try.checked }
namespace Rows
def none {H : Type} : Left H := { results := [], args := [] }

/-- 'zzlaws_internal_upgrade_b1.FnHexEscapeRoundTrip': WHATEVER THE INPUT: true; the input reads as it did. -/
def fnHexEscapeRoundTripSpec : ChangeSpec := { name := "fnHexEscapeRoundTrip", fn := fun _ => fun
  | [d1, d2, d3] => { results := [.lit (.bool true)], args := [d1, d2, d3] }
  | _ => none }
def fnHexEscapeRoundTripRow : OpenClaim := { program := "qxb6000586a", sum := "201ce34ad1b500fbc222a279a8f5c06f3d07d9712bff4463dbeb723772362cac", func := "example.com/batonpass/batonpass/zzlaws_internal_upgrade_b1.FnHexEscapeRoundTrip", spec := "fnHexEscapeRoundTrip", apart := false }
def FnHexEscapeRoundTripSaid : Prop := fnHexEscapeRoundTripRow.holds Try.pinned (OpenSpec.ofChange fnHexEscapeRoundTripSpec)

/-- ITS FALSE NEIGHBOUR: 'it returns false'. Refute it at one input. -/
def fnHexEscapeRoundTripWrong : ChangeSpec := { name := "fnHexEscapeRoundTrip", fn := fun _ => fun
  | [d1, d2, d3] => { results := [.lit (.bool false)], args := [d1, d2, d3] }
  | _ => none }
def FnHexEscapeRoundTripWrongFalsely : Prop := fnHexEscapeRoundTripRow.holds Try.pinned (OpenSpec.ofChange fnHexEscapeRoundTripWrong)

/-- 'zzlaws_internal_upgrade_b1.FnHexEscapeExactAcceptance': WHATEVER THE INPUT: true; the input reads as it did. -/
def fnHexEscapeExactAcceptanceSpec : ChangeSpec := { name := "fnHexEscapeExactAcceptance", fn := fun _ => fun
  | [d] => { results := [.lit (.bool true)], args := [d] }
  | _ => none }
def fnHexEscapeExactAcceptanceRow : OpenClaim := { program := "qxb6000586a", sum := "201ce34ad1b500fbc222a279a8f5c06f3d07d9712bff4463dbeb723772362cac", func := "example.com/batonpass/batonpass/zzlaws_internal_upgrade_b1.FnHexEscapeExactAcceptance", spec := "fnHexEscapeExactAcceptance", apart := false }
def FnHexEscapeExactAcceptanceSaid : Prop := fnHexEscapeExactAcceptanceRow.holds Try.pinned (OpenSpec.ofChange fnHexEscapeExactAcceptanceSpec)

/-- ITS FALSE NEIGHBOUR: 'it returns false'. Refute it at one input. -/
def fnHexEscapeExactAcceptanceWrong : ChangeSpec := { name := "fnHexEscapeExactAcceptance", fn := fun _ => fun
  | [d] => { results := [.lit (.bool false)], args := [d] }
  | _ => none }
def FnHexEscapeExactAcceptanceWrongFalsely : Prop := fnHexEscapeExactAcceptanceRow.holds Try.pinned (OpenSpec.ofChange fnHexEscapeExactAcceptanceWrong)

/-- 'zzlaws_internal_upgrade_b1.FnLongNameLenLinearScan': WHATEVER THE INPUT: true; the input reads as it did. -/
def fnLongNameLenLinearScanSpec : ChangeSpec := { name := "fnLongNameLenLinearScan", fn := fun _ => fun
  | [d] => { results := [.lit (.bool true)], args := [d] }
  | _ => none }
def fnLongNameLenLinearScanRow : OpenClaim := { program := "qxb6000586a", sum := "201ce34ad1b500fbc222a279a8f5c06f3d07d9712bff4463dbeb723772362cac", func := "example.com/batonpass/batonpass/zzlaws_internal_upgrade_b1.FnLongNameLenLinearScan", spec := "fnLongNameLenLinearScan", inPlace := ["internal/bytealg.IndexByte"], apart := false }
def FnLongNameLenLinearScanSaid : Prop := fnLongNameLenLinearScanRow.holds Try.pinned (OpenSpec.ofChange fnLongNameLenLinearScanSpec)

/-- ITS FALSE NEIGHBOUR: 'it returns false'. Refute it at one input. -/
def fnLongNameLenLinearScanWrong : ChangeSpec := { name := "fnLongNameLenLinearScan", fn := fun _ => fun
  | [d] => { results := [.lit (.bool false)], args := [d] }
  | _ => none }
def FnLongNameLenLinearScanWrongFalsely : Prop := fnLongNameLenLinearScanRow.holds Try.pinned (OpenSpec.ofChange fnLongNameLenLinearScanWrong)

/-- 'zzlaws_internal_upgrade_b1.FnLongNameLenPrefix': WHATEVER THE INPUT: true; the input reads as it did. -/
def fnLongNameLenPrefixSpec : ChangeSpec := { name := "fnLongNameLenPrefix", fn := fun _ => fun
  | [d1, d2] => { results := [.lit (.bool true)], args := [d1, d2] }
  | _ => none }
def fnLongNameLenPrefixRow : OpenClaim := { program := "qxb6000586a", sum := "201ce34ad1b500fbc222a279a8f5c06f3d07d9712bff4463dbeb723772362cac", func := "example.com/batonpass/batonpass/zzlaws_internal_upgrade_b1.FnLongNameLenPrefix", spec := "fnLongNameLenPrefix", inPlace := ["internal/bytealg.IndexByte"], apart := false }
def FnLongNameLenPrefixSaid : Prop := fnLongNameLenPrefixRow.holds Try.pinned (OpenSpec.ofChange fnLongNameLenPrefixSpec)

/-- ITS FALSE NEIGHBOUR: 'it returns false'. Refute it at one input. -/
def fnLongNameLenPrefixWrong : ChangeSpec := { name := "fnLongNameLenPrefix", fn := fun _ => fun
  | [d1, d2] => { results := [.lit (.bool false)], args := [d1, d2] }
  | _ => none }
def FnLongNameLenPrefixWrongFalsely : Prop := fnLongNameLenPrefixRow.holds Try.pinned (OpenSpec.ofChange fnLongNameLenPrefixWrong)

/-- 'zzlaws_internal_upgrade_b1.FnReadWhenContract': WHATEVER THE INPUT: true; the input reads as it did. -/
def fnReadWhenContractSpec : ChangeSpec := { name := "fnReadWhenContract", fn := fun _ => fun
  | [d] => { results := [.lit (.bool true)], args := [d] }
  | _ => none }
def fnReadWhenContractRow : OpenClaim := { program := "qxb6000586a", sum := "201ce34ad1b500fbc222a279a8f5c06f3d07d9712bff4463dbeb723772362cac", func := "example.com/batonpass/batonpass/zzlaws_internal_upgrade_b1.FnReadWhenContract", spec := "fnReadWhenContract", apart := false }
def FnReadWhenContractSaid : Prop := fnReadWhenContractRow.holds Try.pinned (OpenSpec.ofChange fnReadWhenContractSpec)

/-- ITS FALSE NEIGHBOUR: 'it returns false'. Refute it at one input. -/
def fnReadWhenContractWrong : ChangeSpec := { name := "fnReadWhenContract", fn := fun _ => fun
  | [d] => { results := [.lit (.bool false)], args := [d] }
  | _ => none }
def FnReadWhenContractWrongFalsely : Prop := fnReadWhenContractRow.holds Try.pinned (OpenSpec.ofChange fnReadWhenContractWrong)

/-- 'zzlaws_internal_upgrade_b1.FnReadWhenCaseFold': WHATEVER THE INPUT: true; the input reads as it did. -/
def fnReadWhenCaseFoldSpec : ChangeSpec := { name := "fnReadWhenCaseFold", fn := fun _ => fun
  | [d1, d2] => { results := [.lit (.bool true)], args := [d1, d2] }
  | _ => none }
def fnReadWhenCaseFoldRow : OpenClaim := { program := "qxb6000586a", sum := "201ce34ad1b500fbc222a279a8f5c06f3d07d9712bff4463dbeb723772362cac", func := "example.com/batonpass/batonpass/zzlaws_internal_upgrade_b1.FnReadWhenCaseFold", spec := "fnReadWhenCaseFold", apart := false }
def FnReadWhenCaseFoldSaid : Prop := fnReadWhenCaseFoldRow.holds Try.pinned (OpenSpec.ofChange fnReadWhenCaseFoldSpec)

/-- ITS FALSE NEIGHBOUR: 'it returns false'. Refute it at one input. -/
def fnReadWhenCaseFoldWrong : ChangeSpec := { name := "fnReadWhenCaseFold", fn := fun _ => fun
  | [d1, d2] => { results := [.lit (.bool false)], args := [d1, d2] }
  | _ => none }
def FnReadWhenCaseFoldWrongFalsely : Prop := fnReadWhenCaseFoldRow.holds Try.pinned (OpenSpec.ofChange fnReadWhenCaseFoldWrong)

end Rows
end Go.Proofs.Qxb6000586a
