/-
  No cell of these rows narrows 'for every input' (looked for: loops, veiled, ifaces, maps, wideKeys, modest, calm, conditions, laid).
  DERIVED. THE GIVEN ROWS OF THIS SEAT. 4 by the template 'for every input the law returns true; each argument reads behind the call as it read before'; 0 by the template 'total and deterministic' (their statements: Qxb6000821aTotals.lean).
  GIVEN WITH THE SEED: the statements are not yours to turn. If you find one false, say at which input.
  Laid BY PROGRAM, IN A SANDBOX (cutbox-rows.mjs): the forced cells as the released guide's own fill.sh prints them over the translation 96629cec3880303f… (all of the seat's roots in one cut). By AI agents, Wed Nov 11 2026. No macro, syntax, notation, axiom, sorry.
-/
import Derived.Test.Qxb6000821aChecked
import GoSem.Claim
import GoSem.ClaimJoined
import GoSem.ClaimMapViews
import Derived.JoinedTies
import Derived.KernelRfl
namespace Go.Proofs.Qxb6000821a
/- THE CELL 'sum', in the pinned program and in every row, IS THE sha256 OF THE DUMP (.gsa) THAT Qxb6000821aProg.lean LOADS. Nothing in Lean hashes anything: it is a label: what it is worth is what the hold of that sum in a sandbox is worth. -/
noncomputable def Try.pinned : Pinned := { name := "qxb6000821a", sum := "96629cec3880303fb3fbec94afbf74d1d23e702083c92db8184236f98a21a678", checked := Try.checked }
namespace Rows
def none {H : Type} : Left H := { results := [], args := [] }

/-- 'zzlaws_root_b1.FnAppendLeadingDstIndependent': WHATEVER THE INPUT: true; the input reads as it did. -/
def fnAppendLeadingDstIndependentSpec : ChangeSpec := { name := "fnAppendLeadingDstIndependent", fn := fun _ => fun
  | [d1, d2, d3, d4, d5, d6, d7] => { results := [.lit (.bool true)], args := [d1, d2, d3, d4, d5, d6, d7] }
  | _ => none }
def fnAppendLeadingDstIndependentRow : OpenClaim := { program := "qxb6000821a", sum := "96629cec3880303fb3fbec94afbf74d1d23e702083c92db8184236f98a21a678", func := "example.com/precedence/precedence/zzlaws_root_b1.FnAppendLeadingDstIndependent", spec := "fnAppendLeadingDstIndependent", inPlace := ["internal/bytealg.IndexByteString"], unfollowed := true, recurses := true, apart := false }
def FnAppendLeadingDstIndependentSaid : Prop := fnAppendLeadingDstIndependentRow.holds Try.pinned (OpenSpec.ofChange fnAppendLeadingDstIndependentSpec)

/-- ITS FALSE NEIGHBOUR: 'it returns false'. Refute it at one input. -/
def fnAppendLeadingDstIndependentWrong : ChangeSpec := { name := "fnAppendLeadingDstIndependent", fn := fun _ => fun
  | [d1, d2, d3, d4, d5, d6, d7] => { results := [.lit (.bool false)], args := [d1, d2, d3, d4, d5, d6, d7] }
  | _ => none }
def FnAppendLeadingDstIndependentWrongFalsely : Prop := fnAppendLeadingDstIndependentRow.holds Try.pinned (OpenSpec.ofChange fnAppendLeadingDstIndependentWrong)

/-- 'zzlaws_root_b1.FnAppendLeadingIdentityFormKeepsName': WHATEVER THE INPUT: true; the input reads as it did. -/
def fnAppendLeadingIdentityFormKeepsNameSpec : ChangeSpec := { name := "fnAppendLeadingIdentityFormKeepsName", fn := fun _ => fun
  | [d1, d2] => { results := [.lit (.bool true)], args := [d1, d2] }
  | _ => none }
def fnAppendLeadingIdentityFormKeepsNameRow : OpenClaim := { program := "qxb6000821a", sum := "96629cec3880303fb3fbec94afbf74d1d23e702083c92db8184236f98a21a678", func := "example.com/precedence/precedence/zzlaws_root_b1.FnAppendLeadingIdentityFormKeepsName", spec := "fnAppendLeadingIdentityFormKeepsName", inPlace := ["internal/bytealg.IndexByteString"], unfollowed := true, recurses := true, apart := false }
def FnAppendLeadingIdentityFormKeepsNameSaid : Prop := fnAppendLeadingIdentityFormKeepsNameRow.holds Try.pinned (OpenSpec.ofChange fnAppendLeadingIdentityFormKeepsNameSpec)

/-- ITS FALSE NEIGHBOUR: 'it returns false'. Refute it at one input. -/
def fnAppendLeadingIdentityFormKeepsNameWrong : ChangeSpec := { name := "fnAppendLeadingIdentityFormKeepsName", fn := fun _ => fun
  | [d1, d2] => { results := [.lit (.bool false)], args := [d1, d2] }
  | _ => none }
def FnAppendLeadingIdentityFormKeepsNameWrongFalsely : Prop := fnAppendLeadingIdentityFormKeepsNameRow.holds Try.pinned (OpenSpec.ofChange fnAppendLeadingIdentityFormKeepsNameWrong)

/-- 'zzlaws_root_b1.FnAppendLeadingCanonicalSpec': WHATEVER THE INPUT: true; the input reads as it did. -/
def fnAppendLeadingCanonicalSpecSpec : ChangeSpec := { name := "fnAppendLeadingCanonicalSpec", fn := fun _ => fun
  | [d1, d2] => { results := [.lit (.bool true)], args := [d1, d2] }
  | _ => none }
def fnAppendLeadingCanonicalSpecRow : OpenClaim := { program := "qxb6000821a", sum := "96629cec3880303fb3fbec94afbf74d1d23e702083c92db8184236f98a21a678", func := "example.com/precedence/precedence/zzlaws_root_b1.FnAppendLeadingCanonicalSpec", spec := "fnAppendLeadingCanonicalSpec", inPlace := ["internal/bytealg.IndexByteString"], unfollowed := true, recurses := true, apart := false }
def FnAppendLeadingCanonicalSpecSaid : Prop := fnAppendLeadingCanonicalSpecRow.holds Try.pinned (OpenSpec.ofChange fnAppendLeadingCanonicalSpecSpec)

/-- ITS FALSE NEIGHBOUR: 'it returns false'. Refute it at one input. -/
def fnAppendLeadingCanonicalSpecWrong : ChangeSpec := { name := "fnAppendLeadingCanonicalSpec", fn := fun _ => fun
  | [d1, d2] => { results := [.lit (.bool false)], args := [d1, d2] }
  | _ => none }
def FnAppendLeadingCanonicalSpecWrongFalsely : Prop := fnAppendLeadingCanonicalSpecRow.holds Try.pinned (OpenSpec.ofChange fnAppendLeadingCanonicalSpecWrong)

/-- 'zzlaws_root_b1.FnAppendLeadingCanonicalRefusesForeign': WHATEVER THE INPUT: true; the input reads as it did. -/
def fnAppendLeadingCanonicalRefusesForeignSpec : ChangeSpec := { name := "fnAppendLeadingCanonicalRefusesForeign", fn := fun _ => fun
  | [d1, d2, d3] => { results := [.lit (.bool true)], args := [d1, d2, d3] }
  | _ => none }
def fnAppendLeadingCanonicalRefusesForeignRow : OpenClaim := { program := "qxb6000821a", sum := "96629cec3880303fb3fbec94afbf74d1d23e702083c92db8184236f98a21a678", func := "example.com/precedence/precedence/zzlaws_root_b1.FnAppendLeadingCanonicalRefusesForeign", spec := "fnAppendLeadingCanonicalRefusesForeign", inPlace := ["internal/bytealg.IndexByteString"], unfollowed := true, recurses := true, apart := false }
def FnAppendLeadingCanonicalRefusesForeignSaid : Prop := fnAppendLeadingCanonicalRefusesForeignRow.holds Try.pinned (OpenSpec.ofChange fnAppendLeadingCanonicalRefusesForeignSpec)

/-- ITS FALSE NEIGHBOUR: 'it returns false'. Refute it at one input. -/
def fnAppendLeadingCanonicalRefusesForeignWrong : ChangeSpec := { name := "fnAppendLeadingCanonicalRefusesForeign", fn := fun _ => fun
  | [d1, d2, d3] => { results := [.lit (.bool false)], args := [d1, d2, d3] }
  | _ => none }
def FnAppendLeadingCanonicalRefusesForeignWrongFalsely : Prop := fnAppendLeadingCanonicalRefusesForeignRow.holds Try.pinned (OpenSpec.ofChange fnAppendLeadingCanonicalRefusesForeignWrong)

end Rows
end Go.Proofs.Qxb6000821a
