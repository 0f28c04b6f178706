/-
  No cell of these rows narrows 'for every input' (looked for: loops, veiled, ifaces, maps, wideKeys, modest, calm, conditions, laid).
  DERIVED. THE GIVEN ROWS OF THIS SEAT. 3 by the template 'for every input the law returns true; each argument reads behind the call as it read before'; 0 by the template 'total and deterministic' (their statements: Qxb6617098aTotals.lean).
  GIVEN WITH THE SEED: the statements are not yours to turn. If you find one false, say at which input.
  Laid BY PROGRAM, IN A SANDBOX (cutbox-rows.mjs): the forced cells as the released guide's own fill.sh prints them over the translation 33c10d506b40b607… (all of the seat's roots in one cut). By AI agents, Wed Nov 11 2026. No macro, syntax, notation, axiom, sorry.
-/
import Derived.Test.Qxb6617098aChecked
import GoSem.Claim
import GoSem.ClaimJoined
import GoSem.ClaimMapViews
import Derived.JoinedTies
import Derived.KernelRfl
namespace Go.Proofs.Qxb6617098a
/- THE CELL 'sum', in the pinned program and in every row, IS THE sha256 OF THE DUMP (.gsa) THAT Qxb6617098aProg.lean LOADS. Nothing in Lean hashes anything: it is a label: what it is worth is what the hold of that sum in a sandbox is worth. -/
noncomputable def Try.pinned : Pinned := { name := "qxb6617098a", sum := "33c10d506b40b607c815198dd8b193de17f81bec5364cc24282c47ac12a4433e", checked := Try.checked }
namespace Rows
def none {H : Type} : Left H := { results := [], args := [] }

/-- 'zzlaws_authorize_b1.FnNarrowKeepsExactlyTheRequestedGrants': WHATEVER THE INPUT: true; the input reads as it did. -/
def fnNarrowKeepsExactlyTheRequestedGrantsSpec : ChangeSpec := { name := "fnNarrowKeepsExactlyTheRequestedGrants", fn := fun _ => fun
  | [d1, d2] => { results := [.lit (.bool true)], args := [d1, d2] }
  | _ => none }
def fnNarrowKeepsExactlyTheRequestedGrantsRow : OpenClaim := { program := "qxb6617098a", sum := "33c10d506b40b607c815198dd8b193de17f81bec5364cc24282c47ac12a4433e", func := "example.com/issuer/issuer/zzlaws_authorize_b1.FnNarrowKeepsExactlyTheRequestedGrants", spec := "fnNarrowKeepsExactlyTheRequestedGrants", apart := false }
def FnNarrowKeepsExactlyTheRequestedGrantsSaid : Prop := fnNarrowKeepsExactlyTheRequestedGrantsRow.holds Try.pinned (OpenSpec.ofChange fnNarrowKeepsExactlyTheRequestedGrantsSpec)

/-- ITS FALSE NEIGHBOUR: 'it returns false'. Refute it at one input. -/
def fnNarrowKeepsExactlyTheRequestedGrantsWrong : ChangeSpec := { name := "fnNarrowKeepsExactlyTheRequestedGrants", fn := fun _ => fun
  | [d1, d2] => { results := [.lit (.bool false)], args := [d1, d2] }
  | _ => none }
def FnNarrowKeepsExactlyTheRequestedGrantsWrongFalsely : Prop := fnNarrowKeepsExactlyTheRequestedGrantsRow.holds Try.pinned (OpenSpec.ofChange fnNarrowKeepsExactlyTheRequestedGrantsWrong)

/-- 'zzlaws_authorize_b1.FnNarrowTwiceIsNarrowOnceToTheLater': WHATEVER THE INPUT: true; the input reads as it did. -/
def fnNarrowTwiceIsNarrowOnceToTheLaterSpec : ChangeSpec := { name := "fnNarrowTwiceIsNarrowOnceToTheLater", fn := fun _ => fun
  | [d1, d2, d3] => { results := [.lit (.bool true)], args := [d1, d2, d3] }
  | _ => none }
def fnNarrowTwiceIsNarrowOnceToTheLaterRow : OpenClaim := { program := "qxb6617098a", sum := "33c10d506b40b607c815198dd8b193de17f81bec5364cc24282c47ac12a4433e", func := "example.com/issuer/issuer/zzlaws_authorize_b1.FnNarrowTwiceIsNarrowOnceToTheLater", spec := "fnNarrowTwiceIsNarrowOnceToTheLater", apart := false }
def FnNarrowTwiceIsNarrowOnceToTheLaterSaid : Prop := fnNarrowTwiceIsNarrowOnceToTheLaterRow.holds Try.pinned (OpenSpec.ofChange fnNarrowTwiceIsNarrowOnceToTheLaterSpec)

/-- ITS FALSE NEIGHBOUR: 'it returns false'. Refute it at one input. -/
def fnNarrowTwiceIsNarrowOnceToTheLaterWrong : ChangeSpec := { name := "fnNarrowTwiceIsNarrowOnceToTheLater", fn := fun _ => fun
  | [d1, d2, d3] => { results := [.lit (.bool false)], args := [d1, d2, d3] }
  | _ => none }
def FnNarrowTwiceIsNarrowOnceToTheLaterWrongFalsely : Prop := fnNarrowTwiceIsNarrowOnceToTheLaterRow.holds Try.pinned (OpenSpec.ofChange fnNarrowTwiceIsNarrowOnceToTheLaterWrong)

/-- 'zzlaws_authorize_b1.FnNarrowIgnoresAnUnrequestedGrant': WHATEVER THE INPUT: true; the input reads as it did. -/
def fnNarrowIgnoresAnUnrequestedGrantSpec : ChangeSpec := { name := "fnNarrowIgnoresAnUnrequestedGrant", fn := fun _ => fun
  | [d1, d2, d3, d4] => { results := [.lit (.bool true)], args := [d1, d2, d3, d4] }
  | _ => none }
def fnNarrowIgnoresAnUnrequestedGrantRow : OpenClaim := { program := "qxb6617098a", sum := "33c10d506b40b607c815198dd8b193de17f81bec5364cc24282c47ac12a4433e", func := "example.com/issuer/issuer/zzlaws_authorize_b1.FnNarrowIgnoresAnUnrequestedGrant", spec := "fnNarrowIgnoresAnUnrequestedGrant", apart := false }
def FnNarrowIgnoresAnUnrequestedGrantSaid : Prop := fnNarrowIgnoresAnUnrequestedGrantRow.holds Try.pinned (OpenSpec.ofChange fnNarrowIgnoresAnUnrequestedGrantSpec)

/-- ITS FALSE NEIGHBOUR: 'it returns false'. Refute it at one input. -/
def fnNarrowIgnoresAnUnrequestedGrantWrong : ChangeSpec := { name := "fnNarrowIgnoresAnUnrequestedGrant", fn := fun _ => fun
  | [d1, d2, d3, d4] => { results := [.lit (.bool false)], args := [d1, d2, d3, d4] }
  | _ => none }
def FnNarrowIgnoresAnUnrequestedGrantWrongFalsely : Prop := fnNarrowIgnoresAnUnrequestedGrantRow.holds Try.pinned (OpenSpec.ofChange fnNarrowIgnoresAnUnrequestedGrantWrong)

end Rows
end Go.Proofs.Qxb6617098a
