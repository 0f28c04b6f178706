/-
  No cell of these rows narrows 'for every input' (looked for: loops, veiled, ifaces, maps, wideKeys, modest, calm, conditions, laid).
  DERIVED. THE GIVEN ROWS OF THIS SEAT. 5 by the template 'for every input the law returns true; each argument reads behind the call as it read before'; 0 by the template 'total and deterministic' (their statements: Qxb6617792aTotals.lean).
  GIVEN WITH THE SEED: the statements are not yours to turn. If you find one false, say at which input.
  Laid BY PROGRAM, IN A SANDBOX (cutbox-rows.mjs): the forced cells as the released guide's own fill.sh prints them over the translation 75781ac3252efb1f… (all of the seat's roots in one cut). By AI agents, Wed Nov 11 2026. No macro, syntax, notation, axiom, sorry.
-/
import Derived.Test.Qxb6617792aChecked
import GoSem.Claim
import GoSem.ClaimJoined
import GoSem.ClaimMapViews
import Derived.JoinedTies
import Derived.KernelRfl
namespace Go.Proofs.Qxb6617792a
/- THE CELL 'sum', in the pinned program and in every row, IS THE sha256 OF THE DUMP (.gsa) THAT Qxb6617792aProg.lean LOADS. Nothing in Lean hashes anything: it is a label: what it is worth is what the hold of that sum in a sandbox is worth. -/
noncomputable def Try.pinned : Pinned := { name := "qxb6617792a", sum := "75781ac3252efb1ffb203becfe0d039260f07f5610f0006e8760d7c5955820c9", checked := Try.checked }
namespace Rows
def none {H : Type} : Left H := { results := [], args := [] }

/-- 'zzlaws_root_b1.FnAppendStreamAgreesAtAnyCut': WHATEVER THE INPUT: true; the input reads as it did. -/
def fnAppendStreamAgreesAtAnyCutSpec : ChangeSpec := { name := "fnAppendStreamAgreesAtAnyCut", fn := fun _ => fun
  | [d1, d2, d3] => { results := [.lit (.bool true)], args := [d1, d2, d3] }
  | _ => none }
def fnAppendStreamAgreesAtAnyCutRow : OpenClaim := { program := "qxb6617792a", sum := "75781ac3252efb1ffb203becfe0d039260f07f5610f0006e8760d7c5955820c9", func := "example.com/wirefold/wirefold/zzlaws_root_b1.FnAppendStreamAgreesAtAnyCut", spec := "fnAppendStreamAgreesAtAnyCut", apart := false }
def FnAppendStreamAgreesAtAnyCutSaid : Prop := fnAppendStreamAgreesAtAnyCutRow.holds Try.pinned (OpenSpec.ofChange fnAppendStreamAgreesAtAnyCutSpec)

/-- ITS FALSE NEIGHBOUR: 'it returns false'. Refute it at one input. -/
def fnAppendStreamAgreesAtAnyCutWrong : ChangeSpec := { name := "fnAppendStreamAgreesAtAnyCut", fn := fun _ => fun
  | [d1, d2, d3] => { results := [.lit (.bool false)], args := [d1, d2, d3] }
  | _ => none }
def FnAppendStreamAgreesAtAnyCutWrongFalsely : Prop := fnAppendStreamAgreesAtAnyCutRow.holds Try.pinned (OpenSpec.ofChange fnAppendStreamAgreesAtAnyCutWrong)

/-- 'zzlaws_root_b1.FnEndJoinsAtAnyCut': WHATEVER THE INPUT: true; the input reads as it did. -/
def fnEndJoinsAtAnyCutSpec : ChangeSpec := { name := "fnEndJoinsAtAnyCut", fn := fun _ => fun
  | [d1, d2, d3, d4] => { results := [.lit (.bool true)], args := [d1, d2, d3, d4] }
  | _ => none }
def fnEndJoinsAtAnyCutRow : OpenClaim := { program := "qxb6617792a", sum := "75781ac3252efb1ffb203becfe0d039260f07f5610f0006e8760d7c5955820c9", func := "example.com/wirefold/wirefold/zzlaws_root_b1.FnEndJoinsAtAnyCut", spec := "fnEndJoinsAtAnyCut", apart := false }
def FnEndJoinsAtAnyCutSaid : Prop := fnEndJoinsAtAnyCutRow.holds Try.pinned (OpenSpec.ofChange fnEndJoinsAtAnyCutSpec)

/-- ITS FALSE NEIGHBOUR: 'it returns false'. Refute it at one input. -/
def fnEndJoinsAtAnyCutWrong : ChangeSpec := { name := "fnEndJoinsAtAnyCut", fn := fun _ => fun
  | [d1, d2, d3, d4] => { results := [.lit (.bool false)], args := [d1, d2, d3, d4] }
  | _ => none }
def FnEndJoinsAtAnyCutWrongFalsely : Prop := fnEndJoinsAtAnyCutRow.holds Try.pinned (OpenSpec.ofChange fnEndJoinsAtAnyCutWrong)

/-- 'zzlaws_root_b1.FnEndOrdersTheCuts': WHATEVER THE INPUT: true; the input reads as it did. -/
def fnEndOrdersTheCutsSpec : ChangeSpec := { name := "fnEndOrdersTheCuts", fn := fun _ => fun
  | [d1, d2, d3, d4] => { results := [.lit (.bool true)], args := [d1, d2, d3, d4] }
  | _ => none }
def fnEndOrdersTheCutsRow : OpenClaim := { program := "qxb6617792a", sum := "75781ac3252efb1ffb203becfe0d039260f07f5610f0006e8760d7c5955820c9", func := "example.com/wirefold/wirefold/zzlaws_root_b1.FnEndOrdersTheCuts", spec := "fnEndOrdersTheCuts", apart := false }
def FnEndOrdersTheCutsSaid : Prop := fnEndOrdersTheCutsRow.holds Try.pinned (OpenSpec.ofChange fnEndOrdersTheCutsSpec)

/-- ITS FALSE NEIGHBOUR: 'it returns false'. Refute it at one input. -/
def fnEndOrdersTheCutsWrong : ChangeSpec := { name := "fnEndOrdersTheCuts", fn := fun _ => fun
  | [d1, d2, d3, d4] => { results := [.lit (.bool false)], args := [d1, d2, d3, d4] }
  | _ => none }
def FnEndOrdersTheCutsWrongFalsely : Prop := fnEndOrdersTheCutsRow.holds Try.pinned (OpenSpec.ofChange fnEndOrdersTheCutsWrong)

/-- 'zzlaws_root_b1.FnHoldKeepsExactlyTheRecords': WHATEVER THE INPUT: true; the input reads as it did. -/
def fnHoldKeepsExactlyTheRecordsSpec : ChangeSpec := { name := "fnHoldKeepsExactlyTheRecords", fn := fun _ => fun
  | [d1, d2] => { results := [.lit (.bool true)], args := [d1, d2] }
  | _ => none }
def fnHoldKeepsExactlyTheRecordsRow : OpenClaim := { program := "qxb6617792a", sum := "75781ac3252efb1ffb203becfe0d039260f07f5610f0006e8760d7c5955820c9", func := "example.com/wirefold/wirefold/zzlaws_root_b1.FnHoldKeepsExactlyTheRecords", spec := "fnHoldKeepsExactlyTheRecords", apart := false }
def FnHoldKeepsExactlyTheRecordsSaid : Prop := fnHoldKeepsExactlyTheRecordsRow.holds Try.pinned (OpenSpec.ofChange fnHoldKeepsExactlyTheRecordsSpec)

/-- ITS FALSE NEIGHBOUR: 'it returns false'. Refute it at one input. -/
def fnHoldKeepsExactlyTheRecordsWrong : ChangeSpec := { name := "fnHoldKeepsExactlyTheRecords", fn := fun _ => fun
  | [d1, d2] => { results := [.lit (.bool false)], args := [d1, d2] }
  | _ => none }
def FnHoldKeepsExactlyTheRecordsWrongFalsely : Prop := fnHoldKeepsExactlyTheRecordsRow.holds Try.pinned (OpenSpec.ofChange fnHoldKeepsExactlyTheRecordsWrong)

/-- 'zzlaws_root_b1.FnHoldAppendsWhatIsNewAndIgnoresARepeat': WHATEVER THE INPUT: true; the input reads as it did. -/
def fnHoldAppendsWhatIsNewAndIgnoresARepeatSpec : ChangeSpec := { name := "fnHoldAppendsWhatIsNewAndIgnoresARepeat", fn := fun _ => fun
  | [d1, d2, d3, d4] => { results := [.lit (.bool true)], args := [d1, d2, d3, d4] }
  | _ => none }
def fnHoldAppendsWhatIsNewAndIgnoresARepeatRow : OpenClaim := { program := "qxb6617792a", sum := "75781ac3252efb1ffb203becfe0d039260f07f5610f0006e8760d7c5955820c9", func := "example.com/wirefold/wirefold/zzlaws_root_b1.FnHoldAppendsWhatIsNewAndIgnoresARepeat", spec := "fnHoldAppendsWhatIsNewAndIgnoresARepeat", apart := false }
def FnHoldAppendsWhatIsNewAndIgnoresARepeatSaid : Prop := fnHoldAppendsWhatIsNewAndIgnoresARepeatRow.holds Try.pinned (OpenSpec.ofChange fnHoldAppendsWhatIsNewAndIgnoresARepeatSpec)

/-- ITS FALSE NEIGHBOUR: 'it returns false'. Refute it at one input. -/
def fnHoldAppendsWhatIsNewAndIgnoresARepeatWrong : ChangeSpec := { name := "fnHoldAppendsWhatIsNewAndIgnoresARepeat", fn := fun _ => fun
  | [d1, d2, d3, d4] => { results := [.lit (.bool false)], args := [d1, d2, d3, d4] }
  | _ => none }
def FnHoldAppendsWhatIsNewAndIgnoresARepeatWrongFalsely : Prop := fnHoldAppendsWhatIsNewAndIgnoresARepeatRow.holds Try.pinned (OpenSpec.ofChange fnHoldAppendsWhatIsNewAndIgnoresARepeatWrong)

end Rows
end Go.Proofs.Qxb6617792a
