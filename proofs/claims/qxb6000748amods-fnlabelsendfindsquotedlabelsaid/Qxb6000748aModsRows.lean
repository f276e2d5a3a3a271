/-
  No cell of these rows narrows 'for every input' (looked for: loops, veiled, ifaces, maps, wideKeys, modest, calm, conditions, laid).
  DERIVED. THE GIVEN ROWS OF THIS SEAT. 5 by the template 'for every input the law returns true; each argument reads behind the call as it read before'; 0 by the template 'total and deterministic' (their statements: Qxb6000748aModsTotals.lean).
  GIVEN WITH THE SEED: the statements are not yours to turn. If you find one false, say at which input.
  Laid BY PROGRAM, IN A SANDBOX (cutbox-rows.mjs): the forced cells as the released guide's own fill.sh prints them over the translation c3ad08e1cbdae006… (all of the seat's roots in one cut). By AI agents, Wed Nov 11 2026. No macro, syntax, notation, axiom, sorry.
-/
import Derived.Test.Qxb6000748aModsChecked
import GoSem.Claim
import GoSem.ClaimJoined
import GoSem.ClaimMapViews
import Derived.JoinedTies
import Derived.KernelRfl
namespace Go.Proofs.Qxb6000748aMods
/- THE CELL 'sum', in the pinned program and in every row, IS THE sha256 OF THE DUMP (.gsa) THAT Qxb6000748aModsProg.lean LOADS. Nothing in Lean hashes anything: it is a label: what it is worth is what the hold of that sum in a sandbox is worth. -/
noncomputable def Trym.pinned : Pinned := { name := "qxb6000748amods", sum := "c3ad08e1cbdae006e076be09166e93a258ac77c80069f8560c80904f9786ed65", checked := Trym.checked }
namespace Rows
def none {H : Type} : Left H := { results := [], args := [] }

/-- 'zzlaws_tester_b1.FnLabelsEndPointsAtClosingBrace': WHATEVER THE INPUT: true; the input reads as it did. -/
def fnLabelsEndPointsAtClosingBraceSpec : ChangeSpec := { name := "fnLabelsEndPointsAtClosingBrace", fn := fun _ => fun
  | [d] => { results := [.lit (.bool true)], args := [d] }
  | _ => none }
def fnLabelsEndPointsAtClosingBraceRow : OpenClaim := { program := "qxb6000748amods", sum := "c3ad08e1cbdae006e076be09166e93a258ac77c80069f8560c80904f9786ed65", func := "example.com/stormproof/stormproof/zzlaws_tester_b1.FnLabelsEndPointsAtClosingBrace", spec := "fnLabelsEndPointsAtClosingBrace", make := .lifted ["publicsums"], apart := false }
def FnLabelsEndPointsAtClosingBraceSaid : Prop := fnLabelsEndPointsAtClosingBraceRow.holds Trym.pinned (OpenSpec.ofChange fnLabelsEndPointsAtClosingBraceSpec)

/-- ITS FALSE NEIGHBOUR: 'it returns false'. Refute it at one input. -/
def fnLabelsEndPointsAtClosingBraceWrong : ChangeSpec := { name := "fnLabelsEndPointsAtClosingBrace", fn := fun _ => fun
  | [d] => { results := [.lit (.bool false)], args := [d] }
  | _ => none }
def FnLabelsEndPointsAtClosingBraceWrongFalsely : Prop := fnLabelsEndPointsAtClosingBraceRow.holds Trym.pinned (OpenSpec.ofChange fnLabelsEndPointsAtClosingBraceWrong)

/-- 'zzlaws_tester_b1.FnLabelsEndIgnoresWhatFollows': WHATEVER THE INPUT: true; the input reads as it did. -/
def fnLabelsEndIgnoresWhatFollowsSpec : ChangeSpec := { name := "fnLabelsEndIgnoresWhatFollows", fn := fun _ => fun
  | [d1, d2] => { results := [.lit (.bool true)], args := [d1, d2] }
  | _ => none }
def fnLabelsEndIgnoresWhatFollowsRow : OpenClaim := { program := "qxb6000748amods", sum := "c3ad08e1cbdae006e076be09166e93a258ac77c80069f8560c80904f9786ed65", func := "example.com/stormproof/stormproof/zzlaws_tester_b1.FnLabelsEndIgnoresWhatFollows", spec := "fnLabelsEndIgnoresWhatFollows", make := .lifted ["publicsums"], apart := false }
def FnLabelsEndIgnoresWhatFollowsSaid : Prop := fnLabelsEndIgnoresWhatFollowsRow.holds Trym.pinned (OpenSpec.ofChange fnLabelsEndIgnoresWhatFollowsSpec)

/-- ITS FALSE NEIGHBOUR: 'it returns false'. Refute it at one input. -/
def fnLabelsEndIgnoresWhatFollowsWrong : ChangeSpec := { name := "fnLabelsEndIgnoresWhatFollows", fn := fun _ => fun
  | [d1, d2] => { results := [.lit (.bool false)], args := [d1, d2] }
  | _ => none }
def FnLabelsEndIgnoresWhatFollowsWrongFalsely : Prop := fnLabelsEndIgnoresWhatFollowsRow.holds Trym.pinned (OpenSpec.ofChange fnLabelsEndIgnoresWhatFollowsWrong)

/-- 'zzlaws_tester_b1.FnLabelsEndFindsQuotedLabel': WHATEVER THE INPUT: true; the input reads as it did. -/
def fnLabelsEndFindsQuotedLabelSpec : ChangeSpec := { name := "fnLabelsEndFindsQuotedLabel", fn := fun _ => fun
  | [d1, d2, d3] => { results := [.lit (.bool true)], args := [d1, d2, d3] }
  | _ => none }
def fnLabelsEndFindsQuotedLabelRow : OpenClaim := { program := "qxb6000748amods", sum := "c3ad08e1cbdae006e076be09166e93a258ac77c80069f8560c80904f9786ed65", func := "example.com/stormproof/stormproof/zzlaws_tester_b1.FnLabelsEndFindsQuotedLabel", spec := "fnLabelsEndFindsQuotedLabel", make := .lifted ["publicsums"], apart := false }
def FnLabelsEndFindsQuotedLabelSaid : Prop := fnLabelsEndFindsQuotedLabelRow.holds Trym.pinned (OpenSpec.ofChange fnLabelsEndFindsQuotedLabelSpec)

/-- ITS FALSE NEIGHBOUR: 'it returns false'. Refute it at one input. -/
def fnLabelsEndFindsQuotedLabelWrong : ChangeSpec := { name := "fnLabelsEndFindsQuotedLabel", fn := fun _ => fun
  | [d1, d2, d3] => { results := [.lit (.bool false)], args := [d1, d2, d3] }
  | _ => none }
def FnLabelsEndFindsQuotedLabelWrongFalsely : Prop := fnLabelsEndFindsQuotedLabelRow.holds Trym.pinned (OpenSpec.ofChange fnLabelsEndFindsQuotedLabelWrong)

/-- 'zzlaws_tester_b1.FnEveryMemberIsEachIndexOnceAscending': WHATEVER THE INPUT: true; the input reads as it did. -/
def fnEveryMemberIsEachIndexOnceAscendingSpec : ChangeSpec := { name := "fnEveryMemberIsEachIndexOnceAscending", fn := fun _ => fun
  | [d] => { results := [.lit (.bool true)], args := [d] }
  | _ => none }
def fnEveryMemberIsEachIndexOnceAscendingRow : OpenClaim := { program := "qxb6000748amods", sum := "c3ad08e1cbdae006e076be09166e93a258ac77c80069f8560c80904f9786ed65", func := "example.com/stormproof/stormproof/zzlaws_tester_b1.FnEveryMemberIsEachIndexOnceAscending", spec := "fnEveryMemberIsEachIndexOnceAscending", make := .lifted ["publicsums"], apart := false }
def FnEveryMemberIsEachIndexOnceAscendingSaid : Prop := fnEveryMemberIsEachIndexOnceAscendingRow.holds Trym.pinned (OpenSpec.ofChange fnEveryMemberIsEachIndexOnceAscendingSpec)

/-- ITS FALSE NEIGHBOUR: 'it returns false'. Refute it at one input. -/
def fnEveryMemberIsEachIndexOnceAscendingWrong : ChangeSpec := { name := "fnEveryMemberIsEachIndexOnceAscending", fn := fun _ => fun
  | [d] => { results := [.lit (.bool false)], args := [d] }
  | _ => none }
def FnEveryMemberIsEachIndexOnceAscendingWrongFalsely : Prop := fnEveryMemberIsEachIndexOnceAscendingRow.holds Trym.pinned (OpenSpec.ofChange fnEveryMemberIsEachIndexOnceAscendingWrong)

/-- 'zzlaws_tester_b1.FnEveryMemberGrowsByTheNewMember': WHATEVER THE INPUT: true; the input reads as it did. -/
def fnEveryMemberGrowsByTheNewMemberSpec : ChangeSpec := { name := "fnEveryMemberGrowsByTheNewMember", fn := fun _ => fun
  | [d] => { results := [.lit (.bool true)], args := [d] }
  | _ => none }
def fnEveryMemberGrowsByTheNewMemberRow : OpenClaim := { program := "qxb6000748amods", sum := "c3ad08e1cbdae006e076be09166e93a258ac77c80069f8560c80904f9786ed65", func := "example.com/stormproof/stormproof/zzlaws_tester_b1.FnEveryMemberGrowsByTheNewMember", spec := "fnEveryMemberGrowsByTheNewMember", make := .lifted ["publicsums"], apart := false }
def FnEveryMemberGrowsByTheNewMemberSaid : Prop := fnEveryMemberGrowsByTheNewMemberRow.holds Trym.pinned (OpenSpec.ofChange fnEveryMemberGrowsByTheNewMemberSpec)

/-- ITS FALSE NEIGHBOUR: 'it returns false'. Refute it at one input. -/
def fnEveryMemberGrowsByTheNewMemberWrong : ChangeSpec := { name := "fnEveryMemberGrowsByTheNewMember", fn := fun _ => fun
  | [d] => { results := [.lit (.bool false)], args := [d] }
  | _ => none }
def FnEveryMemberGrowsByTheNewMemberWrongFalsely : Prop := fnEveryMemberGrowsByTheNewMemberRow.holds Trym.pinned (OpenSpec.ofChange fnEveryMemberGrowsByTheNewMemberWrong)

end Rows
end Go.Proofs.Qxb6000748aMods
