/-
  No cell of these rows narrows 'for every input' (looked for: loops, veiled, ifaces, maps, wideKeys, modest, calm, conditions, laid).
  DERIVED. THE GIVEN ROWS OF THIS SEAT. 8 by the template 'for every input the law returns true; each argument reads behind the call as it read before'; 0 by the template 'total and deterministic' (their statements: Qxb6000375aModsTotals.lean).
  GIVEN WITH THE SEED: the statements are not yours to turn. If you find one false, say at which input.
  Laid BY PROGRAM, IN A SANDBOX (cutbox-rows.mjs): the forced cells as the released guide's own fill.sh prints them over the translation 08349cbc58cd9f0c… (all of the seat's roots in one cut). By AI agents, Wed Nov 11 2026. No macro, syntax, notation, axiom, sorry.
-/
import Derived.Test.Qxb6000375aModsChecked
import GoSem.Claim
import GoSem.ClaimJoined
import GoSem.ClaimMapViews
import Derived.JoinedTies
import Derived.KernelRfl
namespace Go.Proofs.Qxb6000375aMods
/- THE CELL 'sum', in the pinned program and in every row, IS THE sha256 OF THE DUMP (.gsa) THAT Qxb6000375aModsProg.lean LOADS. Nothing in Lean hashes anything: it is a label: what it is worth is what the hold of that sum in a sandbox is worth. -/
noncomputable def Trym.pinned : Pinned := { name := "qxb6000375amods", sum := "08349cbc58cd9f0ce90574b972b0abd5fdc65c34d77c2faaa3dd175c39e623a7", checked := Trym.checked }
namespace Rows
def none {H : Type} : Left H := { results := [], args := [] }

/-- 'zzlaws_internal_book_b1.FnValidKeyMatchesAlphabetModel': WHATEVER THE INPUT: true; the input reads as it did. -/
def fnValidKeyMatchesAlphabetModelSpec : ChangeSpec := { name := "fnValidKeyMatchesAlphabetModel", fn := fun _ => fun
  | [d1, d2] => { results := [.lit (.bool true)], args := [d1, d2] }
  | _ => none }
def fnValidKeyMatchesAlphabetModelRow : OpenClaim := { program := "qxb6000375amods", sum := "08349cbc58cd9f0ce90574b972b0abd5fdc65c34d77c2faaa3dd175c39e623a7", func := "example.com/antebook/antebook/zzlaws_internal_book_b1.FnValidKeyMatchesAlphabetModel", spec := "fnValidKeyMatchesAlphabetModel", make := .lifted ["publicsums"], apart := false }
def FnValidKeyMatchesAlphabetModelSaid : Prop := fnValidKeyMatchesAlphabetModelRow.holds Trym.pinned (OpenSpec.ofChange fnValidKeyMatchesAlphabetModelSpec)

/-- ITS FALSE NEIGHBOUR: 'it returns false'. Refute it at one input. -/
def fnValidKeyMatchesAlphabetModelWrong : ChangeSpec := { name := "fnValidKeyMatchesAlphabetModel", fn := fun _ => fun
  | [d1, d2] => { results := [.lit (.bool false)], args := [d1, d2] }
  | _ => none }
def FnValidKeyMatchesAlphabetModelWrongFalsely : Prop := fnValidKeyMatchesAlphabetModelRow.holds Trym.pinned (OpenSpec.ofChange fnValidKeyMatchesAlphabetModelWrong)

/-- 'zzlaws_internal_book_b1.FnValidKeyMaxOnlyBoundsLength': WHATEVER THE INPUT: true; the input reads as it did. -/
def fnValidKeyMaxOnlyBoundsLengthSpec : ChangeSpec := { name := "fnValidKeyMaxOnlyBoundsLength", fn := fun _ => fun
  | [d1, d2] => { results := [.lit (.bool true)], args := [d1, d2] }
  | _ => none }
def fnValidKeyMaxOnlyBoundsLengthRow : OpenClaim := { program := "qxb6000375amods", sum := "08349cbc58cd9f0ce90574b972b0abd5fdc65c34d77c2faaa3dd175c39e623a7", func := "example.com/antebook/antebook/zzlaws_internal_book_b1.FnValidKeyMaxOnlyBoundsLength", spec := "fnValidKeyMaxOnlyBoundsLength", make := .lifted ["publicsums"], apart := false }
def FnValidKeyMaxOnlyBoundsLengthSaid : Prop := fnValidKeyMaxOnlyBoundsLengthRow.holds Trym.pinned (OpenSpec.ofChange fnValidKeyMaxOnlyBoundsLengthSpec)

/-- ITS FALSE NEIGHBOUR: 'it returns false'. Refute it at one input. -/
def fnValidKeyMaxOnlyBoundsLengthWrong : ChangeSpec := { name := "fnValidKeyMaxOnlyBoundsLength", fn := fun _ => fun
  | [d1, d2] => { results := [.lit (.bool false)], args := [d1, d2] }
  | _ => none }
def FnValidKeyMaxOnlyBoundsLengthWrongFalsely : Prop := fnValidKeyMaxOnlyBoundsLengthRow.holds Trym.pinned (OpenSpec.ofChange fnValidKeyMaxOnlyBoundsLengthWrong)

/-- 'zzlaws_internal_book_b1.FnValidKeyConcatenationSplits': WHATEVER THE INPUT: true; the input reads as it did. -/
def fnValidKeyConcatenationSplitsSpec : ChangeSpec := { name := "fnValidKeyConcatenationSplits", fn := fun _ => fun
  | [d1, d2] => { results := [.lit (.bool true)], args := [d1, d2] }
  | _ => none }
def fnValidKeyConcatenationSplitsRow : OpenClaim := { program := "qxb6000375amods", sum := "08349cbc58cd9f0ce90574b972b0abd5fdc65c34d77c2faaa3dd175c39e623a7", func := "example.com/antebook/antebook/zzlaws_internal_book_b1.FnValidKeyConcatenationSplits", spec := "fnValidKeyConcatenationSplits", make := .lifted ["publicsums"], apart := false }
def FnValidKeyConcatenationSplitsSaid : Prop := fnValidKeyConcatenationSplitsRow.holds Trym.pinned (OpenSpec.ofChange fnValidKeyConcatenationSplitsSpec)

/-- ITS FALSE NEIGHBOUR: 'it returns false'. Refute it at one input. -/
def fnValidKeyConcatenationSplitsWrong : ChangeSpec := { name := "fnValidKeyConcatenationSplits", fn := fun _ => fun
  | [d1, d2] => { results := [.lit (.bool false)], args := [d1, d2] }
  | _ => none }
def FnValidKeyConcatenationSplitsWrongFalsely : Prop := fnValidKeyConcatenationSplitsRow.holds Trym.pinned (OpenSpec.ofChange fnValidKeyConcatenationSplitsWrong)

/-- 'zzlaws_internal_book_b1.FnPairMatchesLastWinsModel': WHATEVER THE INPUT: true; the input reads as it did. -/
def fnPairMatchesLastWinsModelSpec : ChangeSpec := { name := "fnPairMatchesLastWinsModel", fn := fun _ => fun
  | [d1, d2, d3, d4] => { results := [.lit (.bool true)], args := [d1, d2, d3, d4] }
  | _ => none }
def fnPairMatchesLastWinsModelRow : OpenClaim := { program := "qxb6000375amods", sum := "08349cbc58cd9f0ce90574b972b0abd5fdc65c34d77c2faaa3dd175c39e623a7", func := "example.com/antebook/antebook/zzlaws_internal_book_b1.FnPairMatchesLastWinsModel", spec := "fnPairMatchesLastWinsModel", make := .lifted ["publicsums"], apart := false }
def FnPairMatchesLastWinsModelSaid : Prop := fnPairMatchesLastWinsModelRow.holds Trym.pinned (OpenSpec.ofChange fnPairMatchesLastWinsModelSpec)

/-- ITS FALSE NEIGHBOUR: 'it returns false'. Refute it at one input. -/
def fnPairMatchesLastWinsModelWrong : ChangeSpec := { name := "fnPairMatchesLastWinsModel", fn := fun _ => fun
  | [d1, d2, d3, d4] => { results := [.lit (.bool false)], args := [d1, d2, d3, d4] }
  | _ => none }
def FnPairMatchesLastWinsModelWrongFalsely : Prop := fnPairMatchesLastWinsModelRow.holds Trym.pinned (OpenSpec.ofChange fnPairMatchesLastWinsModelWrong)

/-- 'zzlaws_internal_book_b1.FnPairAcceptsExactlyPermutationsOfDistinctStakes': WHATEVER THE INPUT: true; the input reads as it did. -/
def fnPairAcceptsExactlyPermutationsOfDistinctStakesSpec : ChangeSpec := { name := "fnPairAcceptsExactlyPermutationsOfDistinctStakes", fn := fun _ => fun
  | [d1, d2, d3, d4] => { results := [.lit (.bool true)], args := [d1, d2, d3, d4] }
  | _ => none }
def fnPairAcceptsExactlyPermutationsOfDistinctStakesRow : OpenClaim := { program := "qxb6000375amods", sum := "08349cbc58cd9f0ce90574b972b0abd5fdc65c34d77c2faaa3dd175c39e623a7", func := "example.com/antebook/antebook/zzlaws_internal_book_b1.FnPairAcceptsExactlyPermutationsOfDistinctStakes", spec := "fnPairAcceptsExactlyPermutationsOfDistinctStakes", make := .lifted ["publicsums"], apart := false }
def FnPairAcceptsExactlyPermutationsOfDistinctStakesSaid : Prop := fnPairAcceptsExactlyPermutationsOfDistinctStakesRow.holds Trym.pinned (OpenSpec.ofChange fnPairAcceptsExactlyPermutationsOfDistinctStakesSpec)

/-- ITS FALSE NEIGHBOUR: 'it returns false'. Refute it at one input. -/
def fnPairAcceptsExactlyPermutationsOfDistinctStakesWrong : ChangeSpec := { name := "fnPairAcceptsExactlyPermutationsOfDistinctStakes", fn := fun _ => fun
  | [d1, d2, d3, d4] => { results := [.lit (.bool false)], args := [d1, d2, d3, d4] }
  | _ => none }
def FnPairAcceptsExactlyPermutationsOfDistinctStakesWrongFalsely : Prop := fnPairAcceptsExactlyPermutationsOfDistinctStakesRow.holds Trym.pinned (OpenSpec.ofChange fnPairAcceptsExactlyPermutationsOfDistinctStakesWrong)

/-- 'zzlaws_internal_book_b1.FnSameAmountsMatchesMultisetModel': WHATEVER THE INPUT: true; the input reads as it did. -/
def fnSameAmountsMatchesMultisetModelSpec : ChangeSpec := { name := "fnSameAmountsMatchesMultisetModel", fn := fun _ => fun
  | [d1, d2, d3, d4] => { results := [.lit (.bool true)], args := [d1, d2, d3, d4] }
  | _ => none }
def fnSameAmountsMatchesMultisetModelRow : OpenClaim := { program := "qxb6000375amods", sum := "08349cbc58cd9f0ce90574b972b0abd5fdc65c34d77c2faaa3dd175c39e623a7", func := "example.com/antebook/antebook/zzlaws_internal_book_b1.FnSameAmountsMatchesMultisetModel", spec := "fnSameAmountsMatchesMultisetModel", make := .lifted ["publicsums"], apart := false }
def FnSameAmountsMatchesMultisetModelSaid : Prop := fnSameAmountsMatchesMultisetModelRow.holds Trym.pinned (OpenSpec.ofChange fnSameAmountsMatchesMultisetModelSpec)

/-- ITS FALSE NEIGHBOUR: 'it returns false'. Refute it at one input. -/
def fnSameAmountsMatchesMultisetModelWrong : ChangeSpec := { name := "fnSameAmountsMatchesMultisetModel", fn := fun _ => fun
  | [d1, d2, d3, d4] => { results := [.lit (.bool false)], args := [d1, d2, d3, d4] }
  | _ => none }
def FnSameAmountsMatchesMultisetModelWrongFalsely : Prop := fnSameAmountsMatchesMultisetModelRow.holds Trym.pinned (OpenSpec.ofChange fnSameAmountsMatchesMultisetModelWrong)

/-- 'zzlaws_internal_book_b1.FnSameAmountsSymmetricOnDistinct': WHATEVER THE INPUT: true; the input reads as it did. -/
def fnSameAmountsSymmetricOnDistinctSpec : ChangeSpec := { name := "fnSameAmountsSymmetricOnDistinct", fn := fun _ => fun
  | [d1, d2, d3, d4] => { results := [.lit (.bool true)], args := [d1, d2, d3, d4] }
  | _ => none }
def fnSameAmountsSymmetricOnDistinctRow : OpenClaim := { program := "qxb6000375amods", sum := "08349cbc58cd9f0ce90574b972b0abd5fdc65c34d77c2faaa3dd175c39e623a7", func := "example.com/antebook/antebook/zzlaws_internal_book_b1.FnSameAmountsSymmetricOnDistinct", spec := "fnSameAmountsSymmetricOnDistinct", make := .lifted ["publicsums"], apart := false }
def FnSameAmountsSymmetricOnDistinctSaid : Prop := fnSameAmountsSymmetricOnDistinctRow.holds Trym.pinned (OpenSpec.ofChange fnSameAmountsSymmetricOnDistinctSpec)

/-- ITS FALSE NEIGHBOUR: 'it returns false'. Refute it at one input. -/
def fnSameAmountsSymmetricOnDistinctWrong : ChangeSpec := { name := "fnSameAmountsSymmetricOnDistinct", fn := fun _ => fun
  | [d1, d2, d3, d4] => { results := [.lit (.bool false)], args := [d1, d2, d3, d4] }
  | _ => none }
def FnSameAmountsSymmetricOnDistinctWrongFalsely : Prop := fnSameAmountsSymmetricOnDistinctRow.holds Trym.pinned (OpenSpec.ofChange fnSameAmountsSymmetricOnDistinctWrong)

/-- 'zzlaws_internal_book_b1.FnSameAmountsRotationAcceptedAlterationRefused': WHATEVER THE INPUT: true; the input reads as it did. -/
def fnSameAmountsRotationAcceptedAlterationRefusedSpec : ChangeSpec := { name := "fnSameAmountsRotationAcceptedAlterationRefused", fn := fun _ => fun
  | [d1, d2, d3] => { results := [.lit (.bool true)], args := [d1, d2, d3] }
  | _ => none }
def fnSameAmountsRotationAcceptedAlterationRefusedRow : OpenClaim := { program := "qxb6000375amods", sum := "08349cbc58cd9f0ce90574b972b0abd5fdc65c34d77c2faaa3dd175c39e623a7", func := "example.com/antebook/antebook/zzlaws_internal_book_b1.FnSameAmountsRotationAcceptedAlterationRefused", spec := "fnSameAmountsRotationAcceptedAlterationRefused", make := .lifted ["publicsums"], apart := false }
def FnSameAmountsRotationAcceptedAlterationRefusedSaid : Prop := fnSameAmountsRotationAcceptedAlterationRefusedRow.holds Trym.pinned (OpenSpec.ofChange fnSameAmountsRotationAcceptedAlterationRefusedSpec)

/-- ITS FALSE NEIGHBOUR: 'it returns false'. Refute it at one input. -/
def fnSameAmountsRotationAcceptedAlterationRefusedWrong : ChangeSpec := { name := "fnSameAmountsRotationAcceptedAlterationRefused", fn := fun _ => fun
  | [d1, d2, d3] => { results := [.lit (.bool false)], args := [d1, d2, d3] }
  | _ => none }
def FnSameAmountsRotationAcceptedAlterationRefusedWrongFalsely : Prop := fnSameAmountsRotationAcceptedAlterationRefusedRow.holds Trym.pinned (OpenSpec.ofChange fnSameAmountsRotationAcceptedAlterationRefusedWrong)

end Rows
end Go.Proofs.Qxb6000375aMods
