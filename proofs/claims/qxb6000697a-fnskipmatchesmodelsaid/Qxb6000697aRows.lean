/-
  No cell of these rows narrows 'for every input' (looked for: loops, veiled, ifaces, maps, wideKeys, modest, calm, conditions, laid).
  DERIVED. THE GIVEN ROWS OF THIS SEAT. 8 by the template 'for every input the law returns true; each argument reads behind the call as it read before'; 0 by the template 'total and deterministic' (their statements: Qxb6000697aTotals.lean).
  GIVEN WITH THE SEED: the statements are not yours to turn. If you find one false, say at which input.
  Laid BY PROGRAM, IN A SANDBOX (cutbox-rows.mjs): the forced cells as the released guide's own fill.sh prints them over the translation 010150ed95c71744… (all of the seat's roots in one cut). By AI agents, Wed Nov 11 2026. No macro, syntax, notation, axiom, sorry.
-/
import Derived.Test.Qxb6000697aChecked
import GoSem.Claim
import GoSem.ClaimJoined
import GoSem.ClaimMapViews
import Derived.JoinedTies
import Derived.KernelRfl
namespace Go.Proofs.Qxb6000697a
/- THE CELL 'sum', in the pinned program and in every row, IS THE sha256 OF THE DUMP (.gsa) THAT Qxb6000697aProg.lean LOADS. Nothing in Lean hashes anything: it is a label: what it is worth is what the hold of that sum in a sandbox is worth. -/
noncomputable def Try.pinned : Pinned := { name := "qxb6000697a", sum := "010150ed95c717444714938b6533650b872841731629981736fe9a651b5d9f99", checked := Try.checked }
namespace Rows
def none {H : Type} : Left H := { results := [], args := [] }

/-- 'zzlaws_internal_strictcbor_b1.FnSkipMatchesModel': WHATEVER THE INPUT: true; the input reads as it did. -/
def fnSkipMatchesModelSpec : ChangeSpec := { name := "fnSkipMatchesModel", fn := fun _ => fun
  | [d1, d2] => { results := [.lit (.bool true)], args := [d1, d2] }
  | _ => none }
def fnSkipMatchesModelRow : OpenClaim := { program := "qxb6000697a", sum := "010150ed95c717444714938b6533650b872841731629981736fe9a651b5d9f99", func := "example.com/quorate/quorate/zzlaws_internal_strictcbor_b1.FnSkipMatchesModel", spec := "fnSkipMatchesModel", recurses := true, apart := false }
def FnSkipMatchesModelSaid : Prop := fnSkipMatchesModelRow.holds Try.pinned (OpenSpec.ofChange fnSkipMatchesModelSpec)

/-- ITS FALSE NEIGHBOUR: 'it returns false'. Refute it at one input. -/
def fnSkipMatchesModelWrong : ChangeSpec := { name := "fnSkipMatchesModel", fn := fun _ => fun
  | [d1, d2] => { results := [.lit (.bool false)], args := [d1, d2] }
  | _ => none }
def FnSkipMatchesModelWrongFalsely : Prop := fnSkipMatchesModelRow.holds Try.pinned (OpenSpec.ofChange fnSkipMatchesModelWrong)

/-- 'zzlaws_internal_strictcbor_b1.FnSkipIgnoresWhatFollows': WHATEVER THE INPUT: true; the input reads as it did. -/
def fnSkipIgnoresWhatFollowsSpec : ChangeSpec := { name := "fnSkipIgnoresWhatFollows", fn := fun _ => fun
  | [d1, d2, d3] => { results := [.lit (.bool true)], args := [d1, d2, d3] }
  | _ => none }
def fnSkipIgnoresWhatFollowsRow : OpenClaim := { program := "qxb6000697a", sum := "010150ed95c717444714938b6533650b872841731629981736fe9a651b5d9f99", func := "example.com/quorate/quorate/zzlaws_internal_strictcbor_b1.FnSkipIgnoresWhatFollows", spec := "fnSkipIgnoresWhatFollows", recurses := true, apart := false }
def FnSkipIgnoresWhatFollowsSaid : Prop := fnSkipIgnoresWhatFollowsRow.holds Try.pinned (OpenSpec.ofChange fnSkipIgnoresWhatFollowsSpec)

/-- ITS FALSE NEIGHBOUR: 'it returns false'. Refute it at one input. -/
def fnSkipIgnoresWhatFollowsWrong : ChangeSpec := { name := "fnSkipIgnoresWhatFollows", fn := fun _ => fun
  | [d1, d2, d3] => { results := [.lit (.bool false)], args := [d1, d2, d3] }
  | _ => none }
def FnSkipIgnoresWhatFollowsWrongFalsely : Prop := fnSkipIgnoresWhatFollowsRow.holds Try.pinned (OpenSpec.ofChange fnSkipIgnoresWhatFollowsWrong)

/-- 'zzlaws_internal_strictcbor_b1.FnSkipRefusesEveryCut': WHATEVER THE INPUT: true; the input reads as it did. -/
def fnSkipRefusesEveryCutSpec : ChangeSpec := { name := "fnSkipRefusesEveryCut", fn := fun _ => fun
  | [d1, d2, d3] => { results := [.lit (.bool true)], args := [d1, d2, d3] }
  | _ => none }
def fnSkipRefusesEveryCutRow : OpenClaim := { program := "qxb6000697a", sum := "010150ed95c717444714938b6533650b872841731629981736fe9a651b5d9f99", func := "example.com/quorate/quorate/zzlaws_internal_strictcbor_b1.FnSkipRefusesEveryCut", spec := "fnSkipRefusesEveryCut", recurses := true, apart := false }
def FnSkipRefusesEveryCutSaid : Prop := fnSkipRefusesEveryCutRow.holds Try.pinned (OpenSpec.ofChange fnSkipRefusesEveryCutSpec)

/-- ITS FALSE NEIGHBOUR: 'it returns false'. Refute it at one input. -/
def fnSkipRefusesEveryCutWrong : ChangeSpec := { name := "fnSkipRefusesEveryCut", fn := fun _ => fun
  | [d1, d2, d3] => { results := [.lit (.bool false)], args := [d1, d2, d3] }
  | _ => none }
def FnSkipRefusesEveryCutWrongFalsely : Prop := fnSkipRefusesEveryCutRow.holds Try.pinned (OpenSpec.ofChange fnSkipRefusesEveryCutWrong)

/-- 'zzlaws_internal_strictcbor_b1.FnHeadInvertsEncoding': WHATEVER THE INPUT: true; the input reads as it did. -/
def fnHeadInvertsEncodingSpec : ChangeSpec := { name := "fnHeadInvertsEncoding", fn := fun _ => fun
  | [d1, d2, d3, d4, d5] => { results := [.lit (.bool true)], args := [d1, d2, d3, d4, d5] }
  | _ => none }
def fnHeadInvertsEncodingRow : OpenClaim := { program := "qxb6000697a", sum := "010150ed95c717444714938b6533650b872841731629981736fe9a651b5d9f99", func := "example.com/quorate/quorate/zzlaws_internal_strictcbor_b1.FnHeadInvertsEncoding", spec := "fnHeadInvertsEncoding", apart := false }
def FnHeadInvertsEncodingSaid : Prop := fnHeadInvertsEncodingRow.holds Try.pinned (OpenSpec.ofChange fnHeadInvertsEncodingSpec)

/-- ITS FALSE NEIGHBOUR: 'it returns false'. Refute it at one input. -/
def fnHeadInvertsEncodingWrong : ChangeSpec := { name := "fnHeadInvertsEncoding", fn := fun _ => fun
  | [d1, d2, d3, d4, d5] => { results := [.lit (.bool false)], args := [d1, d2, d3, d4, d5] }
  | _ => none }
def FnHeadInvertsEncodingWrongFalsely : Prop := fnHeadInvertsEncodingRow.holds Try.pinned (OpenSpec.ofChange fnHeadInvertsEncodingWrong)

/-- 'zzlaws_internal_strictcbor_b1.FnHeadRefusesCutHead': WHATEVER THE INPUT: true; the input reads as it did. -/
def fnHeadRefusesCutHeadSpec : ChangeSpec := { name := "fnHeadRefusesCutHead", fn := fun _ => fun
  | [d1, d2, d3, d4] => { results := [.lit (.bool true)], args := [d1, d2, d3, d4] }
  | _ => none }
def fnHeadRefusesCutHeadRow : OpenClaim := { program := "qxb6000697a", sum := "010150ed95c717444714938b6533650b872841731629981736fe9a651b5d9f99", func := "example.com/quorate/quorate/zzlaws_internal_strictcbor_b1.FnHeadRefusesCutHead", spec := "fnHeadRefusesCutHead", apart := false }
def FnHeadRefusesCutHeadSaid : Prop := fnHeadRefusesCutHeadRow.holds Try.pinned (OpenSpec.ofChange fnHeadRefusesCutHeadSpec)

/-- ITS FALSE NEIGHBOUR: 'it returns false'. Refute it at one input. -/
def fnHeadRefusesCutHeadWrong : ChangeSpec := { name := "fnHeadRefusesCutHead", fn := fun _ => fun
  | [d1, d2, d3, d4] => { results := [.lit (.bool false)], args := [d1, d2, d3, d4] }
  | _ => none }
def FnHeadRefusesCutHeadWrongFalsely : Prop := fnHeadRefusesCutHeadRow.holds Try.pinned (OpenSpec.ofChange fnHeadRefusesCutHeadWrong)

/-- 'zzlaws_internal_strictcbor_b1.FnFailedReaderReadsNothing': WHATEVER THE INPUT: true; the input reads as it did. -/
def fnFailedReaderReadsNothingSpec : ChangeSpec := { name := "fnFailedReaderReadsNothing", fn := fun _ => fun
  | [d1, d2, d3] => { results := [.lit (.bool true)], args := [d1, d2, d3] }
  | _ => none }
def fnFailedReaderReadsNothingRow : OpenClaim := { program := "qxb6000697a", sum := "010150ed95c717444714938b6533650b872841731629981736fe9a651b5d9f99", func := "example.com/quorate/quorate/zzlaws_internal_strictcbor_b1.FnFailedReaderReadsNothing", spec := "fnFailedReaderReadsNothing", recurses := true, apart := false }
def FnFailedReaderReadsNothingSaid : Prop := fnFailedReaderReadsNothingRow.holds Try.pinned (OpenSpec.ofChange fnFailedReaderReadsNothingSpec)

/-- ITS FALSE NEIGHBOUR: 'it returns false'. Refute it at one input. -/
def fnFailedReaderReadsNothingWrong : ChangeSpec := { name := "fnFailedReaderReadsNothing", fn := fun _ => fun
  | [d1, d2, d3] => { results := [.lit (.bool false)], args := [d1, d2, d3] }
  | _ => none }
def FnFailedReaderReadsNothingWrongFalsely : Prop := fnFailedReaderReadsNothingRow.holds Try.pinned (OpenSpec.ofChange fnFailedReaderReadsNothingWrong)

/-- 'zzlaws_internal_strictcbor_b1.FnOpenRefusalIsSkip': WHATEVER THE INPUT: true; the input reads as it did. -/
def fnOpenRefusalIsSkipSpec : ChangeSpec := { name := "fnOpenRefusalIsSkip", fn := fun _ => fun
  | [d1, d2, d3] => { results := [.lit (.bool true)], args := [d1, d2, d3] }
  | _ => none }
def fnOpenRefusalIsSkipRow : OpenClaim := { program := "qxb6000697a", sum := "010150ed95c717444714938b6533650b872841731629981736fe9a651b5d9f99", func := "example.com/quorate/quorate/zzlaws_internal_strictcbor_b1.FnOpenRefusalIsSkip", spec := "fnOpenRefusalIsSkip", recurses := true, apart := false }
def FnOpenRefusalIsSkipSaid : Prop := fnOpenRefusalIsSkipRow.holds Try.pinned (OpenSpec.ofChange fnOpenRefusalIsSkipSpec)

/-- ITS FALSE NEIGHBOUR: 'it returns false'. Refute it at one input. -/
def fnOpenRefusalIsSkipWrong : ChangeSpec := { name := "fnOpenRefusalIsSkip", fn := fun _ => fun
  | [d1, d2, d3] => { results := [.lit (.bool false)], args := [d1, d2, d3] }
  | _ => none }
def FnOpenRefusalIsSkipWrongFalsely : Prop := fnOpenRefusalIsSkipRow.holds Try.pinned (OpenSpec.ofChange fnOpenRefusalIsSkipWrong)

/-- 'zzlaws_internal_strictcbor_b1.FnOpenFindsEncodedHead': WHATEVER THE INPUT: true; the input reads as it did. -/
def fnOpenFindsEncodedHeadSpec : ChangeSpec := { name := "fnOpenFindsEncodedHead", fn := fun _ => fun
  | [d1, d2, d3, d4, d5, d6, d7] => { results := [.lit (.bool true)], args := [d1, d2, d3, d4, d5, d6, d7] }
  | _ => none }
def fnOpenFindsEncodedHeadRow : OpenClaim := { program := "qxb6000697a", sum := "010150ed95c717444714938b6533650b872841731629981736fe9a651b5d9f99", func := "example.com/quorate/quorate/zzlaws_internal_strictcbor_b1.FnOpenFindsEncodedHead", spec := "fnOpenFindsEncodedHead", recurses := true, apart := false }
def FnOpenFindsEncodedHeadSaid : Prop := fnOpenFindsEncodedHeadRow.holds Try.pinned (OpenSpec.ofChange fnOpenFindsEncodedHeadSpec)

/-- ITS FALSE NEIGHBOUR: 'it returns false'. Refute it at one input. -/
def fnOpenFindsEncodedHeadWrong : ChangeSpec := { name := "fnOpenFindsEncodedHead", fn := fun _ => fun
  | [d1, d2, d3, d4, d5, d6, d7] => { results := [.lit (.bool false)], args := [d1, d2, d3, d4, d5, d6, d7] }
  | _ => none }
def FnOpenFindsEncodedHeadWrongFalsely : Prop := fnOpenFindsEncodedHeadRow.holds Try.pinned (OpenSpec.ofChange fnOpenFindsEncodedHeadWrong)

end Rows
end Go.Proofs.Qxb6000697a
