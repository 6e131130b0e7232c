/-
  No cell of these rows narrows 'for every input' (looked for: loops, veiled, ifaces, maps, wideKeys, modest, calm, conditions, laid).
  DERIVED. THE GIVEN ROWS OF THIS SEAT. 3 by the template 'for every input the law returns true; each argument reads behind the call as it read before'; 0 by the template 'total and deterministic' (their statements: Qxb6001608aTotals.lean).
  GIVEN WITH THE SEED: the statements are not yours to turn. If you find one false, say at which input.
  Laid BY PROGRAM, IN A SANDBOX (cutbox-rows.mjs): the forced cells as the released guide's own fill.sh prints them over the translation cd3218c50ff85b8a… (all of the seat's roots in one cut). By AI agents, Wed Nov 11 2026. No macro, syntax, notation, axiom, sorry.
-/
import Derived.Test.Qxb6001608aChecked
import GoSem.Claim
import GoSem.ClaimJoined
import GoSem.ClaimMapViews
import Derived.JoinedTies
import Derived.KernelRfl
namespace Go.Proofs.Qxb6001608a
/- THE CELL 'sum', in the pinned program and in every row, IS THE sha256 OF THE DUMP (.gsa) THAT Qxb6001608aProg.lean LOADS. Nothing in Lean hashes anything: it is a label: what it is worth is what the hold of that sum in a sandbox is worth. -/
noncomputable def Try.pinned : Pinned := { name := "qxb6001608a", sum := "cd3218c50ff85b8a8183a22b4d1fc1edf5899feed8384a480d9e71f14c0eb690", checked := Try.checked }
namespace Rows
def none {H : Type} : Left H := { results := [], args := [] }

/-- 'zzlaws_root_b1.FnIsDigitsConcatenation': WHATEVER THE INPUT: true; the input reads as it did. -/
def fnIsDigitsConcatenationSpec : ChangeSpec := { name := "fnIsDigitsConcatenation", fn := fun _ => fun
  | [d1, d2] => { results := [.lit (.bool true)], args := [d1, d2] }
  | _ => none }
def fnIsDigitsConcatenationRow : OpenClaim := { program := "qxb6001608a", sum := "cd3218c50ff85b8a8183a22b4d1fc1edf5899feed8384a480d9e71f14c0eb690", func := "example.com/tuoguan/tuoguan/zzlaws_root_b1.FnIsDigitsConcatenation", spec := "fnIsDigitsConcatenation", apart := false }
def FnIsDigitsConcatenationSaid : Prop := fnIsDigitsConcatenationRow.holds Try.pinned (OpenSpec.ofChange fnIsDigitsConcatenationSpec)

/-- ITS FALSE NEIGHBOUR: 'it returns false'. Refute it at one input. -/
def fnIsDigitsConcatenationWrong : ChangeSpec := { name := "fnIsDigitsConcatenation", fn := fun _ => fun
  | [d1, d2] => { results := [.lit (.bool false)], args := [d1, d2] }
  | _ => none }
def FnIsDigitsConcatenationWrongFalsely : Prop := fnIsDigitsConcatenationRow.holds Try.pinned (OpenSpec.ofChange fnIsDigitsConcatenationWrong)

/-- 'zzlaws_root_b1.FnIsDigitsAcceptsRenderings': WHATEVER THE INPUT: true; the input reads as it did. -/
def fnIsDigitsAcceptsRenderingsSpec : ChangeSpec := { name := "fnIsDigitsAcceptsRenderings", fn := fun _ => fun
  | [d1, d2] => { results := [.lit (.bool true)], args := [d1, d2] }
  | _ => none }
def fnIsDigitsAcceptsRenderingsRow : OpenClaim := { program := "qxb6001608a", sum := "cd3218c50ff85b8a8183a22b4d1fc1edf5899feed8384a480d9e71f14c0eb690", func := "example.com/tuoguan/tuoguan/zzlaws_root_b1.FnIsDigitsAcceptsRenderings", spec := "fnIsDigitsAcceptsRenderings", apart := false }
def FnIsDigitsAcceptsRenderingsSaid : Prop := fnIsDigitsAcceptsRenderingsRow.holds Try.pinned (OpenSpec.ofChange fnIsDigitsAcceptsRenderingsSpec)

/-- ITS FALSE NEIGHBOUR: 'it returns false'. Refute it at one input. -/
def fnIsDigitsAcceptsRenderingsWrong : ChangeSpec := { name := "fnIsDigitsAcceptsRenderings", fn := fun _ => fun
  | [d1, d2] => { results := [.lit (.bool false)], args := [d1, d2] }
  | _ => none }
def FnIsDigitsAcceptsRenderingsWrongFalsely : Prop := fnIsDigitsAcceptsRenderingsRow.holds Try.pinned (OpenSpec.ofChange fnIsDigitsAcceptsRenderingsWrong)

/-- 'zzlaws_root_b1.FnIsDigitsInsertByte': WHATEVER THE INPUT: true; the input reads as it did. -/
def fnIsDigitsInsertByteSpec : ChangeSpec := { name := "fnIsDigitsInsertByte", fn := fun _ => fun
  | [d1, d2, d3] => { results := [.lit (.bool true)], args := [d1, d2, d3] }
  | _ => none }
def fnIsDigitsInsertByteRow : OpenClaim := { program := "qxb6001608a", sum := "cd3218c50ff85b8a8183a22b4d1fc1edf5899feed8384a480d9e71f14c0eb690", func := "example.com/tuoguan/tuoguan/zzlaws_root_b1.FnIsDigitsInsertByte", spec := "fnIsDigitsInsertByte", apart := false }
def FnIsDigitsInsertByteSaid : Prop := fnIsDigitsInsertByteRow.holds Try.pinned (OpenSpec.ofChange fnIsDigitsInsertByteSpec)

/-- ITS FALSE NEIGHBOUR: 'it returns false'. Refute it at one input. -/
def fnIsDigitsInsertByteWrong : ChangeSpec := { name := "fnIsDigitsInsertByte", fn := fun _ => fun
  | [d1, d2, d3] => { results := [.lit (.bool false)], args := [d1, d2, d3] }
  | _ => none }
def FnIsDigitsInsertByteWrongFalsely : Prop := fnIsDigitsInsertByteRow.holds Try.pinned (OpenSpec.ofChange fnIsDigitsInsertByteWrong)

end Rows
end Go.Proofs.Qxb6001608a
