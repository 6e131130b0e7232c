/-
  No cell of these rows narrows 'for every input' (looked for: loops, veiled, ifaces, maps, wideKeys, modest, calm, conditions, laid).
  DERIVED. THE GIVEN ROWS OF THIS SEAT. 5 by the template 'for every input the law returns true; each argument reads behind the call as it read before'; 0 by the template 'total and deterministic' (their statements: Qxb6600315aTotals.lean).
  GIVEN WITH THE SEED: the statements are not yours to turn. If you find one false, say at which input.
  Laid BY PROGRAM, IN A SANDBOX (cutbox-rows.mjs): the forced cells as the released guide's own fill.sh prints them over the translation b38350b9d04db9d8… (all of the seat's roots in one cut). By AI agents, Wed Nov 11 2026. No macro, syntax, notation, axiom, sorry.
-/
import Derived.Test.Qxb6600315aChecked
import GoSem.Claim
import GoSem.ClaimJoined
import GoSem.ClaimMapViews
import Derived.JoinedTies
import Derived.KernelRfl
namespace Go.Proofs.Qxb6600315a
/- THE CELL 'sum', in the pinned program and in every row, IS THE sha256 OF THE DUMP (.gsa) THAT Qxb6600315aProg.lean LOADS. Nothing in Lean hashes anything: it is a label: what it is worth is what the hold of that sum in a sandbox is worth. -/
noncomputable def Try.pinned : Pinned := { name := "qxb6600315a", sum := "b38350b9d04db9d817ec50c20a7a90011abcdfa8535d0485e5841559387a5d06", checked := Try.checked }
namespace Rows
def none {H : Type} : Left H := { results := [], args := [] }

/-- 'zzlaws_internal_terms_b1.FnJoinKeyLastDotSplitsOffKey': WHATEVER THE INPUT: true; the input reads as it did. -/
def fnJoinKeyLastDotSplitsOffKeySpec : ChangeSpec := { name := "fnJoinKeyLastDotSplitsOffKey", fn := fun _ => fun
  | [d1, d2] => { results := [.lit (.bool true)], args := [d1, d2] }
  | _ => none }
def fnJoinKeyLastDotSplitsOffKeyRow : OpenClaim := { program := "qxb6600315a", sum := "b38350b9d04db9d817ec50c20a7a90011abcdfa8535d0485e5841559387a5d06", func := "example.com/zhaomu/zhaomu/zzlaws_internal_terms_b1.FnJoinKeyLastDotSplitsOffKey", spec := "fnJoinKeyLastDotSplitsOffKey", apart := false }
def FnJoinKeyLastDotSplitsOffKeySaid : Prop := fnJoinKeyLastDotSplitsOffKeyRow.holds Try.pinned (OpenSpec.ofChange fnJoinKeyLastDotSplitsOffKeySpec)

/-- ITS FALSE NEIGHBOUR: 'it returns false'. Refute it at one input. -/
def fnJoinKeyLastDotSplitsOffKeyWrong : ChangeSpec := { name := "fnJoinKeyLastDotSplitsOffKey", fn := fun _ => fun
  | [d1, d2] => { results := [.lit (.bool false)], args := [d1, d2] }
  | _ => none }
def FnJoinKeyLastDotSplitsOffKeyWrongFalsely : Prop := fnJoinKeyLastDotSplitsOffKeyRow.holds Try.pinned (OpenSpec.ofChange fnJoinKeyLastDotSplitsOffKeyWrong)

/-- 'zzlaws_internal_terms_b1.FnJoinKeyAssociative': WHATEVER THE INPUT: true; the input reads as it did. -/
def fnJoinKeyAssociativeSpec : ChangeSpec := { name := "fnJoinKeyAssociative", fn := fun _ => fun
  | [d1, d2, d3] => { results := [.lit (.bool true)], args := [d1, d2, d3] }
  | _ => none }
def fnJoinKeyAssociativeRow : OpenClaim := { program := "qxb6600315a", sum := "b38350b9d04db9d817ec50c20a7a90011abcdfa8535d0485e5841559387a5d06", func := "example.com/zhaomu/zhaomu/zzlaws_internal_terms_b1.FnJoinKeyAssociative", spec := "fnJoinKeyAssociative", apart := false }
def FnJoinKeyAssociativeSaid : Prop := fnJoinKeyAssociativeRow.holds Try.pinned (OpenSpec.ofChange fnJoinKeyAssociativeSpec)

/-- ITS FALSE NEIGHBOUR: 'it returns false'. Refute it at one input. -/
def fnJoinKeyAssociativeWrong : ChangeSpec := { name := "fnJoinKeyAssociative", fn := fun _ => fun
  | [d1, d2, d3] => { results := [.lit (.bool false)], args := [d1, d2, d3] }
  | _ => none }
def FnJoinKeyAssociativeWrongFalsely : Prop := fnJoinKeyAssociativeRow.holds Try.pinned (OpenSpec.ofChange fnJoinKeyAssociativeWrong)

/-- 'zzlaws_internal_terms_b1.FnLineAtCountsNewlinesBefore': WHATEVER THE INPUT: true; the input reads as it did. -/
def fnLineAtCountsNewlinesBeforeSpec : ChangeSpec := { name := "fnLineAtCountsNewlinesBefore", fn := fun _ => fun
  | [d1, d2] => { results := [.lit (.bool true)], args := [d1, d2] }
  | _ => none }
def fnLineAtCountsNewlinesBeforeRow : OpenClaim := { program := "qxb6600315a", sum := "b38350b9d04db9d817ec50c20a7a90011abcdfa8535d0485e5841559387a5d06", func := "example.com/zhaomu/zhaomu/zzlaws_internal_terms_b1.FnLineAtCountsNewlinesBefore", spec := "fnLineAtCountsNewlinesBefore", inPlace := ["internal/bytealg.Count", "internal/bytealg.IndexByte", "internal/bytealg.Index"], named := ["internal/bytealg.MaxLen"], apart := false }
def FnLineAtCountsNewlinesBeforeSaid : Prop := fnLineAtCountsNewlinesBeforeRow.holds Try.pinned (OpenSpec.ofChange fnLineAtCountsNewlinesBeforeSpec)

/-- ITS FALSE NEIGHBOUR: 'it returns false'. Refute it at one input. -/
def fnLineAtCountsNewlinesBeforeWrong : ChangeSpec := { name := "fnLineAtCountsNewlinesBefore", fn := fun _ => fun
  | [d1, d2] => { results := [.lit (.bool false)], args := [d1, d2] }
  | _ => none }
def FnLineAtCountsNewlinesBeforeWrongFalsely : Prop := fnLineAtCountsNewlinesBeforeRow.holds Try.pinned (OpenSpec.ofChange fnLineAtCountsNewlinesBeforeWrong)

/-- 'zzlaws_internal_terms_b1.FnLineAtMonotoneAndBounded': WHATEVER THE INPUT: true; the input reads as it did. -/
def fnLineAtMonotoneAndBoundedSpec : ChangeSpec := { name := "fnLineAtMonotoneAndBounded", fn := fun _ => fun
  | [d1, d2, d3] => { results := [.lit (.bool true)], args := [d1, d2, d3] }
  | _ => none }
def fnLineAtMonotoneAndBoundedRow : OpenClaim := { program := "qxb6600315a", sum := "b38350b9d04db9d817ec50c20a7a90011abcdfa8535d0485e5841559387a5d06", func := "example.com/zhaomu/zhaomu/zzlaws_internal_terms_b1.FnLineAtMonotoneAndBounded", spec := "fnLineAtMonotoneAndBounded", inPlace := ["internal/bytealg.Count", "internal/bytealg.IndexByte", "internal/bytealg.Index"], named := ["internal/bytealg.MaxLen"], apart := false }
def FnLineAtMonotoneAndBoundedSaid : Prop := fnLineAtMonotoneAndBoundedRow.holds Try.pinned (OpenSpec.ofChange fnLineAtMonotoneAndBoundedSpec)

/-- ITS FALSE NEIGHBOUR: 'it returns false'. Refute it at one input. -/
def fnLineAtMonotoneAndBoundedWrong : ChangeSpec := { name := "fnLineAtMonotoneAndBounded", fn := fun _ => fun
  | [d1, d2, d3] => { results := [.lit (.bool false)], args := [d1, d2, d3] }
  | _ => none }
def FnLineAtMonotoneAndBoundedWrongFalsely : Prop := fnLineAtMonotoneAndBoundedRow.holds Try.pinned (OpenSpec.ofChange fnLineAtMonotoneAndBoundedWrong)

/-- 'zzlaws_internal_terms_b1.FnLineAtSplitsOverConcatenation': WHATEVER THE INPUT: true; the input reads as it did. -/
def fnLineAtSplitsOverConcatenationSpec : ChangeSpec := { name := "fnLineAtSplitsOverConcatenation", fn := fun _ => fun
  | [d1, d2, d3] => { results := [.lit (.bool true)], args := [d1, d2, d3] }
  | _ => none }
def fnLineAtSplitsOverConcatenationRow : OpenClaim := { program := "qxb6600315a", sum := "b38350b9d04db9d817ec50c20a7a90011abcdfa8535d0485e5841559387a5d06", func := "example.com/zhaomu/zhaomu/zzlaws_internal_terms_b1.FnLineAtSplitsOverConcatenation", spec := "fnLineAtSplitsOverConcatenation", inPlace := ["internal/bytealg.Count", "internal/bytealg.IndexByte", "internal/bytealg.Index"], named := ["internal/bytealg.MaxLen"], apart := false }
def FnLineAtSplitsOverConcatenationSaid : Prop := fnLineAtSplitsOverConcatenationRow.holds Try.pinned (OpenSpec.ofChange fnLineAtSplitsOverConcatenationSpec)

/-- ITS FALSE NEIGHBOUR: 'it returns false'. Refute it at one input. -/
def fnLineAtSplitsOverConcatenationWrong : ChangeSpec := { name := "fnLineAtSplitsOverConcatenation", fn := fun _ => fun
  | [d1, d2, d3] => { results := [.lit (.bool false)], args := [d1, d2, d3] }
  | _ => none }
def FnLineAtSplitsOverConcatenationWrongFalsely : Prop := fnLineAtSplitsOverConcatenationRow.holds Try.pinned (OpenSpec.ofChange fnLineAtSplitsOverConcatenationWrong)

end Rows
end Go.Proofs.Qxb6600315a
