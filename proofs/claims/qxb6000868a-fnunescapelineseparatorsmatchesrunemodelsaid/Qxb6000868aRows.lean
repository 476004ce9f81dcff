/-
  No cell of these rows narrows 'for every input' (looked for: loops, veiled, ifaces, maps, wideKeys, modest, calm, conditions, laid).
  DERIVED. THE GIVEN ROWS OF THIS SEAT. 7 by the template 'for every input the law returns true; each argument reads behind the call as it read before'; 0 by the template 'total and deterministic' (their statements: Qxb6000868aTotals.lean).
  GIVEN WITH THE SEED: the statements are not yours to turn. If you find one false, say at which input.
  Laid BY PROGRAM, IN A SANDBOX (cutbox-rows.mjs): the forced cells as the released guide's own fill.sh prints them over the translation 5b7b70aa8021fe45… (all of the seat's roots in one cut). By AI agents, Wed Nov 11 2026. No macro, syntax, notation, axiom, sorry.
-/
import Derived.Test.Qxb6000868aChecked
import GoSem.Claim
import GoSem.ClaimJoined
import GoSem.ClaimMapViews
import Derived.JoinedTies
import Derived.KernelRfl
namespace Go.Proofs.Qxb6000868a
/- THE CELL 'sum', in the pinned program and in every row, IS THE sha256 OF THE DUMP (.gsa) THAT Qxb6000868aProg.lean LOADS. Nothing in Lean hashes anything: it is a label: what it is worth is what the hold of that sum in a sandbox is worth. -/
noncomputable def Try.pinned : Pinned := { name := "qxb6000868a", sum := "5b7b70aa8021fe4579a40c4db0ef5de1c39d01566fbddc145f5b7a9ba146f291", checked := Try.checked }
namespace Rows
def none {H : Type} : Left H := { results := [], args := [] }

/-- 'zzlaws_internal_jsonline_b1.FnAppendEscapeDecodesToLow16': WHATEVER THE INPUT: true; the input reads as it did. -/
def fnAppendEscapeDecodesToLow16Spec : ChangeSpec := { name := "fnAppendEscapeDecodesToLow16", fn := fun _ => fun
  | [d1, d2] => { results := [.lit (.bool true)], args := [d1, d2] }
  | _ => none }
def fnAppendEscapeDecodesToLow16Row : OpenClaim := { program := "qxb6000868a", sum := "5b7b70aa8021fe4579a40c4db0ef5de1c39d01566fbddc145f5b7a9ba146f291", func := "example.com/libfold/libfold/zzlaws_internal_jsonline_b1.FnAppendEscapeDecodesToLow16", spec := "fnAppendEscapeDecodesToLow16", apart := false }
def FnAppendEscapeDecodesToLow16Said : Prop := fnAppendEscapeDecodesToLow16Row.holds Try.pinned (OpenSpec.ofChange fnAppendEscapeDecodesToLow16Spec)

/-- ITS FALSE NEIGHBOUR: 'it returns false'. Refute it at one input. -/
def fnAppendEscapeDecodesToLow16Wrong : ChangeSpec := { name := "fnAppendEscapeDecodesToLow16", fn := fun _ => fun
  | [d1, d2] => { results := [.lit (.bool false)], args := [d1, d2] }
  | _ => none }
def FnAppendEscapeDecodesToLow16WrongFalsely : Prop := fnAppendEscapeDecodesToLow16Row.holds Try.pinned (OpenSpec.ofChange fnAppendEscapeDecodesToLow16Wrong)

/-- 'zzlaws_internal_jsonline_b1.FnAppendEscapeShapedPrefixFreeInjective': WHATEVER THE INPUT: true; the input reads as it did. -/
def fnAppendEscapeShapedPrefixFreeInjectiveSpec : ChangeSpec := { name := "fnAppendEscapeShapedPrefixFreeInjective", fn := fun _ => fun
  | [d1, d2] => { results := [.lit (.bool true)], args := [d1, d2] }
  | _ => none }
def fnAppendEscapeShapedPrefixFreeInjectiveRow : OpenClaim := { program := "qxb6000868a", sum := "5b7b70aa8021fe4579a40c4db0ef5de1c39d01566fbddc145f5b7a9ba146f291", func := "example.com/libfold/libfold/zzlaws_internal_jsonline_b1.FnAppendEscapeShapedPrefixFreeInjective", spec := "fnAppendEscapeShapedPrefixFreeInjective", apart := false }
def FnAppendEscapeShapedPrefixFreeInjectiveSaid : Prop := fnAppendEscapeShapedPrefixFreeInjectiveRow.holds Try.pinned (OpenSpec.ofChange fnAppendEscapeShapedPrefixFreeInjectiveSpec)

/-- ITS FALSE NEIGHBOUR: 'it returns false'. Refute it at one input. -/
def fnAppendEscapeShapedPrefixFreeInjectiveWrong : ChangeSpec := { name := "fnAppendEscapeShapedPrefixFreeInjective", fn := fun _ => fun
  | [d1, d2] => { results := [.lit (.bool false)], args := [d1, d2] }
  | _ => none }
def FnAppendEscapeShapedPrefixFreeInjectiveWrongFalsely : Prop := fnAppendEscapeShapedPrefixFreeInjectiveRow.holds Try.pinned (OpenSpec.ofChange fnAppendEscapeShapedPrefixFreeInjectiveWrong)

/-- 'zzlaws_internal_jsonline_b1.FnUnescapeLineSeparatorsMatchesRuneModel': WHATEVER THE INPUT: true; the input reads as it did. -/
def fnUnescapeLineSeparatorsMatchesRuneModelSpec : ChangeSpec := { name := "fnUnescapeLineSeparatorsMatchesRuneModel", fn := fun _ => fun
  | [d1, d2] => { results := [.lit (.bool true)], args := [d1, d2] }
  | _ => none }
def fnUnescapeLineSeparatorsMatchesRuneModelRow : OpenClaim := { program := "qxb6000868a", sum := "5b7b70aa8021fe4579a40c4db0ef5de1c39d01566fbddc145f5b7a9ba146f291", func := "example.com/libfold/libfold/zzlaws_internal_jsonline_b1.FnUnescapeLineSeparatorsMatchesRuneModel", spec := "fnUnescapeLineSeparatorsMatchesRuneModel", apart := false }
def FnUnescapeLineSeparatorsMatchesRuneModelSaid : Prop := fnUnescapeLineSeparatorsMatchesRuneModelRow.holds Try.pinned (OpenSpec.ofChange fnUnescapeLineSeparatorsMatchesRuneModelSpec)

/-- ITS FALSE NEIGHBOUR: 'it returns false'. Refute it at one input. -/
def fnUnescapeLineSeparatorsMatchesRuneModelWrong : ChangeSpec := { name := "fnUnescapeLineSeparatorsMatchesRuneModel", fn := fun _ => fun
  | [d1, d2] => { results := [.lit (.bool false)], args := [d1, d2] }
  | _ => none }
def FnUnescapeLineSeparatorsMatchesRuneModelWrongFalsely : Prop := fnUnescapeLineSeparatorsMatchesRuneModelRow.holds Try.pinned (OpenSpec.ofChange fnUnescapeLineSeparatorsMatchesRuneModelWrong)

/-- 'zzlaws_internal_jsonline_b1.FnUnescapeLineSeparatorsIdempotent': WHATEVER THE INPUT: true; the input reads as it did. -/
def fnUnescapeLineSeparatorsIdempotentSpec : ChangeSpec := { name := "fnUnescapeLineSeparatorsIdempotent", fn := fun _ => fun
  | [d] => { results := [.lit (.bool true)], args := [d] }
  | _ => none }
def fnUnescapeLineSeparatorsIdempotentRow : OpenClaim := { program := "qxb6000868a", sum := "5b7b70aa8021fe4579a40c4db0ef5de1c39d01566fbddc145f5b7a9ba146f291", func := "example.com/libfold/libfold/zzlaws_internal_jsonline_b1.FnUnescapeLineSeparatorsIdempotent", spec := "fnUnescapeLineSeparatorsIdempotent", apart := false }
def FnUnescapeLineSeparatorsIdempotentSaid : Prop := fnUnescapeLineSeparatorsIdempotentRow.holds Try.pinned (OpenSpec.ofChange fnUnescapeLineSeparatorsIdempotentSpec)

/-- ITS FALSE NEIGHBOUR: 'it returns false'. Refute it at one input. -/
def fnUnescapeLineSeparatorsIdempotentWrong : ChangeSpec := { name := "fnUnescapeLineSeparatorsIdempotent", fn := fun _ => fun
  | [d] => { results := [.lit (.bool false)], args := [d] }
  | _ => none }
def FnUnescapeLineSeparatorsIdempotentWrongFalsely : Prop := fnUnescapeLineSeparatorsIdempotentRow.holds Try.pinned (OpenSpec.ofChange fnUnescapeLineSeparatorsIdempotentWrong)

/-- 'zzlaws_internal_jsonline_b1.FnUnescapeLineSeparatorsShrinksByThrees': WHATEVER THE INPUT: true; the input reads as it did. -/
def fnUnescapeLineSeparatorsShrinksByThreesSpec : ChangeSpec := { name := "fnUnescapeLineSeparatorsShrinksByThrees", fn := fun _ => fun
  | [d] => { results := [.lit (.bool true)], args := [d] }
  | _ => none }
def fnUnescapeLineSeparatorsShrinksByThreesRow : OpenClaim := { program := "qxb6000868a", sum := "5b7b70aa8021fe4579a40c4db0ef5de1c39d01566fbddc145f5b7a9ba146f291", func := "example.com/libfold/libfold/zzlaws_internal_jsonline_b1.FnUnescapeLineSeparatorsShrinksByThrees", spec := "fnUnescapeLineSeparatorsShrinksByThrees", apart := false }
def FnUnescapeLineSeparatorsShrinksByThreesSaid : Prop := fnUnescapeLineSeparatorsShrinksByThreesRow.holds Try.pinned (OpenSpec.ofChange fnUnescapeLineSeparatorsShrinksByThreesSpec)

/-- ITS FALSE NEIGHBOUR: 'it returns false'. Refute it at one input. -/
def fnUnescapeLineSeparatorsShrinksByThreesWrong : ChangeSpec := { name := "fnUnescapeLineSeparatorsShrinksByThrees", fn := fun _ => fun
  | [d] => { results := [.lit (.bool false)], args := [d] }
  | _ => none }
def FnUnescapeLineSeparatorsShrinksByThreesWrongFalsely : Prop := fnUnescapeLineSeparatorsShrinksByThreesRow.holds Try.pinned (OpenSpec.ofChange fnUnescapeLineSeparatorsShrinksByThreesWrong)

/-- 'zzlaws_internal_jsonline_b1.FnSkipSpaceSpec': WHATEVER THE INPUT: true; the input reads as it did. -/
def fnSkipSpaceSpecSpec : ChangeSpec := { name := "fnSkipSpaceSpec", fn := fun _ => fun
  | [d1, d2] => { results := [.lit (.bool true)], args := [d1, d2] }
  | _ => none }
def fnSkipSpaceSpecRow : OpenClaim := { program := "qxb6000868a", sum := "5b7b70aa8021fe4579a40c4db0ef5de1c39d01566fbddc145f5b7a9ba146f291", func := "example.com/libfold/libfold/zzlaws_internal_jsonline_b1.FnSkipSpaceSpec", spec := "fnSkipSpaceSpec", apart := false }
def FnSkipSpaceSpecSaid : Prop := fnSkipSpaceSpecRow.holds Try.pinned (OpenSpec.ofChange fnSkipSpaceSpecSpec)

/-- ITS FALSE NEIGHBOUR: 'it returns false'. Refute it at one input. -/
def fnSkipSpaceSpecWrong : ChangeSpec := { name := "fnSkipSpaceSpec", fn := fun _ => fun
  | [d1, d2] => { results := [.lit (.bool false)], args := [d1, d2] }
  | _ => none }
def FnSkipSpaceSpecWrongFalsely : Prop := fnSkipSpaceSpecRow.holds Try.pinned (OpenSpec.ofChange fnSkipSpaceSpecWrong)

/-- 'zzlaws_internal_jsonline_b1.FnSkipSpaceMonotoneAndIdempotent': WHATEVER THE INPUT: true; the input reads as it did. -/
def fnSkipSpaceMonotoneAndIdempotentSpec : ChangeSpec := { name := "fnSkipSpaceMonotoneAndIdempotent", fn := fun _ => fun
  | [d1, d2, d3] => { results := [.lit (.bool true)], args := [d1, d2, d3] }
  | _ => none }
def fnSkipSpaceMonotoneAndIdempotentRow : OpenClaim := { program := "qxb6000868a", sum := "5b7b70aa8021fe4579a40c4db0ef5de1c39d01566fbddc145f5b7a9ba146f291", func := "example.com/libfold/libfold/zzlaws_internal_jsonline_b1.FnSkipSpaceMonotoneAndIdempotent", spec := "fnSkipSpaceMonotoneAndIdempotent", apart := false }
def FnSkipSpaceMonotoneAndIdempotentSaid : Prop := fnSkipSpaceMonotoneAndIdempotentRow.holds Try.pinned (OpenSpec.ofChange fnSkipSpaceMonotoneAndIdempotentSpec)

/-- ITS FALSE NEIGHBOUR: 'it returns false'. Refute it at one input. -/
def fnSkipSpaceMonotoneAndIdempotentWrong : ChangeSpec := { name := "fnSkipSpaceMonotoneAndIdempotent", fn := fun _ => fun
  | [d1, d2, d3] => { results := [.lit (.bool false)], args := [d1, d2, d3] }
  | _ => none }
def FnSkipSpaceMonotoneAndIdempotentWrongFalsely : Prop := fnSkipSpaceMonotoneAndIdempotentRow.holds Try.pinned (OpenSpec.ofChange fnSkipSpaceMonotoneAndIdempotentWrong)

end Rows
end Go.Proofs.Qxb6000868a
