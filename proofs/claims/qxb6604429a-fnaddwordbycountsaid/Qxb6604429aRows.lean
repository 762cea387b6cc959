/-
  No cell of these rows narrows 'for every input' (looked for: loops, veiled, ifaces, maps, wideKeys, modest, calm, conditions, laid).
  DERIVED. THE GIVEN ROWS OF THIS SEAT. 6 by the template 'for every input the law returns true; each argument reads behind the call as it read before'; 0 by the template 'total and deterministic' (their statements: Qxb6604429aTotals.lean).
  GIVEN WITH THE SEED: the statements are not yours to turn. If you find one false, say at which input.
  Laid BY PROGRAM, IN A SANDBOX (cutbox-rows.mjs): the forced cells as the released guide's own fill.sh prints them over the translation d36e2c65484073a2… (all of the seat's roots in one cut). By AI agents, Wed Nov 11 2026. No macro, syntax, notation, axiom, sorry.
-/
import Derived.Test.Qxb6604429aChecked
import GoSem.Claim
import GoSem.ClaimJoined
import GoSem.ClaimMapViews
import Derived.JoinedTies
import Derived.KernelRfl
namespace Go.Proofs.Qxb6604429a
/- THE CELL 'sum', in the pinned program and in every row, IS THE sha256 OF THE DUMP (.gsa) THAT Qxb6604429aProg.lean LOADS. Nothing in Lean hashes anything: it is a label: what it is worth is what the hold of that sum in a sandbox is worth. -/
noncomputable def Try.pinned : Pinned := { name := "qxb6604429a", sum := "d36e2c65484073a2bd0b2f009794ee87a0f4109a04b4ec4ed3672434583dc972", checked := Try.checked }
namespace Rows
def none {H : Type} : Left H := { results := [], args := [] }

/-- 'zzlaws_root_b1.FnNegatedIsComplementPlusOne': WHATEVER THE INPUT: true; the input reads as it did. -/
def fnNegatedIsComplementPlusOneSpec : ChangeSpec := { name := "fnNegatedIsComplementPlusOne", fn := fun _ => fun
  | [d1, d2] => { results := [.lit (.bool true)], args := [d1, d2] }
  | _ => none }
def fnNegatedIsComplementPlusOneRow : OpenClaim := { program := "qxb6604429a", sum := "d36e2c65484073a2bd0b2f009794ee87a0f4109a04b4ec4ed3672434583dc972", func := "example.com/baekse/baekse/zzlaws_root_b1.FnNegatedIsComplementPlusOne", spec := "fnNegatedIsComplementPlusOne", inPlace := ["math/bits.Sub64"], apart := false }
def FnNegatedIsComplementPlusOneSaid : Prop := fnNegatedIsComplementPlusOneRow.holds Try.pinned (OpenSpec.ofChange fnNegatedIsComplementPlusOneSpec)

/-- ITS FALSE NEIGHBOUR: 'it returns false'. Refute it at one input. -/
def fnNegatedIsComplementPlusOneWrong : ChangeSpec := { name := "fnNegatedIsComplementPlusOne", fn := fun _ => fun
  | [d1, d2] => { results := [.lit (.bool false)], args := [d1, d2] }
  | _ => none }
def FnNegatedIsComplementPlusOneWrongFalsely : Prop := fnNegatedIsComplementPlusOneRow.holds Try.pinned (OpenSpec.ofChange fnNegatedIsComplementPlusOneWrong)

/-- 'zzlaws_root_b1.FnNegatedIsAdditiveInverse': WHATEVER THE INPUT: true; the input reads as it did. -/
def fnNegatedIsAdditiveInverseSpec : ChangeSpec := { name := "fnNegatedIsAdditiveInverse", fn := fun _ => fun
  | [d1, d2] => { results := [.lit (.bool true)], args := [d1, d2] }
  | _ => none }
def fnNegatedIsAdditiveInverseRow : OpenClaim := { program := "qxb6604429a", sum := "d36e2c65484073a2bd0b2f009794ee87a0f4109a04b4ec4ed3672434583dc972", func := "example.com/baekse/baekse/zzlaws_root_b1.FnNegatedIsAdditiveInverse", spec := "fnNegatedIsAdditiveInverse", inPlace := ["math/bits.Sub64"], apart := false }
def FnNegatedIsAdditiveInverseSaid : Prop := fnNegatedIsAdditiveInverseRow.holds Try.pinned (OpenSpec.ofChange fnNegatedIsAdditiveInverseSpec)

/-- ITS FALSE NEIGHBOUR: 'it returns false'. Refute it at one input. -/
def fnNegatedIsAdditiveInverseWrong : ChangeSpec := { name := "fnNegatedIsAdditiveInverse", fn := fun _ => fun
  | [d1, d2] => { results := [.lit (.bool false)], args := [d1, d2] }
  | _ => none }
def FnNegatedIsAdditiveInverseWrongFalsely : Prop := fnNegatedIsAdditiveInverseRow.holds Try.pinned (OpenSpec.ofChange fnNegatedIsAdditiveInverseWrong)

/-- 'zzlaws_root_b1.FnInWordsAgreesWithWideArithmetic': WHATEVER THE INPUT: true; the input reads as it did. -/
def fnInWordsAgreesWithWideArithmeticSpec : ChangeSpec := { name := "fnInWordsAgreesWithWideArithmetic", fn := fun _ => fun
  | [d1, d2, d3, d4, d5] => { results := [.lit (.bool true)], args := [d1, d2, d3, d4, d5] }
  | _ => none }
def fnInWordsAgreesWithWideArithmeticRow : OpenClaim := { program := "qxb6604429a", sum := "d36e2c65484073a2bd0b2f009794ee87a0f4109a04b4ec4ed3672434583dc972", func := "example.com/baekse/baekse/zzlaws_root_b1.FnInWordsAgreesWithWideArithmetic", spec := "fnInWordsAgreesWithWideArithmetic", apart := false }
def FnInWordsAgreesWithWideArithmeticSaid : Prop := fnInWordsAgreesWithWideArithmeticRow.holds Try.pinned (OpenSpec.ofChange fnInWordsAgreesWithWideArithmeticSpec)

/-- ITS FALSE NEIGHBOUR: 'it returns false'. Refute it at one input. -/
def fnInWordsAgreesWithWideArithmeticWrong : ChangeSpec := { name := "fnInWordsAgreesWithWideArithmetic", fn := fun _ => fun
  | [d1, d2, d3, d4, d5] => { results := [.lit (.bool false)], args := [d1, d2, d3, d4, d5] }
  | _ => none }
def FnInWordsAgreesWithWideArithmeticWrongFalsely : Prop := fnInWordsAgreesWithWideArithmeticRow.holds Try.pinned (OpenSpec.ofChange fnInWordsAgreesWithWideArithmeticWrong)

/-- 'zzlaws_root_b1.FnInWordsSumMatchesDifferenceOfNegation': WHATEVER THE INPUT: true; the input reads as it did. -/
def fnInWordsSumMatchesDifferenceOfNegationSpec : ChangeSpec := { name := "fnInWordsSumMatchesDifferenceOfNegation", fn := fun _ => fun
  | [d1, d2, d3, d4] => { results := [.lit (.bool true)], args := [d1, d2, d3, d4] }
  | _ => none }
def fnInWordsSumMatchesDifferenceOfNegationRow : OpenClaim := { program := "qxb6604429a", sum := "d36e2c65484073a2bd0b2f009794ee87a0f4109a04b4ec4ed3672434583dc972", func := "example.com/baekse/baekse/zzlaws_root_b1.FnInWordsSumMatchesDifferenceOfNegation", spec := "fnInWordsSumMatchesDifferenceOfNegation", inPlace := ["math/bits.Sub64"], apart := false }
def FnInWordsSumMatchesDifferenceOfNegationSaid : Prop := fnInWordsSumMatchesDifferenceOfNegationRow.holds Try.pinned (OpenSpec.ofChange fnInWordsSumMatchesDifferenceOfNegationSpec)

/-- ITS FALSE NEIGHBOUR: 'it returns false'. Refute it at one input. -/
def fnInWordsSumMatchesDifferenceOfNegationWrong : ChangeSpec := { name := "fnInWordsSumMatchesDifferenceOfNegation", fn := fun _ => fun
  | [d1, d2, d3, d4] => { results := [.lit (.bool false)], args := [d1, d2, d3, d4] }
  | _ => none }
def FnInWordsSumMatchesDifferenceOfNegationWrongFalsely : Prop := fnInWordsSumMatchesDifferenceOfNegationRow.holds Try.pinned (OpenSpec.ofChange fnInWordsSumMatchesDifferenceOfNegationWrong)

/-- 'zzlaws_root_b1.FnAddWordByCount': WHATEVER THE INPUT: true; the input reads as it did. -/
def fnAddWordByCountSpec : ChangeSpec := { name := "fnAddWordByCount", fn := fun _ => fun
  | [d1, d2] => { results := [.lit (.bool true)], args := [d1, d2] }
  | _ => none }
def fnAddWordByCountRow : OpenClaim := { program := "qxb6604429a", sum := "d36e2c65484073a2bd0b2f009794ee87a0f4109a04b4ec4ed3672434583dc972", func := "example.com/baekse/baekse/zzlaws_root_b1.FnAddWordByCount", spec := "fnAddWordByCount", apart := false }
def FnAddWordByCountSaid : Prop := fnAddWordByCountRow.holds Try.pinned (OpenSpec.ofChange fnAddWordByCountSpec)

/-- ITS FALSE NEIGHBOUR: 'it returns false'. Refute it at one input. -/
def fnAddWordByCountWrong : ChangeSpec := { name := "fnAddWordByCount", fn := fun _ => fun
  | [d1, d2] => { results := [.lit (.bool false)], args := [d1, d2] }
  | _ => none }
def FnAddWordByCountWrongFalsely : Prop := fnAddWordByCountRow.holds Try.pinned (OpenSpec.ofChange fnAddWordByCountWrong)

/-- 'zzlaws_root_b1.FnAddWordIdempotentAndMembership': WHATEVER THE INPUT: true; the input reads as it did. -/
def fnAddWordIdempotentAndMembershipSpec : ChangeSpec := { name := "fnAddWordIdempotentAndMembership", fn := fun _ => fun
  | [d1, d2, d3] => { results := [.lit (.bool true)], args := [d1, d2, d3] }
  | _ => none }
def fnAddWordIdempotentAndMembershipRow : OpenClaim := { program := "qxb6604429a", sum := "d36e2c65484073a2bd0b2f009794ee87a0f4109a04b4ec4ed3672434583dc972", func := "example.com/baekse/baekse/zzlaws_root_b1.FnAddWordIdempotentAndMembership", spec := "fnAddWordIdempotentAndMembership", apart := false }
def FnAddWordIdempotentAndMembershipSaid : Prop := fnAddWordIdempotentAndMembershipRow.holds Try.pinned (OpenSpec.ofChange fnAddWordIdempotentAndMembershipSpec)

/-- ITS FALSE NEIGHBOUR: 'it returns false'. Refute it at one input. -/
def fnAddWordIdempotentAndMembershipWrong : ChangeSpec := { name := "fnAddWordIdempotentAndMembership", fn := fun _ => fun
  | [d1, d2, d3] => { results := [.lit (.bool false)], args := [d1, d2, d3] }
  | _ => none }
def FnAddWordIdempotentAndMembershipWrongFalsely : Prop := fnAddWordIdempotentAndMembershipRow.holds Try.pinned (OpenSpec.ofChange fnAddWordIdempotentAndMembershipWrong)

end Rows
end Go.Proofs.Qxb6604429a
