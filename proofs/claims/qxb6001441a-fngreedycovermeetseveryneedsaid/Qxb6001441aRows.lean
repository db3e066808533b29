/-
  No cell of these rows narrows 'for every input' (looked for: loops, veiled, ifaces, maps, wideKeys, modest, calm, conditions, laid).
  DERIVED. THE GIVEN ROWS OF THIS SEAT. 5 by the template 'for every input the law returns true; each argument reads behind the call as it read before'; 0 by the template 'total and deterministic' (their statements: Qxb6001441aTotals.lean).
  GIVEN WITH THE SEED: the statements are not yours to turn. If you find one false, say at which input.
  Laid BY PROGRAM, IN A SANDBOX (cutbox-rows.mjs): the forced cells as the released guide's own fill.sh prints them over the translation 6352e8cebd3fc55e… (all of the seat's roots in one cut). By AI agents, Wed Nov 11 2026. No macro, syntax, notation, axiom, sorry.
-/
import Derived.Test.Qxb6001441aChecked
import GoSem.Claim
import GoSem.ClaimJoined
import GoSem.ClaimMapViews
import Derived.JoinedTies
import Derived.KernelRfl
namespace Go.Proofs.Qxb6001441a
/- THE CELL 'sum', in the pinned program and in every row, IS THE sha256 OF THE DUMP (.gsa) THAT Qxb6001441aProg.lean LOADS. Nothing in Lean hashes anything: it is a label: what it is worth is what the hold of that sum in a sandbox is worth. -/
noncomputable def Try.pinned : Pinned := { name := "qxb6001441a", sum := "6352e8cebd3fc55ea8922b1c465d0b072365b6cf86584016ffa1a95fdb0cef53", checked := Try.checked }
namespace Rows
def none {H : Type} : Left H := { results := [], args := [] }

/-- 'zzlaws_root_b1.FnKeepsStricterStickinessKeepsLess': WHATEVER THE INPUT: true; the input reads as it did. -/
def fnKeepsStricterStickinessKeepsLessSpec : ChangeSpec := { name := "fnKeepsStricterStickinessKeepsLess", fn := fun _ => fun
  | [d1, d2, d3, d4] => { results := [.lit (.bool true)], args := [d1, d2, d3, d4] }
  | _ => none }
def fnKeepsStricterStickinessKeepsLessRow : OpenClaim := { program := "qxb6001441a", sum := "6352e8cebd3fc55ea8922b1c465d0b072365b6cf86584016ffa1a95fdb0cef53", func := "example.com/countersign/countersign/zzlaws_root_b1.FnKeepsStricterStickinessKeepsLess", spec := "fnKeepsStricterStickinessKeepsLess", apart := false }
def FnKeepsStricterStickinessKeepsLessSaid : Prop := fnKeepsStricterStickinessKeepsLessRow.holds Try.pinned (OpenSpec.ofChange fnKeepsStricterStickinessKeepsLessSpec)

/-- ITS FALSE NEIGHBOUR: 'it returns false'. Refute it at one input. -/
def fnKeepsStricterStickinessKeepsLessWrong : ChangeSpec := { name := "fnKeepsStricterStickinessKeepsLess", fn := fun _ => fun
  | [d1, d2, d3, d4] => { results := [.lit (.bool false)], args := [d1, d2, d3, d4] }
  | _ => none }
def FnKeepsStricterStickinessKeepsLessWrongFalsely : Prop := fnKeepsStricterStickinessKeepsLessRow.holds Try.pinned (OpenSpec.ofChange fnKeepsStricterStickinessKeepsLessWrong)

/-- 'zzlaws_root_b1.FnKeepsCacheDoesNotChangeAnswers': WHATEVER THE INPUT: true; the input reads as it did. -/
def fnKeepsCacheDoesNotChangeAnswersSpec : ChangeSpec := { name := "fnKeepsCacheDoesNotChangeAnswers", fn := fun _ => fun
  | [d1, d2, d3, d4, d5] => { results := [.lit (.bool true)], args := [d1, d2, d3, d4, d5] }
  | _ => none }
def fnKeepsCacheDoesNotChangeAnswersRow : OpenClaim := { program := "qxb6001441a", sum := "6352e8cebd3fc55ea8922b1c465d0b072365b6cf86584016ffa1a95fdb0cef53", func := "example.com/countersign/countersign/zzlaws_root_b1.FnKeepsCacheDoesNotChangeAnswers", spec := "fnKeepsCacheDoesNotChangeAnswers", apart := false }
def FnKeepsCacheDoesNotChangeAnswersSaid : Prop := fnKeepsCacheDoesNotChangeAnswersRow.holds Try.pinned (OpenSpec.ofChange fnKeepsCacheDoesNotChangeAnswersSpec)

/-- ITS FALSE NEIGHBOUR: 'it returns false'. Refute it at one input. -/
def fnKeepsCacheDoesNotChangeAnswersWrong : ChangeSpec := { name := "fnKeepsCacheDoesNotChangeAnswers", fn := fun _ => fun
  | [d1, d2, d3, d4, d5] => { results := [.lit (.bool false)], args := [d1, d2, d3, d4, d5] }
  | _ => none }
def FnKeepsCacheDoesNotChangeAnswersWrongFalsely : Prop := fnKeepsCacheDoesNotChangeAnswersRow.holds Try.pinned (OpenSpec.ofChange fnKeepsCacheDoesNotChangeAnswersWrong)

/-- 'zzlaws_root_b1.FnGreedyCoverMeetsEveryNeed': WHATEVER THE INPUT: true; the input reads as it did. -/
def fnGreedyCoverMeetsEveryNeedSpec : ChangeSpec := { name := "fnGreedyCoverMeetsEveryNeed", fn := fun _ => fun
  | [d1, d2, d3] => { results := [.lit (.bool true)], args := [d1, d2, d3] }
  | _ => none }
def fnGreedyCoverMeetsEveryNeedRow : OpenClaim := { program := "qxb6001441a", sum := "6352e8cebd3fc55ea8922b1c465d0b072365b6cf86584016ffa1a95fdb0cef53", func := "example.com/countersign/countersign/zzlaws_root_b1.FnGreedyCoverMeetsEveryNeed", spec := "fnGreedyCoverMeetsEveryNeed", recurses := true, apart := false }
def FnGreedyCoverMeetsEveryNeedSaid : Prop := fnGreedyCoverMeetsEveryNeedRow.holds Try.pinned (OpenSpec.ofChange fnGreedyCoverMeetsEveryNeedSpec)

/-- ITS FALSE NEIGHBOUR: 'it returns false'. Refute it at one input. -/
def fnGreedyCoverMeetsEveryNeedWrong : ChangeSpec := { name := "fnGreedyCoverMeetsEveryNeed", fn := fun _ => fun
  | [d1, d2, d3] => { results := [.lit (.bool false)], args := [d1, d2, d3] }
  | _ => none }
def FnGreedyCoverMeetsEveryNeedWrongFalsely : Prop := fnGreedyCoverMeetsEveryNeedRow.holds Try.pinned (OpenSpec.ofChange fnGreedyCoverMeetsEveryNeedWrong)

/-- 'zzlaws_root_b1.FnGreedyCoverNamesNoOneNeedless': WHATEVER THE INPUT: true; the input reads as it did. -/
def fnGreedyCoverNamesNoOneNeedlessSpec : ChangeSpec := { name := "fnGreedyCoverNamesNoOneNeedless", fn := fun _ => fun
  | [d1, d2, d3] => { results := [.lit (.bool true)], args := [d1, d2, d3] }
  | _ => none }
def fnGreedyCoverNamesNoOneNeedlessRow : OpenClaim := { program := "qxb6001441a", sum := "6352e8cebd3fc55ea8922b1c465d0b072365b6cf86584016ffa1a95fdb0cef53", func := "example.com/countersign/countersign/zzlaws_root_b1.FnGreedyCoverNamesNoOneNeedless", spec := "fnGreedyCoverNamesNoOneNeedless", recurses := true, apart := false }
def FnGreedyCoverNamesNoOneNeedlessSaid : Prop := fnGreedyCoverNamesNoOneNeedlessRow.holds Try.pinned (OpenSpec.ofChange fnGreedyCoverNamesNoOneNeedlessSpec)

/-- ITS FALSE NEIGHBOUR: 'it returns false'. Refute it at one input. -/
def fnGreedyCoverNamesNoOneNeedlessWrong : ChangeSpec := { name := "fnGreedyCoverNamesNoOneNeedless", fn := fun _ => fun
  | [d1, d2, d3] => { results := [.lit (.bool false)], args := [d1, d2, d3] }
  | _ => none }
def FnGreedyCoverNamesNoOneNeedlessWrongFalsely : Prop := fnGreedyCoverNamesNoOneNeedlessRow.holds Try.pinned (OpenSpec.ofChange fnGreedyCoverNamesNoOneNeedlessWrong)

/-- 'zzlaws_root_b1.FnGreedyCoverIgnoresListingOrder': WHATEVER THE INPUT: true; the input reads as it did. -/
def fnGreedyCoverIgnoresListingOrderSpec : ChangeSpec := { name := "fnGreedyCoverIgnoresListingOrder", fn := fun _ => fun
  | [d1, d2, d3, d4] => { results := [.lit (.bool true)], args := [d1, d2, d3, d4] }
  | _ => none }
def fnGreedyCoverIgnoresListingOrderRow : OpenClaim := { program := "qxb6001441a", sum := "6352e8cebd3fc55ea8922b1c465d0b072365b6cf86584016ffa1a95fdb0cef53", func := "example.com/countersign/countersign/zzlaws_root_b1.FnGreedyCoverIgnoresListingOrder", spec := "fnGreedyCoverIgnoresListingOrder", recurses := true, apart := false }
def FnGreedyCoverIgnoresListingOrderSaid : Prop := fnGreedyCoverIgnoresListingOrderRow.holds Try.pinned (OpenSpec.ofChange fnGreedyCoverIgnoresListingOrderSpec)

/-- ITS FALSE NEIGHBOUR: 'it returns false'. Refute it at one input. -/
def fnGreedyCoverIgnoresListingOrderWrong : ChangeSpec := { name := "fnGreedyCoverIgnoresListingOrder", fn := fun _ => fun
  | [d1, d2, d3, d4] => { results := [.lit (.bool false)], args := [d1, d2, d3, d4] }
  | _ => none }
def FnGreedyCoverIgnoresListingOrderWrongFalsely : Prop := fnGreedyCoverIgnoresListingOrderRow.holds Try.pinned (OpenSpec.ofChange fnGreedyCoverIgnoresListingOrderWrong)

end Rows
end Go.Proofs.Qxb6001441a
