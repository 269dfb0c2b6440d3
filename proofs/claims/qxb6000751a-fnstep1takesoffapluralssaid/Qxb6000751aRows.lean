/-
  No cell of these rows narrows 'for every input' (looked for: loops, veiled, ifaces, maps, wideKeys, modest, calm, conditions, laid).
  DERIVED. THE GIVEN ROWS OF THIS SEAT. 9 by the template 'for every input the law returns true; each argument reads behind the call as it read before'; 0 by the template 'total and deterministic' (their statements: Qxb6000751aTotals.lean).
  GIVEN WITH THE SEED: the statements are not yours to turn. If you find one false, say at which input.
  Laid BY PROGRAM, IN A SANDBOX (cutbox-rows.mjs): the forced cells as the released guide's own fill.sh prints them over the translation 834dd2026988affc… (all of the seat's roots in one cut). By AI agents, Wed Nov 11 2026. No macro, syntax, notation, axiom, sorry.
-/
import Derived.Test.Qxb6000751aChecked
import GoSem.Claim
import GoSem.ClaimJoined
import GoSem.ClaimMapViews
import Derived.JoinedTies
import Derived.KernelRfl
namespace Go.Proofs.Qxb6000751a
/- THE CELL 'sum', in the pinned program and in every row, IS THE sha256 OF THE DUMP (.gsa) THAT Qxb6000751aProg.lean LOADS. Nothing in Lean hashes anything: it is a label: what it is worth is what the hold of that sum in a sandbox is worth. -/
noncomputable def Try.pinned : Pinned := { name := "qxb6000751a", sum := "834dd2026988affc7fdbfdeb2e48e0fdcb196936e68804f2fb5575a9ef9d5e62", checked := Try.checked }
namespace Rows
def none {H : Type} : Left H := { results := [], args := [] }

/-- 'zzlaws_internal_words_b1.FnMeasureCountsVowelConsonantTurns': WHATEVER THE INPUT: true; the input reads as it did. -/
def fnMeasureCountsVowelConsonantTurnsSpec : ChangeSpec := { name := "fnMeasureCountsVowelConsonantTurns", fn := fun _ => fun
  | [d1, d2] => { results := [.lit (.bool true)], args := [d1, d2] }
  | _ => none }
def fnMeasureCountsVowelConsonantTurnsRow : OpenClaim := { program := "qxb6000751a", sum := "834dd2026988affc7fdbfdeb2e48e0fdcb196936e68804f2fb5575a9ef9d5e62", func := "example.com/longhand/longhand/zzlaws_internal_words_b1.FnMeasureCountsVowelConsonantTurns", spec := "fnMeasureCountsVowelConsonantTurns", recurses := true, apart := false }
def FnMeasureCountsVowelConsonantTurnsSaid : Prop := fnMeasureCountsVowelConsonantTurnsRow.holds Try.pinned (OpenSpec.ofChange fnMeasureCountsVowelConsonantTurnsSpec)

/-- ITS FALSE NEIGHBOUR: 'it returns false'. Refute it at one input. -/
def fnMeasureCountsVowelConsonantTurnsWrong : ChangeSpec := { name := "fnMeasureCountsVowelConsonantTurns", fn := fun _ => fun
  | [d1, d2] => { results := [.lit (.bool false)], args := [d1, d2] }
  | _ => none }
def FnMeasureCountsVowelConsonantTurnsWrongFalsely : Prop := fnMeasureCountsVowelConsonantTurnsRow.holds Try.pinned (OpenSpec.ofChange fnMeasureCountsVowelConsonantTurnsWrong)

/-- 'zzlaws_internal_words_b1.FnMeasureGrowsByAtMostOne': WHATEVER THE INPUT: true; the input reads as it did. -/
def fnMeasureGrowsByAtMostOneSpec : ChangeSpec := { name := "fnMeasureGrowsByAtMostOne", fn := fun _ => fun
  | [d1, d2] => { results := [.lit (.bool true)], args := [d1, d2] }
  | _ => none }
def fnMeasureGrowsByAtMostOneRow : OpenClaim := { program := "qxb6000751a", sum := "834dd2026988affc7fdbfdeb2e48e0fdcb196936e68804f2fb5575a9ef9d5e62", func := "example.com/longhand/longhand/zzlaws_internal_words_b1.FnMeasureGrowsByAtMostOne", spec := "fnMeasureGrowsByAtMostOne", recurses := true, apart := false }
def FnMeasureGrowsByAtMostOneSaid : Prop := fnMeasureGrowsByAtMostOneRow.holds Try.pinned (OpenSpec.ofChange fnMeasureGrowsByAtMostOneSpec)

/-- ITS FALSE NEIGHBOUR: 'it returns false'. Refute it at one input. -/
def fnMeasureGrowsByAtMostOneWrong : ChangeSpec := { name := "fnMeasureGrowsByAtMostOne", fn := fun _ => fun
  | [d1, d2] => { results := [.lit (.bool false)], args := [d1, d2] }
  | _ => none }
def FnMeasureGrowsByAtMostOneWrongFalsely : Prop := fnMeasureGrowsByAtMostOneRow.holds Try.pinned (OpenSpec.ofChange fnMeasureGrowsByAtMostOneWrong)

/-- 'zzlaws_internal_words_b1.FnMeasureSeesOnlyItsPrefix': WHATEVER THE INPUT: true; the input reads as it did. -/
def fnMeasureSeesOnlyItsPrefixSpec : ChangeSpec := { name := "fnMeasureSeesOnlyItsPrefix", fn := fun _ => fun
  | [d1, d2] => { results := [.lit (.bool true)], args := [d1, d2] }
  | _ => none }
def fnMeasureSeesOnlyItsPrefixRow : OpenClaim := { program := "qxb6000751a", sum := "834dd2026988affc7fdbfdeb2e48e0fdcb196936e68804f2fb5575a9ef9d5e62", func := "example.com/longhand/longhand/zzlaws_internal_words_b1.FnMeasureSeesOnlyItsPrefix", spec := "fnMeasureSeesOnlyItsPrefix", recurses := true, apart := false }
def FnMeasureSeesOnlyItsPrefixSaid : Prop := fnMeasureSeesOnlyItsPrefixRow.holds Try.pinned (OpenSpec.ofChange fnMeasureSeesOnlyItsPrefixSpec)

/-- ITS FALSE NEIGHBOUR: 'it returns false'. Refute it at one input. -/
def fnMeasureSeesOnlyItsPrefixWrong : ChangeSpec := { name := "fnMeasureSeesOnlyItsPrefix", fn := fun _ => fun
  | [d1, d2] => { results := [.lit (.bool false)], args := [d1, d2] }
  | _ => none }
def FnMeasureSeesOnlyItsPrefixWrongFalsely : Prop := fnMeasureSeesOnlyItsPrefixRow.holds Try.pinned (OpenSpec.ofChange fnMeasureSeesOnlyItsPrefixWrong)

/-- 'zzlaws_internal_words_b1.FnStep1ShortensAndChangesAtMostTheLastLetter': WHATEVER THE INPUT: true; the input reads as it did. -/
def fnStep1ShortensAndChangesAtMostTheLastLetterSpec : ChangeSpec := { name := "fnStep1ShortensAndChangesAtMostTheLastLetter", fn := fun _ => fun
  | [d] => { results := [.lit (.bool true)], args := [d] }
  | _ => none }
def fnStep1ShortensAndChangesAtMostTheLastLetterRow : OpenClaim := { program := "qxb6000751a", sum := "834dd2026988affc7fdbfdeb2e48e0fdcb196936e68804f2fb5575a9ef9d5e62", func := "example.com/longhand/longhand/zzlaws_internal_words_b1.FnStep1ShortensAndChangesAtMostTheLastLetter", spec := "fnStep1ShortensAndChangesAtMostTheLastLetter", recurses := true, apart := false }
def FnStep1ShortensAndChangesAtMostTheLastLetterSaid : Prop := fnStep1ShortensAndChangesAtMostTheLastLetterRow.holds Try.pinned (OpenSpec.ofChange fnStep1ShortensAndChangesAtMostTheLastLetterSpec)

/-- ITS FALSE NEIGHBOUR: 'it returns false'. Refute it at one input. -/
def fnStep1ShortensAndChangesAtMostTheLastLetterWrong : ChangeSpec := { name := "fnStep1ShortensAndChangesAtMostTheLastLetter", fn := fun _ => fun
  | [d] => { results := [.lit (.bool false)], args := [d] }
  | _ => none }
def FnStep1ShortensAndChangesAtMostTheLastLetterWrongFalsely : Prop := fnStep1ShortensAndChangesAtMostTheLastLetterRow.holds Try.pinned (OpenSpec.ofChange fnStep1ShortensAndChangesAtMostTheLastLetterWrong)

/-- 'zzlaws_internal_words_b1.FnStep1LeavesOtherEndingsAlone': WHATEVER THE INPUT: true; the input reads as it did. -/
def fnStep1LeavesOtherEndingsAloneSpec : ChangeSpec := { name := "fnStep1LeavesOtherEndingsAlone", fn := fun _ => fun
  | [d] => { results := [.lit (.bool true)], args := [d] }
  | _ => none }
def fnStep1LeavesOtherEndingsAloneRow : OpenClaim := { program := "qxb6000751a", sum := "834dd2026988affc7fdbfdeb2e48e0fdcb196936e68804f2fb5575a9ef9d5e62", func := "example.com/longhand/longhand/zzlaws_internal_words_b1.FnStep1LeavesOtherEndingsAlone", spec := "fnStep1LeavesOtherEndingsAlone", recurses := true, apart := false }
def FnStep1LeavesOtherEndingsAloneSaid : Prop := fnStep1LeavesOtherEndingsAloneRow.holds Try.pinned (OpenSpec.ofChange fnStep1LeavesOtherEndingsAloneSpec)

/-- ITS FALSE NEIGHBOUR: 'it returns false'. Refute it at one input. -/
def fnStep1LeavesOtherEndingsAloneWrong : ChangeSpec := { name := "fnStep1LeavesOtherEndingsAlone", fn := fun _ => fun
  | [d] => { results := [.lit (.bool false)], args := [d] }
  | _ => none }
def FnStep1LeavesOtherEndingsAloneWrongFalsely : Prop := fnStep1LeavesOtherEndingsAloneRow.holds Try.pinned (OpenSpec.ofChange fnStep1LeavesOtherEndingsAloneWrong)

/-- 'zzlaws_internal_words_b1.FnStep1TakesOffAPluralS': WHATEVER THE INPUT: true; the input reads as it did. -/
def fnStep1TakesOffAPluralSSpec : ChangeSpec := { name := "fnStep1TakesOffAPluralS", fn := fun _ => fun
  | [d] => { results := [.lit (.bool true)], args := [d] }
  | _ => none }
def fnStep1TakesOffAPluralSRow : OpenClaim := { program := "qxb6000751a", sum := "834dd2026988affc7fdbfdeb2e48e0fdcb196936e68804f2fb5575a9ef9d5e62", func := "example.com/longhand/longhand/zzlaws_internal_words_b1.FnStep1TakesOffAPluralS", spec := "fnStep1TakesOffAPluralS", recurses := true, apart := false }
def FnStep1TakesOffAPluralSSaid : Prop := fnStep1TakesOffAPluralSRow.holds Try.pinned (OpenSpec.ofChange fnStep1TakesOffAPluralSSpec)

/-- ITS FALSE NEIGHBOUR: 'it returns false'. Refute it at one input. -/
def fnStep1TakesOffAPluralSWrong : ChangeSpec := { name := "fnStep1TakesOffAPluralS", fn := fun _ => fun
  | [d] => { results := [.lit (.bool false)], args := [d] }
  | _ => none }
def FnStep1TakesOffAPluralSWrongFalsely : Prop := fnStep1TakesOffAPluralSRow.holds Try.pinned (OpenSpec.ofChange fnStep1TakesOffAPluralSWrong)

/-- 'zzlaws_internal_words_b1.FnReplaceSuffixRefusesAnUnreachableMeasure': WHATEVER THE INPUT: true; the input reads as it did. -/
def fnReplaceSuffixRefusesAnUnreachableMeasureSpec : ChangeSpec := { name := "fnReplaceSuffixRefusesAnUnreachableMeasure", fn := fun _ => fun
  | [d1, d2, d3, d4] => { results := [.lit (.bool true)], args := [d1, d2, d3, d4] }
  | _ => none }
def fnReplaceSuffixRefusesAnUnreachableMeasureRow : OpenClaim := { program := "qxb6000751a", sum := "834dd2026988affc7fdbfdeb2e48e0fdcb196936e68804f2fb5575a9ef9d5e62", func := "example.com/longhand/longhand/zzlaws_internal_words_b1.FnReplaceSuffixRefusesAnUnreachableMeasure", spec := "fnReplaceSuffixRefusesAnUnreachableMeasure", recurses := true, apart := false }
def FnReplaceSuffixRefusesAnUnreachableMeasureSaid : Prop := fnReplaceSuffixRefusesAnUnreachableMeasureRow.holds Try.pinned (OpenSpec.ofChange fnReplaceSuffixRefusesAnUnreachableMeasureSpec)

/-- ITS FALSE NEIGHBOUR: 'it returns false'. Refute it at one input. -/
def fnReplaceSuffixRefusesAnUnreachableMeasureWrong : ChangeSpec := { name := "fnReplaceSuffixRefusesAnUnreachableMeasure", fn := fun _ => fun
  | [d1, d2, d3, d4] => { results := [.lit (.bool false)], args := [d1, d2, d3, d4] }
  | _ => none }
def FnReplaceSuffixRefusesAnUnreachableMeasureWrongFalsely : Prop := fnReplaceSuffixRefusesAnUnreachableMeasureRow.holds Try.pinned (OpenSpec.ofChange fnReplaceSuffixRefusesAnUnreachableMeasureWrong)

/-- 'zzlaws_internal_words_b1.FnReplaceSuffixKeepsItsChangeUnderALowerThreshold': WHATEVER THE INPUT: true; the input reads as it did. -/
def fnReplaceSuffixKeepsItsChangeUnderALowerThresholdSpec : ChangeSpec := { name := "fnReplaceSuffixKeepsItsChangeUnderALowerThreshold", fn := fun _ => fun
  | [d1, d2, d3, d4, d5] => { results := [.lit (.bool true)], args := [d1, d2, d3, d4, d5] }
  | _ => none }
def fnReplaceSuffixKeepsItsChangeUnderALowerThresholdRow : OpenClaim := { program := "qxb6000751a", sum := "834dd2026988affc7fdbfdeb2e48e0fdcb196936e68804f2fb5575a9ef9d5e62", func := "example.com/longhand/longhand/zzlaws_internal_words_b1.FnReplaceSuffixKeepsItsChangeUnderALowerThreshold", spec := "fnReplaceSuffixKeepsItsChangeUnderALowerThreshold", recurses := true, apart := false }
def FnReplaceSuffixKeepsItsChangeUnderALowerThresholdSaid : Prop := fnReplaceSuffixKeepsItsChangeUnderALowerThresholdRow.holds Try.pinned (OpenSpec.ofChange fnReplaceSuffixKeepsItsChangeUnderALowerThresholdSpec)

/-- ITS FALSE NEIGHBOUR: 'it returns false'. Refute it at one input. -/
def fnReplaceSuffixKeepsItsChangeUnderALowerThresholdWrong : ChangeSpec := { name := "fnReplaceSuffixKeepsItsChangeUnderALowerThreshold", fn := fun _ => fun
  | [d1, d2, d3, d4, d5] => { results := [.lit (.bool false)], args := [d1, d2, d3, d4, d5] }
  | _ => none }
def FnReplaceSuffixKeepsItsChangeUnderALowerThresholdWrongFalsely : Prop := fnReplaceSuffixKeepsItsChangeUnderALowerThresholdRow.holds Try.pinned (OpenSpec.ofChange fnReplaceSuffixKeepsItsChangeUnderALowerThresholdWrong)

/-- 'zzlaws_internal_words_b1.FnReplaceSuffixIgnoresRulesItDoesNotReach': WHATEVER THE INPUT: true; the input reads as it did. -/
def fnReplaceSuffixIgnoresRulesItDoesNotReachSpec : ChangeSpec := { name := "fnReplaceSuffixIgnoresRulesItDoesNotReach", fn := fun _ => fun
  | [d1, d2, d3, d4, d5, d6, d7, d8] => { results := [.lit (.bool true)], args := [d1, d2, d3, d4, d5, d6, d7, d8] }
  | _ => none }
def fnReplaceSuffixIgnoresRulesItDoesNotReachRow : OpenClaim := { program := "qxb6000751a", sum := "834dd2026988affc7fdbfdeb2e48e0fdcb196936e68804f2fb5575a9ef9d5e62", func := "example.com/longhand/longhand/zzlaws_internal_words_b1.FnReplaceSuffixIgnoresRulesItDoesNotReach", spec := "fnReplaceSuffixIgnoresRulesItDoesNotReach", recurses := true, apart := false }
def FnReplaceSuffixIgnoresRulesItDoesNotReachSaid : Prop := fnReplaceSuffixIgnoresRulesItDoesNotReachRow.holds Try.pinned (OpenSpec.ofChange fnReplaceSuffixIgnoresRulesItDoesNotReachSpec)

/-- ITS FALSE NEIGHBOUR: 'it returns false'. Refute it at one input. -/
def fnReplaceSuffixIgnoresRulesItDoesNotReachWrong : ChangeSpec := { name := "fnReplaceSuffixIgnoresRulesItDoesNotReach", fn := fun _ => fun
  | [d1, d2, d3, d4, d5, d6, d7, d8] => { results := [.lit (.bool false)], args := [d1, d2, d3, d4, d5, d6, d7, d8] }
  | _ => none }
def FnReplaceSuffixIgnoresRulesItDoesNotReachWrongFalsely : Prop := fnReplaceSuffixIgnoresRulesItDoesNotReachRow.holds Try.pinned (OpenSpec.ofChange fnReplaceSuffixIgnoresRulesItDoesNotReachWrong)

end Rows
end Go.Proofs.Qxb6000751a
