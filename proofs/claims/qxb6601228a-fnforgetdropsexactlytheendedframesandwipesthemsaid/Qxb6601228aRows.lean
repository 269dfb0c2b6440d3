/-
  No cell of these rows narrows 'for every input' (looked for: loops, veiled, ifaces, maps, wideKeys, modest, calm, conditions, laid).
  DERIVED. THE GIVEN ROWS OF THIS SEAT. 4 by the template 'for every input the law returns true; each argument reads behind the call as it read before'; 0 by the template 'total and deterministic' (their statements: Qxb6601228aTotals.lean).
  GIVEN WITH THE SEED: the statements are not yours to turn. If you find one false, say at which input.
  Laid BY PROGRAM, IN A SANDBOX (cutbox-rows.mjs): the forced cells as the released guide's own fill.sh prints them over the translation 0fc788f212667776… (all of the seat's roots in one cut). By AI agents, Wed Nov 11 2026. No macro, syntax, notation, axiom, sorry.
-/
import Derived.Test.Qxb6601228aChecked
import GoSem.Claim
import GoSem.ClaimJoined
import GoSem.ClaimMapViews
import Derived.JoinedTies
import Derived.KernelRfl
namespace Go.Proofs.Qxb6601228a
/- THE CELL 'sum', in the pinned program and in every row, IS THE sha256 OF THE DUMP (.gsa) THAT Qxb6601228aProg.lean LOADS. Nothing in Lean hashes anything: it is a label: what it is worth is what the hold of that sum in a sandbox is worth. -/
noncomputable def Try.pinned : Pinned := { name := "qxb6601228a", sum := "0fc788f212667776932d8ff3a2c99fb366b3ffd8fc26ddc317c61dc2956e4972", checked := Try.checked }
namespace Rows
def none {H : Type} : Left H := { results := [], args := [] }

/-- 'zzlaws_pepper_b1.FnLookupAgreesWithAFrameWalk': WHATEVER THE INPUT: true; the input reads as it did. -/
def fnLookupAgreesWithAFrameWalkSpec : ChangeSpec := { name := "fnLookupAgreesWithAFrameWalk", fn := fun _ => fun
  | [d1, d2, d3] => { results := [.lit (.bool true)], args := [d1, d2, d3] }
  | _ => none }
def fnLookupAgreesWithAFrameWalkRow : OpenClaim := { program := "qxb6601228a", sum := "0fc788f212667776932d8ff3a2c99fb366b3ffd8fc26ddc317c61dc2956e4972", func := "example.com/probeveil/probeveil/zzlaws_pepper_b1.FnLookupAgreesWithAFrameWalk", spec := "fnLookupAgreesWithAFrameWalk", apart := false }
def FnLookupAgreesWithAFrameWalkSaid : Prop := fnLookupAgreesWithAFrameWalkRow.holds Try.pinned (OpenSpec.ofChange fnLookupAgreesWithAFrameWalkSpec)

/-- ITS FALSE NEIGHBOUR: 'it returns false'. Refute it at one input. -/
def fnLookupAgreesWithAFrameWalkWrong : ChangeSpec := { name := "fnLookupAgreesWithAFrameWalk", fn := fun _ => fun
  | [d1, d2, d3] => { results := [.lit (.bool false)], args := [d1, d2, d3] }
  | _ => none }
def FnLookupAgreesWithAFrameWalkWrongFalsely : Prop := fnLookupAgreesWithAFrameWalkRow.holds Try.pinned (OpenSpec.ofChange fnLookupAgreesWithAFrameWalkWrong)

/-- 'zzlaws_pepper_b1.FnForgetDropsExactlyTheEndedFramesAndWipesThem': WHATEVER THE INPUT: true; the input reads as it did. -/
def fnForgetDropsExactlyTheEndedFramesAndWipesThemSpec : ChangeSpec := { name := "fnForgetDropsExactlyTheEndedFramesAndWipesThem", fn := fun _ => fun
  | [d1, d2, d3] => { results := [.lit (.bool true)], args := [d1, d2, d3] }
  | _ => none }
def fnForgetDropsExactlyTheEndedFramesAndWipesThemRow : OpenClaim := { program := "qxb6601228a", sum := "0fc788f212667776932d8ff3a2c99fb366b3ffd8fc26ddc317c61dc2956e4972", func := "example.com/probeveil/probeveil/zzlaws_pepper_b1.FnForgetDropsExactlyTheEndedFramesAndWipesThem", spec := "fnForgetDropsExactlyTheEndedFramesAndWipesThem", apart := false }
def FnForgetDropsExactlyTheEndedFramesAndWipesThemSaid : Prop := fnForgetDropsExactlyTheEndedFramesAndWipesThemRow.holds Try.pinned (OpenSpec.ofChange fnForgetDropsExactlyTheEndedFramesAndWipesThemSpec)

/-- ITS FALSE NEIGHBOUR: 'it returns false'. Refute it at one input. -/
def fnForgetDropsExactlyTheEndedFramesAndWipesThemWrong : ChangeSpec := { name := "fnForgetDropsExactlyTheEndedFramesAndWipesThem", fn := fun _ => fun
  | [d1, d2, d3] => { results := [.lit (.bool false)], args := [d1, d2, d3] }
  | _ => none }
def FnForgetDropsExactlyTheEndedFramesAndWipesThemWrongFalsely : Prop := fnForgetDropsExactlyTheEndedFramesAndWipesThemRow.holds Try.pinned (OpenSpec.ofChange fnForgetDropsExactlyTheEndedFramesAndWipesThemWrong)

/-- 'zzlaws_pepper_b1.FnLookupAfterForgetAnswersOnlyFromBefore': WHATEVER THE INPUT: true; the input reads as it did. -/
def fnLookupAfterForgetAnswersOnlyFromBeforeSpec : ChangeSpec := { name := "fnLookupAfterForgetAnswersOnlyFromBefore", fn := fun _ => fun
  | [d1, d2, d3, d4] => { results := [.lit (.bool true)], args := [d1, d2, d3, d4] }
  | _ => none }
def fnLookupAfterForgetAnswersOnlyFromBeforeRow : OpenClaim := { program := "qxb6601228a", sum := "0fc788f212667776932d8ff3a2c99fb366b3ffd8fc26ddc317c61dc2956e4972", func := "example.com/probeveil/probeveil/zzlaws_pepper_b1.FnLookupAfterForgetAnswersOnlyFromBefore", spec := "fnLookupAfterForgetAnswersOnlyFromBefore", apart := false }
def FnLookupAfterForgetAnswersOnlyFromBeforeSaid : Prop := fnLookupAfterForgetAnswersOnlyFromBeforeRow.holds Try.pinned (OpenSpec.ofChange fnLookupAfterForgetAnswersOnlyFromBeforeSpec)

/-- ITS FALSE NEIGHBOUR: 'it returns false'. Refute it at one input. -/
def fnLookupAfterForgetAnswersOnlyFromBeforeWrong : ChangeSpec := { name := "fnLookupAfterForgetAnswersOnlyFromBefore", fn := fun _ => fun
  | [d1, d2, d3, d4] => { results := [.lit (.bool false)], args := [d1, d2, d3, d4] }
  | _ => none }
def FnLookupAfterForgetAnswersOnlyFromBeforeWrongFalsely : Prop := fnLookupAfterForgetAnswersOnlyFromBeforeRow.holds Try.pinned (OpenSpec.ofChange fnLookupAfterForgetAnswersOnlyFromBeforeWrong)

/-- 'zzlaws_pepper_b1.FnForgetTwiceIsForgetOfTheLater': WHATEVER THE INPUT: true; the input reads as it did. -/
def fnForgetTwiceIsForgetOfTheLaterSpec : ChangeSpec := { name := "fnForgetTwiceIsForgetOfTheLater", fn := fun _ => fun
  | [d1, d2, d3, d4] => { results := [.lit (.bool true)], args := [d1, d2, d3, d4] }
  | _ => none }
def fnForgetTwiceIsForgetOfTheLaterRow : OpenClaim := { program := "qxb6601228a", sum := "0fc788f212667776932d8ff3a2c99fb366b3ffd8fc26ddc317c61dc2956e4972", func := "example.com/probeveil/probeveil/zzlaws_pepper_b1.FnForgetTwiceIsForgetOfTheLater", spec := "fnForgetTwiceIsForgetOfTheLater", apart := false }
def FnForgetTwiceIsForgetOfTheLaterSaid : Prop := fnForgetTwiceIsForgetOfTheLaterRow.holds Try.pinned (OpenSpec.ofChange fnForgetTwiceIsForgetOfTheLaterSpec)

/-- ITS FALSE NEIGHBOUR: 'it returns false'. Refute it at one input. -/
def fnForgetTwiceIsForgetOfTheLaterWrong : ChangeSpec := { name := "fnForgetTwiceIsForgetOfTheLater", fn := fun _ => fun
  | [d1, d2, d3, d4] => { results := [.lit (.bool false)], args := [d1, d2, d3, d4] }
  | _ => none }
def FnForgetTwiceIsForgetOfTheLaterWrongFalsely : Prop := fnForgetTwiceIsForgetOfTheLaterRow.holds Try.pinned (OpenSpec.ofChange fnForgetTwiceIsForgetOfTheLaterWrong)

end Rows
end Go.Proofs.Qxb6601228a
