/-
  No cell of these rows narrows 'for every input' (looked for: loops, veiled, ifaces, maps, wideKeys, modest, calm, conditions, laid).
  DERIVED. THE GIVEN ROWS OF THIS SEAT. 5 by the template 'for every input the law returns true; each argument reads behind the call as it read before'; 0 by the template 'total and deterministic' (their statements: Qxb6613106aTotals.lean).
  GIVEN WITH THE SEED: the statements are not yours to turn. If you find one false, say at which input.
  Laid BY PROGRAM, IN A SANDBOX (cutbox-rows.mjs): the forced cells as the released guide's own fill.sh prints them over the translation 387eea32161459bf… (all of the seat's roots in one cut). By AI agents, Wed Nov 11 2026. No macro, syntax, notation, axiom, sorry.
-/
import Derived.Test.Qxb6613106aChecked
import GoSem.Claim
import GoSem.ClaimJoined
import GoSem.ClaimMapViews
import Derived.JoinedTies
import Derived.KernelRfl
namespace Go.Proofs.Qxb6613106a
/- THE CELL 'sum', in the pinned program and in every row, IS THE sha256 OF THE DUMP (.gsa) THAT Qxb6613106aProg.lean LOADS. Nothing in Lean hashes anything: it is a label: what it is worth is what the hold of that sum in a sandbox is worth. -/
noncomputable def Try.pinned : Pinned := { name := "qxb6613106a", sum := "387eea32161459bff4459011e61bac3113329febbd7cf1d717efdf99324d7dfa", checked := Try.checked }
namespace Rows
def none {H : Type} : Left H := { results := [], args := [] }

/-- 'zzlaws_internal_transfers_b1.FnWithIDPutOne': WHATEVER THE INPUT: true; the input reads as it did. -/
def fnWithIDPutOneSpec : ChangeSpec := { name := "fnWithIDPutOne", fn := fun _ => fun
  | [d1, d2, d3, d4] => { results := [.lit (.bool true)], args := [d1, d2, d3, d4] }
  | _ => none }
def fnWithIDPutOneRow : OpenClaim := { program := "qxb6613106a", sum := "387eea32161459bff4459011e61bac3113329febbd7cf1d717efdf99324d7dfa", func := "example.com/rampline/rampline/zzlaws_internal_transfers_b1.FnWithIDPutOne", spec := "fnWithIDPutOne", unfollowed := true, recurses := true, apart := false }
def FnWithIDPutOneSaid : Prop := fnWithIDPutOneRow.holds Try.pinned (OpenSpec.ofChange fnWithIDPutOneSpec)

/-- ITS FALSE NEIGHBOUR: 'it returns false'. Refute it at one input. -/
def fnWithIDPutOneWrong : ChangeSpec := { name := "fnWithIDPutOne", fn := fun _ => fun
  | [d1, d2, d3, d4] => { results := [.lit (.bool false)], args := [d1, d2, d3, d4] }
  | _ => none }
def FnWithIDPutOneWrongFalsely : Prop := fnWithIDPutOneRow.holds Try.pinned (OpenSpec.ofChange fnWithIDPutOneWrong)

/-- 'zzlaws_internal_transfers_b1.FnPushScriptAppendsAndNumbers': WHATEVER THE INPUT: true; the input reads as it did. -/
def fnPushScriptAppendsAndNumbersSpec : ChangeSpec := { name := "fnPushScriptAppendsAndNumbers", fn := fun _ => fun
  | [d1, d2] => { results := [.lit (.bool true)], args := [d1, d2] }
  | _ => none }
def fnPushScriptAppendsAndNumbersRow : OpenClaim := { program := "qxb6613106a", sum := "387eea32161459bff4459011e61bac3113329febbd7cf1d717efdf99324d7dfa", func := "example.com/rampline/rampline/zzlaws_internal_transfers_b1.FnPushScriptAppendsAndNumbers", spec := "fnPushScriptAppendsAndNumbers", apart := false }
def FnPushScriptAppendsAndNumbersSaid : Prop := fnPushScriptAppendsAndNumbersRow.holds Try.pinned (OpenSpec.ofChange fnPushScriptAppendsAndNumbersSpec)

/-- ITS FALSE NEIGHBOUR: 'it returns false'. Refute it at one input. -/
def fnPushScriptAppendsAndNumbersWrong : ChangeSpec := { name := "fnPushScriptAppendsAndNumbers", fn := fun _ => fun
  | [d1, d2] => { results := [.lit (.bool false)], args := [d1, d2] }
  | _ => none }
def FnPushScriptAppendsAndNumbersWrongFalsely : Prop := fnPushScriptAppendsAndNumbersRow.holds Try.pinned (OpenSpec.ofChange fnPushScriptAppendsAndNumbersWrong)

/-- 'zzlaws_internal_transfers_b1.FnPushSameItemTwice': WHATEVER THE INPUT: true; the input reads as it did. -/
def fnPushSameItemTwiceSpec : ChangeSpec := { name := "fnPushSameItemTwice", fn := fun _ => fun
  | [d1, d2] => { results := [.lit (.bool true)], args := [d1, d2] }
  | _ => none }
def fnPushSameItemTwiceRow : OpenClaim := { program := "qxb6613106a", sum := "387eea32161459bff4459011e61bac3113329febbd7cf1d717efdf99324d7dfa", func := "example.com/rampline/rampline/zzlaws_internal_transfers_b1.FnPushSameItemTwice", spec := "fnPushSameItemTwice", apart := false }
def FnPushSameItemTwiceSaid : Prop := fnPushSameItemTwiceRow.holds Try.pinned (OpenSpec.ofChange fnPushSameItemTwiceSpec)

/-- ITS FALSE NEIGHBOUR: 'it returns false'. Refute it at one input. -/
def fnPushSameItemTwiceWrong : ChangeSpec := { name := "fnPushSameItemTwice", fn := fun _ => fun
  | [d1, d2] => { results := [.lit (.bool false)], args := [d1, d2] }
  | _ => none }
def FnPushSameItemTwiceWrongFalsely : Prop := fnPushSameItemTwiceRow.holds Try.pinned (OpenSpec.ofChange fnPushSameItemTwiceWrong)

/-- 'zzlaws_internal_transfers_b1.FnHeardLooksAtLastEventOnly': WHATEVER THE INPUT: true; the input reads as it did. -/
def fnHeardLooksAtLastEventOnlySpec : ChangeSpec := { name := "fnHeardLooksAtLastEventOnly", fn := fun _ => fun
  | [d1, d2, d3] => { results := [.lit (.bool true)], args := [d1, d2, d3] }
  | _ => none }
def fnHeardLooksAtLastEventOnlyRow : OpenClaim := { program := "qxb6613106a", sum := "387eea32161459bff4459011e61bac3113329febbd7cf1d717efdf99324d7dfa", func := "example.com/rampline/rampline/zzlaws_internal_transfers_b1.FnHeardLooksAtLastEventOnly", spec := "fnHeardLooksAtLastEventOnly", apart := false }
def FnHeardLooksAtLastEventOnlySaid : Prop := fnHeardLooksAtLastEventOnlyRow.holds Try.pinned (OpenSpec.ofChange fnHeardLooksAtLastEventOnlySpec)

/-- ITS FALSE NEIGHBOUR: 'it returns false'. Refute it at one input. -/
def fnHeardLooksAtLastEventOnlyWrong : ChangeSpec := { name := "fnHeardLooksAtLastEventOnly", fn := fun _ => fun
  | [d1, d2, d3] => { results := [.lit (.bool false)], args := [d1, d2, d3] }
  | _ => none }
def FnHeardLooksAtLastEventOnlyWrongFalsely : Prop := fnHeardLooksAtLastEventOnlyRow.holds Try.pinned (OpenSpec.ofChange fnHeardLooksAtLastEventOnlyWrong)

/-- 'zzlaws_internal_transfers_b1.FnHeardIsLatestOfOrderedEvents': WHATEVER THE INPUT: true; the input reads as it did. -/
def fnHeardIsLatestOfOrderedEventsSpec : ChangeSpec := { name := "fnHeardIsLatestOfOrderedEvents", fn := fun _ => fun
  | [d1, d2] => { results := [.lit (.bool true)], args := [d1, d2] }
  | _ => none }
def fnHeardIsLatestOfOrderedEventsRow : OpenClaim := { program := "qxb6613106a", sum := "387eea32161459bff4459011e61bac3113329febbd7cf1d717efdf99324d7dfa", func := "example.com/rampline/rampline/zzlaws_internal_transfers_b1.FnHeardIsLatestOfOrderedEvents", spec := "fnHeardIsLatestOfOrderedEvents", apart := false }
def FnHeardIsLatestOfOrderedEventsSaid : Prop := fnHeardIsLatestOfOrderedEventsRow.holds Try.pinned (OpenSpec.ofChange fnHeardIsLatestOfOrderedEventsSpec)

/-- ITS FALSE NEIGHBOUR: 'it returns false'. Refute it at one input. -/
def fnHeardIsLatestOfOrderedEventsWrong : ChangeSpec := { name := "fnHeardIsLatestOfOrderedEvents", fn := fun _ => fun
  | [d1, d2] => { results := [.lit (.bool false)], args := [d1, d2] }
  | _ => none }
def FnHeardIsLatestOfOrderedEventsWrongFalsely : Prop := fnHeardIsLatestOfOrderedEventsRow.holds Try.pinned (OpenSpec.ofChange fnHeardIsLatestOfOrderedEventsWrong)

end Rows
end Go.Proofs.Qxb6613106a
