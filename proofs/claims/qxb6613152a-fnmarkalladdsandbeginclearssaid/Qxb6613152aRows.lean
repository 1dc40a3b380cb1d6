/-
  No cell of these rows narrows 'for every input' (looked for: loops, veiled, ifaces, maps, wideKeys, modest, calm, conditions, laid).
  DERIVED. THE GIVEN ROWS OF THIS SEAT. 4 by the template 'for every input the law returns true; each argument reads behind the call as it read before'; 0 by the template 'total and deterministic' (their statements: Qxb6613152aTotals.lean).
  GIVEN WITH THE SEED: the statements are not yours to turn. If you find one false, say at which input.
  Laid BY PROGRAM, IN A SANDBOX (cutbox-rows.mjs): the forced cells as the released guide's own fill.sh prints them over the translation 3db48bee3d51b06e… (all of the seat's roots in one cut). By AI agents, Wed Nov 11 2026. No macro, syntax, notation, axiom, sorry.
-/
import Derived.Test.Qxb6613152aChecked
import GoSem.Claim
import GoSem.ClaimJoined
import GoSem.ClaimMapViews
import Derived.JoinedTies
import Derived.KernelRfl
namespace Go.Proofs.Qxb6613152a
/- THE CELL 'sum', in the pinned program and in every row, IS THE sha256 OF THE DUMP (.gsa) THAT Qxb6613152aProg.lean LOADS. Nothing in Lean hashes anything: it is a label: what it is worth is what the hold of that sum in a sandbox is worth. -/
noncomputable def Try.pinned : Pinned := { name := "qxb6613152a", sum := "3db48bee3d51b06e9b8f0e881008be76afb2e413aa26ad09c3e46192a9f6b4ba", checked := Try.checked }
namespace Rows
def none {H : Type} : Left H := { results := [], args := [] }

/-- 'zzlaws_regexset_b1.FnMarkOnlyMarksExactlyItsList': WHATEVER THE INPUT: true; the input reads as it did. -/
def fnMarkOnlyMarksExactlyItsListSpec : ChangeSpec := { name := "fnMarkOnlyMarksExactlyItsList", fn := fun _ => fun
  | [d1, d2, d3] => { results := [.lit (.bool true)], args := [d1, d2, d3] }
  | _ => none }
def fnMarkOnlyMarksExactlyItsListRow : OpenClaim := { program := "qxb6613152a", sum := "3db48bee3d51b06e9b8f0e881008be76afb2e413aa26ad09c3e46192a9f6b4ba", func := "example.com/methodical/methodical/zzlaws_regexset_b1.FnMarkOnlyMarksExactlyItsList", spec := "fnMarkOnlyMarksExactlyItsList", plainKeys := false, apart := false }
def FnMarkOnlyMarksExactlyItsListSaid : Prop := fnMarkOnlyMarksExactlyItsListRow.holds Try.pinned (OpenSpec.ofChange fnMarkOnlyMarksExactlyItsListSpec)

/-- ITS FALSE NEIGHBOUR: 'it returns false'. Refute it at one input. -/
def fnMarkOnlyMarksExactlyItsListWrong : ChangeSpec := { name := "fnMarkOnlyMarksExactlyItsList", fn := fun _ => fun
  | [d1, d2, d3] => { results := [.lit (.bool false)], args := [d1, d2, d3] }
  | _ => none }
def FnMarkOnlyMarksExactlyItsListWrongFalsely : Prop := fnMarkOnlyMarksExactlyItsListRow.holds Try.pinned (OpenSpec.ofChange fnMarkOnlyMarksExactlyItsListWrong)

/-- 'zzlaws_regexset_b1.FnMarkAllAddsAndBeginClears': WHATEVER THE INPUT: true; the input reads as it did. -/
def fnMarkAllAddsAndBeginClearsSpec : ChangeSpec := { name := "fnMarkAllAddsAndBeginClears", fn := fun _ => fun
  | [d1, d2, d3, d4] => { results := [.lit (.bool true)], args := [d1, d2, d3, d4] }
  | _ => none }
def fnMarkAllAddsAndBeginClearsRow : OpenClaim := { program := "qxb6613152a", sum := "3db48bee3d51b06e9b8f0e881008be76afb2e413aa26ad09c3e46192a9f6b4ba", func := "example.com/methodical/methodical/zzlaws_regexset_b1.FnMarkAllAddsAndBeginClears", spec := "fnMarkAllAddsAndBeginClears", plainKeys := false, apart := false }
def FnMarkAllAddsAndBeginClearsSaid : Prop := fnMarkAllAddsAndBeginClearsRow.holds Try.pinned (OpenSpec.ofChange fnMarkAllAddsAndBeginClearsSpec)

/-- ITS FALSE NEIGHBOUR: 'it returns false'. Refute it at one input. -/
def fnMarkAllAddsAndBeginClearsWrong : ChangeSpec := { name := "fnMarkAllAddsAndBeginClears", fn := fun _ => fun
  | [d1, d2, d3, d4] => { results := [.lit (.bool false)], args := [d1, d2, d3, d4] }
  | _ => none }
def FnMarkAllAddsAndBeginClearsWrongFalsely : Prop := fnMarkAllAddsAndBeginClearsRow.holds Try.pinned (OpenSpec.ofChange fnMarkAllAddsAndBeginClearsWrong)

/-- 'zzlaws_regexset_b1.FnTakeLoopsMatchesTableModel': WHATEVER THE INPUT: true; the input reads as it did. -/
def fnTakeLoopsMatchesTableModelSpec : ChangeSpec := { name := "fnTakeLoopsMatchesTableModel", fn := fun _ => fun
  | [d1, d2, d3] => { results := [.lit (.bool true)], args := [d1, d2, d3] }
  | _ => none }
def fnTakeLoopsMatchesTableModelRow : OpenClaim := { program := "qxb6613152a", sum := "3db48bee3d51b06e9b8f0e881008be76afb2e413aa26ad09c3e46192a9f6b4ba", func := "example.com/methodical/methodical/zzlaws_regexset_b1.FnTakeLoopsMatchesTableModel", spec := "fnTakeLoopsMatchesTableModel", unfollowed := true, recurses := true, plainKeys := false, apart := false }
def FnTakeLoopsMatchesTableModelSaid : Prop := fnTakeLoopsMatchesTableModelRow.holds Try.pinned (OpenSpec.ofChange fnTakeLoopsMatchesTableModelSpec)

/-- ITS FALSE NEIGHBOUR: 'it returns false'. Refute it at one input. -/
def fnTakeLoopsMatchesTableModelWrong : ChangeSpec := { name := "fnTakeLoopsMatchesTableModel", fn := fun _ => fun
  | [d1, d2, d3] => { results := [.lit (.bool false)], args := [d1, d2, d3] }
  | _ => none }
def FnTakeLoopsMatchesTableModelWrongFalsely : Prop := fnTakeLoopsMatchesTableModelRow.holds Try.pinned (OpenSpec.ofChange fnTakeLoopsMatchesTableModelWrong)

/-- 'zzlaws_regexset_b1.FnTakeLoopsTwiceTakesNothingMore': WHATEVER THE INPUT: true; the input reads as it did. -/
def fnTakeLoopsTwiceTakesNothingMoreSpec : ChangeSpec := { name := "fnTakeLoopsTwiceTakesNothingMore", fn := fun _ => fun
  | [d1, d2, d3] => { results := [.lit (.bool true)], args := [d1, d2, d3] }
  | _ => none }
def fnTakeLoopsTwiceTakesNothingMoreRow : OpenClaim := { program := "qxb6613152a", sum := "3db48bee3d51b06e9b8f0e881008be76afb2e413aa26ad09c3e46192a9f6b4ba", func := "example.com/methodical/methodical/zzlaws_regexset_b1.FnTakeLoopsTwiceTakesNothingMore", spec := "fnTakeLoopsTwiceTakesNothingMore", unfollowed := true, recurses := true, plainKeys := false, apart := false }
def FnTakeLoopsTwiceTakesNothingMoreSaid : Prop := fnTakeLoopsTwiceTakesNothingMoreRow.holds Try.pinned (OpenSpec.ofChange fnTakeLoopsTwiceTakesNothingMoreSpec)

/-- ITS FALSE NEIGHBOUR: 'it returns false'. Refute it at one input. -/
def fnTakeLoopsTwiceTakesNothingMoreWrong : ChangeSpec := { name := "fnTakeLoopsTwiceTakesNothingMore", fn := fun _ => fun
  | [d1, d2, d3] => { results := [.lit (.bool false)], args := [d1, d2, d3] }
  | _ => none }
def FnTakeLoopsTwiceTakesNothingMoreWrongFalsely : Prop := fnTakeLoopsTwiceTakesNothingMoreRow.holds Try.pinned (OpenSpec.ofChange fnTakeLoopsTwiceTakesNothingMoreWrong)

end Rows
end Go.Proofs.Qxb6613152a
