/-
  No cell of these rows narrows 'for every input' (looked for: loops, veiled, ifaces, maps, wideKeys, modest, calm, conditions, laid).
  DERIVED. THE GIVEN ROWS OF THIS SEAT. 1 by the template 'for every input the law returns true; each argument reads behind the call as it read before'; 0 by the template 'total and deterministic' (their statements: Qxb6613028aTotals.lean).
  GIVEN WITH THE SEED: the statements are not yours to turn. If you find one false, say at which input.
  Laid BY PROGRAM, IN A SANDBOX (cutbox-rows.mjs): the forced cells as the released guide's own fill.sh prints them over the translation 086ebe3017413520… (all of the seat's roots in one cut). By AI agents, Wed Nov 11 2026. No macro, syntax, notation, axiom, sorry.
-/
import Derived.Test.Qxb6613028aChecked
import GoSem.Claim
import GoSem.ClaimJoined
import GoSem.ClaimMapViews
import Derived.JoinedTies
import Derived.KernelRfl
namespace Go.Proofs.Qxb6613028a
/- THE CELL 'sum', in the pinned program and in every row, IS THE sha256 OF THE DUMP (.gsa) THAT Qxb6613028aProg.lean LOADS. Nothing in Lean hashes anything: it is a label: what it is worth is what the hold of that sum in a sandbox is worth. -/
noncomputable def Try.pinned : Pinned := { name := "qxb6613028a", sum := "086ebe3017413520db6057e8ccf0db7ebda18305260a51beb3a68d94aaaa3610", checked := Try.checked }
namespace Rows
def none {H : Type} : Left H := { results := [], args := [] }

/-- 'zzlaws_root_b1.FnAtDigitAgreesWithHexDigitAtEveryOffset': WHATEVER THE INPUT: true; the input reads as it did. -/
def fnAtDigitAgreesWithHexDigitAtEveryOffsetSpec : ChangeSpec := { name := "fnAtDigitAgreesWithHexDigitAtEveryOffset", fn := fun _ => fun
  | [d] => { results := [.lit (.bool true)], args := [d] }
  | _ => none }
def fnAtDigitAgreesWithHexDigitAtEveryOffsetRow : OpenClaim := { program := "qxb6613028a", sum := "086ebe3017413520db6057e8ccf0db7ebda18305260a51beb3a68d94aaaa3610", func := "example.com/lexsign/lexsign/zzlaws_root_b1.FnAtDigitAgreesWithHexDigitAtEveryOffset", spec := "fnAtDigitAgreesWithHexDigitAtEveryOffset", apart := false }
def FnAtDigitAgreesWithHexDigitAtEveryOffsetSaid : Prop := fnAtDigitAgreesWithHexDigitAtEveryOffsetRow.holds Try.pinned (OpenSpec.ofChange fnAtDigitAgreesWithHexDigitAtEveryOffsetSpec)

/-- ITS FALSE NEIGHBOUR: 'it returns false'. Refute it at one input. -/
def fnAtDigitAgreesWithHexDigitAtEveryOffsetWrong : ChangeSpec := { name := "fnAtDigitAgreesWithHexDigitAtEveryOffset", fn := fun _ => fun
  | [d] => { results := [.lit (.bool false)], args := [d] }
  | _ => none }
def FnAtDigitAgreesWithHexDigitAtEveryOffsetWrongFalsely : Prop := fnAtDigitAgreesWithHexDigitAtEveryOffsetRow.holds Try.pinned (OpenSpec.ofChange fnAtDigitAgreesWithHexDigitAtEveryOffsetWrong)

end Rows
end Go.Proofs.Qxb6613028a
