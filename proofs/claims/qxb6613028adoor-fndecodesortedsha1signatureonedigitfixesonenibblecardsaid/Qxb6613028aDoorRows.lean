/-
  NARROWER THAN 'FOR EVERY INPUT', by the rows' own cells (each row's printed sentence says how): FnDecodeSortedSHA1SignatureOneDigitFixesOneNibble: laid.
  DERIVED. THE GIVEN ROWS OF THIS SEAT. 1 by the template 'for every input the law returns true; each argument reads behind the call as it read before'; 0 by the template 'total and deterministic' (their statements: Qxb6613028aDoorTotals.lean).
  GIVEN WITH THE SEED: the statements are not yours to turn. If you find one false, say at which input.
  Laid BY PROGRAM, IN A SANDBOX (cutbox-rows.mjs): the forced cells as the released guide's own fill.sh prints them over the translation 3381bd843c463326… (all of the seat's roots in one cut). By AI agents, Wed Nov 11 2026. No macro, syntax, notation, axiom, sorry.
-/
import Derived.Test.Qxb6613028aDoorChecked
import GoSem.Claim
import GoSem.ClaimJoined
import GoSem.ClaimMapViews
import Derived.JoinedTies
import Derived.KernelRfl
namespace Go.Proofs.Qxb6613028aDoor
/- THE CELL 'sum', in the pinned program and in every row, IS THE sha256 OF THE DUMP (.gsa) THAT Qxb6613028aDoorProg.lean LOADS. Nothing in Lean hashes anything: it is a label: what it is worth is what the hold of that sum in a sandbox is worth. -/
noncomputable def Tryd.pinned : Pinned := { name := "qxb6613028adoor", sum := "3381bd843c46332605aad92a291e1a1ad1d664b7d15d03fe6e7a4e4db1fa3e5a", checked := Tryd.checked }
namespace Rows
def none {H : Type} : Left H := { results := [], args := [] }

/- WHAT THE LISTED PACKAGE-LEVEL VARIABLES READ AS WHEN THE CALL BEGINS. Each datum BY PROGRAM (the guide's laid-datum.mjs) off the statement by which the dump's own 'gosem.cut.vars' lays the variable. In a bare row this is a premise. The card (Qxb6613028aDoorCards.lean) ties it to the program's text. -/
def laid_encoding_hex_ErrLength {H : Type} : DataW H := .iface "*errors.errorString" (.ptr (.agg [.lit (.string [101, 110, 99, 111, 100, 105, 110, 103, 47, 104, 101, 120, 58, 32, 111, 100, 100, 32, 108, 101, 110, 103, 116, 104, 32, 104, 101, 120, 32, 115, 116, 114, 105, 110, 103])]))

/-- 'zzlaws_root_b1.FnDecodeSortedSHA1SignatureOneDigitFixesOneNibble': WHATEVER THE INPUT: true; the input reads as it did. -/
def fnDecodeSortedSHA1SignatureOneDigitFixesOneNibbleSpec : ChangeSpec := { name := "fnDecodeSortedSHA1SignatureOneDigitFixesOneNibble", fn := fun _ => fun
  | [d1, d2, d3] => { results := [.lit (.bool true)], args := [d1, d2, d3] }
  | _ => none }
def fnDecodeSortedSHA1SignatureOneDigitFixesOneNibbleRow : OpenClaim := { program := "qxb6613028adoor", sum := "3381bd843c46332605aad92a291e1a1ad1d664b7d15d03fe6e7a4e4db1fa3e5a", func := "example.com/lexsign/lexsign/zzlaws_root_b1.FnDecodeSortedSHA1SignatureOneDigitFixesOneNibble", spec := "fnDecodeSortedSHA1SignatureOneDigitFixesOneNibble", named := ["encoding/hex.ErrLength"], apart := false, laid := [("encoding/hex.ErrLength", laid_encoding_hex_ErrLength)] }
def FnDecodeSortedSHA1SignatureOneDigitFixesOneNibbleSaid : Prop := fnDecodeSortedSHA1SignatureOneDigitFixesOneNibbleRow.holds Tryd.pinned (OpenSpec.ofChange fnDecodeSortedSHA1SignatureOneDigitFixesOneNibbleSpec)

/-- ITS FALSE NEIGHBOUR: 'it returns false'. Refute it at one input. -/
def fnDecodeSortedSHA1SignatureOneDigitFixesOneNibbleWrong : ChangeSpec := { name := "fnDecodeSortedSHA1SignatureOneDigitFixesOneNibble", fn := fun _ => fun
  | [d1, d2, d3] => { results := [.lit (.bool false)], args := [d1, d2, d3] }
  | _ => none }
def FnDecodeSortedSHA1SignatureOneDigitFixesOneNibbleWrongFalsely : Prop := fnDecodeSortedSHA1SignatureOneDigitFixesOneNibbleRow.holds Tryd.pinned (OpenSpec.ofChange fnDecodeSortedSHA1SignatureOneDigitFixesOneNibbleWrong)

end Rows
end Go.Proofs.Qxb6613028aDoor
