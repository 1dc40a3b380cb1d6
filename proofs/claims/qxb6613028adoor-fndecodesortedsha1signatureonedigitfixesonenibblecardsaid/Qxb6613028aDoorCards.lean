/-
  DERIVED. GIVEN WITH THE SEED: THE CARDS: each row of Qxb6613028aDoorRows.lean that lists a variable, with what it lists TIED to the program's text (the seventh form; the later family's looks); each row that meets fmt, with fmt's text TOLD by the authors' own Lean function (tested against real Go, not proved from fmt's source: count such statements apart). THE CARD IS WHAT COUNTS. Prove the row's statement (the work); the ties are given (Qxb6613028aDoorTie.lean); close each card by the builder's one call (the guide's Derived/Test/ToyasCard.lean, 'card_holds'). Laid BY PROGRAM, IN A SANDBOX (cutbox-door.mjs). By AI agents, Wed Nov 11 2026. No macro, syntax, notation, axiom, sorry.
-/
import Derived.Test.Qxb6613028aDoorRows
import GoSem.ClaimSeven
namespace Go.Proofs.Qxb6613028aDoor
namespace Rows

/-- THE TIED CARD OF 'zzlaws_root_b1.FnDecodeSortedSHA1SignatureOneDigitFixesOneNibble'. -/
def fnDecodeSortedSHA1SignatureOneDigitFixesOneNibbleCard : Claim7 := { stood := { row := fnDecodeSortedSHA1SignatureOneDigitFixesOneNibbleRow, standIns := [], harness := (true, "dfbc4a2fdb4ffba81c190287db4461b1ed4b73440ba9bff78ab4498e61953def"), looks := true }, kinds := [], alts := [], laidByText := true, laidKinds := [.called], laidTests := true, laidLooks := .later }
def FnDecodeSortedSHA1SignatureOneDigitFixesOneNibbleCardSaid : Prop := Claim7.holds Tryd.pinned (.plain (OpenSpec.ofChange fnDecodeSortedSHA1SignatureOneDigitFixesOneNibbleSpec)) fnDecodeSortedSHA1SignatureOneDigitFixesOneNibbleCard
end Rows
end Go.Proofs.Qxb6613028aDoor
