/-
  DERIVED. GIVEN WITH THE SEED: THE CARDS: each row of YtpkipinamlbdoaaGreatDoorRows.lean that lists a variable, with what it lists TIED to the program's text (the seventh form; the later family's looks); each row that meets fmt, with fmt's text TOLD by the authors' own Lean function (tested against real Go, not proved from fmt's source: count such statements apart). THE CARD IS WHAT COUNTS. Prove the row's statement (the work); the ties are given (YtpkipinamlbdoaaGreatDoorTie.lean); close each card by the builder's one call (the guide's Derived/Test/ToyasCard.lean, 'card_holds'). Laid BY PROGRAM, IN A SANDBOX (cutbox-door.mjs). By AI agents, Wed Nov 11 2026. No macro, syntax, notation, axiom, sorry.
-/
import Derived.Test.YtpkipinamlbdoaaGreatDoorRows
import GoSem.ClaimSeven
namespace Go.Proofs.YtpkipinamlbdoaaGreatDoor
namespace Rows

/-- THE TIED CARD OF 'laws.FnTakenAny'. -/
def fnTakenAnyCard : Claim7 := { stood := { row := fnTakenAnyRow, standIns := [], harness := (true, "fe5bd7b0c779b91042e7fbe55faaee1537a1aba151b71d505cd32759bf61ed91"), looks := true }, kinds := [], alts := [], laidByText := true, laidKinds := [.sentinel, .sentinel, .sentinel, .sentinel, .sentinel, .sentinel], laidTests := true, laidLooks := .later }
def FnTakenAnyCardSaid : Prop := Claim7.holds Tryz.pinned (.plain (OpenSpec.ofChange fnTakenAnySpec)) fnTakenAnyCard

/-- THE SECOND FORM's CARD OF 'laws.FnTakenAny'. -/
def fnTakenAnyUptoCard : Claim7 := { stood := { row := fnTakenAnyUptoRow, standIns := [], harness := (true, "fe5bd7b0c779b91042e7fbe55faaee1537a1aba151b71d505cd32759bf61ed91"), looks := true }, kinds := [], alts := [], laidByText := true, laidKinds := [.sentinel, .sentinel, .sentinel, .sentinel, .sentinel, .sentinel], laidTests := true, laidLooks := .later }
def FnTakenAnyUptoCardSaid : Prop := Claim7.holds Tryz.pinned (.plain (OpenSpec.upto fnTakenAnySpec)) fnTakenAnyUptoCard
end Rows
end Go.Proofs.YtpkipinamlbdoaaGreatDoor
