/-
  DERIVED. GIVEN WITH THE SEED: THE CARDS: each row of YtalajbfpilhfgaaGreatDoorRows.lean that lists a variable, with what it lists TIED to the program's text (the seventh form; the later family's looks); each row that meets fmt, with fmt's text TOLD by the authors' own Lean function (tested against real Go, not proved from fmt's source: count such statements apart). THE CARD IS WHAT COUNTS. Prove the row's statement (the work); the ties are given (YtalajbfpilhfgaaGreatDoorTie.lean); close each card by the builder's one call (the guide's Derived/Test/ToyasCard.lean, 'card_holds'). Laid BY PROGRAM, IN A SANDBOX (cutbox-door.mjs). By AI agents, Wed Nov 11 2026. No macro, syntax, notation, axiom, sorry.
-/
import Derived.Test.YtalajbfpilhfgaaGreatDoorRows
import GoSem.ClaimSeven
namespace Go.Proofs.YtalajbfpilhfgaaGreatDoor
namespace Rows

/-- THE TIED CARD OF 'laws.FnInlineAlone'. -/
def fnInlineAloneCard : Claim7 := { stood := { row := fnInlineAloneRow, standIns := [], harness := (true, "148fdf303880c9ca6f394c67ee91bba53d9c1c18046a541bf068960b7b221b7d"), looks := false }, kinds := [], alts := [], laidByText := true, laidKinds := [.data, .data, .data, .sentinel], laidTests := true, laidLooks := .later }
def FnInlineAloneCardSaid : Prop := Claim7.holds Tryz.pinned (.plain (OpenSpec.ofChange fnInlineAloneSpec)) fnInlineAloneCard

/-- THE SECOND FORM's CARD OF 'laws.FnInlineAlone'. -/
def fnInlineAloneUptoCard : Claim7 := { stood := { row := fnInlineAloneUptoRow, standIns := [], harness := (true, "148fdf303880c9ca6f394c67ee91bba53d9c1c18046a541bf068960b7b221b7d"), looks := false }, kinds := [], alts := [], laidByText := true, laidKinds := [.data, .data, .data, .sentinel], laidTests := true, laidLooks := .later }
def FnInlineAloneUptoCardSaid : Prop := Claim7.holds Tryz.pinned (.plain (OpenSpec.upto fnInlineAloneSpec)) fnInlineAloneUptoCard
end Rows
end Go.Proofs.YtalajbfpilhfgaaGreatDoor
