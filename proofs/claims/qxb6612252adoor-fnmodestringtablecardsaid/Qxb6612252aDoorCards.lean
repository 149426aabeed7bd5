/-
  DERIVED. GIVEN WITH THE SEED: THE CARDS: each row of Qxb6612252aDoorRows.lean that lists a variable, with what it lists TIED to the program's text (the seventh form; the later family's looks); each row that meets fmt, with fmt's text TOLD by the authors' own Lean function (tested against real Go, not proved from fmt's source: count such statements apart). THE CARD IS WHAT COUNTS. Prove the row's statement (the work); the ties are given (Qxb6612252aDoorTie.lean); close each card by the builder's one call (the guide's Derived/Test/ToyasCard.lean, 'card_holds'). Laid BY PROGRAM, IN A SANDBOX (cutbox-door.mjs). By AI agents, Wed Nov 11 2026. No macro, syntax, notation, axiom, sorry.
-/
import Derived.Test.Qxb6612252aDoorRows
import GoSem.ClaimSeven
namespace Go.Proofs.Qxb6612252aDoor
namespace Rows

/-- THE TIED CARD OF 'zzlaws_root_b1.FnModeStringTable'. -/
def fnModeStringTableCard : Claim7 := { stood := { row := fnModeStringTableRow, standIns := [], harness := (true, "b9155e67f5dc34a99c7a466b8bcc1eeb3b73505a328b8a954edafeae4e15728e"), looks := false }, kinds := [], alts := [], laidByText := true, laidKinds := [.data, .data, .data, .widerDeep], laidTests := true, laidLooks := .later }
def FnModeStringTableCardSaid : Prop := Claim7.holds Tryd.pinned (.plain (OpenSpec.ofChange fnModeStringTableSpec)) fnModeStringTableCard

/-- THE TIED CARD OF 'zzlaws_root_b1.FnModeStringInjective'. -/
def fnModeStringInjectiveCard : Claim7 := { stood := { row := fnModeStringInjectiveRow, standIns := [], harness := (true, "b9155e67f5dc34a99c7a466b8bcc1eeb3b73505a328b8a954edafeae4e15728e"), looks := false }, kinds := [], alts := [], laidByText := true, laidKinds := [.data, .data, .data, .widerDeep], laidTests := true, laidLooks := .later }
def FnModeStringInjectiveCardSaid : Prop := Claim7.holds Tryd.pinned (.plain (OpenSpec.ofChange fnModeStringInjectiveSpec)) fnModeStringInjectiveCard
end Rows
end Go.Proofs.Qxb6612252aDoor
