/-
  DERIVED. GIVEN WITH THE SEED: THE CARDS: each row of YtdaeenabeadfmaaDoorRows.lean that lists a variable, with what it lists TIED to the program's text (the seventh form; the later family's looks); each row that meets fmt, with fmt's text TOLD by the authors' own Lean function (tested against real Go, not proved from fmt's source: count such statements apart). THE CARD IS WHAT COUNTS. Prove the row's statement (the work); the ties are given (YtdaeenabeadfmaaDoorTie.lean); close each card by the builder's one call (the guide's Derived/Test/ToyasCard.lean, 'card_holds'). Laid BY PROGRAM, IN A SANDBOX (cutbox-door.mjs). By AI agents, Wed Nov 11 2026. No macro, syntax, notation, axiom, sorry.
-/
import Derived.Test.YtdaeenabeadfmaaDoorRows
import GoSem.ClaimSeven
namespace Go.Proofs.YtdaeenabeadfmaaDoor
namespace Rows

/-- THE TIED CARD OF 'laws.FnFileLineText'. -/
def fnFileLineTextCard : Claim7 := { stood := { row := fnFileLineTextRow, standIns := [], harness := (true, "2a4285003b476b080d56df9ded4dd8e42bedd70108ec079b1cdb7a6b5c131ad2"), looks := false }, kinds := [], alts := [], laidByText := true, laidKinds := [.data, .data, .data], laidTests := true, laidLooks := .later }
def FnFileLineTextCardSaid : Prop := Claim7.holds Tryd.pinned (.plain (OpenSpec.ofChange fnFileLineTextSpec)) fnFileLineTextCard

/-- THE SECOND FORM's CARD OF 'laws.FnFileLineText'. -/
def fnFileLineTextUptoCard : Claim7 := { stood := { row := fnFileLineTextUptoRow, standIns := [], harness := (true, "2a4285003b476b080d56df9ded4dd8e42bedd70108ec079b1cdb7a6b5c131ad2"), looks := false }, kinds := [], alts := [], laidByText := true, laidKinds := [.data, .data, .data], laidTests := true, laidLooks := .later }
def FnFileLineTextUptoCardSaid : Prop := Claim7.holds Tryd.pinned (.plain (OpenSpec.upto fnFileLineTextSpec)) fnFileLineTextUptoCard
end Rows
end Go.Proofs.YtdaeenabeadfmaaDoor
