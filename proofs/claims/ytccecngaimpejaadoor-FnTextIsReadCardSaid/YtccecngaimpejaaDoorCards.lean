/-
  DERIVED. GIVEN WITH THE SEED: THE CARDS: each row of YtccecngaimpejaaDoorRows.lean that lists a variable, with what it lists TIED to the program's text (the seventh form; the later family's looks); each row that meets fmt, with fmt's text TOLD by the authors' own Lean function (tested against real Go, not proved from fmt's source: count such statements apart). THE CARD IS WHAT COUNTS. Prove the row's statement (the work); the ties are given (YtccecngaimpejaaDoorTie.lean); close each card by the builder's one call (the guide's Derived/Test/ToyasCard.lean, 'card_holds'). Laid BY PROGRAM, IN A SANDBOX (cutbox-door.mjs). By AI agents, Wed Nov 11 2026. No macro, syntax, notation, axiom, sorry.
-/
import Derived.Test.YtccecngaimpejaaDoorRows
import GoSem.ClaimSeven
namespace Go.Proofs.YtccecngaimpejaaDoor
namespace Rows

/-- THE TIED CARD OF 'laws.FnTextIsRead'. -/
def fnTextIsReadCard : Claim7 := { stood := { row := fnTextIsReadRow, standIns := [], harness := (true, "70762d63b8cafe6160a87a7341010cfba5ab679d08ffe9abc38848e863d2f2c5"), looks := true }, kinds := [], alts := [], laidByText := true, laidKinds := [.sentinel, .sentinel, .sentinel], laidTests := true, laidLooks := .later }
def FnTextIsReadCardSaid : Prop := Claim7.holds Tryd.pinned (.plain (OpenSpec.ofChange fnTextIsReadSpec)) fnTextIsReadCard

/-- THE SECOND FORM's CARD OF 'laws.FnTextIsRead'. -/
def fnTextIsReadUptoCard : Claim7 := { stood := { row := fnTextIsReadUptoRow, standIns := [], harness := (true, "70762d63b8cafe6160a87a7341010cfba5ab679d08ffe9abc38848e863d2f2c5"), looks := true }, kinds := [], alts := [], laidByText := true, laidKinds := [.sentinel, .sentinel, .sentinel], laidTests := true, laidLooks := .later }
def FnTextIsReadUptoCardSaid : Prop := Claim7.holds Tryd.pinned (.plain (OpenSpec.upto fnTextIsReadSpec)) fnTextIsReadUptoCard
end Rows
end Go.Proofs.YtccecngaimpejaaDoor
