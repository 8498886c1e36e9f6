/-
  DERIVED. GIVEN WITH THE SEED: THE CARDS: each row of YtaalpefdialjpabDoorRows.lean that lists a variable, with what it lists TIED to the program's text (the seventh form; the later family's looks); each row that meets fmt, with fmt's text TOLD by the authors' own Lean function (tested against real Go, not proved from fmt's source: count such statements apart). THE CARD IS WHAT COUNTS. Prove the row's statement (the work); the ties are given (YtaalpefdialjpabDoorTie.lean); close each card by the builder's one call (the guide's Derived/Test/ToyasCard.lean, 'card_holds'). Laid BY PROGRAM, IN A SANDBOX (cutbox-door.mjs). By AI agents, Wed Nov 11 2026. No macro, syntax, notation, axiom, sorry.
-/
import Derived.Test.YtaalpefdialjpabDoorRows
import GoSem.ClaimSeven
namespace Go.Proofs.YtaalpefdialjpabDoor
namespace Rows

/-- THE TIED CARD OF 'laws.FnSubWordIs'. -/
def fnSubWordIsCard : Claim7 := { stood := { row := fnSubWordIsRow, standIns := [], harness := (true, "3a26c709466c25706ef6043fb638cd528292350950fe17d7eba460d3efa8264d"), looks := false }, kinds := [], alts := [], laidByText := true, laidKinds := [.data], laidTests := true, laidLooks := .later }
def FnSubWordIsCardSaid : Prop := Claim7.holds Tryd.pinned (.plain (OpenSpec.ofChange fnSubWordIsSpec)) fnSubWordIsCard

/-- THE SECOND FORM's CARD OF 'laws.FnSubWordIs'. -/
def fnSubWordIsUptoCard : Claim7 := { stood := { row := fnSubWordIsUptoRow, standIns := [], harness := (true, "3a26c709466c25706ef6043fb638cd528292350950fe17d7eba460d3efa8264d"), looks := false }, kinds := [], alts := [], laidByText := true, laidKinds := [.data], laidTests := true, laidLooks := .later }
def FnSubWordIsUptoCardSaid : Prop := Claim7.holds Tryd.pinned (.plain (OpenSpec.upto fnSubWordIsSpec)) fnSubWordIsUptoCard
end Rows
end Go.Proofs.YtaalpefdialjpabDoor
