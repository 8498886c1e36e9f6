/-
  DERIVED. GIVEN WITH THE SEED: THE CARDS: each row of YtaalpefdialjpaaDoorRows.lean that lists a variable, with what it lists TIED to the program's text (the seventh form; the later family's looks); each row that meets fmt, with fmt's text TOLD by the authors' own Lean function (tested against real Go, not proved from fmt's source: count such statements apart). THE CARD IS WHAT COUNTS. Prove the row's statement (the work); the ties are given (YtaalpefdialjpaaDoorTie.lean); close each card by the builder's one call (the guide's Derived/Test/ToyasCard.lean, 'card_holds'). Laid BY PROGRAM, IN A SANDBOX (cutbox-door.mjs). By AI agents, Wed Nov 11 2026. No macro, syntax, notation, axiom, sorry.
-/
import Derived.Test.YtaalpefdialjpaaDoorRows
import GoSem.ClaimSeven
namespace Go.Proofs.YtaalpefdialjpaaDoor
namespace Rows

/-- THE TIED CARD OF 'laws.FnPowerIs'. -/
def fnPowerIsCard : Claim7 := { stood := { row := fnPowerIsRow, standIns := [], harness := (true, "6e2ead0b2a5f513fcf4c2a0d84fdf0debb806ede182dcfc79ba82f88387024f0"), looks := false }, kinds := [], alts := [], laidByText := true, laidKinds := [.data], laidTests := true, laidLooks := .later }
def FnPowerIsCardSaid : Prop := Claim7.holds Tryd.pinned (.plain (OpenSpec.ofChange fnPowerIsSpec)) fnPowerIsCard

/-- THE TIED CARD OF 'laws.FnSBoxIs'. -/
def fnSBoxIsCard : Claim7 := { stood := { row := fnSBoxIsRow, standIns := [], harness := (true, "6e2ead0b2a5f513fcf4c2a0d84fdf0debb806ede182dcfc79ba82f88387024f0"), looks := false }, kinds := [], alts := [], laidByText := true, laidKinds := [.data], laidTests := true, laidLooks := .later }
def FnSBoxIsCardSaid : Prop := Claim7.holds Tryd.pinned (.plain (OpenSpec.ofChange fnSBoxIsSpec)) fnSBoxIsCard

/-- THE TIED CARD OF 'laws.FnSBoxBack'. -/
def fnSBoxBackCard : Claim7 := { stood := { row := fnSBoxBackRow, standIns := [], harness := (true, "6e2ead0b2a5f513fcf4c2a0d84fdf0debb806ede182dcfc79ba82f88387024f0"), looks := false }, kinds := [], alts := [], laidByText := true, laidKinds := [.data, .data], laidTests := true, laidLooks := .later }
def FnSBoxBackCardSaid : Prop := Claim7.holds Tryd.pinned (.plain (OpenSpec.ofChange fnSBoxBackSpec)) fnSBoxBackCard

/-- THE SECOND FORM's CARD OF 'laws.FnPowerIs'. -/
def fnPowerIsUptoCard : Claim7 := { stood := { row := fnPowerIsUptoRow, standIns := [], harness := (true, "6e2ead0b2a5f513fcf4c2a0d84fdf0debb806ede182dcfc79ba82f88387024f0"), looks := false }, kinds := [], alts := [], laidByText := true, laidKinds := [.data], laidTests := true, laidLooks := .later }
def FnPowerIsUptoCardSaid : Prop := Claim7.holds Tryd.pinned (.plain (OpenSpec.upto fnPowerIsSpec)) fnPowerIsUptoCard

/-- THE SECOND FORM's CARD OF 'laws.FnSBoxIs'. -/
def fnSBoxIsUptoCard : Claim7 := { stood := { row := fnSBoxIsUptoRow, standIns := [], harness := (true, "6e2ead0b2a5f513fcf4c2a0d84fdf0debb806ede182dcfc79ba82f88387024f0"), looks := false }, kinds := [], alts := [], laidByText := true, laidKinds := [.data], laidTests := true, laidLooks := .later }
def FnSBoxIsUptoCardSaid : Prop := Claim7.holds Tryd.pinned (.plain (OpenSpec.upto fnSBoxIsSpec)) fnSBoxIsUptoCard

/-- THE SECOND FORM's CARD OF 'laws.FnSBoxBack'. -/
def fnSBoxBackUptoCard : Claim7 := { stood := { row := fnSBoxBackUptoRow, standIns := [], harness := (true, "6e2ead0b2a5f513fcf4c2a0d84fdf0debb806ede182dcfc79ba82f88387024f0"), looks := false }, kinds := [], alts := [], laidByText := true, laidKinds := [.data, .data], laidTests := true, laidLooks := .later }
def FnSBoxBackUptoCardSaid : Prop := Claim7.holds Tryd.pinned (.plain (OpenSpec.upto fnSBoxBackSpec)) fnSBoxBackUptoCard
end Rows
end Go.Proofs.YtaalpefdialjpaaDoor
