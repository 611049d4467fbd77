/-
  DERIVED. GIVEN WITH THE SEED: THE CARDS: each row of YtcelplibjhannaaDoorRows.lean that lists a variable, with what it lists TIED to the program's text (the seventh form; the later family's looks); each row that meets fmt, with fmt's text TOLD by the authors' own Lean function (tested against real Go, not proved from fmt's source: count such statements apart). THE CARD IS WHAT COUNTS. Prove the row's statement (the work); the ties are given (YtcelplibjhannaaDoorTie.lean); close each card by the builder's one call (the guide's Derived/Test/ToyasCard.lean, 'card_holds'). Laid BY PROGRAM, IN A SANDBOX (cutbox-door.mjs). By AI agents, Wed Nov 11 2026. No macro, syntax, notation, axiom, sorry.
-/
import Derived.Test.YtcelplibjhannaaDoorRows
import GoSem.ClaimSeven
namespace Go.Proofs.YtcelplibjhannaaDoor
namespace Rows

/-- THE TIED CARD OF 'laws.FnPunycodeRead'. -/
def fnPunycodeReadCard : Claim7 := { stood := { row := fnPunycodeReadRow, standIns := [], harness := (true, "e4fb1be3392bb99728fa2caced2afe01d04ff3d85cdc8f89973d3085557e67d2"), looks := true }, kinds := [], alts := [], laidByText := true, laidKinds := [.data, .data, .data, .sentinel, .mapped], laidTests := true, laidLooks := .later }
def FnPunycodeReadCardSaid : Prop := Claim7.holds Tryd.pinned (.plain (OpenSpec.ofChange fnPunycodeReadSpec)) fnPunycodeReadCard

/-- THE SECOND FORM's CARD OF 'laws.FnPunycodeRead'. -/
def fnPunycodeReadUptoCard : Claim7 := { stood := { row := fnPunycodeReadUptoRow, standIns := [], harness := (true, "e4fb1be3392bb99728fa2caced2afe01d04ff3d85cdc8f89973d3085557e67d2"), looks := true }, kinds := [], alts := [], laidByText := true, laidKinds := [.data, .data, .data, .sentinel, .mapped], laidTests := true, laidLooks := .later }
def FnPunycodeReadUptoCardSaid : Prop := Claim7.holds Tryd.pinned (.plain (OpenSpec.upto fnPunycodeReadSpec)) fnPunycodeReadUptoCard
end Rows
end Go.Proofs.YtcelplibjhannaaDoor
