/-
  DERIVED. GIVEN WITH THE SEED: THE CARDS: each row of YtgcdmdkemcgljaaGreatDoorRows.lean that lists a variable, with what it lists TIED to the program's text (the seventh form; the later family's looks); each row that meets fmt, with fmt's text TOLD by the authors' own Lean function (tested against real Go, not proved from fmt's source: count such statements apart). THE CARD IS WHAT COUNTS. Prove the row's statement (the work); the ties are given (YtgcdmdkemcgljaaGreatDoorTie.lean); close each card by the builder's one call (the guide's Derived/Test/ToyasCard.lean, 'card_holds'). Laid BY PROGRAM, IN A SANDBOX (cutbox-door.mjs). By AI agents, Wed Nov 11 2026. No macro, syntax, notation, axiom, sorry.
-/
import Derived.Test.YtgcdmdkemcgljaaGreatDoorRows
import GoSem.ClaimSeven
namespace Go.Proofs.YtgcdmdkemcgljaaGreatDoor
namespace Rows

/-- THE TIED CARD OF 'laws.FnEdwards'. -/
def fnEdwardsCard : Claim7 := { stood := { row := fnEdwardsRow, standIns := [], harness := (true, "c122113ff2f170db383d0e657f543f51eaf10a288c9f83f428473344a6692221"), looks := true }, kinds := [], alts := [], laidByText := true, laidKinds := [.data, .data, .sentinel, .sentinel, .sentinel, .data, .data, .data, .data, .data, .widerDeep], laidTests := true, laidLooks := .later }
def FnEdwardsCardSaid : Prop := Claim7.holds Tryz.pinned (.plain (OpenSpec.ofChange fnEdwardsSpec)) fnEdwardsCard

/-- THE SECOND FORM's CARD OF 'laws.FnEdwards'. -/
def fnEdwardsUptoCard : Claim7 := { stood := { row := fnEdwardsUptoRow, standIns := [], harness := (true, "c122113ff2f170db383d0e657f543f51eaf10a288c9f83f428473344a6692221"), looks := true }, kinds := [], alts := [], laidByText := true, laidKinds := [.data, .data, .sentinel, .sentinel, .sentinel, .data, .data, .data, .data, .data, .widerDeep], laidTests := true, laidLooks := .later }
def FnEdwardsUptoCardSaid : Prop := Claim7.holds Tryz.pinned (.plain (OpenSpec.upto fnEdwardsSpec)) fnEdwardsUptoCard
end Rows
end Go.Proofs.YtgcdmdkemcgljaaGreatDoor
