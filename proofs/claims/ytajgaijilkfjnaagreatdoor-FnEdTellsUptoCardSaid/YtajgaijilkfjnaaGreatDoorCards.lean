/-
  DERIVED. GIVEN WITH THE SEED: THE CARDS: each row of YtajgaijilkfjnaaGreatDoorRows.lean that lists a variable, with what it lists TIED to the program's text (the seventh form; the later family's looks); each row that meets fmt, with fmt's text TOLD by the authors' own Lean function (tested against real Go, not proved from fmt's source: count such statements apart). THE CARD IS WHAT COUNTS. Prove the row's statement (the work); the ties are given (YtajgaijilkfjnaaGreatDoorTie.lean); close each card by the builder's one call (the guide's Derived/Test/ToyasCard.lean, 'card_holds'). Laid BY PROGRAM, IN A SANDBOX (cutbox-door.mjs). By AI agents, Wed Nov 11 2026. No macro, syntax, notation, axiom, sorry.
-/
import Derived.Test.YtajgaijilkfjnaaGreatDoorRows
import GoSem.ClaimSeven
namespace Go.Proofs.YtajgaijilkfjnaaGreatDoor
namespace Rows

/-- THE TIED CARD OF 'laws.FnEdTells'. -/
def fnEdTellsCard : Claim7 := { stood := { row := fnEdTellsRow, standIns := [], harness := (true, "4cdd7e95785e7031cbb467b445eb07862b82a2e079afddbab3cd29793360c4e8"), looks := true }, kinds := [], alts := [], laidByText := true, laidKinds := [.data, .data, .sentinel, .sentinel, .sentinel, .data, .data, .data, .data, .data, .widerDeep], laidTests := true, laidLooks := .later }
def FnEdTellsCardSaid : Prop := Claim7.holds Tryz.pinned (.plain (OpenSpec.ofChange fnEdTellsSpec)) fnEdTellsCard

/-- THE SECOND FORM's CARD OF 'laws.FnEdTells'. -/
def fnEdTellsUptoCard : Claim7 := { stood := { row := fnEdTellsUptoRow, standIns := [], harness := (true, "4cdd7e95785e7031cbb467b445eb07862b82a2e079afddbab3cd29793360c4e8"), looks := true }, kinds := [], alts := [], laidByText := true, laidKinds := [.data, .data, .sentinel, .sentinel, .sentinel, .data, .data, .data, .data, .data, .widerDeep], laidTests := true, laidLooks := .later }
def FnEdTellsUptoCardSaid : Prop := Claim7.holds Tryz.pinned (.plain (OpenSpec.upto fnEdTellsSpec)) fnEdTellsUptoCard
end Rows
end Go.Proofs.YtajgaijilkfjnaaGreatDoor
