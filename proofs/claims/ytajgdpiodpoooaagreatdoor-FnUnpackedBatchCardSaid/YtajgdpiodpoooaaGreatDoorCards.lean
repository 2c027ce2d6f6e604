/-
  DERIVED. GIVEN WITH THE SEED: THE CARDS: each row of YtajgdpiodpoooaaGreatDoorRows.lean that lists a variable, with what it lists TIED to the program's text (the seventh form; the later family's looks); each row that meets fmt, with fmt's text TOLD by the authors' own Lean function (tested against real Go, not proved from fmt's source: count such statements apart). THE CARD IS WHAT COUNTS. Prove the row's statement (the work); the ties are given (YtajgdpiodpoooaaGreatDoorTie.lean); close each card by the builder's one call (the guide's Derived/Test/ToyasCard.lean, 'card_holds'). Laid BY PROGRAM, IN A SANDBOX (cutbox-door.mjs). By AI agents, Wed Nov 11 2026. No macro, syntax, notation, axiom, sorry.
-/
import Derived.Test.YtajgdpiodpoooaaGreatDoorRows
import GoSem.ClaimSeven
namespace Go.Proofs.YtajgdpiodpoooaaGreatDoor
namespace Rows

/-- THE TIED CARD OF 'laws.FnUnpackedBatch'. -/
def fnUnpackedBatchCard : Claim7 := { stood := { row := fnUnpackedBatchRow, standIns := [], harness := (true, "7886318c6c2a38372b20d1f2bc61ce2e76b5a9da7159718318202f51af0db3c1"), looks := true }, kinds := [], alts := [], laidByText := true, laidKinds := [.sentinel, .sentinel, .sentinel, .sentinel, .data, .data], laidTests := true, laidLooks := .later }
def FnUnpackedBatchCardSaid : Prop := Claim7.holds Tryz.pinned (.plain (OpenSpec.ofChange fnUnpackedBatchSpec)) fnUnpackedBatchCard

/-- THE SECOND FORM's CARD OF 'laws.FnUnpackedBatch'. -/
def fnUnpackedBatchUptoCard : Claim7 := { stood := { row := fnUnpackedBatchUptoRow, standIns := [], harness := (true, "7886318c6c2a38372b20d1f2bc61ce2e76b5a9da7159718318202f51af0db3c1"), looks := true }, kinds := [], alts := [], laidByText := true, laidKinds := [.sentinel, .sentinel, .sentinel, .sentinel, .data, .data], laidTests := true, laidLooks := .later }
def FnUnpackedBatchUptoCardSaid : Prop := Claim7.holds Tryz.pinned (.plain (OpenSpec.upto fnUnpackedBatchSpec)) fnUnpackedBatchUptoCard
end Rows
end Go.Proofs.YtajgdpiodpoooaaGreatDoor
