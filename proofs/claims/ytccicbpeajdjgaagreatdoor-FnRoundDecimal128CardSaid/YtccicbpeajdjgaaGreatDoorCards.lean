/-
  DERIVED. GIVEN WITH THE SEED: THE CARDS: each row of YtccicbpeajdjgaaGreatDoorRows.lean that lists a variable, with what it lists TIED to the program's text (the seventh form; the later family's looks); each row that meets fmt, with fmt's text TOLD by the authors' own Lean function (tested against real Go, not proved from fmt's source: count such statements apart). THE CARD IS WHAT COUNTS. Prove the row's statement (the work); the ties are given (YtccicbpeajdjgaaGreatDoorTie.lean); close each card by the builder's one call (the guide's Derived/Test/ToyasCard.lean, 'card_holds'). Laid BY PROGRAM, IN A SANDBOX (cutbox-door.mjs). By AI agents, Wed Nov 11 2026. No macro, syntax, notation, axiom, sorry.
-/
import Derived.Test.YtccicbpeajdjgaaGreatDoorRows
import GoSem.ClaimSeven
namespace Go.Proofs.YtccicbpeajdjgaaGreatDoor
namespace Rows

/-- THE TIED CARD OF 'laws.FnRoundDecimal128'. -/
def fnRoundDecimal128Card : Claim7 := { stood := { row := fnRoundDecimal128Row, standIns := [], harness := (true, "46768b467de871cf4fc5d25cb02a7e6114e6d7704ea0859ca392b041d283e1bb"), looks := false }, kinds := [], alts := [], laidByText := true, laidKinds := [.data, .data, .data, .data, .data, .data, .data, .data, .data, .wider, .data, .pinned], laidTests := true, laidLooks := .later }
def FnRoundDecimal128CardSaid : Prop := Claim7.holds Tryz.pinned (.plain (OpenSpec.ofChange fnRoundDecimal128Spec)) fnRoundDecimal128Card

/-- THE SECOND FORM's CARD OF 'laws.FnRoundDecimal128'. -/
def fnRoundDecimal128UptoCard : Claim7 := { stood := { row := fnRoundDecimal128UptoRow, standIns := [], harness := (true, "46768b467de871cf4fc5d25cb02a7e6114e6d7704ea0859ca392b041d283e1bb"), looks := false }, kinds := [], alts := [], laidByText := true, laidKinds := [.data, .data, .data, .data, .data, .data, .data, .data, .data, .wider, .data, .pinned], laidTests := true, laidLooks := .later }
def FnRoundDecimal128UptoCardSaid : Prop := Claim7.holds Tryz.pinned (.plain (OpenSpec.upto fnRoundDecimal128Spec)) fnRoundDecimal128UptoCard
end Rows
end Go.Proofs.YtccicbpeajdjgaaGreatDoor
