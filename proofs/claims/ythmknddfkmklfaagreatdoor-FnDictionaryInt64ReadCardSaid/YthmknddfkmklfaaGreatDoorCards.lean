/-
  DERIVED. GIVEN WITH THE SEED: THE CARDS: each row of YthmknddfkmklfaaGreatDoorRows.lean that lists a variable, with what it lists TIED to the program's text (the seventh form; the later family's looks); each row that meets fmt, with fmt's text TOLD by the authors' own Lean function (tested against real Go, not proved from fmt's source: count such statements apart). THE CARD IS WHAT COUNTS. Prove the row's statement (the work); the ties are given (YthmknddfkmklfaaGreatDoorTie.lean); close each card by the builder's one call (the guide's Derived/Test/ToyasCard.lean, 'card_holds'). Laid BY PROGRAM, IN A SANDBOX (cutbox-door.mjs). By AI agents, Wed Nov 11 2026. No macro, syntax, notation, axiom, sorry.
-/
import Derived.Test.YthmknddfkmklfaaGreatDoorRows
import GoSem.ClaimSeven
namespace Go.Proofs.YthmknddfkmklfaaGreatDoor
namespace Rows

/-- THE TIED CARD OF 'laws.FnDictionaryInt64Read'. -/
def fnDictionaryInt64ReadCard : Claim7 := { stood := { row := fnDictionaryInt64ReadRow, standIns := [], harness := (true, "edc67a975feeb97461fed044479c5b08ec35437744a805c9f9ea20cb111b7620"), looks := true }, kinds := [], alts := [], laidByText := true, laidKinds := [.sentinel, .sentinel, .sentinel, .sentinel], laidTests := true, laidLooks := .later }
def FnDictionaryInt64ReadCardSaid : Prop := Claim7.holds Tryz.pinned (.plain (OpenSpec.ofChange fnDictionaryInt64ReadSpec)) fnDictionaryInt64ReadCard

/-- THE SECOND FORM's CARD OF 'laws.FnDictionaryInt64Read'. -/
def fnDictionaryInt64ReadUptoCard : Claim7 := { stood := { row := fnDictionaryInt64ReadUptoRow, standIns := [], harness := (true, "edc67a975feeb97461fed044479c5b08ec35437744a805c9f9ea20cb111b7620"), looks := true }, kinds := [], alts := [], laidByText := true, laidKinds := [.sentinel, .sentinel, .sentinel, .sentinel], laidTests := true, laidLooks := .later }
def FnDictionaryInt64ReadUptoCardSaid : Prop := Claim7.holds Tryz.pinned (.plain (OpenSpec.upto fnDictionaryInt64ReadSpec)) fnDictionaryInt64ReadUptoCard
end Rows
end Go.Proofs.YthmknddfkmklfaaGreatDoor
