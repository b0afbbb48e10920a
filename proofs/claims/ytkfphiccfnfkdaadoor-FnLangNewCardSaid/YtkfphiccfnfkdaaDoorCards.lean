/-
  DERIVED. GIVEN WITH THE SEED: THE CARDS: each row of YtkfphiccfnfkdaaDoorRows.lean that lists a variable, with what it lists TIED to the program's text (the seventh form; the later family's looks); each row that meets fmt, with fmt's text TOLD by the authors' own Lean function (tested against real Go, not proved from fmt's source: count such statements apart). THE CARD IS WHAT COUNTS. Prove the row's statement (the work); the ties are given (YtkfphiccfnfkdaaDoorTie.lean); close each card by the builder's one call (the guide's Derived/Test/ToyasCard.lean, 'card_holds'). Laid BY PROGRAM, IN A SANDBOX (cutbox-door.mjs). By AI agents, Wed Nov 11 2026. No macro, syntax, notation, axiom, sorry.
-/
import Derived.Test.YtkfphiccfnfkdaaDoorRows
import GoSem.ClaimSeven
namespace Go.Proofs.YtkfphiccfnfkdaaDoor
namespace Rows

/-- THE TIED CARD OF 'laws.FnLangNew'. -/
def fnLangNewCard : Claim7 := { stood := { row := fnLangNewRow, standIns := [], harness := (true, "f1216b0d7ff14c9aae5b02cb19e54ab82b08e44f8c034f5e60c4c30f0ea23ca6"), looks := false }, kinds := [], alts := [], laidByText := true, laidKinds := [.data], laidTests := true, laidLooks := .later }
def FnLangNewCardSaid : Prop := Claim7.holds Tryd.pinned (.plain (OpenSpec.ofChange fnLangNewSpec)) fnLangNewCard

/-- THE SECOND FORM's CARD OF 'laws.FnLangNew'. -/
def fnLangNewUptoCard : Claim7 := { stood := { row := fnLangNewUptoRow, standIns := [], harness := (true, "f1216b0d7ff14c9aae5b02cb19e54ab82b08e44f8c034f5e60c4c30f0ea23ca6"), looks := false }, kinds := [], alts := [], laidByText := true, laidKinds := [.data], laidTests := true, laidLooks := .later }
def FnLangNewUptoCardSaid : Prop := Claim7.holds Tryd.pinned (.plain (OpenSpec.upto fnLangNewSpec)) fnLangNewUptoCard
end Rows
end Go.Proofs.YtkfphiccfnfkdaaDoor
