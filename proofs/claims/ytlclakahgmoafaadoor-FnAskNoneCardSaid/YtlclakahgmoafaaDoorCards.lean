/-
  DERIVED. GIVEN WITH THE SEED: THE CARDS: each row of YtlclakahgmoafaaDoorRows.lean that lists a variable, with what it lists TIED to the program's text (the seventh form; the later family's looks); each row that meets fmt, with fmt's text TOLD by the authors' own Lean function (tested against real Go, not proved from fmt's source: count such statements apart). THE CARD IS WHAT COUNTS. Prove the row's statement (the work); the ties are given (YtlclakahgmoafaaDoorTie.lean); close each card by the builder's one call (the guide's Derived/Test/ToyasCard.lean, 'card_holds'). Laid BY PROGRAM, IN A SANDBOX (cutbox-door.mjs). By AI agents, Wed Nov 11 2026. No macro, syntax, notation, axiom, sorry.
-/
import Derived.Test.YtlclakahgmoafaaDoorRows
import GoSem.ClaimSeven
namespace Go.Proofs.YtlclakahgmoafaaDoor
namespace Rows

/-- THE TIED CARD OF 'laws.FnAskNone'. -/
def fnAskNoneCard : Claim7 := { stood := { row := fnAskNoneRow, standIns := [], harness := (true, "80e7438f2618b6ab3210cfe0a54c198cf5cfb11ef2d1728a29301793c4c200cc"), looks := true }, kinds := [], alts := [], laidByText := true, laidKinds := [.data, .data, .data, .sentinel, .sentinel], laidTests := true, laidLooks := .later }
def FnAskNoneCardSaid : Prop := Claim7.holds Tryd.pinned (.plain (OpenSpec.ofChange fnAskNoneSpec)) fnAskNoneCard

/-- THE TIED CARD OF 'laws.FnAskOf'. -/
def fnAskOfCard : Claim7 := { stood := { row := fnAskOfRow, standIns := [], harness := (true, "80e7438f2618b6ab3210cfe0a54c198cf5cfb11ef2d1728a29301793c4c200cc"), looks := true }, kinds := [], alts := [], laidByText := true, laidKinds := [.data, .data, .data, .sentinel, .sentinel], laidTests := true, laidLooks := .later }
def FnAskOfCardSaid : Prop := Claim7.holds Tryd.pinned (.plain (OpenSpec.ofChange fnAskOfSpec)) fnAskOfCard

/-- THE SECOND FORM's CARD OF 'laws.FnAskNone'. -/
def fnAskNoneUptoCard : Claim7 := { stood := { row := fnAskNoneUptoRow, standIns := [], harness := (true, "80e7438f2618b6ab3210cfe0a54c198cf5cfb11ef2d1728a29301793c4c200cc"), looks := true }, kinds := [], alts := [], laidByText := true, laidKinds := [.data, .data, .data, .sentinel, .sentinel], laidTests := true, laidLooks := .later }
def FnAskNoneUptoCardSaid : Prop := Claim7.holds Tryd.pinned (.plain (OpenSpec.upto fnAskNoneSpec)) fnAskNoneUptoCard

/-- THE SECOND FORM's CARD OF 'laws.FnAskOf'. -/
def fnAskOfUptoCard : Claim7 := { stood := { row := fnAskOfUptoRow, standIns := [], harness := (true, "80e7438f2618b6ab3210cfe0a54c198cf5cfb11ef2d1728a29301793c4c200cc"), looks := true }, kinds := [], alts := [], laidByText := true, laidKinds := [.data, .data, .data, .sentinel, .sentinel], laidTests := true, laidLooks := .later }
def FnAskOfUptoCardSaid : Prop := Claim7.holds Tryd.pinned (.plain (OpenSpec.upto fnAskOfSpec)) fnAskOfUptoCard
end Rows
end Go.Proofs.YtlclakahgmoafaaDoor
