/-
  DERIVED. GIVEN WITH THE SEED: THE CARDS: each row of YtdakagahofalkaaGreatDoorRows.lean that lists a variable, with what it lists TIED to the program's text (the seventh form; the later family's looks); each row that meets fmt, with fmt's text TOLD by the authors' own Lean function (tested against real Go, not proved from fmt's source: count such statements apart). THE CARD IS WHAT COUNTS. Prove the row's statement (the work); the ties are given (YtdakagahofalkaaGreatDoorTie.lean); close each card by the builder's one call (the guide's Derived/Test/ToyasCard.lean, 'card_holds'). Laid BY PROGRAM, IN A SANDBOX (cutbox-door.mjs). By AI agents, Wed Nov 11 2026. No macro, syntax, notation, axiom, sorry.
-/
import Derived.Test.YtdakagahofalkaaGreatDoorRows
import GoSem.ClaimSeven
namespace Go.Proofs.YtdakagahofalkaaGreatDoor
namespace Rows

/-- THE TIED CARD OF 'gessolaw08.NormTexts'. -/
def normTextsCard : Claim7 := { stood := { row := normTextsRow, standIns := [], harness := (true, "f438887d9f7bfe55aa23ac33061d0d5a6fbcfd053eaab7a698a3d0ecfccf10a8"), looks := false }, kinds := [], alts := [], laidByText := true, laidKinds := [.data, .data, .data, .data, .pinned], laidTests := true, laidLooks := .later }
def NormTextsCardSaid : Prop := Claim7.holds Tryz.pinned (.plain (OpenSpec.ofChange normTextsSpec)) normTextsCard

/-- THE SECOND FORM's CARD OF 'gessolaw08.NormTexts'. -/
def normTextsUptoCard : Claim7 := { stood := { row := normTextsUptoRow, standIns := [], harness := (true, "f438887d9f7bfe55aa23ac33061d0d5a6fbcfd053eaab7a698a3d0ecfccf10a8"), looks := false }, kinds := [], alts := [], laidByText := true, laidKinds := [.data, .data, .data, .data, .pinned], laidTests := true, laidLooks := .later }
def NormTextsUptoCardSaid : Prop := Claim7.holds Tryz.pinned (.plain (OpenSpec.upto normTextsSpec)) normTextsUptoCard
end Rows
end Go.Proofs.YtdakagahofalkaaGreatDoor
