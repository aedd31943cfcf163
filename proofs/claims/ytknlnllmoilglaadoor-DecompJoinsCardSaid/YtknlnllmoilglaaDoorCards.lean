/-
  DERIVED. GIVEN WITH THE SEED: THE CARDS: each row of YtknlnllmoilglaaDoorRows.lean that lists a variable, with what it lists TIED to the program's text (the seventh form; the later family's looks); each row that meets fmt, with fmt's text TOLD by the authors' own Lean function (tested against real Go, not proved from fmt's source: count such statements apart). THE CARD IS WHAT COUNTS. Prove the row's statement (the work); the ties are given (YtknlnllmoilglaaDoorTie.lean); close each card by the builder's one call (the guide's Derived/Test/ToyasCard.lean, 'card_holds'). Laid BY PROGRAM, IN A SANDBOX (cutbox-door.mjs). By AI agents, Wed Nov 11 2026. No macro, syntax, notation, axiom, sorry.
-/
import Derived.Test.YtknlnllmoilglaaDoorRows
import GoSem.ClaimSeven
namespace Go.Proofs.YtknlnllmoilglaaDoor
namespace Rows

/-- THE TIED CARD OF 'gessolaw05.DecompFulls'. -/
def decompFullsCard : Claim7 := { stood := { row := decompFullsRow, standIns := [], harness := (true, "fc0c1c222fd3ce84893758e2bb555a5a1bca730008d7cbd09ee1737ec304e7e6"), looks := false }, kinds := [], alts := [], laidByText := true, laidKinds := [.data, .data, .data], laidTests := true, laidLooks := .later }
def DecompFullsCardSaid : Prop := Claim7.holds Tryd.pinned (.plain (OpenSpec.ofChange decompFullsSpec)) decompFullsCard

/-- THE TIED CARD OF 'gessolaw03.UcdClasses'. -/
def ucdClassesCard : Claim7 := { stood := { row := ucdClassesRow, standIns := [], harness := (true, "fc0c1c222fd3ce84893758e2bb555a5a1bca730008d7cbd09ee1737ec304e7e6"), looks := false }, kinds := [], alts := [], laidByText := true, laidKinds := [.data, .data, .data], laidTests := true, laidLooks := .later }
def UcdClassesCardSaid : Prop := Claim7.holds Tryd.pinned (.plain (OpenSpec.ofChange ucdClassesSpec)) ucdClassesCard

/-- THE TIED CARD OF 'gessolaw03.UcdPairs'. -/
def ucdPairsCard : Claim7 := { stood := { row := ucdPairsRow, standIns := [], harness := (true, "fc0c1c222fd3ce84893758e2bb555a5a1bca730008d7cbd09ee1737ec304e7e6"), looks := false }, kinds := [], alts := [], laidByText := true, laidKinds := [.data, .data, .data], laidTests := true, laidLooks := .later }
def UcdPairsCardSaid : Prop := Claim7.holds Tryd.pinned (.plain (OpenSpec.ofChange ucdPairsSpec)) ucdPairsCard

/-- THE TIED CARD OF 'gessolaw03.UcdQuicks'. -/
def ucdQuicksCard : Claim7 := { stood := { row := ucdQuicksRow, standIns := [], harness := (true, "fc0c1c222fd3ce84893758e2bb555a5a1bca730008d7cbd09ee1737ec304e7e6"), looks := false }, kinds := [], alts := [], laidByText := true, laidKinds := [.data, .data, .data], laidTests := true, laidLooks := .later }
def UcdQuicksCardSaid : Prop := Claim7.holds Tryd.pinned (.plain (OpenSpec.ofChange ucdQuicksSpec)) ucdQuicksCard

/-- THE TIED CARD OF 'gessolaw03.UcdDeep'. -/
def ucdDeepCard : Claim7 := { stood := { row := ucdDeepRow, standIns := [], harness := (true, "fc0c1c222fd3ce84893758e2bb555a5a1bca730008d7cbd09ee1737ec304e7e6"), looks := false }, kinds := [], alts := [], laidByText := true, laidKinds := [.data, .data, .data], laidTests := true, laidLooks := .later }
def UcdDeepCardSaid : Prop := Claim7.holds Tryd.pinned (.plain (OpenSpec.ofChange ucdDeepSpec)) ucdDeepCard

/-- THE TIED CARD OF 'gessolaw03.UcdDecomps'. -/
def ucdDecompsCard : Claim7 := { stood := { row := ucdDecompsRow, standIns := [], harness := (true, "fc0c1c222fd3ce84893758e2bb555a5a1bca730008d7cbd09ee1737ec304e7e6"), looks := false }, kinds := [], alts := [], laidByText := true, laidKinds := [.data, .data, .data], laidTests := true, laidLooks := .later }
def UcdDecompsCardSaid : Prop := Claim7.holds Tryd.pinned (.plain (OpenSpec.ofChange ucdDecompsSpec)) ucdDecompsCard

/-- THE TIED CARD OF 'gessolaw03.UcdBack'. -/
def ucdBackCard : Claim7 := { stood := { row := ucdBackRow, standIns := [], harness := (true, "fc0c1c222fd3ce84893758e2bb555a5a1bca730008d7cbd09ee1737ec304e7e6"), looks := false }, kinds := [], alts := [], laidByText := true, laidKinds := [.data, .data, .data], laidTests := true, laidLooks := .later }
def UcdBackCardSaid : Prop := Claim7.holds Tryd.pinned (.plain (OpenSpec.ofChange ucdBackSpec)) ucdBackCard

/-- THE TIED CARD OF 'gessolaw03.UcdFirsts'. -/
def ucdFirstsCard : Claim7 := { stood := { row := ucdFirstsRow, standIns := [], harness := (true, "fc0c1c222fd3ce84893758e2bb555a5a1bca730008d7cbd09ee1737ec304e7e6"), looks := false }, kinds := [], alts := [], laidByText := true, laidKinds := [.data, .data, .data], laidTests := true, laidLooks := .later }
def UcdFirstsCardSaid : Prop := Claim7.holds Tryd.pinned (.plain (OpenSpec.ofChange ucdFirstsSpec)) ucdFirstsCard

/-- THE TIED CARD OF 'gessolaw05.DecompLists'. -/
def decompListsCard : Claim7 := { stood := { row := decompListsRow, standIns := [], harness := (true, "fc0c1c222fd3ce84893758e2bb555a5a1bca730008d7cbd09ee1737ec304e7e6"), looks := false }, kinds := [], alts := [], laidByText := true, laidKinds := [.data, .data, .data], laidTests := true, laidLooks := .later }
def DecompListsCardSaid : Prop := Claim7.holds Tryd.pinned (.plain (OpenSpec.ofChange decompListsSpec)) decompListsCard

/-- THE TIED CARD OF 'gessolaw05.DecompAgain'. -/
def decompAgainCard : Claim7 := { stood := { row := decompAgainRow, standIns := [], harness := (true, "fc0c1c222fd3ce84893758e2bb555a5a1bca730008d7cbd09ee1737ec304e7e6"), looks := false }, kinds := [], alts := [], laidByText := true, laidKinds := [.data, .data, .data], laidTests := true, laidLooks := .later }
def DecompAgainCardSaid : Prop := Claim7.holds Tryd.pinned (.plain (OpenSpec.ofChange decompAgainSpec)) decompAgainCard

/-- THE TIED CARD OF 'gessolaw05.DecompJoins'. -/
def decompJoinsCard : Claim7 := { stood := { row := decompJoinsRow, standIns := [], harness := (true, "fc0c1c222fd3ce84893758e2bb555a5a1bca730008d7cbd09ee1737ec304e7e6"), looks := false }, kinds := [], alts := [], laidByText := true, laidKinds := [.data, .data, .data], laidTests := true, laidLooks := .later }
def DecompJoinsCardSaid : Prop := Claim7.holds Tryd.pinned (.plain (OpenSpec.ofChange decompJoinsSpec)) decompJoinsCard

/-- THE TIED CARD OF 'gessolaw05.DecompHangul'. -/
def decompHangulCard : Claim7 := { stood := { row := decompHangulRow, standIns := [], harness := (true, "fc0c1c222fd3ce84893758e2bb555a5a1bca730008d7cbd09ee1737ec304e7e6"), looks := false }, kinds := [], alts := [], laidByText := true, laidKinds := [.data, .data, .data], laidTests := true, laidLooks := .later }
def DecompHangulCardSaid : Prop := Claim7.holds Tryd.pinned (.plain (OpenSpec.ofChange decompHangulSpec)) decompHangulCard

/-- THE SECOND FORM's CARD OF 'gessolaw05.DecompFulls'. -/
def decompFullsUptoCard : Claim7 := { stood := { row := decompFullsUptoRow, standIns := [], harness := (true, "fc0c1c222fd3ce84893758e2bb555a5a1bca730008d7cbd09ee1737ec304e7e6"), looks := false }, kinds := [], alts := [], laidByText := true, laidKinds := [.data, .data, .data], laidTests := true, laidLooks := .later }
def DecompFullsUptoCardSaid : Prop := Claim7.holds Tryd.pinned (.plain (OpenSpec.upto decompFullsSpec)) decompFullsUptoCard

/-- THE SECOND FORM's CARD OF 'gessolaw03.UcdClasses'. -/
def ucdClassesUptoCard : Claim7 := { stood := { row := ucdClassesUptoRow, standIns := [], harness := (true, "fc0c1c222fd3ce84893758e2bb555a5a1bca730008d7cbd09ee1737ec304e7e6"), looks := false }, kinds := [], alts := [], laidByText := true, laidKinds := [.data, .data, .data], laidTests := true, laidLooks := .later }
def UcdClassesUptoCardSaid : Prop := Claim7.holds Tryd.pinned (.plain (OpenSpec.upto ucdClassesSpec)) ucdClassesUptoCard

/-- THE SECOND FORM's CARD OF 'gessolaw03.UcdPairs'. -/
def ucdPairsUptoCard : Claim7 := { stood := { row := ucdPairsUptoRow, standIns := [], harness := (true, "fc0c1c222fd3ce84893758e2bb555a5a1bca730008d7cbd09ee1737ec304e7e6"), looks := false }, kinds := [], alts := [], laidByText := true, laidKinds := [.data, .data, .data], laidTests := true, laidLooks := .later }
def UcdPairsUptoCardSaid : Prop := Claim7.holds Tryd.pinned (.plain (OpenSpec.upto ucdPairsSpec)) ucdPairsUptoCard

/-- THE SECOND FORM's CARD OF 'gessolaw03.UcdQuicks'. -/
def ucdQuicksUptoCard : Claim7 := { stood := { row := ucdQuicksUptoRow, standIns := [], harness := (true, "fc0c1c222fd3ce84893758e2bb555a5a1bca730008d7cbd09ee1737ec304e7e6"), looks := false }, kinds := [], alts := [], laidByText := true, laidKinds := [.data, .data, .data], laidTests := true, laidLooks := .later }
def UcdQuicksUptoCardSaid : Prop := Claim7.holds Tryd.pinned (.plain (OpenSpec.upto ucdQuicksSpec)) ucdQuicksUptoCard

/-- THE SECOND FORM's CARD OF 'gessolaw03.UcdDeep'. -/
def ucdDeepUptoCard : Claim7 := { stood := { row := ucdDeepUptoRow, standIns := [], harness := (true, "fc0c1c222fd3ce84893758e2bb555a5a1bca730008d7cbd09ee1737ec304e7e6"), looks := false }, kinds := [], alts := [], laidByText := true, laidKinds := [.data, .data, .data], laidTests := true, laidLooks := .later }
def UcdDeepUptoCardSaid : Prop := Claim7.holds Tryd.pinned (.plain (OpenSpec.upto ucdDeepSpec)) ucdDeepUptoCard

/-- THE SECOND FORM's CARD OF 'gessolaw03.UcdDecomps'. -/
def ucdDecompsUptoCard : Claim7 := { stood := { row := ucdDecompsUptoRow, standIns := [], harness := (true, "fc0c1c222fd3ce84893758e2bb555a5a1bca730008d7cbd09ee1737ec304e7e6"), looks := false }, kinds := [], alts := [], laidByText := true, laidKinds := [.data, .data, .data], laidTests := true, laidLooks := .later }
def UcdDecompsUptoCardSaid : Prop := Claim7.holds Tryd.pinned (.plain (OpenSpec.upto ucdDecompsSpec)) ucdDecompsUptoCard

/-- THE SECOND FORM's CARD OF 'gessolaw03.UcdBack'. -/
def ucdBackUptoCard : Claim7 := { stood := { row := ucdBackUptoRow, standIns := [], harness := (true, "fc0c1c222fd3ce84893758e2bb555a5a1bca730008d7cbd09ee1737ec304e7e6"), looks := false }, kinds := [], alts := [], laidByText := true, laidKinds := [.data, .data, .data], laidTests := true, laidLooks := .later }
def UcdBackUptoCardSaid : Prop := Claim7.holds Tryd.pinned (.plain (OpenSpec.upto ucdBackSpec)) ucdBackUptoCard

/-- THE SECOND FORM's CARD OF 'gessolaw03.UcdFirsts'. -/
def ucdFirstsUptoCard : Claim7 := { stood := { row := ucdFirstsUptoRow, standIns := [], harness := (true, "fc0c1c222fd3ce84893758e2bb555a5a1bca730008d7cbd09ee1737ec304e7e6"), looks := false }, kinds := [], alts := [], laidByText := true, laidKinds := [.data, .data, .data], laidTests := true, laidLooks := .later }
def UcdFirstsUptoCardSaid : Prop := Claim7.holds Tryd.pinned (.plain (OpenSpec.upto ucdFirstsSpec)) ucdFirstsUptoCard

/-- THE SECOND FORM's CARD OF 'gessolaw05.DecompLists'. -/
def decompListsUptoCard : Claim7 := { stood := { row := decompListsUptoRow, standIns := [], harness := (true, "fc0c1c222fd3ce84893758e2bb555a5a1bca730008d7cbd09ee1737ec304e7e6"), looks := false }, kinds := [], alts := [], laidByText := true, laidKinds := [.data, .data, .data], laidTests := true, laidLooks := .later }
def DecompListsUptoCardSaid : Prop := Claim7.holds Tryd.pinned (.plain (OpenSpec.upto decompListsSpec)) decompListsUptoCard

/-- THE SECOND FORM's CARD OF 'gessolaw05.DecompAgain'. -/
def decompAgainUptoCard : Claim7 := { stood := { row := decompAgainUptoRow, standIns := [], harness := (true, "fc0c1c222fd3ce84893758e2bb555a5a1bca730008d7cbd09ee1737ec304e7e6"), looks := false }, kinds := [], alts := [], laidByText := true, laidKinds := [.data, .data, .data], laidTests := true, laidLooks := .later }
def DecompAgainUptoCardSaid : Prop := Claim7.holds Tryd.pinned (.plain (OpenSpec.upto decompAgainSpec)) decompAgainUptoCard

/-- THE SECOND FORM's CARD OF 'gessolaw05.DecompJoins'. -/
def decompJoinsUptoCard : Claim7 := { stood := { row := decompJoinsUptoRow, standIns := [], harness := (true, "fc0c1c222fd3ce84893758e2bb555a5a1bca730008d7cbd09ee1737ec304e7e6"), looks := false }, kinds := [], alts := [], laidByText := true, laidKinds := [.data, .data, .data], laidTests := true, laidLooks := .later }
def DecompJoinsUptoCardSaid : Prop := Claim7.holds Tryd.pinned (.plain (OpenSpec.upto decompJoinsSpec)) decompJoinsUptoCard

/-- THE SECOND FORM's CARD OF 'gessolaw05.DecompHangul'. -/
def decompHangulUptoCard : Claim7 := { stood := { row := decompHangulUptoRow, standIns := [], harness := (true, "fc0c1c222fd3ce84893758e2bb555a5a1bca730008d7cbd09ee1737ec304e7e6"), looks := false }, kinds := [], alts := [], laidByText := true, laidKinds := [.data, .data, .data], laidTests := true, laidLooks := .later }
def DecompHangulUptoCardSaid : Prop := Claim7.holds Tryd.pinned (.plain (OpenSpec.upto decompHangulSpec)) decompHangulUptoCard
end Rows
end Go.Proofs.YtknlnllmoilglaaDoor
