/-
  DERIVED. GIVEN WITH THE SEED: THE CARDS: each row of YtgjlneedpbgfpaaDoorRows.lean that lists a variable, with what it lists TIED to the program's text (the seventh form; the later family's looks); each row that meets fmt, with fmt's text TOLD by the authors' own Lean function (tested against real Go, not proved from fmt's source: count such statements apart). THE CARD IS WHAT COUNTS. Prove the row's statement (the work); the ties are given (YtgjlneedpbgfpaaDoorTie.lean); close each card by the builder's one call (the guide's Derived/Test/ToyasCard.lean, 'card_holds'). Laid BY PROGRAM, IN A SANDBOX (cutbox-door.mjs). By AI agents, Wed Nov 11 2026. No macro, syntax, notation, axiom, sorry.
-/
import Derived.Test.YtgjlneedpbgfpaaDoorRows
import GoSem.ClaimSeven
namespace Go.Proofs.YtgjlneedpbgfpaaDoor
namespace Rows

/-- THE TIED CARD OF 'gessolaw07.ComposeTwos'. -/
def composeTwosCard : Claim7 := { stood := { row := composeTwosRow, standIns := [], harness := (true, "d4c13f7f5f14dacb93f81697648ffd86564158e3db99134c82b51adfd99f43f1"), looks := false }, kinds := [], alts := [], laidByText := true, laidKinds := [.data, .data, .data], laidTests := true, laidLooks := .later }
def ComposeTwosCardSaid : Prop := Claim7.holds Tryd.pinned (.plain (OpenSpec.ofChange composeTwosSpec)) composeTwosCard

/-- THE TIED CARD OF 'gessolaw07.ComposeLists'. -/
def composeListsCard : Claim7 := { stood := { row := composeListsRow, standIns := [], harness := (true, "d4c13f7f5f14dacb93f81697648ffd86564158e3db99134c82b51adfd99f43f1"), looks := false }, kinds := [], alts := [], laidByText := true, laidKinds := [.data, .data, .data], laidTests := true, laidLooks := .later }
def ComposeListsCardSaid : Prop := Claim7.holds Tryd.pinned (.plain (OpenSpec.ofChange composeListsSpec)) composeListsCard

/-- THE TIED CARD OF 'gessolaw07.ComposeParts'. -/
def composePartsCard : Claim7 := { stood := { row := composePartsRow, standIns := [], harness := (true, "d4c13f7f5f14dacb93f81697648ffd86564158e3db99134c82b51adfd99f43f1"), looks := false }, kinds := [], alts := [], laidByText := true, laidKinds := [.data, .data, .data], laidTests := true, laidLooks := .later }
def ComposePartsCardSaid : Prop := Claim7.holds Tryd.pinned (.plain (OpenSpec.ofChange composePartsSpec)) composePartsCard

/-- THE TIED CARD OF 'gessolaw07.ComposeFull'. -/
def composeFullCard : Claim7 := { stood := { row := composeFullRow, standIns := [], harness := (true, "d4c13f7f5f14dacb93f81697648ffd86564158e3db99134c82b51adfd99f43f1"), looks := false }, kinds := [], alts := [], laidByText := true, laidKinds := [.data, .data, .data], laidTests := true, laidLooks := .later }
def ComposeFullCardSaid : Prop := Claim7.holds Tryd.pinned (.plain (OpenSpec.ofChange composeFullSpec)) composeFullCard

/-- THE TIED CARD OF 'gessolaw06.OrderOrders'. -/
def orderOrdersCard : Claim7 := { stood := { row := orderOrdersRow, standIns := [], harness := (true, "d4c13f7f5f14dacb93f81697648ffd86564158e3db99134c82b51adfd99f43f1"), looks := false }, kinds := [], alts := [], laidByText := true, laidKinds := [.data, .data, .data], laidTests := true, laidLooks := .later }
def OrderOrdersCardSaid : Prop := Claim7.holds Tryd.pinned (.plain (OpenSpec.ofChange orderOrdersSpec)) orderOrdersCard

/-- THE TIED CARD OF 'gessolaw06.OrderIs'. -/
def orderIsCard : Claim7 := { stood := { row := orderIsRow, standIns := [], harness := (true, "d4c13f7f5f14dacb93f81697648ffd86564158e3db99134c82b51adfd99f43f1"), looks := false }, kinds := [], alts := [], laidByText := true, laidKinds := [.data, .data, .data], laidTests := true, laidLooks := .later }
def OrderIsCardSaid : Prop := Claim7.holds Tryd.pinned (.plain (OpenSpec.ofChange orderIsSpec)) orderIsCard

/-- THE TIED CARD OF 'gessolaw06.OrderAgain'. -/
def orderAgainCard : Claim7 := { stood := { row := orderAgainRow, standIns := [], harness := (true, "d4c13f7f5f14dacb93f81697648ffd86564158e3db99134c82b51adfd99f43f1"), looks := false }, kinds := [], alts := [], laidByText := true, laidKinds := [.data, .data, .data], laidTests := true, laidLooks := .later }
def OrderAgainCardSaid : Prop := Claim7.holds Tryd.pinned (.plain (OpenSpec.ofChange orderAgainSpec)) orderAgainCard

/-- THE TIED CARD OF 'gessolaw06.OrderSame'. -/
def orderSameCard : Claim7 := { stood := { row := orderSameRow, standIns := [], harness := (true, "d4c13f7f5f14dacb93f81697648ffd86564158e3db99134c82b51adfd99f43f1"), looks := false }, kinds := [], alts := [], laidByText := true, laidKinds := [.data, .data, .data], laidTests := true, laidLooks := .later }
def OrderSameCardSaid : Prop := Claim7.holds Tryd.pinned (.plain (OpenSpec.ofChange orderSameSpec)) orderSameCard

/-- THE TIED CARD OF 'gessolaw06.OrderParts'. -/
def orderPartsCard : Claim7 := { stood := { row := orderPartsRow, standIns := [], harness := (true, "d4c13f7f5f14dacb93f81697648ffd86564158e3db99134c82b51adfd99f43f1"), looks := false }, kinds := [], alts := [], laidByText := true, laidKinds := [.data, .data, .data], laidTests := true, laidLooks := .later }
def OrderPartsCardSaid : Prop := Claim7.holds Tryd.pinned (.plain (OpenSpec.ofChange orderPartsSpec)) orderPartsCard

/-- THE TIED CARD OF 'gessolaw06.OrderFull'. -/
def orderFullCard : Claim7 := { stood := { row := orderFullRow, standIns := [], harness := (true, "d4c13f7f5f14dacb93f81697648ffd86564158e3db99134c82b51adfd99f43f1"), looks := false }, kinds := [], alts := [], laidByText := true, laidKinds := [.data, .data, .data], laidTests := true, laidLooks := .later }
def OrderFullCardSaid : Prop := Claim7.holds Tryd.pinned (.plain (OpenSpec.ofChange orderFullSpec)) orderFullCard

/-- THE TIED CARD OF 'gessolaw07.ComposeBack'. -/
def composeBackCard : Claim7 := { stood := { row := composeBackRow, standIns := [], harness := (true, "d4c13f7f5f14dacb93f81697648ffd86564158e3db99134c82b51adfd99f43f1"), looks := false }, kinds := [], alts := [], laidByText := true, laidKinds := [.data, .data, .data], laidTests := true, laidLooks := .later }
def ComposeBackCardSaid : Prop := Claim7.holds Tryd.pinned (.plain (OpenSpec.ofChange composeBackSpec)) composeBackCard

/-- THE TIED CARD OF 'gessolaw07.ComposeAgain'. -/
def composeAgainCard : Claim7 := { stood := { row := composeAgainRow, standIns := [], harness := (true, "d4c13f7f5f14dacb93f81697648ffd86564158e3db99134c82b51adfd99f43f1"), looks := false }, kinds := [], alts := [], laidByText := true, laidKinds := [.data, .data, .data], laidTests := true, laidLooks := .later }
def ComposeAgainCardSaid : Prop := Claim7.holds Tryd.pinned (.plain (OpenSpec.ofChange composeAgainSpec)) composeAgainCard

/-- THE TIED CARD OF 'gessolaw08.NormSafes'. -/
def normSafesCard : Claim7 := { stood := { row := normSafesRow, standIns := [], harness := (true, "d4c13f7f5f14dacb93f81697648ffd86564158e3db99134c82b51adfd99f43f1"), looks := false }, kinds := [], alts := [], laidByText := true, laidKinds := [.data, .data, .data, .data, .pinned], laidTests := true, laidLooks := .later }
def NormSafesCardSaid : Prop := Claim7.holds Tryd.pinned (.plain (OpenSpec.ofChange normSafesSpec)) normSafesCard

/-- THE TIED CARD OF 'gessolaw08.NormParts'. -/
def normPartsCard : Claim7 := { stood := { row := normPartsRow, standIns := [], harness := (true, "d4c13f7f5f14dacb93f81697648ffd86564158e3db99134c82b51adfd99f43f1"), looks := false }, kinds := [], alts := [], laidByText := true, laidKinds := [.data, .data, .data, .data, .pinned], laidTests := true, laidLooks := .later }
def NormPartsCardSaid : Prop := Claim7.holds Tryd.pinned (.plain (OpenSpec.ofChange normPartsSpec)) normPartsCard

/-- THE TIED CARD OF 'gessolaw08.NormBytes'. -/
def normBytesCard : Claim7 := { stood := { row := normBytesRow, standIns := [], harness := (true, "d4c13f7f5f14dacb93f81697648ffd86564158e3db99134c82b51adfd99f43f1"), looks := false }, kinds := [], alts := [], laidByText := true, laidKinds := [.data, .data, .data, .data, .pinned], laidTests := true, laidLooks := .later }
def NormBytesCardSaid : Prop := Claim7.holds Tryd.pinned (.plain (OpenSpec.ofChange normBytesSpec)) normBytesCard

/-- THE TIED CARD OF 'gessolaw08.NormMarks'. -/
def normMarksCard : Claim7 := { stood := { row := normMarksRow, standIns := [], harness := (true, "d4c13f7f5f14dacb93f81697648ffd86564158e3db99134c82b51adfd99f43f1"), looks := false }, kinds := [], alts := [], laidByText := true, laidKinds := [.data, .data, .data, .data, .pinned], laidTests := true, laidLooks := .later }
def NormMarksCardSaid : Prop := Claim7.holds Tryd.pinned (.plain (OpenSpec.ofChange normMarksSpec)) normMarksCard

/-- THE TIED CARD OF 'gessolaw08.NormForms'. -/
def normFormsCard : Claim7 := { stood := { row := normFormsRow, standIns := [], harness := (true, "d4c13f7f5f14dacb93f81697648ffd86564158e3db99134c82b51adfd99f43f1"), looks := false }, kinds := [], alts := [], laidByText := true, laidKinds := [.data, .data, .data, .data, .pinned], laidTests := true, laidLooks := .later }
def NormFormsCardSaid : Prop := Claim7.holds Tryd.pinned (.plain (OpenSpec.ofChange normFormsSpec)) normFormsCard

/-- THE TIED CARD OF 'gessolaw08.NormSames'. -/
def normSamesCard : Claim7 := { stood := { row := normSamesRow, standIns := [], harness := (true, "d4c13f7f5f14dacb93f81697648ffd86564158e3db99134c82b51adfd99f43f1"), looks := false }, kinds := [], alts := [], laidByText := true, laidKinds := [.data, .data, .data, .data, .pinned], laidTests := true, laidLooks := .later }
def NormSamesCardSaid : Prop := Claim7.holds Tryd.pinned (.plain (OpenSpec.ofChange normSamesSpec)) normSamesCard

/-- THE TIED CARD OF 'gessolaw08.NormEqual'. -/
def normEqualCard : Claim7 := { stood := { row := normEqualRow, standIns := [], harness := (true, "d4c13f7f5f14dacb93f81697648ffd86564158e3db99134c82b51adfd99f43f1"), looks := false }, kinds := [], alts := [], laidByText := true, laidKinds := [.data, .data, .data, .data, .pinned], laidTests := true, laidLooks := .later }
def NormEqualCardSaid : Prop := Claim7.holds Tryd.pinned (.plain (OpenSpec.ofChange normEqualSpec)) normEqualCard

/-- THE TIED CARD OF 'gessolaw08.NormAgain'. -/
def normAgainCard : Claim7 := { stood := { row := normAgainRow, standIns := [], harness := (true, "d4c13f7f5f14dacb93f81697648ffd86564158e3db99134c82b51adfd99f43f1"), looks := false }, kinds := [], alts := [], laidByText := true, laidKinds := [.data, .data, .data, .data, .pinned], laidTests := true, laidLooks := .later }
def NormAgainCardSaid : Prop := Claim7.holds Tryd.pinned (.plain (OpenSpec.ofChange normAgainSpec)) normAgainCard

/-- THE SECOND FORM's CARD OF 'gessolaw07.ComposeTwos'. -/
def composeTwosUptoCard : Claim7 := { stood := { row := composeTwosUptoRow, standIns := [], harness := (true, "d4c13f7f5f14dacb93f81697648ffd86564158e3db99134c82b51adfd99f43f1"), looks := false }, kinds := [], alts := [], laidByText := true, laidKinds := [.data, .data, .data], laidTests := true, laidLooks := .later }
def ComposeTwosUptoCardSaid : Prop := Claim7.holds Tryd.pinned (.plain (OpenSpec.upto composeTwosSpec)) composeTwosUptoCard

/-- THE SECOND FORM's CARD OF 'gessolaw07.ComposeLists'. -/
def composeListsUptoCard : Claim7 := { stood := { row := composeListsUptoRow, standIns := [], harness := (true, "d4c13f7f5f14dacb93f81697648ffd86564158e3db99134c82b51adfd99f43f1"), looks := false }, kinds := [], alts := [], laidByText := true, laidKinds := [.data, .data, .data], laidTests := true, laidLooks := .later }
def ComposeListsUptoCardSaid : Prop := Claim7.holds Tryd.pinned (.plain (OpenSpec.upto composeListsSpec)) composeListsUptoCard

/-- THE SECOND FORM's CARD OF 'gessolaw07.ComposeParts'. -/
def composePartsUptoCard : Claim7 := { stood := { row := composePartsUptoRow, standIns := [], harness := (true, "d4c13f7f5f14dacb93f81697648ffd86564158e3db99134c82b51adfd99f43f1"), looks := false }, kinds := [], alts := [], laidByText := true, laidKinds := [.data, .data, .data], laidTests := true, laidLooks := .later }
def ComposePartsUptoCardSaid : Prop := Claim7.holds Tryd.pinned (.plain (OpenSpec.upto composePartsSpec)) composePartsUptoCard

/-- THE SECOND FORM's CARD OF 'gessolaw07.ComposeFull'. -/
def composeFullUptoCard : Claim7 := { stood := { row := composeFullUptoRow, standIns := [], harness := (true, "d4c13f7f5f14dacb93f81697648ffd86564158e3db99134c82b51adfd99f43f1"), looks := false }, kinds := [], alts := [], laidByText := true, laidKinds := [.data, .data, .data], laidTests := true, laidLooks := .later }
def ComposeFullUptoCardSaid : Prop := Claim7.holds Tryd.pinned (.plain (OpenSpec.upto composeFullSpec)) composeFullUptoCard

/-- THE SECOND FORM's CARD OF 'gessolaw06.OrderOrders'. -/
def orderOrdersUptoCard : Claim7 := { stood := { row := orderOrdersUptoRow, standIns := [], harness := (true, "d4c13f7f5f14dacb93f81697648ffd86564158e3db99134c82b51adfd99f43f1"), looks := false }, kinds := [], alts := [], laidByText := true, laidKinds := [.data, .data, .data], laidTests := true, laidLooks := .later }
def OrderOrdersUptoCardSaid : Prop := Claim7.holds Tryd.pinned (.plain (OpenSpec.upto orderOrdersSpec)) orderOrdersUptoCard

/-- THE SECOND FORM's CARD OF 'gessolaw06.OrderIs'. -/
def orderIsUptoCard : Claim7 := { stood := { row := orderIsUptoRow, standIns := [], harness := (true, "d4c13f7f5f14dacb93f81697648ffd86564158e3db99134c82b51adfd99f43f1"), looks := false }, kinds := [], alts := [], laidByText := true, laidKinds := [.data, .data, .data], laidTests := true, laidLooks := .later }
def OrderIsUptoCardSaid : Prop := Claim7.holds Tryd.pinned (.plain (OpenSpec.upto orderIsSpec)) orderIsUptoCard

/-- THE SECOND FORM's CARD OF 'gessolaw06.OrderAgain'. -/
def orderAgainUptoCard : Claim7 := { stood := { row := orderAgainUptoRow, standIns := [], harness := (true, "d4c13f7f5f14dacb93f81697648ffd86564158e3db99134c82b51adfd99f43f1"), looks := false }, kinds := [], alts := [], laidByText := true, laidKinds := [.data, .data, .data], laidTests := true, laidLooks := .later }
def OrderAgainUptoCardSaid : Prop := Claim7.holds Tryd.pinned (.plain (OpenSpec.upto orderAgainSpec)) orderAgainUptoCard

/-- THE SECOND FORM's CARD OF 'gessolaw06.OrderSame'. -/
def orderSameUptoCard : Claim7 := { stood := { row := orderSameUptoRow, standIns := [], harness := (true, "d4c13f7f5f14dacb93f81697648ffd86564158e3db99134c82b51adfd99f43f1"), looks := false }, kinds := [], alts := [], laidByText := true, laidKinds := [.data, .data, .data], laidTests := true, laidLooks := .later }
def OrderSameUptoCardSaid : Prop := Claim7.holds Tryd.pinned (.plain (OpenSpec.upto orderSameSpec)) orderSameUptoCard

/-- THE SECOND FORM's CARD OF 'gessolaw06.OrderParts'. -/
def orderPartsUptoCard : Claim7 := { stood := { row := orderPartsUptoRow, standIns := [], harness := (true, "d4c13f7f5f14dacb93f81697648ffd86564158e3db99134c82b51adfd99f43f1"), looks := false }, kinds := [], alts := [], laidByText := true, laidKinds := [.data, .data, .data], laidTests := true, laidLooks := .later }
def OrderPartsUptoCardSaid : Prop := Claim7.holds Tryd.pinned (.plain (OpenSpec.upto orderPartsSpec)) orderPartsUptoCard

/-- THE SECOND FORM's CARD OF 'gessolaw06.OrderFull'. -/
def orderFullUptoCard : Claim7 := { stood := { row := orderFullUptoRow, standIns := [], harness := (true, "d4c13f7f5f14dacb93f81697648ffd86564158e3db99134c82b51adfd99f43f1"), looks := false }, kinds := [], alts := [], laidByText := true, laidKinds := [.data, .data, .data], laidTests := true, laidLooks := .later }
def OrderFullUptoCardSaid : Prop := Claim7.holds Tryd.pinned (.plain (OpenSpec.upto orderFullSpec)) orderFullUptoCard

/-- THE SECOND FORM's CARD OF 'gessolaw07.ComposeBack'. -/
def composeBackUptoCard : Claim7 := { stood := { row := composeBackUptoRow, standIns := [], harness := (true, "d4c13f7f5f14dacb93f81697648ffd86564158e3db99134c82b51adfd99f43f1"), looks := false }, kinds := [], alts := [], laidByText := true, laidKinds := [.data, .data, .data], laidTests := true, laidLooks := .later }
def ComposeBackUptoCardSaid : Prop := Claim7.holds Tryd.pinned (.plain (OpenSpec.upto composeBackSpec)) composeBackUptoCard

/-- THE SECOND FORM's CARD OF 'gessolaw07.ComposeAgain'. -/
def composeAgainUptoCard : Claim7 := { stood := { row := composeAgainUptoRow, standIns := [], harness := (true, "d4c13f7f5f14dacb93f81697648ffd86564158e3db99134c82b51adfd99f43f1"), looks := false }, kinds := [], alts := [], laidByText := true, laidKinds := [.data, .data, .data], laidTests := true, laidLooks := .later }
def ComposeAgainUptoCardSaid : Prop := Claim7.holds Tryd.pinned (.plain (OpenSpec.upto composeAgainSpec)) composeAgainUptoCard

/-- THE SECOND FORM's CARD OF 'gessolaw08.NormSafes'. -/
def normSafesUptoCard : Claim7 := { stood := { row := normSafesUptoRow, standIns := [], harness := (true, "d4c13f7f5f14dacb93f81697648ffd86564158e3db99134c82b51adfd99f43f1"), looks := false }, kinds := [], alts := [], laidByText := true, laidKinds := [.data, .data, .data, .data, .pinned], laidTests := true, laidLooks := .later }
def NormSafesUptoCardSaid : Prop := Claim7.holds Tryd.pinned (.plain (OpenSpec.upto normSafesSpec)) normSafesUptoCard

/-- THE SECOND FORM's CARD OF 'gessolaw08.NormParts'. -/
def normPartsUptoCard : Claim7 := { stood := { row := normPartsUptoRow, standIns := [], harness := (true, "d4c13f7f5f14dacb93f81697648ffd86564158e3db99134c82b51adfd99f43f1"), looks := false }, kinds := [], alts := [], laidByText := true, laidKinds := [.data, .data, .data, .data, .pinned], laidTests := true, laidLooks := .later }
def NormPartsUptoCardSaid : Prop := Claim7.holds Tryd.pinned (.plain (OpenSpec.upto normPartsSpec)) normPartsUptoCard

/-- THE SECOND FORM's CARD OF 'gessolaw08.NormBytes'. -/
def normBytesUptoCard : Claim7 := { stood := { row := normBytesUptoRow, standIns := [], harness := (true, "d4c13f7f5f14dacb93f81697648ffd86564158e3db99134c82b51adfd99f43f1"), looks := false }, kinds := [], alts := [], laidByText := true, laidKinds := [.data, .data, .data, .data, .pinned], laidTests := true, laidLooks := .later }
def NormBytesUptoCardSaid : Prop := Claim7.holds Tryd.pinned (.plain (OpenSpec.upto normBytesSpec)) normBytesUptoCard

/-- THE SECOND FORM's CARD OF 'gessolaw08.NormMarks'. -/
def normMarksUptoCard : Claim7 := { stood := { row := normMarksUptoRow, standIns := [], harness := (true, "d4c13f7f5f14dacb93f81697648ffd86564158e3db99134c82b51adfd99f43f1"), looks := false }, kinds := [], alts := [], laidByText := true, laidKinds := [.data, .data, .data, .data, .pinned], laidTests := true, laidLooks := .later }
def NormMarksUptoCardSaid : Prop := Claim7.holds Tryd.pinned (.plain (OpenSpec.upto normMarksSpec)) normMarksUptoCard

/-- THE SECOND FORM's CARD OF 'gessolaw08.NormForms'. -/
def normFormsUptoCard : Claim7 := { stood := { row := normFormsUptoRow, standIns := [], harness := (true, "d4c13f7f5f14dacb93f81697648ffd86564158e3db99134c82b51adfd99f43f1"), looks := false }, kinds := [], alts := [], laidByText := true, laidKinds := [.data, .data, .data, .data, .pinned], laidTests := true, laidLooks := .later }
def NormFormsUptoCardSaid : Prop := Claim7.holds Tryd.pinned (.plain (OpenSpec.upto normFormsSpec)) normFormsUptoCard

/-- THE SECOND FORM's CARD OF 'gessolaw08.NormSames'. -/
def normSamesUptoCard : Claim7 := { stood := { row := normSamesUptoRow, standIns := [], harness := (true, "d4c13f7f5f14dacb93f81697648ffd86564158e3db99134c82b51adfd99f43f1"), looks := false }, kinds := [], alts := [], laidByText := true, laidKinds := [.data, .data, .data, .data, .pinned], laidTests := true, laidLooks := .later }
def NormSamesUptoCardSaid : Prop := Claim7.holds Tryd.pinned (.plain (OpenSpec.upto normSamesSpec)) normSamesUptoCard

/-- THE SECOND FORM's CARD OF 'gessolaw08.NormEqual'. -/
def normEqualUptoCard : Claim7 := { stood := { row := normEqualUptoRow, standIns := [], harness := (true, "d4c13f7f5f14dacb93f81697648ffd86564158e3db99134c82b51adfd99f43f1"), looks := false }, kinds := [], alts := [], laidByText := true, laidKinds := [.data, .data, .data, .data, .pinned], laidTests := true, laidLooks := .later }
def NormEqualUptoCardSaid : Prop := Claim7.holds Tryd.pinned (.plain (OpenSpec.upto normEqualSpec)) normEqualUptoCard

/-- THE SECOND FORM's CARD OF 'gessolaw08.NormAgain'. -/
def normAgainUptoCard : Claim7 := { stood := { row := normAgainUptoRow, standIns := [], harness := (true, "d4c13f7f5f14dacb93f81697648ffd86564158e3db99134c82b51adfd99f43f1"), looks := false }, kinds := [], alts := [], laidByText := true, laidKinds := [.data, .data, .data, .data, .pinned], laidTests := true, laidLooks := .later }
def NormAgainUptoCardSaid : Prop := Claim7.holds Tryd.pinned (.plain (OpenSpec.upto normAgainSpec)) normAgainUptoCard
end Rows
end Go.Proofs.YtgjlneedpbgfpaaDoor
