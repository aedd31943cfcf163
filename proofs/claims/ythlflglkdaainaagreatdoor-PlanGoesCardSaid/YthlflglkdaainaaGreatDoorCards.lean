/-
  DERIVED. GIVEN WITH THE SEED: THE CARDS: each row of YthlflglkdaainaaGreatDoorRows.lean that lists a variable, with what it lists TIED to the program's text (the seventh form; the later family's looks); each row that meets fmt, with fmt's text TOLD by the authors' own Lean function (tested against real Go, not proved from fmt's source: count such statements apart). THE CARD IS WHAT COUNTS. Prove the row's statement (the work); the ties are given (YthlflglkdaainaaGreatDoorTie.lean); close each card by the builder's one call (the guide's Derived/Test/ToyasCard.lean, 'card_holds'). Laid BY PROGRAM, IN A SANDBOX (cutbox-door.mjs). By AI agents, Wed Nov 11 2026. No macro, syntax, notation, axiom, sorry.
-/
import Derived.Test.YthlflglkdaainaaGreatDoorRows
import GoSem.ClaimSeven
namespace Go.Proofs.YthlflglkdaainaaGreatDoor
namespace Rows

/-- THE TIED CARD OF 'gessolaw17.PlanGoes'. -/
def planGoesCard : Claim7 := { stood := { row := planGoesRow, standIns := [], harness := (true, "4c829fd6b9ee123e3a04db0c8c7ce81faba17c16050b262dfe22d5f5ad56c0ab"), looks := false }, kinds := [], alts := [], laidByText := true, laidKinds := [.data, .data, .data, .data, .pinned], laidTests := true, laidLooks := .later }
def PlanGoesCardSaid : Prop := Claim7.holds Tryz.pinned (.plain (OpenSpec.ofChange planGoesSpec)) planGoesCard

/-- THE TIED CARD OF 'gessolaw17.PlanLeads'. -/
def planLeadsCard : Claim7 := { stood := { row := planLeadsRow, standIns := [], harness := (true, "4c829fd6b9ee123e3a04db0c8c7ce81faba17c16050b262dfe22d5f5ad56c0ab"), looks := false }, kinds := [], alts := [], laidByText := true, laidKinds := [.data, .data, .data, .data, .pinned], laidTests := true, laidLooks := .later }
def PlanLeadsCardSaid : Prop := Claim7.holds Tryz.pinned (.plain (OpenSpec.ofChange planLeadsSpec)) planLeadsCard

/-- THE TIED CARD OF 'gessolaw17.PlanSteps'. -/
def planStepsCard : Claim7 := { stood := { row := planStepsRow, standIns := [], harness := (true, "4c829fd6b9ee123e3a04db0c8c7ce81faba17c16050b262dfe22d5f5ad56c0ab"), looks := false }, kinds := [], alts := [], laidByText := true, laidKinds := [.data, .data, .data, .data, .pinned], laidTests := true, laidLooks := .later }
def PlanStepsCardSaid : Prop := Claim7.holds Tryz.pinned (.plain (OpenSpec.ofChange planStepsSpec)) planStepsCard

/-- THE TIED CARD OF 'gessolaw16.VerdictJudges'. -/
def verdictJudgesCard : Claim7 := { stood := { row := verdictJudgesRow, standIns := [], harness := (true, "4c829fd6b9ee123e3a04db0c8c7ce81faba17c16050b262dfe22d5f5ad56c0ab"), looks := false }, kinds := [], alts := [], laidByText := true, laidKinds := [.data, .data, .data, .data, .pinned], laidTests := true, laidLooks := .later }
def VerdictJudgesCardSaid : Prop := Claim7.holds Tryz.pinned (.plain (OpenSpec.ofChange verdictJudgesSpec)) verdictJudgesCard

/-- THE TIED CARD OF 'gessolaw16.VerdictTargets'. -/
def verdictTargetsCard : Claim7 := { stood := { row := verdictTargetsRow, standIns := [], harness := (true, "4c829fd6b9ee123e3a04db0c8c7ce81faba17c16050b262dfe22d5f5ad56c0ab"), looks := false }, kinds := [], alts := [], laidByText := true, laidKinds := [.data, .data, .data, .data, .pinned], laidTests := true, laidLooks := .later }
def VerdictTargetsCardSaid : Prop := Claim7.holds Tryz.pinned (.plain (OpenSpec.ofChange verdictTargetsSpec)) verdictTargetsCard

/-- THE TIED CARD OF 'gessolaw16.VerdictReports'. -/
def verdictReportsCard : Claim7 := { stood := { row := verdictReportsRow, standIns := [], harness := (true, "4c829fd6b9ee123e3a04db0c8c7ce81faba17c16050b262dfe22d5f5ad56c0ab"), looks := false }, kinds := [], alts := [], laidByText := true, laidKinds := [.data, .data, .data, .data, .pinned], laidTests := true, laidLooks := .later }
def VerdictReportsCardSaid : Prop := Claim7.holds Tryz.pinned (.plain (OpenSpec.ofChange verdictReportsSpec)) verdictReportsCard

/-- THE TIED CARD OF 'gessolaw16.VerdictAgain'. -/
def verdictAgainCard : Claim7 := { stood := { row := verdictAgainRow, standIns := [], harness := (true, "4c829fd6b9ee123e3a04db0c8c7ce81faba17c16050b262dfe22d5f5ad56c0ab"), looks := false }, kinds := [], alts := [], laidByText := true, laidKinds := [.data, .data, .data, .data, .pinned], laidTests := true, laidLooks := .later }
def VerdictAgainCardSaid : Prop := Claim7.holds Tryz.pinned (.plain (OpenSpec.ofChange verdictAgainSpec)) verdictAgainCard

/-- THE TIED CARD OF 'gessolaw16.VerdictTree'. -/
def verdictTreeCard : Claim7 := { stood := { row := verdictTreeRow, standIns := [], harness := (true, "4c829fd6b9ee123e3a04db0c8c7ce81faba17c16050b262dfe22d5f5ad56c0ab"), looks := false }, kinds := [], alts := [], laidByText := true, laidKinds := [.data, .data, .data, .data, .pinned], laidTests := true, laidLooks := .later }
def VerdictTreeCardSaid : Prop := Claim7.holds Tryz.pinned (.plain (OpenSpec.ofChange verdictTreeSpec)) verdictTreeCard

/-- THE TIED CARD OF 'gessolaw16.VerdictApart'. -/
def verdictApartCard : Claim7 := { stood := { row := verdictApartRow, standIns := [], harness := (true, "4c829fd6b9ee123e3a04db0c8c7ce81faba17c16050b262dfe22d5f5ad56c0ab"), looks := false }, kinds := [], alts := [], laidByText := true, laidKinds := [.data, .data, .data, .data, .pinned], laidTests := true, laidLooks := .later }
def VerdictApartCardSaid : Prop := Claim7.holds Tryz.pinned (.plain (OpenSpec.ofChange verdictApartSpec)) verdictApartCard

/-- THE TIED CARD OF 'gessolaw16.VerdictStands'. -/
def verdictStandsCard : Claim7 := { stood := { row := verdictStandsRow, standIns := [], harness := (true, "4c829fd6b9ee123e3a04db0c8c7ce81faba17c16050b262dfe22d5f5ad56c0ab"), looks := false }, kinds := [], alts := [], laidByText := true, laidKinds := [.data, .data, .data, .data, .pinned], laidTests := true, laidLooks := .later }
def VerdictStandsCardSaid : Prop := Claim7.holds Tryz.pinned (.plain (OpenSpec.ofChange verdictStandsSpec)) verdictStandsCard

/-- THE TIED CARD OF 'gessolaw17.PlanApplies'. -/
def planAppliesCard : Claim7 := { stood := { row := planAppliesRow, standIns := [], harness := (true, "4c829fd6b9ee123e3a04db0c8c7ce81faba17c16050b262dfe22d5f5ad56c0ab"), looks := false }, kinds := [], alts := [], laidByText := true, laidKinds := [.data, .data, .data, .data, .pinned], laidTests := true, laidLooks := .later }
def PlanAppliesCardSaid : Prop := Claim7.holds Tryz.pinned (.plain (OpenSpec.ofChange planAppliesSpec)) planAppliesCard

/-- THE TIED CARD OF 'gessolaw17.PlanOnce'. -/
def planOnceCard : Claim7 := { stood := { row := planOnceRow, standIns := [], harness := (true, "4c829fd6b9ee123e3a04db0c8c7ce81faba17c16050b262dfe22d5f5ad56c0ab"), looks := false }, kinds := [], alts := [], laidByText := true, laidKinds := [.data, .data, .data, .data, .pinned], laidTests := true, laidLooks := .later }
def PlanOnceCardSaid : Prop := Claim7.holds Tryz.pinned (.plain (OpenSpec.ofChange planOnceSpec)) planOnceCard

/-- THE SECOND FORM's CARD OF 'gessolaw17.PlanGoes'. -/
def planGoesUptoCard : Claim7 := { stood := { row := planGoesUptoRow, standIns := [], harness := (true, "4c829fd6b9ee123e3a04db0c8c7ce81faba17c16050b262dfe22d5f5ad56c0ab"), looks := false }, kinds := [], alts := [], laidByText := true, laidKinds := [.data, .data, .data, .data, .pinned], laidTests := true, laidLooks := .later }
def PlanGoesUptoCardSaid : Prop := Claim7.holds Tryz.pinned (.plain (OpenSpec.upto planGoesSpec)) planGoesUptoCard

/-- THE SECOND FORM's CARD OF 'gessolaw17.PlanLeads'. -/
def planLeadsUptoCard : Claim7 := { stood := { row := planLeadsUptoRow, standIns := [], harness := (true, "4c829fd6b9ee123e3a04db0c8c7ce81faba17c16050b262dfe22d5f5ad56c0ab"), looks := false }, kinds := [], alts := [], laidByText := true, laidKinds := [.data, .data, .data, .data, .pinned], laidTests := true, laidLooks := .later }
def PlanLeadsUptoCardSaid : Prop := Claim7.holds Tryz.pinned (.plain (OpenSpec.upto planLeadsSpec)) planLeadsUptoCard

/-- THE SECOND FORM's CARD OF 'gessolaw17.PlanSteps'. -/
def planStepsUptoCard : Claim7 := { stood := { row := planStepsUptoRow, standIns := [], harness := (true, "4c829fd6b9ee123e3a04db0c8c7ce81faba17c16050b262dfe22d5f5ad56c0ab"), looks := false }, kinds := [], alts := [], laidByText := true, laidKinds := [.data, .data, .data, .data, .pinned], laidTests := true, laidLooks := .later }
def PlanStepsUptoCardSaid : Prop := Claim7.holds Tryz.pinned (.plain (OpenSpec.upto planStepsSpec)) planStepsUptoCard

/-- THE SECOND FORM's CARD OF 'gessolaw16.VerdictJudges'. -/
def verdictJudgesUptoCard : Claim7 := { stood := { row := verdictJudgesUptoRow, standIns := [], harness := (true, "4c829fd6b9ee123e3a04db0c8c7ce81faba17c16050b262dfe22d5f5ad56c0ab"), looks := false }, kinds := [], alts := [], laidByText := true, laidKinds := [.data, .data, .data, .data, .pinned], laidTests := true, laidLooks := .later }
def VerdictJudgesUptoCardSaid : Prop := Claim7.holds Tryz.pinned (.plain (OpenSpec.upto verdictJudgesSpec)) verdictJudgesUptoCard

/-- THE SECOND FORM's CARD OF 'gessolaw16.VerdictTargets'. -/
def verdictTargetsUptoCard : Claim7 := { stood := { row := verdictTargetsUptoRow, standIns := [], harness := (true, "4c829fd6b9ee123e3a04db0c8c7ce81faba17c16050b262dfe22d5f5ad56c0ab"), looks := false }, kinds := [], alts := [], laidByText := true, laidKinds := [.data, .data, .data, .data, .pinned], laidTests := true, laidLooks := .later }
def VerdictTargetsUptoCardSaid : Prop := Claim7.holds Tryz.pinned (.plain (OpenSpec.upto verdictTargetsSpec)) verdictTargetsUptoCard

/-- THE SECOND FORM's CARD OF 'gessolaw16.VerdictReports'. -/
def verdictReportsUptoCard : Claim7 := { stood := { row := verdictReportsUptoRow, standIns := [], harness := (true, "4c829fd6b9ee123e3a04db0c8c7ce81faba17c16050b262dfe22d5f5ad56c0ab"), looks := false }, kinds := [], alts := [], laidByText := true, laidKinds := [.data, .data, .data, .data, .pinned], laidTests := true, laidLooks := .later }
def VerdictReportsUptoCardSaid : Prop := Claim7.holds Tryz.pinned (.plain (OpenSpec.upto verdictReportsSpec)) verdictReportsUptoCard

/-- THE SECOND FORM's CARD OF 'gessolaw16.VerdictAgain'. -/
def verdictAgainUptoCard : Claim7 := { stood := { row := verdictAgainUptoRow, standIns := [], harness := (true, "4c829fd6b9ee123e3a04db0c8c7ce81faba17c16050b262dfe22d5f5ad56c0ab"), looks := false }, kinds := [], alts := [], laidByText := true, laidKinds := [.data, .data, .data, .data, .pinned], laidTests := true, laidLooks := .later }
def VerdictAgainUptoCardSaid : Prop := Claim7.holds Tryz.pinned (.plain (OpenSpec.upto verdictAgainSpec)) verdictAgainUptoCard

/-- THE SECOND FORM's CARD OF 'gessolaw16.VerdictTree'. -/
def verdictTreeUptoCard : Claim7 := { stood := { row := verdictTreeUptoRow, standIns := [], harness := (true, "4c829fd6b9ee123e3a04db0c8c7ce81faba17c16050b262dfe22d5f5ad56c0ab"), looks := false }, kinds := [], alts := [], laidByText := true, laidKinds := [.data, .data, .data, .data, .pinned], laidTests := true, laidLooks := .later }
def VerdictTreeUptoCardSaid : Prop := Claim7.holds Tryz.pinned (.plain (OpenSpec.upto verdictTreeSpec)) verdictTreeUptoCard

/-- THE SECOND FORM's CARD OF 'gessolaw16.VerdictApart'. -/
def verdictApartUptoCard : Claim7 := { stood := { row := verdictApartUptoRow, standIns := [], harness := (true, "4c829fd6b9ee123e3a04db0c8c7ce81faba17c16050b262dfe22d5f5ad56c0ab"), looks := false }, kinds := [], alts := [], laidByText := true, laidKinds := [.data, .data, .data, .data, .pinned], laidTests := true, laidLooks := .later }
def VerdictApartUptoCardSaid : Prop := Claim7.holds Tryz.pinned (.plain (OpenSpec.upto verdictApartSpec)) verdictApartUptoCard

/-- THE SECOND FORM's CARD OF 'gessolaw16.VerdictStands'. -/
def verdictStandsUptoCard : Claim7 := { stood := { row := verdictStandsUptoRow, standIns := [], harness := (true, "4c829fd6b9ee123e3a04db0c8c7ce81faba17c16050b262dfe22d5f5ad56c0ab"), looks := false }, kinds := [], alts := [], laidByText := true, laidKinds := [.data, .data, .data, .data, .pinned], laidTests := true, laidLooks := .later }
def VerdictStandsUptoCardSaid : Prop := Claim7.holds Tryz.pinned (.plain (OpenSpec.upto verdictStandsSpec)) verdictStandsUptoCard

/-- THE SECOND FORM's CARD OF 'gessolaw17.PlanApplies'. -/
def planAppliesUptoCard : Claim7 := { stood := { row := planAppliesUptoRow, standIns := [], harness := (true, "4c829fd6b9ee123e3a04db0c8c7ce81faba17c16050b262dfe22d5f5ad56c0ab"), looks := false }, kinds := [], alts := [], laidByText := true, laidKinds := [.data, .data, .data, .data, .pinned], laidTests := true, laidLooks := .later }
def PlanAppliesUptoCardSaid : Prop := Claim7.holds Tryz.pinned (.plain (OpenSpec.upto planAppliesSpec)) planAppliesUptoCard

/-- THE SECOND FORM's CARD OF 'gessolaw17.PlanOnce'. -/
def planOnceUptoCard : Claim7 := { stood := { row := planOnceUptoRow, standIns := [], harness := (true, "4c829fd6b9ee123e3a04db0c8c7ce81faba17c16050b262dfe22d5f5ad56c0ab"), looks := false }, kinds := [], alts := [], laidByText := true, laidKinds := [.data, .data, .data, .data, .pinned], laidTests := true, laidLooks := .later }
def PlanOnceUptoCardSaid : Prop := Claim7.holds Tryz.pinned (.plain (OpenSpec.upto planOnceSpec)) planOnceUptoCard
end Rows
end Go.Proofs.YthlflglkdaainaaGreatDoor
