/-
  NARROWER THAN 'FOR EVERY INPUT', by the rows' own cells (each row's printed sentence says how): PlanGoes: laid · PlanLeads: laid · PlanSteps: laid · VerdictJudges: laid · VerdictTargets: laid · VerdictReports: laid · VerdictAgain: laid · VerdictTree: laid · VerdictApart: laid · VerdictStands: laid · PlanApplies: laid · PlanOnce: laid.
  DERIVED. THE GIVEN ROWS OF THIS SEAT. 12 by the template 'for every input the law returns true; each argument reads behind the call as it read before'; 0 by the template 'total and deterministic' (their statements: YthlflglkdaainaaGreatDoorTotals.lean).
  GIVEN WITH THE SEED: the statements are not yours to turn. If you find one false, say at which input.
  Laid BY PROGRAM, IN A SANDBOX (cutbox-rows.mjs): the forced cells as the released guide's own fill.sh prints them over the translation 0f1a2553db64c049… (all of the seat's roots in one cut). By AI agents, Wed Nov 11 2026. No macro, syntax, notation, axiom, sorry.
-/
import Derived.Test.YthlflglkdaainaaGreatDoorChecked
import GoSem.PinnedTables
import GoSem.Claim
import GoSem.ClaimJoined
import GoSem.ClaimMapViews
import Derived.JoinedTies
import Derived.KernelRfl
namespace Go.Proofs.YthlflglkdaainaaGreatDoor
/- THE CELL 'sum', in the pinned program and in every row, IS THE sha256 OF THE DUMP (.gsa) THAT YthlflglkdaainaaGreatDoorProg.lean LOADS. Nothing in Lean hashes anything: it is a label: what it is worth is what the hold of that sum in a sandbox is worth. -/
noncomputable def Tryz.pinned : Pinned := { name := "ythlflglkdaainaagreatdoor", sum := "0f1a2553db64c0498ccee9f97cb042c758d3242d8c556b3b3730caf9a9ddc80b", checked := Tryz.checked }
namespace Rows
def none {H : Type} : Left H := { results := [], args := [] }

/- WHAT THE LISTED PACKAGE-LEVEL VARIABLES READ AS WHEN THE CALL BEGINS. Each datum BY PROGRAM (the guide's laid-datum.mjs) off the statement by which the dump's own 'gosem.cut.vars' lays the variable. In a bare row this is a premise. The card (YthlflglkdaainaaGreatDoorCards.lean) ties it to the program's text. -/
def laid_math_bits_deBruijn32tab {H : Type} : DataW H := .agg [.lit (.int .u8 0), .lit (.int .u8 1), .lit (.int .u8 28), .lit (.int .u8 2), .lit (.int .u8 29), .lit (.int .u8 14), .lit (.int .u8 24), .lit (.int .u8 3), .lit (.int .u8 30), .lit (.int .u8 22), .lit (.int .u8 20), .lit (.int .u8 15), .lit (.int .u8 25), .lit (.int .u8 17), .lit (.int .u8 4), .lit (.int .u8 8), .lit (.int .u8 31), .lit (.int .u8 27), .lit (.int .u8 13), .lit (.int .u8 23), .lit (.int .u8 21), .lit (.int .u8 19), .lit (.int .u8 16), .lit (.int .u8 7), .lit (.int .u8 26), .lit (.int .u8 12), .lit (.int .u8 18), .lit (.int .u8 6), .lit (.int .u8 11), .lit (.int .u8 5), .lit (.int .u8 10), .lit (.int .u8 9)]
def laid_math_bits_deBruijn64tab {H : Type} : DataW H := .agg [.lit (.int .u8 0), .lit (.int .u8 1), .lit (.int .u8 56), .lit (.int .u8 2), .lit (.int .u8 57), .lit (.int .u8 49), .lit (.int .u8 28), .lit (.int .u8 3), .lit (.int .u8 61), .lit (.int .u8 58), .lit (.int .u8 42), .lit (.int .u8 50), .lit (.int .u8 38), .lit (.int .u8 29), .lit (.int .u8 17), .lit (.int .u8 4), .lit (.int .u8 62), .lit (.int .u8 47), .lit (.int .u8 59), .lit (.int .u8 36), .lit (.int .u8 45), .lit (.int .u8 43), .lit (.int .u8 51), .lit (.int .u8 22), .lit (.int .u8 53), .lit (.int .u8 39), .lit (.int .u8 33), .lit (.int .u8 30), .lit (.int .u8 24), .lit (.int .u8 18), .lit (.int .u8 12), .lit (.int .u8 5), .lit (.int .u8 63), .lit (.int .u8 55), .lit (.int .u8 48), .lit (.int .u8 27), .lit (.int .u8 60), .lit (.int .u8 41), .lit (.int .u8 37), .lit (.int .u8 16), .lit (.int .u8 46), .lit (.int .u8 35), .lit (.int .u8 44), .lit (.int .u8 21), .lit (.int .u8 52), .lit (.int .u8 32), .lit (.int .u8 23), .lit (.int .u8 11), .lit (.int .u8 54), .lit (.int .u8 26), .lit (.int .u8 40), .lit (.int .u8 15), .lit (.int .u8 34), .lit (.int .u8 20), .lit (.int .u8 31), .lit (.int .u8 10), .lit (.int .u8 25), .lit (.int .u8 14), .lit (.int .u8 19), .lit (.int .u8 9), .lit (.int .u8 13), .lit (.int .u8 8), .lit (.int .u8 7), .lit (.int .u8 6)]
def laid_internal_strconv_uint64pow10 {H : Type} : DataW H := .agg [.lit (.int .u64 1), .lit (.int .u64 10), .lit (.int .u64 100), .lit (.int .u64 1000), .lit (.int .u64 10000), .lit (.int .u64 100000), .lit (.int .u64 1000000), .lit (.int .u64 10000000), .lit (.int .u64 100000000), .lit (.int .u64 1000000000), .lit (.int .u64 10000000000), .lit (.int .u64 100000000000), .lit (.int .u64 1000000000000), .lit (.int .u64 10000000000000), .lit (.int .u64 100000000000000), .lit (.int .u64 1000000000000000), .lit (.int .u64 10000000000000000), .lit (.int .u64 100000000000000000), .lit (.int .u64 1000000000000000000), .lit (.int .u64 10000000000000000000)]
def laid_unicode_utf8_acceptRanges {H : Type} : DataW H := .agg [.agg [.lit (.int .u8 128), .lit (.int .u8 191)], .agg [.lit (.int .u8 160), .lit (.int .u8 191)], .agg [.lit (.int .u8 128), .lit (.int .u8 159)], .agg [.lit (.int .u8 144), .lit (.int .u8 191)], .agg [.lit (.int .u8 128), .lit (.int .u8 143)], .agg [.lit (.int .u8 0), .lit (.int .u8 0)], .agg [.lit (.int .u8 0), .lit (.int .u8 0)], .agg [.lit (.int .u8 0), .lit (.int .u8 0)], .agg [.lit (.int .u8 0), .lit (.int .u8 0)], .agg [.lit (.int .u8 0), .lit (.int .u8 0)], .agg [.lit (.int .u8 0), .lit (.int .u8 0)], .agg [.lit (.int .u8 0), .lit (.int .u8 0)], .agg [.lit (.int .u8 0), .lit (.int .u8 0)], .agg [.lit (.int .u8 0), .lit (.int .u8 0)], .agg [.lit (.int .u8 0), .lit (.int .u8 0)], .agg [.lit (.int .u8 0), .lit (.int .u8 0)]]
/-- One of Go's own tables, pinned by name: the form's constant. -/
def laid_unicode_utf8_first : DataW Unit := Go.Pinned.utf8First

/-- 'gessolaw17.PlanGoes': WHATEVER THE INPUT: true; the input reads as it did. -/
def planGoesSpec : ChangeSpec := { name := "planGoes", fn := fun _ => fun
  | [d1, d2] => { results := [.lit (.bool true)], args := [d1, d2] }
  | _ => none }
def planGoesRow : OpenClaim := { program := "ythlflglkdaainaagreatdoor", sum := "0f1a2553db64c0498ccee9f97cb042c758d3242d8c556b3b3730caf9a9ddc80b", func := "gesso/gessolaw17.PlanGoes", spec := "planGoes", inPlace := ["internal/bytealg.IndexByteString"], unfollowed := true, recurses := true, named := ["unicode/utf8.first", "unicode/utf8.acceptRanges", "internal/strconv.uint64pow10", "math/bits.deBruijn32tab", "math/bits.deBruijn64tab"], plainKeys := false, apart := false, laid := [("math/bits.deBruijn32tab", laid_math_bits_deBruijn32tab), ("math/bits.deBruijn64tab", laid_math_bits_deBruijn64tab), ("internal/strconv.uint64pow10", laid_internal_strconv_uint64pow10), ("unicode/utf8.acceptRanges", laid_unicode_utf8_acceptRanges), ("unicode/utf8.first", laid_unicode_utf8_first)] }
def PlanGoesSaid : Prop := planGoesRow.holds Tryz.pinned (OpenSpec.ofChange planGoesSpec)

/-- ITS FALSE NEIGHBOUR: 'it returns false'. Refute it at one input. -/
def planGoesWrong : ChangeSpec := { name := "planGoes", fn := fun _ => fun
  | [d1, d2] => { results := [.lit (.bool false)], args := [d1, d2] }
  | _ => none }
def PlanGoesWrongFalsely : Prop := planGoesRow.holds Tryz.pinned (OpenSpec.ofChange planGoesWrong)

/-- 'gessolaw17.PlanLeads': WHATEVER THE INPUT: true; the input reads as it did. -/
def planLeadsSpec : ChangeSpec := { name := "planLeads", fn := fun _ => fun
  | [d] => { results := [.lit (.bool true)], args := [d] }
  | _ => none }
def planLeadsRow : OpenClaim := { program := "ythlflglkdaainaagreatdoor", sum := "0f1a2553db64c0498ccee9f97cb042c758d3242d8c556b3b3730caf9a9ddc80b", func := "gesso/gessolaw17.PlanLeads", spec := "planLeads", inPlace := ["internal/bytealg.IndexByteString"], unfollowed := true, recurses := true, named := ["unicode/utf8.first", "unicode/utf8.acceptRanges", "internal/strconv.uint64pow10", "math/bits.deBruijn32tab", "math/bits.deBruijn64tab"], plainKeys := false, apart := false, laid := [("math/bits.deBruijn32tab", laid_math_bits_deBruijn32tab), ("math/bits.deBruijn64tab", laid_math_bits_deBruijn64tab), ("internal/strconv.uint64pow10", laid_internal_strconv_uint64pow10), ("unicode/utf8.acceptRanges", laid_unicode_utf8_acceptRanges), ("unicode/utf8.first", laid_unicode_utf8_first)] }
def PlanLeadsSaid : Prop := planLeadsRow.holds Tryz.pinned (OpenSpec.ofChange planLeadsSpec)

/-- ITS FALSE NEIGHBOUR: 'it returns false'. Refute it at one input. -/
def planLeadsWrong : ChangeSpec := { name := "planLeads", fn := fun _ => fun
  | [d] => { results := [.lit (.bool false)], args := [d] }
  | _ => none }
def PlanLeadsWrongFalsely : Prop := planLeadsRow.holds Tryz.pinned (OpenSpec.ofChange planLeadsWrong)

/-- 'gessolaw17.PlanSteps': WHATEVER THE INPUT: true; the input reads as it did. -/
def planStepsSpec : ChangeSpec := { name := "planSteps", fn := fun _ => fun
  | [d] => { results := [.lit (.bool true)], args := [d] }
  | _ => none }
def planStepsRow : OpenClaim := { program := "ythlflglkdaainaagreatdoor", sum := "0f1a2553db64c0498ccee9f97cb042c758d3242d8c556b3b3730caf9a9ddc80b", func := "gesso/gessolaw17.PlanSteps", spec := "planSteps", inPlace := ["internal/bytealg.IndexByteString"], unfollowed := true, recurses := true, named := ["unicode/utf8.first", "unicode/utf8.acceptRanges", "internal/strconv.uint64pow10", "math/bits.deBruijn32tab", "math/bits.deBruijn64tab"], plainKeys := false, apart := false, laid := [("math/bits.deBruijn32tab", laid_math_bits_deBruijn32tab), ("math/bits.deBruijn64tab", laid_math_bits_deBruijn64tab), ("internal/strconv.uint64pow10", laid_internal_strconv_uint64pow10), ("unicode/utf8.acceptRanges", laid_unicode_utf8_acceptRanges), ("unicode/utf8.first", laid_unicode_utf8_first)] }
def PlanStepsSaid : Prop := planStepsRow.holds Tryz.pinned (OpenSpec.ofChange planStepsSpec)

/-- ITS FALSE NEIGHBOUR: 'it returns false'. Refute it at one input. -/
def planStepsWrong : ChangeSpec := { name := "planSteps", fn := fun _ => fun
  | [d] => { results := [.lit (.bool false)], args := [d] }
  | _ => none }
def PlanStepsWrongFalsely : Prop := planStepsRow.holds Tryz.pinned (OpenSpec.ofChange planStepsWrong)

/-- 'gessolaw16.VerdictJudges': WHATEVER THE INPUT: true; the input reads as it did. -/
def verdictJudgesSpec : ChangeSpec := { name := "verdictJudges", fn := fun _ => fun
  | [d] => { results := [.lit (.bool true)], args := [d] }
  | _ => none }
def verdictJudgesRow : OpenClaim := { program := "ythlflglkdaainaagreatdoor", sum := "0f1a2553db64c0498ccee9f97cb042c758d3242d8c556b3b3730caf9a9ddc80b", func := "gesso/gessolaw16.VerdictJudges", spec := "verdictJudges", inPlace := ["internal/bytealg.IndexByteString"], unfollowed := true, recurses := true, named := ["unicode/utf8.first", "unicode/utf8.acceptRanges", "internal/strconv.uint64pow10", "math/bits.deBruijn32tab", "math/bits.deBruijn64tab"], plainKeys := false, apart := false, laid := [("math/bits.deBruijn32tab", laid_math_bits_deBruijn32tab), ("math/bits.deBruijn64tab", laid_math_bits_deBruijn64tab), ("internal/strconv.uint64pow10", laid_internal_strconv_uint64pow10), ("unicode/utf8.acceptRanges", laid_unicode_utf8_acceptRanges), ("unicode/utf8.first", laid_unicode_utf8_first)] }
def VerdictJudgesSaid : Prop := verdictJudgesRow.holds Tryz.pinned (OpenSpec.ofChange verdictJudgesSpec)

/-- ITS FALSE NEIGHBOUR: 'it returns false'. Refute it at one input. -/
def verdictJudgesWrong : ChangeSpec := { name := "verdictJudges", fn := fun _ => fun
  | [d] => { results := [.lit (.bool false)], args := [d] }
  | _ => none }
def VerdictJudgesWrongFalsely : Prop := verdictJudgesRow.holds Tryz.pinned (OpenSpec.ofChange verdictJudgesWrong)

/-- 'gessolaw16.VerdictTargets': WHATEVER THE INPUT: true; the input reads as it did. -/
def verdictTargetsSpec : ChangeSpec := { name := "verdictTargets", fn := fun _ => fun
  | [d] => { results := [.lit (.bool true)], args := [d] }
  | _ => none }
def verdictTargetsRow : OpenClaim := { program := "ythlflglkdaainaagreatdoor", sum := "0f1a2553db64c0498ccee9f97cb042c758d3242d8c556b3b3730caf9a9ddc80b", func := "gesso/gessolaw16.VerdictTargets", spec := "verdictTargets", inPlace := ["internal/bytealg.IndexByteString"], unfollowed := true, recurses := true, named := ["unicode/utf8.first", "unicode/utf8.acceptRanges", "internal/strconv.uint64pow10", "math/bits.deBruijn32tab", "math/bits.deBruijn64tab"], plainKeys := false, apart := false, laid := [("math/bits.deBruijn32tab", laid_math_bits_deBruijn32tab), ("math/bits.deBruijn64tab", laid_math_bits_deBruijn64tab), ("internal/strconv.uint64pow10", laid_internal_strconv_uint64pow10), ("unicode/utf8.acceptRanges", laid_unicode_utf8_acceptRanges), ("unicode/utf8.first", laid_unicode_utf8_first)] }
def VerdictTargetsSaid : Prop := verdictTargetsRow.holds Tryz.pinned (OpenSpec.ofChange verdictTargetsSpec)

/-- ITS FALSE NEIGHBOUR: 'it returns false'. Refute it at one input. -/
def verdictTargetsWrong : ChangeSpec := { name := "verdictTargets", fn := fun _ => fun
  | [d] => { results := [.lit (.bool false)], args := [d] }
  | _ => none }
def VerdictTargetsWrongFalsely : Prop := verdictTargetsRow.holds Tryz.pinned (OpenSpec.ofChange verdictTargetsWrong)

/-- 'gessolaw16.VerdictReports': WHATEVER THE INPUT: true; the input reads as it did. -/
def verdictReportsSpec : ChangeSpec := { name := "verdictReports", fn := fun _ => fun
  | [d] => { results := [.lit (.bool true)], args := [d] }
  | _ => none }
def verdictReportsRow : OpenClaim := { program := "ythlflglkdaainaagreatdoor", sum := "0f1a2553db64c0498ccee9f97cb042c758d3242d8c556b3b3730caf9a9ddc80b", func := "gesso/gessolaw16.VerdictReports", spec := "verdictReports", inPlace := ["internal/bytealg.IndexByteString"], unfollowed := true, recurses := true, named := ["unicode/utf8.first", "unicode/utf8.acceptRanges", "internal/strconv.uint64pow10", "math/bits.deBruijn32tab", "math/bits.deBruijn64tab"], plainKeys := false, apart := false, laid := [("math/bits.deBruijn32tab", laid_math_bits_deBruijn32tab), ("math/bits.deBruijn64tab", laid_math_bits_deBruijn64tab), ("internal/strconv.uint64pow10", laid_internal_strconv_uint64pow10), ("unicode/utf8.acceptRanges", laid_unicode_utf8_acceptRanges), ("unicode/utf8.first", laid_unicode_utf8_first)] }
def VerdictReportsSaid : Prop := verdictReportsRow.holds Tryz.pinned (OpenSpec.ofChange verdictReportsSpec)

/-- ITS FALSE NEIGHBOUR: 'it returns false'. Refute it at one input. -/
def verdictReportsWrong : ChangeSpec := { name := "verdictReports", fn := fun _ => fun
  | [d] => { results := [.lit (.bool false)], args := [d] }
  | _ => none }
def VerdictReportsWrongFalsely : Prop := verdictReportsRow.holds Tryz.pinned (OpenSpec.ofChange verdictReportsWrong)

/-- 'gessolaw16.VerdictAgain': WHATEVER THE INPUT: true; the input reads as it did. -/
def verdictAgainSpec : ChangeSpec := { name := "verdictAgain", fn := fun _ => fun
  | [d] => { results := [.lit (.bool true)], args := [d] }
  | _ => none }
def verdictAgainRow : OpenClaim := { program := "ythlflglkdaainaagreatdoor", sum := "0f1a2553db64c0498ccee9f97cb042c758d3242d8c556b3b3730caf9a9ddc80b", func := "gesso/gessolaw16.VerdictAgain", spec := "verdictAgain", inPlace := ["internal/bytealg.IndexByteString"], unfollowed := true, recurses := true, named := ["unicode/utf8.first", "unicode/utf8.acceptRanges", "internal/strconv.uint64pow10", "math/bits.deBruijn32tab", "math/bits.deBruijn64tab"], plainKeys := false, apart := false, laid := [("math/bits.deBruijn32tab", laid_math_bits_deBruijn32tab), ("math/bits.deBruijn64tab", laid_math_bits_deBruijn64tab), ("internal/strconv.uint64pow10", laid_internal_strconv_uint64pow10), ("unicode/utf8.acceptRanges", laid_unicode_utf8_acceptRanges), ("unicode/utf8.first", laid_unicode_utf8_first)] }
def VerdictAgainSaid : Prop := verdictAgainRow.holds Tryz.pinned (OpenSpec.ofChange verdictAgainSpec)

/-- ITS FALSE NEIGHBOUR: 'it returns false'. Refute it at one input. -/
def verdictAgainWrong : ChangeSpec := { name := "verdictAgain", fn := fun _ => fun
  | [d] => { results := [.lit (.bool false)], args := [d] }
  | _ => none }
def VerdictAgainWrongFalsely : Prop := verdictAgainRow.holds Tryz.pinned (OpenSpec.ofChange verdictAgainWrong)

/-- 'gessolaw16.VerdictTree': WHATEVER THE INPUT: true; the input reads as it did. -/
def verdictTreeSpec : ChangeSpec := { name := "verdictTree", fn := fun _ => fun
  | [d] => { results := [.lit (.bool true)], args := [d] }
  | _ => none }
def verdictTreeRow : OpenClaim := { program := "ythlflglkdaainaagreatdoor", sum := "0f1a2553db64c0498ccee9f97cb042c758d3242d8c556b3b3730caf9a9ddc80b", func := "gesso/gessolaw16.VerdictTree", spec := "verdictTree", inPlace := ["internal/bytealg.IndexByteString"], unfollowed := true, recurses := true, named := ["unicode/utf8.first", "unicode/utf8.acceptRanges", "internal/strconv.uint64pow10", "math/bits.deBruijn32tab", "math/bits.deBruijn64tab"], plainKeys := false, apart := false, laid := [("math/bits.deBruijn32tab", laid_math_bits_deBruijn32tab), ("math/bits.deBruijn64tab", laid_math_bits_deBruijn64tab), ("internal/strconv.uint64pow10", laid_internal_strconv_uint64pow10), ("unicode/utf8.acceptRanges", laid_unicode_utf8_acceptRanges), ("unicode/utf8.first", laid_unicode_utf8_first)] }
def VerdictTreeSaid : Prop := verdictTreeRow.holds Tryz.pinned (OpenSpec.ofChange verdictTreeSpec)

/-- ITS FALSE NEIGHBOUR: 'it returns false'. Refute it at one input. -/
def verdictTreeWrong : ChangeSpec := { name := "verdictTree", fn := fun _ => fun
  | [d] => { results := [.lit (.bool false)], args := [d] }
  | _ => none }
def VerdictTreeWrongFalsely : Prop := verdictTreeRow.holds Tryz.pinned (OpenSpec.ofChange verdictTreeWrong)

/-- 'gessolaw16.VerdictApart': WHATEVER THE INPUT: true; the input reads as it did. -/
def verdictApartSpec : ChangeSpec := { name := "verdictApart", fn := fun _ => fun
  | [d1, d2, d3] => { results := [.lit (.bool true)], args := [d1, d2, d3] }
  | _ => none }
def verdictApartRow : OpenClaim := { program := "ythlflglkdaainaagreatdoor", sum := "0f1a2553db64c0498ccee9f97cb042c758d3242d8c556b3b3730caf9a9ddc80b", func := "gesso/gessolaw16.VerdictApart", spec := "verdictApart", inPlace := ["internal/bytealg.IndexByteString"], unfollowed := true, recurses := true, named := ["unicode/utf8.first", "unicode/utf8.acceptRanges", "internal/strconv.uint64pow10", "math/bits.deBruijn32tab", "math/bits.deBruijn64tab"], plainKeys := false, apart := false, laid := [("math/bits.deBruijn32tab", laid_math_bits_deBruijn32tab), ("math/bits.deBruijn64tab", laid_math_bits_deBruijn64tab), ("internal/strconv.uint64pow10", laid_internal_strconv_uint64pow10), ("unicode/utf8.acceptRanges", laid_unicode_utf8_acceptRanges), ("unicode/utf8.first", laid_unicode_utf8_first)] }
def VerdictApartSaid : Prop := verdictApartRow.holds Tryz.pinned (OpenSpec.ofChange verdictApartSpec)

/-- ITS FALSE NEIGHBOUR: 'it returns false'. Refute it at one input. -/
def verdictApartWrong : ChangeSpec := { name := "verdictApart", fn := fun _ => fun
  | [d1, d2, d3] => { results := [.lit (.bool false)], args := [d1, d2, d3] }
  | _ => none }
def VerdictApartWrongFalsely : Prop := verdictApartRow.holds Tryz.pinned (OpenSpec.ofChange verdictApartWrong)

/-- 'gessolaw16.VerdictStands': WHATEVER THE INPUT: true; the input reads as it did. -/
def verdictStandsSpec : ChangeSpec := { name := "verdictStands", fn := fun _ => fun
  | [d] => { results := [.lit (.bool true)], args := [d] }
  | _ => none }
def verdictStandsRow : OpenClaim := { program := "ythlflglkdaainaagreatdoor", sum := "0f1a2553db64c0498ccee9f97cb042c758d3242d8c556b3b3730caf9a9ddc80b", func := "gesso/gessolaw16.VerdictStands", spec := "verdictStands", inPlace := ["internal/bytealg.IndexByteString"], unfollowed := true, recurses := true, named := ["unicode/utf8.first", "unicode/utf8.acceptRanges", "internal/strconv.uint64pow10", "math/bits.deBruijn32tab", "math/bits.deBruijn64tab"], plainKeys := false, apart := false, laid := [("math/bits.deBruijn32tab", laid_math_bits_deBruijn32tab), ("math/bits.deBruijn64tab", laid_math_bits_deBruijn64tab), ("internal/strconv.uint64pow10", laid_internal_strconv_uint64pow10), ("unicode/utf8.acceptRanges", laid_unicode_utf8_acceptRanges), ("unicode/utf8.first", laid_unicode_utf8_first)] }
def VerdictStandsSaid : Prop := verdictStandsRow.holds Tryz.pinned (OpenSpec.ofChange verdictStandsSpec)

/-- ITS FALSE NEIGHBOUR: 'it returns false'. Refute it at one input. -/
def verdictStandsWrong : ChangeSpec := { name := "verdictStands", fn := fun _ => fun
  | [d] => { results := [.lit (.bool false)], args := [d] }
  | _ => none }
def VerdictStandsWrongFalsely : Prop := verdictStandsRow.holds Tryz.pinned (OpenSpec.ofChange verdictStandsWrong)

/-- 'gessolaw17.PlanApplies': WHATEVER THE INPUT: true; the input reads as it did. -/
def planAppliesSpec : ChangeSpec := { name := "planApplies", fn := fun _ => fun
  | [d1, d2] => { results := [.lit (.bool true)], args := [d1, d2] }
  | _ => none }
def planAppliesRow : OpenClaim := { program := "ythlflglkdaainaagreatdoor", sum := "0f1a2553db64c0498ccee9f97cb042c758d3242d8c556b3b3730caf9a9ddc80b", func := "gesso/gessolaw17.PlanApplies", spec := "planApplies", inPlace := ["internal/bytealg.IndexByteString"], unfollowed := true, recurses := true, named := ["unicode/utf8.first", "unicode/utf8.acceptRanges", "internal/strconv.uint64pow10", "math/bits.deBruijn32tab", "math/bits.deBruijn64tab"], plainKeys := false, apart := false, laid := [("math/bits.deBruijn32tab", laid_math_bits_deBruijn32tab), ("math/bits.deBruijn64tab", laid_math_bits_deBruijn64tab), ("internal/strconv.uint64pow10", laid_internal_strconv_uint64pow10), ("unicode/utf8.acceptRanges", laid_unicode_utf8_acceptRanges), ("unicode/utf8.first", laid_unicode_utf8_first)] }
def PlanAppliesSaid : Prop := planAppliesRow.holds Tryz.pinned (OpenSpec.ofChange planAppliesSpec)

/-- ITS FALSE NEIGHBOUR: 'it returns false'. Refute it at one input. -/
def planAppliesWrong : ChangeSpec := { name := "planApplies", fn := fun _ => fun
  | [d1, d2] => { results := [.lit (.bool false)], args := [d1, d2] }
  | _ => none }
def PlanAppliesWrongFalsely : Prop := planAppliesRow.holds Tryz.pinned (OpenSpec.ofChange planAppliesWrong)

/-- 'gessolaw17.PlanOnce': WHATEVER THE INPUT: true; the input reads as it did. -/
def planOnceSpec : ChangeSpec := { name := "planOnce", fn := fun _ => fun
  | [d] => { results := [.lit (.bool true)], args := [d] }
  | _ => none }
def planOnceRow : OpenClaim := { program := "ythlflglkdaainaagreatdoor", sum := "0f1a2553db64c0498ccee9f97cb042c758d3242d8c556b3b3730caf9a9ddc80b", func := "gesso/gessolaw17.PlanOnce", spec := "planOnce", inPlace := ["internal/bytealg.IndexByteString"], unfollowed := true, recurses := true, named := ["unicode/utf8.first", "unicode/utf8.acceptRanges", "internal/strconv.uint64pow10", "math/bits.deBruijn32tab", "math/bits.deBruijn64tab"], plainKeys := false, apart := false, laid := [("math/bits.deBruijn32tab", laid_math_bits_deBruijn32tab), ("math/bits.deBruijn64tab", laid_math_bits_deBruijn64tab), ("internal/strconv.uint64pow10", laid_internal_strconv_uint64pow10), ("unicode/utf8.acceptRanges", laid_unicode_utf8_acceptRanges), ("unicode/utf8.first", laid_unicode_utf8_first)] }
def PlanOnceSaid : Prop := planOnceRow.holds Tryz.pinned (OpenSpec.ofChange planOnceSpec)

/-- ITS FALSE NEIGHBOUR: 'it returns false'. Refute it at one input. -/
def planOnceWrong : ChangeSpec := { name := "planOnce", fn := fun _ => fun
  | [d] => { results := [.lit (.bool false)], args := [d] }
  | _ => none }
def PlanOnceWrongFalsely : Prop := planOnceRow.holds Tryz.pinned (OpenSpec.ofChange planOnceWrong)

/- THE SECOND FORM. 'bulk': how many values and letters a reading holds, each counted each time it is reached (what is shared counts as often as it is met; a slice's spare places count too). A statement '..UptoSaid' is the law's where the arguments, and the package variables that the reading takes, are together of bulk at most 1048576: NARROWER than '..Said'. Prove '..Said' where nothing that the law and all that it calls make is longer than what came in: it says more and counts as full. Else prove '..UptoSaid'. A law counts once. -/
mutual
def uptoBulk {H : Type} : DataW H → Nat
  | .lit (.string bytes) => bytes.length + 1
  | .lit _ => 1
  | .nil => 1
  | .ptr d => uptoBulk d + 1
  | .slice elems spare => uptoBulkAll elems + uptoBulkAll spare + 1
  | .agg parts => uptoBulkAll parts + 1
  | .iface _ d => uptoBulk d + 1
  | .map entries => uptoBulkEntries entries + 1
  | .held _ => 1
def uptoBulkAll {H : Type} : List (DataW H) → Nat
  | [] => 0
  | d :: r => uptoBulk d + uptoBulkAll r
def uptoBulkEntries {H : Type} : List (Lit × DataW H) → Nat
  | [] => 0
  | x :: r => uptoBulkEntry x + uptoBulkEntries r
def uptoBulkEntry {H : Type} : Lit × DataW H → Nat
  | (.string bytes, d) => bytes.length + uptoBulk d + 1
  | (_, d) => uptoBulk d + 1
 end
def uptoSmall : (H : Type) → List (DataW H) → Bool := fun _ ds => decide (uptoBulkAll ds ≤ 1048576)
def OpenSpec.upto (s : _root_.Go.ChangeSpec) : _root_.Go.OpenSpec := { _root_.Go.OpenSpec.ofChange s with cond := some uptoSmall }

/-- 'gessolaw17.PlanGoes', WHERE WHAT IT READS IS OF BULK AT MOST 1048576: true; the input reads as it did. -/
def planGoesUptoRow : OpenClaim := { program := "ythlflglkdaainaagreatdoor", sum := "0f1a2553db64c0498ccee9f97cb042c758d3242d8c556b3b3730caf9a9ddc80b", func := "gesso/gessolaw17.PlanGoes", spec := "planGoes", inPlace := ["internal/bytealg.IndexByteString"], unfollowed := true, recurses := true, named := ["unicode/utf8.first", "unicode/utf8.acceptRanges", "internal/strconv.uint64pow10", "math/bits.deBruijn32tab", "math/bits.deBruijn64tab"], plainKeys := false, apart := false, laid := [("math/bits.deBruijn32tab", laid_math_bits_deBruijn32tab), ("math/bits.deBruijn64tab", laid_math_bits_deBruijn64tab), ("internal/strconv.uint64pow10", laid_internal_strconv_uint64pow10), ("unicode/utf8.acceptRanges", laid_unicode_utf8_acceptRanges), ("unicode/utf8.first", laid_unicode_utf8_first)], narrowed := true }
def PlanGoesUptoSaid : Prop := planGoesUptoRow.holds Tryz.pinned (OpenSpec.upto planGoesSpec)

/-- 'gessolaw17.PlanLeads', WHERE WHAT IT READS IS OF BULK AT MOST 1048576: true; the input reads as it did. -/
def planLeadsUptoRow : OpenClaim := { program := "ythlflglkdaainaagreatdoor", sum := "0f1a2553db64c0498ccee9f97cb042c758d3242d8c556b3b3730caf9a9ddc80b", func := "gesso/gessolaw17.PlanLeads", spec := "planLeads", inPlace := ["internal/bytealg.IndexByteString"], unfollowed := true, recurses := true, named := ["unicode/utf8.first", "unicode/utf8.acceptRanges", "internal/strconv.uint64pow10", "math/bits.deBruijn32tab", "math/bits.deBruijn64tab"], plainKeys := false, apart := false, laid := [("math/bits.deBruijn32tab", laid_math_bits_deBruijn32tab), ("math/bits.deBruijn64tab", laid_math_bits_deBruijn64tab), ("internal/strconv.uint64pow10", laid_internal_strconv_uint64pow10), ("unicode/utf8.acceptRanges", laid_unicode_utf8_acceptRanges), ("unicode/utf8.first", laid_unicode_utf8_first)], narrowed := true }
def PlanLeadsUptoSaid : Prop := planLeadsUptoRow.holds Tryz.pinned (OpenSpec.upto planLeadsSpec)

/-- 'gessolaw17.PlanSteps', WHERE WHAT IT READS IS OF BULK AT MOST 1048576: true; the input reads as it did. -/
def planStepsUptoRow : OpenClaim := { program := "ythlflglkdaainaagreatdoor", sum := "0f1a2553db64c0498ccee9f97cb042c758d3242d8c556b3b3730caf9a9ddc80b", func := "gesso/gessolaw17.PlanSteps", spec := "planSteps", inPlace := ["internal/bytealg.IndexByteString"], unfollowed := true, recurses := true, named := ["unicode/utf8.first", "unicode/utf8.acceptRanges", "internal/strconv.uint64pow10", "math/bits.deBruijn32tab", "math/bits.deBruijn64tab"], plainKeys := false, apart := false, laid := [("math/bits.deBruijn32tab", laid_math_bits_deBruijn32tab), ("math/bits.deBruijn64tab", laid_math_bits_deBruijn64tab), ("internal/strconv.uint64pow10", laid_internal_strconv_uint64pow10), ("unicode/utf8.acceptRanges", laid_unicode_utf8_acceptRanges), ("unicode/utf8.first", laid_unicode_utf8_first)], narrowed := true }
def PlanStepsUptoSaid : Prop := planStepsUptoRow.holds Tryz.pinned (OpenSpec.upto planStepsSpec)

/-- 'gessolaw16.VerdictJudges', WHERE WHAT IT READS IS OF BULK AT MOST 1048576: true; the input reads as it did. -/
def verdictJudgesUptoRow : OpenClaim := { program := "ythlflglkdaainaagreatdoor", sum := "0f1a2553db64c0498ccee9f97cb042c758d3242d8c556b3b3730caf9a9ddc80b", func := "gesso/gessolaw16.VerdictJudges", spec := "verdictJudges", inPlace := ["internal/bytealg.IndexByteString"], unfollowed := true, recurses := true, named := ["unicode/utf8.first", "unicode/utf8.acceptRanges", "internal/strconv.uint64pow10", "math/bits.deBruijn32tab", "math/bits.deBruijn64tab"], plainKeys := false, apart := false, laid := [("math/bits.deBruijn32tab", laid_math_bits_deBruijn32tab), ("math/bits.deBruijn64tab", laid_math_bits_deBruijn64tab), ("internal/strconv.uint64pow10", laid_internal_strconv_uint64pow10), ("unicode/utf8.acceptRanges", laid_unicode_utf8_acceptRanges), ("unicode/utf8.first", laid_unicode_utf8_first)], narrowed := true }
def VerdictJudgesUptoSaid : Prop := verdictJudgesUptoRow.holds Tryz.pinned (OpenSpec.upto verdictJudgesSpec)

/-- 'gessolaw16.VerdictTargets', WHERE WHAT IT READS IS OF BULK AT MOST 1048576: true; the input reads as it did. -/
def verdictTargetsUptoRow : OpenClaim := { program := "ythlflglkdaainaagreatdoor", sum := "0f1a2553db64c0498ccee9f97cb042c758d3242d8c556b3b3730caf9a9ddc80b", func := "gesso/gessolaw16.VerdictTargets", spec := "verdictTargets", inPlace := ["internal/bytealg.IndexByteString"], unfollowed := true, recurses := true, named := ["unicode/utf8.first", "unicode/utf8.acceptRanges", "internal/strconv.uint64pow10", "math/bits.deBruijn32tab", "math/bits.deBruijn64tab"], plainKeys := false, apart := false, laid := [("math/bits.deBruijn32tab", laid_math_bits_deBruijn32tab), ("math/bits.deBruijn64tab", laid_math_bits_deBruijn64tab), ("internal/strconv.uint64pow10", laid_internal_strconv_uint64pow10), ("unicode/utf8.acceptRanges", laid_unicode_utf8_acceptRanges), ("unicode/utf8.first", laid_unicode_utf8_first)], narrowed := true }
def VerdictTargetsUptoSaid : Prop := verdictTargetsUptoRow.holds Tryz.pinned (OpenSpec.upto verdictTargetsSpec)

/-- 'gessolaw16.VerdictReports', WHERE WHAT IT READS IS OF BULK AT MOST 1048576: true; the input reads as it did. -/
def verdictReportsUptoRow : OpenClaim := { program := "ythlflglkdaainaagreatdoor", sum := "0f1a2553db64c0498ccee9f97cb042c758d3242d8c556b3b3730caf9a9ddc80b", func := "gesso/gessolaw16.VerdictReports", spec := "verdictReports", inPlace := ["internal/bytealg.IndexByteString"], unfollowed := true, recurses := true, named := ["unicode/utf8.first", "unicode/utf8.acceptRanges", "internal/strconv.uint64pow10", "math/bits.deBruijn32tab", "math/bits.deBruijn64tab"], plainKeys := false, apart := false, laid := [("math/bits.deBruijn32tab", laid_math_bits_deBruijn32tab), ("math/bits.deBruijn64tab", laid_math_bits_deBruijn64tab), ("internal/strconv.uint64pow10", laid_internal_strconv_uint64pow10), ("unicode/utf8.acceptRanges", laid_unicode_utf8_acceptRanges), ("unicode/utf8.first", laid_unicode_utf8_first)], narrowed := true }
def VerdictReportsUptoSaid : Prop := verdictReportsUptoRow.holds Tryz.pinned (OpenSpec.upto verdictReportsSpec)

/-- 'gessolaw16.VerdictAgain', WHERE WHAT IT READS IS OF BULK AT MOST 1048576: true; the input reads as it did. -/
def verdictAgainUptoRow : OpenClaim := { program := "ythlflglkdaainaagreatdoor", sum := "0f1a2553db64c0498ccee9f97cb042c758d3242d8c556b3b3730caf9a9ddc80b", func := "gesso/gessolaw16.VerdictAgain", spec := "verdictAgain", inPlace := ["internal/bytealg.IndexByteString"], unfollowed := true, recurses := true, named := ["unicode/utf8.first", "unicode/utf8.acceptRanges", "internal/strconv.uint64pow10", "math/bits.deBruijn32tab", "math/bits.deBruijn64tab"], plainKeys := false, apart := false, laid := [("math/bits.deBruijn32tab", laid_math_bits_deBruijn32tab), ("math/bits.deBruijn64tab", laid_math_bits_deBruijn64tab), ("internal/strconv.uint64pow10", laid_internal_strconv_uint64pow10), ("unicode/utf8.acceptRanges", laid_unicode_utf8_acceptRanges), ("unicode/utf8.first", laid_unicode_utf8_first)], narrowed := true }
def VerdictAgainUptoSaid : Prop := verdictAgainUptoRow.holds Tryz.pinned (OpenSpec.upto verdictAgainSpec)

/-- 'gessolaw16.VerdictTree', WHERE WHAT IT READS IS OF BULK AT MOST 1048576: true; the input reads as it did. -/
def verdictTreeUptoRow : OpenClaim := { program := "ythlflglkdaainaagreatdoor", sum := "0f1a2553db64c0498ccee9f97cb042c758d3242d8c556b3b3730caf9a9ddc80b", func := "gesso/gessolaw16.VerdictTree", spec := "verdictTree", inPlace := ["internal/bytealg.IndexByteString"], unfollowed := true, recurses := true, named := ["unicode/utf8.first", "unicode/utf8.acceptRanges", "internal/strconv.uint64pow10", "math/bits.deBruijn32tab", "math/bits.deBruijn64tab"], plainKeys := false, apart := false, laid := [("math/bits.deBruijn32tab", laid_math_bits_deBruijn32tab), ("math/bits.deBruijn64tab", laid_math_bits_deBruijn64tab), ("internal/strconv.uint64pow10", laid_internal_strconv_uint64pow10), ("unicode/utf8.acceptRanges", laid_unicode_utf8_acceptRanges), ("unicode/utf8.first", laid_unicode_utf8_first)], narrowed := true }
def VerdictTreeUptoSaid : Prop := verdictTreeUptoRow.holds Tryz.pinned (OpenSpec.upto verdictTreeSpec)

/-- 'gessolaw16.VerdictApart', WHERE WHAT IT READS IS OF BULK AT MOST 1048576: true; the input reads as it did. -/
def verdictApartUptoRow : OpenClaim := { program := "ythlflglkdaainaagreatdoor", sum := "0f1a2553db64c0498ccee9f97cb042c758d3242d8c556b3b3730caf9a9ddc80b", func := "gesso/gessolaw16.VerdictApart", spec := "verdictApart", inPlace := ["internal/bytealg.IndexByteString"], unfollowed := true, recurses := true, named := ["unicode/utf8.first", "unicode/utf8.acceptRanges", "internal/strconv.uint64pow10", "math/bits.deBruijn32tab", "math/bits.deBruijn64tab"], plainKeys := false, apart := false, laid := [("math/bits.deBruijn32tab", laid_math_bits_deBruijn32tab), ("math/bits.deBruijn64tab", laid_math_bits_deBruijn64tab), ("internal/strconv.uint64pow10", laid_internal_strconv_uint64pow10), ("unicode/utf8.acceptRanges", laid_unicode_utf8_acceptRanges), ("unicode/utf8.first", laid_unicode_utf8_first)], narrowed := true }
def VerdictApartUptoSaid : Prop := verdictApartUptoRow.holds Tryz.pinned (OpenSpec.upto verdictApartSpec)

/-- 'gessolaw16.VerdictStands', WHERE WHAT IT READS IS OF BULK AT MOST 1048576: true; the input reads as it did. -/
def verdictStandsUptoRow : OpenClaim := { program := "ythlflglkdaainaagreatdoor", sum := "0f1a2553db64c0498ccee9f97cb042c758d3242d8c556b3b3730caf9a9ddc80b", func := "gesso/gessolaw16.VerdictStands", spec := "verdictStands", inPlace := ["internal/bytealg.IndexByteString"], unfollowed := true, recurses := true, named := ["unicode/utf8.first", "unicode/utf8.acceptRanges", "internal/strconv.uint64pow10", "math/bits.deBruijn32tab", "math/bits.deBruijn64tab"], plainKeys := false, apart := false, laid := [("math/bits.deBruijn32tab", laid_math_bits_deBruijn32tab), ("math/bits.deBruijn64tab", laid_math_bits_deBruijn64tab), ("internal/strconv.uint64pow10", laid_internal_strconv_uint64pow10), ("unicode/utf8.acceptRanges", laid_unicode_utf8_acceptRanges), ("unicode/utf8.first", laid_unicode_utf8_first)], narrowed := true }
def VerdictStandsUptoSaid : Prop := verdictStandsUptoRow.holds Tryz.pinned (OpenSpec.upto verdictStandsSpec)

/-- 'gessolaw17.PlanApplies', WHERE WHAT IT READS IS OF BULK AT MOST 1048576: true; the input reads as it did. -/
def planAppliesUptoRow : OpenClaim := { program := "ythlflglkdaainaagreatdoor", sum := "0f1a2553db64c0498ccee9f97cb042c758d3242d8c556b3b3730caf9a9ddc80b", func := "gesso/gessolaw17.PlanApplies", spec := "planApplies", inPlace := ["internal/bytealg.IndexByteString"], unfollowed := true, recurses := true, named := ["unicode/utf8.first", "unicode/utf8.acceptRanges", "internal/strconv.uint64pow10", "math/bits.deBruijn32tab", "math/bits.deBruijn64tab"], plainKeys := false, apart := false, laid := [("math/bits.deBruijn32tab", laid_math_bits_deBruijn32tab), ("math/bits.deBruijn64tab", laid_math_bits_deBruijn64tab), ("internal/strconv.uint64pow10", laid_internal_strconv_uint64pow10), ("unicode/utf8.acceptRanges", laid_unicode_utf8_acceptRanges), ("unicode/utf8.first", laid_unicode_utf8_first)], narrowed := true }
def PlanAppliesUptoSaid : Prop := planAppliesUptoRow.holds Tryz.pinned (OpenSpec.upto planAppliesSpec)

/-- 'gessolaw17.PlanOnce', WHERE WHAT IT READS IS OF BULK AT MOST 1048576: true; the input reads as it did. -/
def planOnceUptoRow : OpenClaim := { program := "ythlflglkdaainaagreatdoor", sum := "0f1a2553db64c0498ccee9f97cb042c758d3242d8c556b3b3730caf9a9ddc80b", func := "gesso/gessolaw17.PlanOnce", spec := "planOnce", inPlace := ["internal/bytealg.IndexByteString"], unfollowed := true, recurses := true, named := ["unicode/utf8.first", "unicode/utf8.acceptRanges", "internal/strconv.uint64pow10", "math/bits.deBruijn32tab", "math/bits.deBruijn64tab"], plainKeys := false, apart := false, laid := [("math/bits.deBruijn32tab", laid_math_bits_deBruijn32tab), ("math/bits.deBruijn64tab", laid_math_bits_deBruijn64tab), ("internal/strconv.uint64pow10", laid_internal_strconv_uint64pow10), ("unicode/utf8.acceptRanges", laid_unicode_utf8_acceptRanges), ("unicode/utf8.first", laid_unicode_utf8_first)], narrowed := true }
def PlanOnceUptoSaid : Prop := planOnceUptoRow.holds Tryz.pinned (OpenSpec.upto planOnceSpec)

end Rows
end Go.Proofs.YthlflglkdaainaaGreatDoor
