/-
  NARROWER THAN 'FOR EVERY INPUT', by the rows' own cells (each row's printed sentence says how): DecompFulls: laid · UcdClasses: laid · UcdPairs: laid · UcdQuicks: laid · UcdDeep: laid · UcdDecomps: laid · UcdBack: laid · UcdFirsts: laid · DecompLists: laid · DecompAgain: laid · DecompJoins: laid · DecompHangul: laid.
  DERIVED. THE GIVEN ROWS OF THIS SEAT. 12 by the template 'for every input the law returns true; each argument reads behind the call as it read before'; 0 by the template 'total and deterministic' (their statements: YtknlnllmoilglaaDoorTotals.lean).
  GIVEN WITH THE SEED: the statements are not yours to turn. If you find one false, say at which input.
  Laid BY PROGRAM, IN A SANDBOX (cutbox-rows.mjs): the forced cells as the released guide's own fill.sh prints them over the translation 7efbe76d874ce044… (all of the seat's roots in one cut). By AI agents, Wed Nov 11 2026. No macro, syntax, notation, axiom, sorry.
-/
import Derived.Test.YtknlnllmoilglaaDoorChecked
import GoSem.Claim
import GoSem.ClaimJoined
import GoSem.ClaimMapViews
import Derived.JoinedTies
import Derived.KernelRfl
namespace Go.Proofs.YtknlnllmoilglaaDoor
/- THE CELL 'sum', in the pinned program and in every row, IS THE sha256 OF THE DUMP (.gsa) THAT YtknlnllmoilglaaDoorProg.lean LOADS. Nothing in Lean hashes anything: it is a label: what it is worth is what the hold of that sum in a sandbox is worth. -/
noncomputable def Tryd.pinned : Pinned := { name := "ytknlnllmoilglaadoor", sum := "7efbe76d874ce044df7b9ebf454587957253a182b8d9174fec90812735e45c26", checked := Tryd.checked }
namespace Rows
def none {H : Type} : Left H := { results := [], args := [] }

/- WHAT THE LISTED PACKAGE-LEVEL VARIABLES READ AS WHEN THE CALL BEGINS. Each datum BY PROGRAM (the guide's laid-datum.mjs) off the statement by which the dump's own 'gosem.cut.vars' lays the variable. In a bare row this is a premise. The card (YtknlnllmoilglaaDoorCards.lean) ties it to the program's text. -/
def laid_math_bits_deBruijn32tab {H : Type} : DataW H := .agg [.lit (.int .u8 0), .lit (.int .u8 1), .lit (.int .u8 28), .lit (.int .u8 2), .lit (.int .u8 29), .lit (.int .u8 14), .lit (.int .u8 24), .lit (.int .u8 3), .lit (.int .u8 30), .lit (.int .u8 22), .lit (.int .u8 20), .lit (.int .u8 15), .lit (.int .u8 25), .lit (.int .u8 17), .lit (.int .u8 4), .lit (.int .u8 8), .lit (.int .u8 31), .lit (.int .u8 27), .lit (.int .u8 13), .lit (.int .u8 23), .lit (.int .u8 21), .lit (.int .u8 19), .lit (.int .u8 16), .lit (.int .u8 7), .lit (.int .u8 26), .lit (.int .u8 12), .lit (.int .u8 18), .lit (.int .u8 6), .lit (.int .u8 11), .lit (.int .u8 5), .lit (.int .u8 10), .lit (.int .u8 9)]
def laid_math_bits_deBruijn64tab {H : Type} : DataW H := .agg [.lit (.int .u8 0), .lit (.int .u8 1), .lit (.int .u8 56), .lit (.int .u8 2), .lit (.int .u8 57), .lit (.int .u8 49), .lit (.int .u8 28), .lit (.int .u8 3), .lit (.int .u8 61), .lit (.int .u8 58), .lit (.int .u8 42), .lit (.int .u8 50), .lit (.int .u8 38), .lit (.int .u8 29), .lit (.int .u8 17), .lit (.int .u8 4), .lit (.int .u8 62), .lit (.int .u8 47), .lit (.int .u8 59), .lit (.int .u8 36), .lit (.int .u8 45), .lit (.int .u8 43), .lit (.int .u8 51), .lit (.int .u8 22), .lit (.int .u8 53), .lit (.int .u8 39), .lit (.int .u8 33), .lit (.int .u8 30), .lit (.int .u8 24), .lit (.int .u8 18), .lit (.int .u8 12), .lit (.int .u8 5), .lit (.int .u8 63), .lit (.int .u8 55), .lit (.int .u8 48), .lit (.int .u8 27), .lit (.int .u8 60), .lit (.int .u8 41), .lit (.int .u8 37), .lit (.int .u8 16), .lit (.int .u8 46), .lit (.int .u8 35), .lit (.int .u8 44), .lit (.int .u8 21), .lit (.int .u8 52), .lit (.int .u8 32), .lit (.int .u8 23), .lit (.int .u8 11), .lit (.int .u8 54), .lit (.int .u8 26), .lit (.int .u8 40), .lit (.int .u8 15), .lit (.int .u8 34), .lit (.int .u8 20), .lit (.int .u8 31), .lit (.int .u8 10), .lit (.int .u8 25), .lit (.int .u8 14), .lit (.int .u8 19), .lit (.int .u8 9), .lit (.int .u8 13), .lit (.int .u8 8), .lit (.int .u8 7), .lit (.int .u8 6)]
def laid_internal_strconv_uint64pow10 {H : Type} : DataW H := .agg [.lit (.int .u64 1), .lit (.int .u64 10), .lit (.int .u64 100), .lit (.int .u64 1000), .lit (.int .u64 10000), .lit (.int .u64 100000), .lit (.int .u64 1000000), .lit (.int .u64 10000000), .lit (.int .u64 100000000), .lit (.int .u64 1000000000), .lit (.int .u64 10000000000), .lit (.int .u64 100000000000), .lit (.int .u64 1000000000000), .lit (.int .u64 10000000000000), .lit (.int .u64 100000000000000), .lit (.int .u64 1000000000000000), .lit (.int .u64 10000000000000000), .lit (.int .u64 100000000000000000), .lit (.int .u64 1000000000000000000), .lit (.int .u64 10000000000000000000)]

/-- 'gessolaw05.DecompFulls': WHATEVER THE INPUT: true; the input reads as it did. -/
def decompFullsSpec : ChangeSpec := { name := "decompFulls", fn := fun _ => fun
  | [d] => { results := [.lit (.bool true)], args := [d] }
  | _ => none }
def decompFullsRow : OpenClaim := { program := "ytknlnllmoilglaadoor", sum := "7efbe76d874ce044df7b9ebf454587957253a182b8d9174fec90812735e45c26", func := "gesso/gessolaw05.DecompFulls", spec := "decompFulls", unfollowed := true, recurses := true, named := ["internal/strconv.uint64pow10", "math/bits.deBruijn32tab", "math/bits.deBruijn64tab"], apart := false, laid := [("math/bits.deBruijn32tab", laid_math_bits_deBruijn32tab), ("math/bits.deBruijn64tab", laid_math_bits_deBruijn64tab), ("internal/strconv.uint64pow10", laid_internal_strconv_uint64pow10)] }
def DecompFullsSaid : Prop := decompFullsRow.holds Tryd.pinned (OpenSpec.ofChange decompFullsSpec)

/-- ITS FALSE NEIGHBOUR: 'it returns false'. Refute it at one input. -/
def decompFullsWrong : ChangeSpec := { name := "decompFulls", fn := fun _ => fun
  | [d] => { results := [.lit (.bool false)], args := [d] }
  | _ => none }
def DecompFullsWrongFalsely : Prop := decompFullsRow.holds Tryd.pinned (OpenSpec.ofChange decompFullsWrong)

/-- 'gessolaw03.UcdClasses': WHATEVER THE INPUT: true; the input reads as it did. -/
def ucdClassesSpec : ChangeSpec := { name := "ucdClasses", fn := fun _ => fun
  | [d] => { results := [.lit (.bool true)], args := [d] }
  | _ => none }
def ucdClassesRow : OpenClaim := { program := "ytknlnllmoilglaadoor", sum := "7efbe76d874ce044df7b9ebf454587957253a182b8d9174fec90812735e45c26", func := "gesso/gessolaw03.UcdClasses", spec := "ucdClasses", unfollowed := true, recurses := true, named := ["internal/strconv.uint64pow10", "math/bits.deBruijn32tab", "math/bits.deBruijn64tab"], apart := false, laid := [("math/bits.deBruijn32tab", laid_math_bits_deBruijn32tab), ("math/bits.deBruijn64tab", laid_math_bits_deBruijn64tab), ("internal/strconv.uint64pow10", laid_internal_strconv_uint64pow10)] }
def UcdClassesSaid : Prop := ucdClassesRow.holds Tryd.pinned (OpenSpec.ofChange ucdClassesSpec)

/-- ITS FALSE NEIGHBOUR: 'it returns false'. Refute it at one input. -/
def ucdClassesWrong : ChangeSpec := { name := "ucdClasses", fn := fun _ => fun
  | [d] => { results := [.lit (.bool false)], args := [d] }
  | _ => none }
def UcdClassesWrongFalsely : Prop := ucdClassesRow.holds Tryd.pinned (OpenSpec.ofChange ucdClassesWrong)

/-- 'gessolaw03.UcdPairs': WHATEVER THE INPUT: true; the input reads as it did. -/
def ucdPairsSpec : ChangeSpec := { name := "ucdPairs", fn := fun _ => fun
  | [d1, d2] => { results := [.lit (.bool true)], args := [d1, d2] }
  | _ => none }
def ucdPairsRow : OpenClaim := { program := "ytknlnllmoilglaadoor", sum := "7efbe76d874ce044df7b9ebf454587957253a182b8d9174fec90812735e45c26", func := "gesso/gessolaw03.UcdPairs", spec := "ucdPairs", unfollowed := true, recurses := true, named := ["internal/strconv.uint64pow10", "math/bits.deBruijn32tab", "math/bits.deBruijn64tab"], apart := false, laid := [("math/bits.deBruijn32tab", laid_math_bits_deBruijn32tab), ("math/bits.deBruijn64tab", laid_math_bits_deBruijn64tab), ("internal/strconv.uint64pow10", laid_internal_strconv_uint64pow10)] }
def UcdPairsSaid : Prop := ucdPairsRow.holds Tryd.pinned (OpenSpec.ofChange ucdPairsSpec)

/-- ITS FALSE NEIGHBOUR: 'it returns false'. Refute it at one input. -/
def ucdPairsWrong : ChangeSpec := { name := "ucdPairs", fn := fun _ => fun
  | [d1, d2] => { results := [.lit (.bool false)], args := [d1, d2] }
  | _ => none }
def UcdPairsWrongFalsely : Prop := ucdPairsRow.holds Tryd.pinned (OpenSpec.ofChange ucdPairsWrong)

/-- 'gessolaw03.UcdQuicks': WHATEVER THE INPUT: true; the input reads as it did. -/
def ucdQuicksSpec : ChangeSpec := { name := "ucdQuicks", fn := fun _ => fun
  | [d] => { results := [.lit (.bool true)], args := [d] }
  | _ => none }
def ucdQuicksRow : OpenClaim := { program := "ytknlnllmoilglaadoor", sum := "7efbe76d874ce044df7b9ebf454587957253a182b8d9174fec90812735e45c26", func := "gesso/gessolaw03.UcdQuicks", spec := "ucdQuicks", unfollowed := true, recurses := true, named := ["internal/strconv.uint64pow10", "math/bits.deBruijn32tab", "math/bits.deBruijn64tab"], apart := false, laid := [("math/bits.deBruijn32tab", laid_math_bits_deBruijn32tab), ("math/bits.deBruijn64tab", laid_math_bits_deBruijn64tab), ("internal/strconv.uint64pow10", laid_internal_strconv_uint64pow10)] }
def UcdQuicksSaid : Prop := ucdQuicksRow.holds Tryd.pinned (OpenSpec.ofChange ucdQuicksSpec)

/-- ITS FALSE NEIGHBOUR: 'it returns false'. Refute it at one input. -/
def ucdQuicksWrong : ChangeSpec := { name := "ucdQuicks", fn := fun _ => fun
  | [d] => { results := [.lit (.bool false)], args := [d] }
  | _ => none }
def UcdQuicksWrongFalsely : Prop := ucdQuicksRow.holds Tryd.pinned (OpenSpec.ofChange ucdQuicksWrong)

/-- 'gessolaw03.UcdDeep': WHATEVER THE INPUT: true; the input reads as it did. -/
def ucdDeepSpec : ChangeSpec := { name := "ucdDeep", fn := fun _ => fun
  | [d] => { results := [.lit (.bool true)], args := [d] }
  | _ => none }
def ucdDeepRow : OpenClaim := { program := "ytknlnllmoilglaadoor", sum := "7efbe76d874ce044df7b9ebf454587957253a182b8d9174fec90812735e45c26", func := "gesso/gessolaw03.UcdDeep", spec := "ucdDeep", unfollowed := true, recurses := true, named := ["internal/strconv.uint64pow10", "math/bits.deBruijn32tab", "math/bits.deBruijn64tab"], apart := false, laid := [("math/bits.deBruijn32tab", laid_math_bits_deBruijn32tab), ("math/bits.deBruijn64tab", laid_math_bits_deBruijn64tab), ("internal/strconv.uint64pow10", laid_internal_strconv_uint64pow10)] }
def UcdDeepSaid : Prop := ucdDeepRow.holds Tryd.pinned (OpenSpec.ofChange ucdDeepSpec)

/-- ITS FALSE NEIGHBOUR: 'it returns false'. Refute it at one input. -/
def ucdDeepWrong : ChangeSpec := { name := "ucdDeep", fn := fun _ => fun
  | [d] => { results := [.lit (.bool false)], args := [d] }
  | _ => none }
def UcdDeepWrongFalsely : Prop := ucdDeepRow.holds Tryd.pinned (OpenSpec.ofChange ucdDeepWrong)

/-- 'gessolaw03.UcdDecomps': WHATEVER THE INPUT: true; the input reads as it did. -/
def ucdDecompsSpec : ChangeSpec := { name := "ucdDecomps", fn := fun _ => fun
  | [d] => { results := [.lit (.bool true)], args := [d] }
  | _ => none }
def ucdDecompsRow : OpenClaim := { program := "ytknlnllmoilglaadoor", sum := "7efbe76d874ce044df7b9ebf454587957253a182b8d9174fec90812735e45c26", func := "gesso/gessolaw03.UcdDecomps", spec := "ucdDecomps", unfollowed := true, recurses := true, named := ["internal/strconv.uint64pow10", "math/bits.deBruijn32tab", "math/bits.deBruijn64tab"], apart := false, laid := [("math/bits.deBruijn32tab", laid_math_bits_deBruijn32tab), ("math/bits.deBruijn64tab", laid_math_bits_deBruijn64tab), ("internal/strconv.uint64pow10", laid_internal_strconv_uint64pow10)] }
def UcdDecompsSaid : Prop := ucdDecompsRow.holds Tryd.pinned (OpenSpec.ofChange ucdDecompsSpec)

/-- ITS FALSE NEIGHBOUR: 'it returns false'. Refute it at one input. -/
def ucdDecompsWrong : ChangeSpec := { name := "ucdDecomps", fn := fun _ => fun
  | [d] => { results := [.lit (.bool false)], args := [d] }
  | _ => none }
def UcdDecompsWrongFalsely : Prop := ucdDecompsRow.holds Tryd.pinned (OpenSpec.ofChange ucdDecompsWrong)

/-- 'gessolaw03.UcdBack': WHATEVER THE INPUT: true; the input reads as it did. -/
def ucdBackSpec : ChangeSpec := { name := "ucdBack", fn := fun _ => fun
  | [d1, d2, d3] => { results := [.lit (.bool true)], args := [d1, d2, d3] }
  | _ => none }
def ucdBackRow : OpenClaim := { program := "ytknlnllmoilglaadoor", sum := "7efbe76d874ce044df7b9ebf454587957253a182b8d9174fec90812735e45c26", func := "gesso/gessolaw03.UcdBack", spec := "ucdBack", unfollowed := true, recurses := true, named := ["internal/strconv.uint64pow10", "math/bits.deBruijn32tab", "math/bits.deBruijn64tab"], apart := false, laid := [("math/bits.deBruijn32tab", laid_math_bits_deBruijn32tab), ("math/bits.deBruijn64tab", laid_math_bits_deBruijn64tab), ("internal/strconv.uint64pow10", laid_internal_strconv_uint64pow10)] }
def UcdBackSaid : Prop := ucdBackRow.holds Tryd.pinned (OpenSpec.ofChange ucdBackSpec)

/-- ITS FALSE NEIGHBOUR: 'it returns false'. Refute it at one input. -/
def ucdBackWrong : ChangeSpec := { name := "ucdBack", fn := fun _ => fun
  | [d1, d2, d3] => { results := [.lit (.bool false)], args := [d1, d2, d3] }
  | _ => none }
def UcdBackWrongFalsely : Prop := ucdBackRow.holds Tryd.pinned (OpenSpec.ofChange ucdBackWrong)

/-- 'gessolaw03.UcdFirsts': WHATEVER THE INPUT: true; the input reads as it did. -/
def ucdFirstsSpec : ChangeSpec := { name := "ucdFirsts", fn := fun _ => fun
  | [d1, d2] => { results := [.lit (.bool true)], args := [d1, d2] }
  | _ => none }
def ucdFirstsRow : OpenClaim := { program := "ytknlnllmoilglaadoor", sum := "7efbe76d874ce044df7b9ebf454587957253a182b8d9174fec90812735e45c26", func := "gesso/gessolaw03.UcdFirsts", spec := "ucdFirsts", unfollowed := true, recurses := true, named := ["internal/strconv.uint64pow10", "math/bits.deBruijn32tab", "math/bits.deBruijn64tab"], apart := false, laid := [("math/bits.deBruijn32tab", laid_math_bits_deBruijn32tab), ("math/bits.deBruijn64tab", laid_math_bits_deBruijn64tab), ("internal/strconv.uint64pow10", laid_internal_strconv_uint64pow10)] }
def UcdFirstsSaid : Prop := ucdFirstsRow.holds Tryd.pinned (OpenSpec.ofChange ucdFirstsSpec)

/-- ITS FALSE NEIGHBOUR: 'it returns false'. Refute it at one input. -/
def ucdFirstsWrong : ChangeSpec := { name := "ucdFirsts", fn := fun _ => fun
  | [d1, d2] => { results := [.lit (.bool false)], args := [d1, d2] }
  | _ => none }
def UcdFirstsWrongFalsely : Prop := ucdFirstsRow.holds Tryd.pinned (OpenSpec.ofChange ucdFirstsWrong)

/-- 'gessolaw05.DecompLists': WHATEVER THE INPUT: true; the input reads as it did. -/
def decompListsSpec : ChangeSpec := { name := "decompLists", fn := fun _ => fun
  | [d] => { results := [.lit (.bool true)], args := [d] }
  | _ => none }
def decompListsRow : OpenClaim := { program := "ytknlnllmoilglaadoor", sum := "7efbe76d874ce044df7b9ebf454587957253a182b8d9174fec90812735e45c26", func := "gesso/gessolaw05.DecompLists", spec := "decompLists", unfollowed := true, recurses := true, named := ["internal/strconv.uint64pow10", "math/bits.deBruijn32tab", "math/bits.deBruijn64tab"], apart := false, laid := [("math/bits.deBruijn32tab", laid_math_bits_deBruijn32tab), ("math/bits.deBruijn64tab", laid_math_bits_deBruijn64tab), ("internal/strconv.uint64pow10", laid_internal_strconv_uint64pow10)] }
def DecompListsSaid : Prop := decompListsRow.holds Tryd.pinned (OpenSpec.ofChange decompListsSpec)

/-- ITS FALSE NEIGHBOUR: 'it returns false'. Refute it at one input. -/
def decompListsWrong : ChangeSpec := { name := "decompLists", fn := fun _ => fun
  | [d] => { results := [.lit (.bool false)], args := [d] }
  | _ => none }
def DecompListsWrongFalsely : Prop := decompListsRow.holds Tryd.pinned (OpenSpec.ofChange decompListsWrong)

/-- 'gessolaw05.DecompAgain': WHATEVER THE INPUT: true; the input reads as it did. -/
def decompAgainSpec : ChangeSpec := { name := "decompAgain", fn := fun _ => fun
  | [d] => { results := [.lit (.bool true)], args := [d] }
  | _ => none }
def decompAgainRow : OpenClaim := { program := "ytknlnllmoilglaadoor", sum := "7efbe76d874ce044df7b9ebf454587957253a182b8d9174fec90812735e45c26", func := "gesso/gessolaw05.DecompAgain", spec := "decompAgain", unfollowed := true, recurses := true, named := ["internal/strconv.uint64pow10", "math/bits.deBruijn32tab", "math/bits.deBruijn64tab"], apart := false, laid := [("math/bits.deBruijn32tab", laid_math_bits_deBruijn32tab), ("math/bits.deBruijn64tab", laid_math_bits_deBruijn64tab), ("internal/strconv.uint64pow10", laid_internal_strconv_uint64pow10)] }
def DecompAgainSaid : Prop := decompAgainRow.holds Tryd.pinned (OpenSpec.ofChange decompAgainSpec)

/-- ITS FALSE NEIGHBOUR: 'it returns false'. Refute it at one input. -/
def decompAgainWrong : ChangeSpec := { name := "decompAgain", fn := fun _ => fun
  | [d] => { results := [.lit (.bool false)], args := [d] }
  | _ => none }
def DecompAgainWrongFalsely : Prop := decompAgainRow.holds Tryd.pinned (OpenSpec.ofChange decompAgainWrong)

/-- 'gessolaw05.DecompJoins': WHATEVER THE INPUT: true; the input reads as it did. -/
def decompJoinsSpec : ChangeSpec := { name := "decompJoins", fn := fun _ => fun
  | [d1, d2] => { results := [.lit (.bool true)], args := [d1, d2] }
  | _ => none }
def decompJoinsRow : OpenClaim := { program := "ytknlnllmoilglaadoor", sum := "7efbe76d874ce044df7b9ebf454587957253a182b8d9174fec90812735e45c26", func := "gesso/gessolaw05.DecompJoins", spec := "decompJoins", unfollowed := true, recurses := true, named := ["internal/strconv.uint64pow10", "math/bits.deBruijn32tab", "math/bits.deBruijn64tab"], apart := false, laid := [("math/bits.deBruijn32tab", laid_math_bits_deBruijn32tab), ("math/bits.deBruijn64tab", laid_math_bits_deBruijn64tab), ("internal/strconv.uint64pow10", laid_internal_strconv_uint64pow10)] }
def DecompJoinsSaid : Prop := decompJoinsRow.holds Tryd.pinned (OpenSpec.ofChange decompJoinsSpec)

/-- ITS FALSE NEIGHBOUR: 'it returns false'. Refute it at one input. -/
def decompJoinsWrong : ChangeSpec := { name := "decompJoins", fn := fun _ => fun
  | [d1, d2] => { results := [.lit (.bool false)], args := [d1, d2] }
  | _ => none }
def DecompJoinsWrongFalsely : Prop := decompJoinsRow.holds Tryd.pinned (OpenSpec.ofChange decompJoinsWrong)

/-- 'gessolaw05.DecompHangul': WHATEVER THE INPUT: true; the input reads as it did. -/
def decompHangulSpec : ChangeSpec := { name := "decompHangul", fn := fun _ => fun
  | [d] => { results := [.lit (.bool true)], args := [d] }
  | _ => none }
def decompHangulRow : OpenClaim := { program := "ytknlnllmoilglaadoor", sum := "7efbe76d874ce044df7b9ebf454587957253a182b8d9174fec90812735e45c26", func := "gesso/gessolaw05.DecompHangul", spec := "decompHangul", unfollowed := true, recurses := true, named := ["internal/strconv.uint64pow10", "math/bits.deBruijn32tab", "math/bits.deBruijn64tab"], apart := false, laid := [("math/bits.deBruijn32tab", laid_math_bits_deBruijn32tab), ("math/bits.deBruijn64tab", laid_math_bits_deBruijn64tab), ("internal/strconv.uint64pow10", laid_internal_strconv_uint64pow10)] }
def DecompHangulSaid : Prop := decompHangulRow.holds Tryd.pinned (OpenSpec.ofChange decompHangulSpec)

/-- ITS FALSE NEIGHBOUR: 'it returns false'. Refute it at one input. -/
def decompHangulWrong : ChangeSpec := { name := "decompHangul", fn := fun _ => fun
  | [d] => { results := [.lit (.bool false)], args := [d] }
  | _ => none }
def DecompHangulWrongFalsely : Prop := decompHangulRow.holds Tryd.pinned (OpenSpec.ofChange decompHangulWrong)

/- THE SECOND FORM. 'bulk': how many values and letters a reading holds, each counted each time it is reached (what is shared counts as often as it is met; a slice's spare places count too). A statement '..UptoSaid' is the law's where the arguments, and the package variables that the reading takes, are together of bulk at most 1048576: NARROWER than '..Said'. Prove '..Said' where nothing that the law and all that it calls make is longer than what came in: it says more and counts as full. Else prove '..UptoSaid'. A law counts once. -/
mutual
def uptoBulk {H : Type} : DataW H → Nat
  | .lit (.string bytes) => bytes.length + 1
  | .lit _ => 1
  | .nil => 1
  | .ptr d => uptoBulk d + 1
  | .slice elems spare => uptoBulkAll elems + uptoBulkAll spare + 1
  | .agg parts => uptoBulkAll parts + 1
  | .iface _ d => uptoBulk d + 1
  | .map entries => uptoBulkEntries entries + 1
  | .held _ => 1
def uptoBulkAll {H : Type} : List (DataW H) → Nat
  | [] => 0
  | d :: r => uptoBulk d + uptoBulkAll r
def uptoBulkEntries {H : Type} : List (Lit × DataW H) → Nat
  | [] => 0
  | x :: r => uptoBulkEntry x + uptoBulkEntries r
def uptoBulkEntry {H : Type} : Lit × DataW H → Nat
  | (.string bytes, d) => bytes.length + uptoBulk d + 1
  | (_, d) => uptoBulk d + 1
 end
def uptoSmall : (H : Type) → List (DataW H) → Bool := fun _ ds => decide (uptoBulkAll ds ≤ 1048576)
def OpenSpec.upto (s : _root_.Go.ChangeSpec) : _root_.Go.OpenSpec := { _root_.Go.OpenSpec.ofChange s with cond := some uptoSmall }

/-- 'gessolaw05.DecompFulls', WHERE WHAT IT READS IS OF BULK AT MOST 1048576: true; the input reads as it did. -/
def decompFullsUptoRow : OpenClaim := { program := "ytknlnllmoilglaadoor", sum := "7efbe76d874ce044df7b9ebf454587957253a182b8d9174fec90812735e45c26", func := "gesso/gessolaw05.DecompFulls", spec := "decompFulls", unfollowed := true, recurses := true, named := ["internal/strconv.uint64pow10", "math/bits.deBruijn32tab", "math/bits.deBruijn64tab"], apart := false, laid := [("math/bits.deBruijn32tab", laid_math_bits_deBruijn32tab), ("math/bits.deBruijn64tab", laid_math_bits_deBruijn64tab), ("internal/strconv.uint64pow10", laid_internal_strconv_uint64pow10)], narrowed := true }
def DecompFullsUptoSaid : Prop := decompFullsUptoRow.holds Tryd.pinned (OpenSpec.upto decompFullsSpec)

/-- 'gessolaw03.UcdClasses', WHERE WHAT IT READS IS OF BULK AT MOST 1048576: true; the input reads as it did. -/
def ucdClassesUptoRow : OpenClaim := { program := "ytknlnllmoilglaadoor", sum := "7efbe76d874ce044df7b9ebf454587957253a182b8d9174fec90812735e45c26", func := "gesso/gessolaw03.UcdClasses", spec := "ucdClasses", unfollowed := true, recurses := true, named := ["internal/strconv.uint64pow10", "math/bits.deBruijn32tab", "math/bits.deBruijn64tab"], apart := false, laid := [("math/bits.deBruijn32tab", laid_math_bits_deBruijn32tab), ("math/bits.deBruijn64tab", laid_math_bits_deBruijn64tab), ("internal/strconv.uint64pow10", laid_internal_strconv_uint64pow10)], narrowed := true }
def UcdClassesUptoSaid : Prop := ucdClassesUptoRow.holds Tryd.pinned (OpenSpec.upto ucdClassesSpec)

/-- 'gessolaw03.UcdPairs', WHERE WHAT IT READS IS OF BULK AT MOST 1048576: true; the input reads as it did. -/
def ucdPairsUptoRow : OpenClaim := { program := "ytknlnllmoilglaadoor", sum := "7efbe76d874ce044df7b9ebf454587957253a182b8d9174fec90812735e45c26", func := "gesso/gessolaw03.UcdPairs", spec := "ucdPairs", unfollowed := true, recurses := true, named := ["internal/strconv.uint64pow10", "math/bits.deBruijn32tab", "math/bits.deBruijn64tab"], apart := false, laid := [("math/bits.deBruijn32tab", laid_math_bits_deBruijn32tab), ("math/bits.deBruijn64tab", laid_math_bits_deBruijn64tab), ("internal/strconv.uint64pow10", laid_internal_strconv_uint64pow10)], narrowed := true }
def UcdPairsUptoSaid : Prop := ucdPairsUptoRow.holds Tryd.pinned (OpenSpec.upto ucdPairsSpec)

/-- 'gessolaw03.UcdQuicks', WHERE WHAT IT READS IS OF BULK AT MOST 1048576: true; the input reads as it did. -/
def ucdQuicksUptoRow : OpenClaim := { program := "ytknlnllmoilglaadoor", sum := "7efbe76d874ce044df7b9ebf454587957253a182b8d9174fec90812735e45c26", func := "gesso/gessolaw03.UcdQuicks", spec := "ucdQuicks", unfollowed := true, recurses := true, named := ["internal/strconv.uint64pow10", "math/bits.deBruijn32tab", "math/bits.deBruijn64tab"], apart := false, laid := [("math/bits.deBruijn32tab", laid_math_bits_deBruijn32tab), ("math/bits.deBruijn64tab", laid_math_bits_deBruijn64tab), ("internal/strconv.uint64pow10", laid_internal_strconv_uint64pow10)], narrowed := true }
def UcdQuicksUptoSaid : Prop := ucdQuicksUptoRow.holds Tryd.pinned (OpenSpec.upto ucdQuicksSpec)

/-- 'gessolaw03.UcdDeep', WHERE WHAT IT READS IS OF BULK AT MOST 1048576: true; the input reads as it did. -/
def ucdDeepUptoRow : OpenClaim := { program := "ytknlnllmoilglaadoor", sum := "7efbe76d874ce044df7b9ebf454587957253a182b8d9174fec90812735e45c26", func := "gesso/gessolaw03.UcdDeep", spec := "ucdDeep", unfollowed := true, recurses := true, named := ["internal/strconv.uint64pow10", "math/bits.deBruijn32tab", "math/bits.deBruijn64tab"], apart := false, laid := [("math/bits.deBruijn32tab", laid_math_bits_deBruijn32tab), ("math/bits.deBruijn64tab", laid_math_bits_deBruijn64tab), ("internal/strconv.uint64pow10", laid_internal_strconv_uint64pow10)], narrowed := true }
def UcdDeepUptoSaid : Prop := ucdDeepUptoRow.holds Tryd.pinned (OpenSpec.upto ucdDeepSpec)

/-- 'gessolaw03.UcdDecomps', WHERE WHAT IT READS IS OF BULK AT MOST 1048576: true; the input reads as it did. -/
def ucdDecompsUptoRow : OpenClaim := { program := "ytknlnllmoilglaadoor", sum := "7efbe76d874ce044df7b9ebf454587957253a182b8d9174fec90812735e45c26", func := "gesso/gessolaw03.UcdDecomps", spec := "ucdDecomps", unfollowed := true, recurses := true, named := ["internal/strconv.uint64pow10", "math/bits.deBruijn32tab", "math/bits.deBruijn64tab"], apart := false, laid := [("math/bits.deBruijn32tab", laid_math_bits_deBruijn32tab), ("math/bits.deBruijn64tab", laid_math_bits_deBruijn64tab), ("internal/strconv.uint64pow10", laid_internal_strconv_uint64pow10)], narrowed := true }
def UcdDecompsUptoSaid : Prop := ucdDecompsUptoRow.holds Tryd.pinned (OpenSpec.upto ucdDecompsSpec)

/-- 'gessolaw03.UcdBack', WHERE WHAT IT READS IS OF BULK AT MOST 1048576: true; the input reads as it did. -/
def ucdBackUptoRow : OpenClaim := { program := "ytknlnllmoilglaadoor", sum := "7efbe76d874ce044df7b9ebf454587957253a182b8d9174fec90812735e45c26", func := "gesso/gessolaw03.UcdBack", spec := "ucdBack", unfollowed := true, recurses := true, named := ["internal/strconv.uint64pow10", "math/bits.deBruijn32tab", "math/bits.deBruijn64tab"], apart := false, laid := [("math/bits.deBruijn32tab", laid_math_bits_deBruijn32tab), ("math/bits.deBruijn64tab", laid_math_bits_deBruijn64tab), ("internal/strconv.uint64pow10", laid_internal_strconv_uint64pow10)], narrowed := true }
def UcdBackUptoSaid : Prop := ucdBackUptoRow.holds Tryd.pinned (OpenSpec.upto ucdBackSpec)

/-- 'gessolaw03.UcdFirsts', WHERE WHAT IT READS IS OF BULK AT MOST 1048576: true; the input reads as it did. -/
def ucdFirstsUptoRow : OpenClaim := { program := "ytknlnllmoilglaadoor", sum := "7efbe76d874ce044df7b9ebf454587957253a182b8d9174fec90812735e45c26", func := "gesso/gessolaw03.UcdFirsts", spec := "ucdFirsts", unfollowed := true, recurses := true, named := ["internal/strconv.uint64pow10", "math/bits.deBruijn32tab", "math/bits.deBruijn64tab"], apart := false, laid := [("math/bits.deBruijn32tab", laid_math_bits_deBruijn32tab), ("math/bits.deBruijn64tab", laid_math_bits_deBruijn64tab), ("internal/strconv.uint64pow10", laid_internal_strconv_uint64pow10)], narrowed := true }
def UcdFirstsUptoSaid : Prop := ucdFirstsUptoRow.holds Tryd.pinned (OpenSpec.upto ucdFirstsSpec)

/-- 'gessolaw05.DecompLists', WHERE WHAT IT READS IS OF BULK AT MOST 1048576: true; the input reads as it did. -/
def decompListsUptoRow : OpenClaim := { program := "ytknlnllmoilglaadoor", sum := "7efbe76d874ce044df7b9ebf454587957253a182b8d9174fec90812735e45c26", func := "gesso/gessolaw05.DecompLists", spec := "decompLists", unfollowed := true, recurses := true, named := ["internal/strconv.uint64pow10", "math/bits.deBruijn32tab", "math/bits.deBruijn64tab"], apart := false, laid := [("math/bits.deBruijn32tab", laid_math_bits_deBruijn32tab), ("math/bits.deBruijn64tab", laid_math_bits_deBruijn64tab), ("internal/strconv.uint64pow10", laid_internal_strconv_uint64pow10)], narrowed := true }
def DecompListsUptoSaid : Prop := decompListsUptoRow.holds Tryd.pinned (OpenSpec.upto decompListsSpec)

/-- 'gessolaw05.DecompAgain', WHERE WHAT IT READS IS OF BULK AT MOST 1048576: true; the input reads as it did. -/
def decompAgainUptoRow : OpenClaim := { program := "ytknlnllmoilglaadoor", sum := "7efbe76d874ce044df7b9ebf454587957253a182b8d9174fec90812735e45c26", func := "gesso/gessolaw05.DecompAgain", spec := "decompAgain", unfollowed := true, recurses := true, named := ["internal/strconv.uint64pow10", "math/bits.deBruijn32tab", "math/bits.deBruijn64tab"], apart := false, laid := [("math/bits.deBruijn32tab", laid_math_bits_deBruijn32tab), ("math/bits.deBruijn64tab", laid_math_bits_deBruijn64tab), ("internal/strconv.uint64pow10", laid_internal_strconv_uint64pow10)], narrowed := true }
def DecompAgainUptoSaid : Prop := decompAgainUptoRow.holds Tryd.pinned (OpenSpec.upto decompAgainSpec)

/-- 'gessolaw05.DecompJoins', WHERE WHAT IT READS IS OF BULK AT MOST 1048576: true; the input reads as it did. -/
def decompJoinsUptoRow : OpenClaim := { program := "ytknlnllmoilglaadoor", sum := "7efbe76d874ce044df7b9ebf454587957253a182b8d9174fec90812735e45c26", func := "gesso/gessolaw05.DecompJoins", spec := "decompJoins", unfollowed := true, recurses := true, named := ["internal/strconv.uint64pow10", "math/bits.deBruijn32tab", "math/bits.deBruijn64tab"], apart := false, laid := [("math/bits.deBruijn32tab", laid_math_bits_deBruijn32tab), ("math/bits.deBruijn64tab", laid_math_bits_deBruijn64tab), ("internal/strconv.uint64pow10", laid_internal_strconv_uint64pow10)], narrowed := true }
def DecompJoinsUptoSaid : Prop := decompJoinsUptoRow.holds Tryd.pinned (OpenSpec.upto decompJoinsSpec)

/-- 'gessolaw05.DecompHangul', WHERE WHAT IT READS IS OF BULK AT MOST 1048576: true; the input reads as it did. -/
def decompHangulUptoRow : OpenClaim := { program := "ytknlnllmoilglaadoor", sum := "7efbe76d874ce044df7b9ebf454587957253a182b8d9174fec90812735e45c26", func := "gesso/gessolaw05.DecompHangul", spec := "decompHangul", unfollowed := true, recurses := true, named := ["internal/strconv.uint64pow10", "math/bits.deBruijn32tab", "math/bits.deBruijn64tab"], apart := false, laid := [("math/bits.deBruijn32tab", laid_math_bits_deBruijn32tab), ("math/bits.deBruijn64tab", laid_math_bits_deBruijn64tab), ("internal/strconv.uint64pow10", laid_internal_strconv_uint64pow10)], narrowed := true }
def DecompHangulUptoSaid : Prop := decompHangulUptoRow.holds Tryd.pinned (OpenSpec.upto decompHangulSpec)

end Rows
end Go.Proofs.YtknlnllmoilglaaDoor
