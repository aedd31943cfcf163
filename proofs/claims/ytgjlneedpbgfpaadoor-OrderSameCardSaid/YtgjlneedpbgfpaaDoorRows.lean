/-
  NARROWER THAN 'FOR EVERY INPUT', by the rows' own cells (each row's printed sentence says how): ComposeTwos: laid · ComposeLists: laid · ComposeParts: laid · ComposeFull: laid · OrderOrders: laid · OrderIs: laid · OrderAgain: laid · OrderSame: laid · OrderParts: laid · OrderFull: laid · ComposeBack: laid · ComposeAgain: laid · NormSafes: laid · NormParts: laid · NormBytes: laid · NormMarks: laid · NormForms: laid · NormSames: laid · NormEqual: laid · NormAgain: laid.
  DERIVED. THE GIVEN ROWS OF THIS SEAT. 20 by the template 'for every input the law returns true; each argument reads behind the call as it read before'; 0 by the template 'total and deterministic' (their statements: YtgjlneedpbgfpaaDoorTotals.lean).
  GIVEN WITH THE SEED: the statements are not yours to turn. If you find one false, say at which input.
  Laid BY PROGRAM, IN A SANDBOX (cutbox-rows.mjs): the forced cells as the released guide's own fill.sh prints them over the translation d64948444c82941c… (all of the seat's roots in one cut). By AI agents, Wed Nov 11 2026. No macro, syntax, notation, axiom, sorry.
-/
import Derived.Test.YtgjlneedpbgfpaaDoorChecked
import GoSem.PinnedTables
import GoSem.Claim
import GoSem.ClaimJoined
import GoSem.ClaimMapViews
import Derived.JoinedTies
import Derived.KernelRfl
namespace Go.Proofs.YtgjlneedpbgfpaaDoor
/- THE CELL 'sum', in the pinned program and in every row, IS THE sha256 OF THE DUMP (.gsa) THAT YtgjlneedpbgfpaaDoorProg.lean LOADS. Nothing in Lean hashes anything: it is a label: what it is worth is what the hold of that sum in a sandbox is worth. -/
noncomputable def Tryd.pinned : Pinned := { name := "ytgjlneedpbgfpaadoor", sum := "d64948444c82941c3461239aa62e693ed83e02337a79084955138b867627a637", checked := Tryd.checked }
namespace Rows
def none {H : Type} : Left H := { results := [], args := [] }

/- WHAT THE LISTED PACKAGE-LEVEL VARIABLES READ AS WHEN THE CALL BEGINS. Each datum BY PROGRAM (the guide's laid-datum.mjs) off the statement by which the dump's own 'gosem.cut.vars' lays the variable. In a bare row this is a premise. The card (YtgjlneedpbgfpaaDoorCards.lean) ties it to the program's text. -/
def laid_math_bits_deBruijn32tab {H : Type} : DataW H := .agg [.lit (.int .u8 0), .lit (.int .u8 1), .lit (.int .u8 28), .lit (.int .u8 2), .lit (.int .u8 29), .lit (.int .u8 14), .lit (.int .u8 24), .lit (.int .u8 3), .lit (.int .u8 30), .lit (.int .u8 22), .lit (.int .u8 20), .lit (.int .u8 15), .lit (.int .u8 25), .lit (.int .u8 17), .lit (.int .u8 4), .lit (.int .u8 8), .lit (.int .u8 31), .lit (.int .u8 27), .lit (.int .u8 13), .lit (.int .u8 23), .lit (.int .u8 21), .lit (.int .u8 19), .lit (.int .u8 16), .lit (.int .u8 7), .lit (.int .u8 26), .lit (.int .u8 12), .lit (.int .u8 18), .lit (.int .u8 6), .lit (.int .u8 11), .lit (.int .u8 5), .lit (.int .u8 10), .lit (.int .u8 9)]
def laid_math_bits_deBruijn64tab {H : Type} : DataW H := .agg [.lit (.int .u8 0), .lit (.int .u8 1), .lit (.int .u8 56), .lit (.int .u8 2), .lit (.int .u8 57), .lit (.int .u8 49), .lit (.int .u8 28), .lit (.int .u8 3), .lit (.int .u8 61), .lit (.int .u8 58), .lit (.int .u8 42), .lit (.int .u8 50), .lit (.int .u8 38), .lit (.int .u8 29), .lit (.int .u8 17), .lit (.int .u8 4), .lit (.int .u8 62), .lit (.int .u8 47), .lit (.int .u8 59), .lit (.int .u8 36), .lit (.int .u8 45), .lit (.int .u8 43), .lit (.int .u8 51), .lit (.int .u8 22), .lit (.int .u8 53), .lit (.int .u8 39), .lit (.int .u8 33), .lit (.int .u8 30), .lit (.int .u8 24), .lit (.int .u8 18), .lit (.int .u8 12), .lit (.int .u8 5), .lit (.int .u8 63), .lit (.int .u8 55), .lit (.int .u8 48), .lit (.int .u8 27), .lit (.int .u8 60), .lit (.int .u8 41), .lit (.int .u8 37), .lit (.int .u8 16), .lit (.int .u8 46), .lit (.int .u8 35), .lit (.int .u8 44), .lit (.int .u8 21), .lit (.int .u8 52), .lit (.int .u8 32), .lit (.int .u8 23), .lit (.int .u8 11), .lit (.int .u8 54), .lit (.int .u8 26), .lit (.int .u8 40), .lit (.int .u8 15), .lit (.int .u8 34), .lit (.int .u8 20), .lit (.int .u8 31), .lit (.int .u8 10), .lit (.int .u8 25), .lit (.int .u8 14), .lit (.int .u8 19), .lit (.int .u8 9), .lit (.int .u8 13), .lit (.int .u8 8), .lit (.int .u8 7), .lit (.int .u8 6)]
def laid_internal_strconv_uint64pow10 {H : Type} : DataW H := .agg [.lit (.int .u64 1), .lit (.int .u64 10), .lit (.int .u64 100), .lit (.int .u64 1000), .lit (.int .u64 10000), .lit (.int .u64 100000), .lit (.int .u64 1000000), .lit (.int .u64 10000000), .lit (.int .u64 100000000), .lit (.int .u64 1000000000), .lit (.int .u64 10000000000), .lit (.int .u64 100000000000), .lit (.int .u64 1000000000000), .lit (.int .u64 10000000000000), .lit (.int .u64 100000000000000), .lit (.int .u64 1000000000000000), .lit (.int .u64 10000000000000000), .lit (.int .u64 100000000000000000), .lit (.int .u64 1000000000000000000), .lit (.int .u64 10000000000000000000)]
def laid_unicode_utf8_acceptRanges {H : Type} : DataW H := .agg [.agg [.lit (.int .u8 128), .lit (.int .u8 191)], .agg [.lit (.int .u8 160), .lit (.int .u8 191)], .agg [.lit (.int .u8 128), .lit (.int .u8 159)], .agg [.lit (.int .u8 144), .lit (.int .u8 191)], .agg [.lit (.int .u8 128), .lit (.int .u8 143)], .agg [.lit (.int .u8 0), .lit (.int .u8 0)], .agg [.lit (.int .u8 0), .lit (.int .u8 0)], .agg [.lit (.int .u8 0), .lit (.int .u8 0)], .agg [.lit (.int .u8 0), .lit (.int .u8 0)], .agg [.lit (.int .u8 0), .lit (.int .u8 0)], .agg [.lit (.int .u8 0), .lit (.int .u8 0)], .agg [.lit (.int .u8 0), .lit (.int .u8 0)], .agg [.lit (.int .u8 0), .lit (.int .u8 0)], .agg [.lit (.int .u8 0), .lit (.int .u8 0)], .agg [.lit (.int .u8 0), .lit (.int .u8 0)], .agg [.lit (.int .u8 0), .lit (.int .u8 0)]]
/-- One of Go's own tables, pinned by name: the form's constant. -/
def laid_unicode_utf8_first : DataW Unit := Go.Pinned.utf8First

/-- 'gessolaw07.ComposeTwos': WHATEVER THE INPUT: true; the input reads as it did. -/
def composeTwosSpec : ChangeSpec := { name := "composeTwos", fn := fun _ => fun
  | [d1, d2] => { results := [.lit (.bool true)], args := [d1, d2] }
  | _ => none }
def composeTwosRow : OpenClaim := { program := "ytgjlneedpbgfpaadoor", sum := "d64948444c82941c3461239aa62e693ed83e02337a79084955138b867627a637", func := "gesso/gessolaw07.ComposeTwos", spec := "composeTwos", unfollowed := true, recurses := true, named := ["internal/strconv.uint64pow10", "math/bits.deBruijn32tab", "math/bits.deBruijn64tab"], apart := false, laid := [("math/bits.deBruijn32tab", laid_math_bits_deBruijn32tab), ("math/bits.deBruijn64tab", laid_math_bits_deBruijn64tab), ("internal/strconv.uint64pow10", laid_internal_strconv_uint64pow10)] }
def ComposeTwosSaid : Prop := composeTwosRow.holds Tryd.pinned (OpenSpec.ofChange composeTwosSpec)

/-- ITS FALSE NEIGHBOUR: 'it returns false'. Refute it at one input. -/
def composeTwosWrong : ChangeSpec := { name := "composeTwos", fn := fun _ => fun
  | [d1, d2] => { results := [.lit (.bool false)], args := [d1, d2] }
  | _ => none }
def ComposeTwosWrongFalsely : Prop := composeTwosRow.holds Tryd.pinned (OpenSpec.ofChange composeTwosWrong)

/-- 'gessolaw07.ComposeLists': WHATEVER THE INPUT: true; the input reads as it did. -/
def composeListsSpec : ChangeSpec := { name := "composeLists", fn := fun _ => fun
  | [d] => { results := [.lit (.bool true)], args := [d] }
  | _ => none }
def composeListsRow : OpenClaim := { program := "ytgjlneedpbgfpaadoor", sum := "d64948444c82941c3461239aa62e693ed83e02337a79084955138b867627a637", func := "gesso/gessolaw07.ComposeLists", spec := "composeLists", unfollowed := true, recurses := true, named := ["internal/strconv.uint64pow10", "math/bits.deBruijn32tab", "math/bits.deBruijn64tab"], apart := false, laid := [("math/bits.deBruijn32tab", laid_math_bits_deBruijn32tab), ("math/bits.deBruijn64tab", laid_math_bits_deBruijn64tab), ("internal/strconv.uint64pow10", laid_internal_strconv_uint64pow10)] }
def ComposeListsSaid : Prop := composeListsRow.holds Tryd.pinned (OpenSpec.ofChange composeListsSpec)

/-- ITS FALSE NEIGHBOUR: 'it returns false'. Refute it at one input. -/
def composeListsWrong : ChangeSpec := { name := "composeLists", fn := fun _ => fun
  | [d] => { results := [.lit (.bool false)], args := [d] }
  | _ => none }
def ComposeListsWrongFalsely : Prop := composeListsRow.holds Tryd.pinned (OpenSpec.ofChange composeListsWrong)

/-- 'gessolaw07.ComposeParts': WHATEVER THE INPUT: true; the input reads as it did. -/
def composePartsSpec : ChangeSpec := { name := "composeParts", fn := fun _ => fun
  | [d1, d2] => { results := [.lit (.bool true)], args := [d1, d2] }
  | _ => none }
def composePartsRow : OpenClaim := { program := "ytgjlneedpbgfpaadoor", sum := "d64948444c82941c3461239aa62e693ed83e02337a79084955138b867627a637", func := "gesso/gessolaw07.ComposeParts", spec := "composeParts", unfollowed := true, recurses := true, named := ["internal/strconv.uint64pow10", "math/bits.deBruijn32tab", "math/bits.deBruijn64tab"], apart := false, laid := [("math/bits.deBruijn32tab", laid_math_bits_deBruijn32tab), ("math/bits.deBruijn64tab", laid_math_bits_deBruijn64tab), ("internal/strconv.uint64pow10", laid_internal_strconv_uint64pow10)] }
def ComposePartsSaid : Prop := composePartsRow.holds Tryd.pinned (OpenSpec.ofChange composePartsSpec)

/-- ITS FALSE NEIGHBOUR: 'it returns false'. Refute it at one input. -/
def composePartsWrong : ChangeSpec := { name := "composeParts", fn := fun _ => fun
  | [d1, d2] => { results := [.lit (.bool false)], args := [d1, d2] }
  | _ => none }
def ComposePartsWrongFalsely : Prop := composePartsRow.holds Tryd.pinned (OpenSpec.ofChange composePartsWrong)

/-- 'gessolaw07.ComposeFull': WHATEVER THE INPUT: true; the input reads as it did. -/
def composeFullSpec : ChangeSpec := { name := "composeFull", fn := fun _ => fun
  | [d] => { results := [.lit (.bool true)], args := [d] }
  | _ => none }
def composeFullRow : OpenClaim := { program := "ytgjlneedpbgfpaadoor", sum := "d64948444c82941c3461239aa62e693ed83e02337a79084955138b867627a637", func := "gesso/gessolaw07.ComposeFull", spec := "composeFull", unfollowed := true, recurses := true, named := ["internal/strconv.uint64pow10", "math/bits.deBruijn32tab", "math/bits.deBruijn64tab"], apart := false, laid := [("math/bits.deBruijn32tab", laid_math_bits_deBruijn32tab), ("math/bits.deBruijn64tab", laid_math_bits_deBruijn64tab), ("internal/strconv.uint64pow10", laid_internal_strconv_uint64pow10)] }
def ComposeFullSaid : Prop := composeFullRow.holds Tryd.pinned (OpenSpec.ofChange composeFullSpec)

/-- ITS FALSE NEIGHBOUR: 'it returns false'. Refute it at one input. -/
def composeFullWrong : ChangeSpec := { name := "composeFull", fn := fun _ => fun
  | [d] => { results := [.lit (.bool false)], args := [d] }
  | _ => none }
def ComposeFullWrongFalsely : Prop := composeFullRow.holds Tryd.pinned (OpenSpec.ofChange composeFullWrong)

/-- 'gessolaw06.OrderOrders': WHATEVER THE INPUT: true; the input reads as it did. -/
def orderOrdersSpec : ChangeSpec := { name := "orderOrders", fn := fun _ => fun
  | [d] => { results := [.lit (.bool true)], args := [d] }
  | _ => none }
def orderOrdersRow : OpenClaim := { program := "ytgjlneedpbgfpaadoor", sum := "d64948444c82941c3461239aa62e693ed83e02337a79084955138b867627a637", func := "gesso/gessolaw06.OrderOrders", spec := "orderOrders", unfollowed := true, recurses := true, named := ["internal/strconv.uint64pow10", "math/bits.deBruijn32tab", "math/bits.deBruijn64tab"], apart := false, laid := [("math/bits.deBruijn32tab", laid_math_bits_deBruijn32tab), ("math/bits.deBruijn64tab", laid_math_bits_deBruijn64tab), ("internal/strconv.uint64pow10", laid_internal_strconv_uint64pow10)] }
def OrderOrdersSaid : Prop := orderOrdersRow.holds Tryd.pinned (OpenSpec.ofChange orderOrdersSpec)

/-- ITS FALSE NEIGHBOUR: 'it returns false'. Refute it at one input. -/
def orderOrdersWrong : ChangeSpec := { name := "orderOrders", fn := fun _ => fun
  | [d] => { results := [.lit (.bool false)], args := [d] }
  | _ => none }
def OrderOrdersWrongFalsely : Prop := orderOrdersRow.holds Tryd.pinned (OpenSpec.ofChange orderOrdersWrong)

/-- 'gessolaw06.OrderIs': WHATEVER THE INPUT: true; the input reads as it did. -/
def orderIsSpec : ChangeSpec := { name := "orderIs", fn := fun _ => fun
  | [d] => { results := [.lit (.bool true)], args := [d] }
  | _ => none }
def orderIsRow : OpenClaim := { program := "ytgjlneedpbgfpaadoor", sum := "d64948444c82941c3461239aa62e693ed83e02337a79084955138b867627a637", func := "gesso/gessolaw06.OrderIs", spec := "orderIs", unfollowed := true, recurses := true, named := ["internal/strconv.uint64pow10", "math/bits.deBruijn32tab", "math/bits.deBruijn64tab"], apart := false, laid := [("math/bits.deBruijn32tab", laid_math_bits_deBruijn32tab), ("math/bits.deBruijn64tab", laid_math_bits_deBruijn64tab), ("internal/strconv.uint64pow10", laid_internal_strconv_uint64pow10)] }
def OrderIsSaid : Prop := orderIsRow.holds Tryd.pinned (OpenSpec.ofChange orderIsSpec)

/-- ITS FALSE NEIGHBOUR: 'it returns false'. Refute it at one input. -/
def orderIsWrong : ChangeSpec := { name := "orderIs", fn := fun _ => fun
  | [d] => { results := [.lit (.bool false)], args := [d] }
  | _ => none }
def OrderIsWrongFalsely : Prop := orderIsRow.holds Tryd.pinned (OpenSpec.ofChange orderIsWrong)

/-- 'gessolaw06.OrderAgain': WHATEVER THE INPUT: true; the input reads as it did. -/
def orderAgainSpec : ChangeSpec := { name := "orderAgain", fn := fun _ => fun
  | [d] => { results := [.lit (.bool true)], args := [d] }
  | _ => none }
def orderAgainRow : OpenClaim := { program := "ytgjlneedpbgfpaadoor", sum := "d64948444c82941c3461239aa62e693ed83e02337a79084955138b867627a637", func := "gesso/gessolaw06.OrderAgain", spec := "orderAgain", unfollowed := true, recurses := true, named := ["internal/strconv.uint64pow10", "math/bits.deBruijn32tab", "math/bits.deBruijn64tab"], apart := false, laid := [("math/bits.deBruijn32tab", laid_math_bits_deBruijn32tab), ("math/bits.deBruijn64tab", laid_math_bits_deBruijn64tab), ("internal/strconv.uint64pow10", laid_internal_strconv_uint64pow10)] }
def OrderAgainSaid : Prop := orderAgainRow.holds Tryd.pinned (OpenSpec.ofChange orderAgainSpec)

/-- ITS FALSE NEIGHBOUR: 'it returns false'. Refute it at one input. -/
def orderAgainWrong : ChangeSpec := { name := "orderAgain", fn := fun _ => fun
  | [d] => { results := [.lit (.bool false)], args := [d] }
  | _ => none }
def OrderAgainWrongFalsely : Prop := orderAgainRow.holds Tryd.pinned (OpenSpec.ofChange orderAgainWrong)

/-- 'gessolaw06.OrderSame': WHATEVER THE INPUT: true; the input reads as it did. -/
def orderSameSpec : ChangeSpec := { name := "orderSame", fn := fun _ => fun
  | [d] => { results := [.lit (.bool true)], args := [d] }
  | _ => none }
def orderSameRow : OpenClaim := { program := "ytgjlneedpbgfpaadoor", sum := "d64948444c82941c3461239aa62e693ed83e02337a79084955138b867627a637", func := "gesso/gessolaw06.OrderSame", spec := "orderSame", unfollowed := true, recurses := true, named := ["internal/strconv.uint64pow10", "math/bits.deBruijn32tab", "math/bits.deBruijn64tab"], apart := false, laid := [("math/bits.deBruijn32tab", laid_math_bits_deBruijn32tab), ("math/bits.deBruijn64tab", laid_math_bits_deBruijn64tab), ("internal/strconv.uint64pow10", laid_internal_strconv_uint64pow10)] }
def OrderSameSaid : Prop := orderSameRow.holds Tryd.pinned (OpenSpec.ofChange orderSameSpec)

/-- ITS FALSE NEIGHBOUR: 'it returns false'. Refute it at one input. -/
def orderSameWrong : ChangeSpec := { name := "orderSame", fn := fun _ => fun
  | [d] => { results := [.lit (.bool false)], args := [d] }
  | _ => none }
def OrderSameWrongFalsely : Prop := orderSameRow.holds Tryd.pinned (OpenSpec.ofChange orderSameWrong)

/-- 'gessolaw06.OrderParts': WHATEVER THE INPUT: true; the input reads as it did. -/
def orderPartsSpec : ChangeSpec := { name := "orderParts", fn := fun _ => fun
  | [d1, d2] => { results := [.lit (.bool true)], args := [d1, d2] }
  | _ => none }
def orderPartsRow : OpenClaim := { program := "ytgjlneedpbgfpaadoor", sum := "d64948444c82941c3461239aa62e693ed83e02337a79084955138b867627a637", func := "gesso/gessolaw06.OrderParts", spec := "orderParts", unfollowed := true, recurses := true, named := ["internal/strconv.uint64pow10", "math/bits.deBruijn32tab", "math/bits.deBruijn64tab"], apart := false, laid := [("math/bits.deBruijn32tab", laid_math_bits_deBruijn32tab), ("math/bits.deBruijn64tab", laid_math_bits_deBruijn64tab), ("internal/strconv.uint64pow10", laid_internal_strconv_uint64pow10)] }
def OrderPartsSaid : Prop := orderPartsRow.holds Tryd.pinned (OpenSpec.ofChange orderPartsSpec)

/-- ITS FALSE NEIGHBOUR: 'it returns false'. Refute it at one input. -/
def orderPartsWrong : ChangeSpec := { name := "orderParts", fn := fun _ => fun
  | [d1, d2] => { results := [.lit (.bool false)], args := [d1, d2] }
  | _ => none }
def OrderPartsWrongFalsely : Prop := orderPartsRow.holds Tryd.pinned (OpenSpec.ofChange orderPartsWrong)

/-- 'gessolaw06.OrderFull': WHATEVER THE INPUT: true; the input reads as it did. -/
def orderFullSpec : ChangeSpec := { name := "orderFull", fn := fun _ => fun
  | [d] => { results := [.lit (.bool true)], args := [d] }
  | _ => none }
def orderFullRow : OpenClaim := { program := "ytgjlneedpbgfpaadoor", sum := "d64948444c82941c3461239aa62e693ed83e02337a79084955138b867627a637", func := "gesso/gessolaw06.OrderFull", spec := "orderFull", unfollowed := true, recurses := true, named := ["internal/strconv.uint64pow10", "math/bits.deBruijn32tab", "math/bits.deBruijn64tab"], apart := false, laid := [("math/bits.deBruijn32tab", laid_math_bits_deBruijn32tab), ("math/bits.deBruijn64tab", laid_math_bits_deBruijn64tab), ("internal/strconv.uint64pow10", laid_internal_strconv_uint64pow10)] }
def OrderFullSaid : Prop := orderFullRow.holds Tryd.pinned (OpenSpec.ofChange orderFullSpec)

/-- ITS FALSE NEIGHBOUR: 'it returns false'. Refute it at one input. -/
def orderFullWrong : ChangeSpec := { name := "orderFull", fn := fun _ => fun
  | [d] => { results := [.lit (.bool false)], args := [d] }
  | _ => none }
def OrderFullWrongFalsely : Prop := orderFullRow.holds Tryd.pinned (OpenSpec.ofChange orderFullWrong)

/-- 'gessolaw07.ComposeBack': WHATEVER THE INPUT: true; the input reads as it did. -/
def composeBackSpec : ChangeSpec := { name := "composeBack", fn := fun _ => fun
  | [d] => { results := [.lit (.bool true)], args := [d] }
  | _ => none }
def composeBackRow : OpenClaim := { program := "ytgjlneedpbgfpaadoor", sum := "d64948444c82941c3461239aa62e693ed83e02337a79084955138b867627a637", func := "gesso/gessolaw07.ComposeBack", spec := "composeBack", unfollowed := true, recurses := true, named := ["internal/strconv.uint64pow10", "math/bits.deBruijn32tab", "math/bits.deBruijn64tab"], apart := false, laid := [("math/bits.deBruijn32tab", laid_math_bits_deBruijn32tab), ("math/bits.deBruijn64tab", laid_math_bits_deBruijn64tab), ("internal/strconv.uint64pow10", laid_internal_strconv_uint64pow10)] }
def ComposeBackSaid : Prop := composeBackRow.holds Tryd.pinned (OpenSpec.ofChange composeBackSpec)

/-- ITS FALSE NEIGHBOUR: 'it returns false'. Refute it at one input. -/
def composeBackWrong : ChangeSpec := { name := "composeBack", fn := fun _ => fun
  | [d] => { results := [.lit (.bool false)], args := [d] }
  | _ => none }
def ComposeBackWrongFalsely : Prop := composeBackRow.holds Tryd.pinned (OpenSpec.ofChange composeBackWrong)

/-- 'gessolaw07.ComposeAgain': WHATEVER THE INPUT: true; the input reads as it did. -/
def composeAgainSpec : ChangeSpec := { name := "composeAgain", fn := fun _ => fun
  | [d] => { results := [.lit (.bool true)], args := [d] }
  | _ => none }
def composeAgainRow : OpenClaim := { program := "ytgjlneedpbgfpaadoor", sum := "d64948444c82941c3461239aa62e693ed83e02337a79084955138b867627a637", func := "gesso/gessolaw07.ComposeAgain", spec := "composeAgain", unfollowed := true, recurses := true, named := ["internal/strconv.uint64pow10", "math/bits.deBruijn32tab", "math/bits.deBruijn64tab"], apart := false, laid := [("math/bits.deBruijn32tab", laid_math_bits_deBruijn32tab), ("math/bits.deBruijn64tab", laid_math_bits_deBruijn64tab), ("internal/strconv.uint64pow10", laid_internal_strconv_uint64pow10)] }
def ComposeAgainSaid : Prop := composeAgainRow.holds Tryd.pinned (OpenSpec.ofChange composeAgainSpec)

/-- ITS FALSE NEIGHBOUR: 'it returns false'. Refute it at one input. -/
def composeAgainWrong : ChangeSpec := { name := "composeAgain", fn := fun _ => fun
  | [d] => { results := [.lit (.bool false)], args := [d] }
  | _ => none }
def ComposeAgainWrongFalsely : Prop := composeAgainRow.holds Tryd.pinned (OpenSpec.ofChange composeAgainWrong)

/-- 'gessolaw08.NormSafes': WHATEVER THE INPUT: true; the input reads as it did. -/
def normSafesSpec : ChangeSpec := { name := "normSafes", fn := fun _ => fun
  | [d] => { results := [.lit (.bool true)], args := [d] }
  | _ => none }
def normSafesRow : OpenClaim := { program := "ytgjlneedpbgfpaadoor", sum := "d64948444c82941c3461239aa62e693ed83e02337a79084955138b867627a637", func := "gesso/gessolaw08.NormSafes", spec := "normSafes", unfollowed := true, recurses := true, named := ["internal/strconv.uint64pow10", "math/bits.deBruijn32tab", "math/bits.deBruijn64tab", "unicode/utf8.first", "unicode/utf8.acceptRanges"], apart := false, laid := [("math/bits.deBruijn32tab", laid_math_bits_deBruijn32tab), ("math/bits.deBruijn64tab", laid_math_bits_deBruijn64tab), ("internal/strconv.uint64pow10", laid_internal_strconv_uint64pow10), ("unicode/utf8.acceptRanges", laid_unicode_utf8_acceptRanges), ("unicode/utf8.first", laid_unicode_utf8_first)] }
def NormSafesSaid : Prop := normSafesRow.holds Tryd.pinned (OpenSpec.ofChange normSafesSpec)

/-- ITS FALSE NEIGHBOUR: 'it returns false'. Refute it at one input. -/
def normSafesWrong : ChangeSpec := { name := "normSafes", fn := fun _ => fun
  | [d] => { results := [.lit (.bool false)], args := [d] }
  | _ => none }
def NormSafesWrongFalsely : Prop := normSafesRow.holds Tryd.pinned (OpenSpec.ofChange normSafesWrong)

/-- 'gessolaw08.NormParts': WHATEVER THE INPUT: true; the input reads as it did. -/
def normPartsSpec : ChangeSpec := { name := "normParts", fn := fun _ => fun
  | [d] => { results := [.lit (.bool true)], args := [d] }
  | _ => none }
def normPartsRow : OpenClaim := { program := "ytgjlneedpbgfpaadoor", sum := "d64948444c82941c3461239aa62e693ed83e02337a79084955138b867627a637", func := "gesso/gessolaw08.NormParts", spec := "normParts", unfollowed := true, recurses := true, named := ["unicode/utf8.first", "unicode/utf8.acceptRanges", "internal/strconv.uint64pow10", "math/bits.deBruijn32tab", "math/bits.deBruijn64tab"], apart := false, laid := [("math/bits.deBruijn32tab", laid_math_bits_deBruijn32tab), ("math/bits.deBruijn64tab", laid_math_bits_deBruijn64tab), ("internal/strconv.uint64pow10", laid_internal_strconv_uint64pow10), ("unicode/utf8.acceptRanges", laid_unicode_utf8_acceptRanges), ("unicode/utf8.first", laid_unicode_utf8_first)] }
def NormPartsSaid : Prop := normPartsRow.holds Tryd.pinned (OpenSpec.ofChange normPartsSpec)

/-- ITS FALSE NEIGHBOUR: 'it returns false'. Refute it at one input. -/
def normPartsWrong : ChangeSpec := { name := "normParts", fn := fun _ => fun
  | [d] => { results := [.lit (.bool false)], args := [d] }
  | _ => none }
def NormPartsWrongFalsely : Prop := normPartsRow.holds Tryd.pinned (OpenSpec.ofChange normPartsWrong)

/-- 'gessolaw08.NormBytes': WHATEVER THE INPUT: true; the input reads as it did. -/
def normBytesSpec : ChangeSpec := { name := "normBytes", fn := fun _ => fun
  | [d] => { results := [.lit (.bool true)], args := [d] }
  | _ => none }
def normBytesRow : OpenClaim := { program := "ytgjlneedpbgfpaadoor", sum := "d64948444c82941c3461239aa62e693ed83e02337a79084955138b867627a637", func := "gesso/gessolaw08.NormBytes", spec := "normBytes", unfollowed := true, recurses := true, named := ["unicode/utf8.first", "unicode/utf8.acceptRanges", "internal/strconv.uint64pow10", "math/bits.deBruijn32tab", "math/bits.deBruijn64tab"], apart := false, laid := [("math/bits.deBruijn32tab", laid_math_bits_deBruijn32tab), ("math/bits.deBruijn64tab", laid_math_bits_deBruijn64tab), ("internal/strconv.uint64pow10", laid_internal_strconv_uint64pow10), ("unicode/utf8.acceptRanges", laid_unicode_utf8_acceptRanges), ("unicode/utf8.first", laid_unicode_utf8_first)] }
def NormBytesSaid : Prop := normBytesRow.holds Tryd.pinned (OpenSpec.ofChange normBytesSpec)

/-- ITS FALSE NEIGHBOUR: 'it returns false'. Refute it at one input. -/
def normBytesWrong : ChangeSpec := { name := "normBytes", fn := fun _ => fun
  | [d] => { results := [.lit (.bool false)], args := [d] }
  | _ => none }
def NormBytesWrongFalsely : Prop := normBytesRow.holds Tryd.pinned (OpenSpec.ofChange normBytesWrong)

/-- 'gessolaw08.NormMarks': WHATEVER THE INPUT: true; the input reads as it did. -/
def normMarksSpec : ChangeSpec := { name := "normMarks", fn := fun _ => fun
  | [d1, d2] => { results := [.lit (.bool true)], args := [d1, d2] }
  | _ => none }
def normMarksRow : OpenClaim := { program := "ytgjlneedpbgfpaadoor", sum := "d64948444c82941c3461239aa62e693ed83e02337a79084955138b867627a637", func := "gesso/gessolaw08.NormMarks", spec := "normMarks", unfollowed := true, recurses := true, named := ["unicode/utf8.first", "unicode/utf8.acceptRanges", "internal/strconv.uint64pow10", "math/bits.deBruijn32tab", "math/bits.deBruijn64tab"], apart := false, laid := [("math/bits.deBruijn32tab", laid_math_bits_deBruijn32tab), ("math/bits.deBruijn64tab", laid_math_bits_deBruijn64tab), ("internal/strconv.uint64pow10", laid_internal_strconv_uint64pow10), ("unicode/utf8.acceptRanges", laid_unicode_utf8_acceptRanges), ("unicode/utf8.first", laid_unicode_utf8_first)] }
def NormMarksSaid : Prop := normMarksRow.holds Tryd.pinned (OpenSpec.ofChange normMarksSpec)

/-- ITS FALSE NEIGHBOUR: 'it returns false'. Refute it at one input. -/
def normMarksWrong : ChangeSpec := { name := "normMarks", fn := fun _ => fun
  | [d1, d2] => { results := [.lit (.bool false)], args := [d1, d2] }
  | _ => none }
def NormMarksWrongFalsely : Prop := normMarksRow.holds Tryd.pinned (OpenSpec.ofChange normMarksWrong)

/-- 'gessolaw08.NormForms': WHATEVER THE INPUT: true; the input reads as it did. -/
def normFormsSpec : ChangeSpec := { name := "normForms", fn := fun _ => fun
  | [d] => { results := [.lit (.bool true)], args := [d] }
  | _ => none }
def normFormsRow : OpenClaim := { program := "ytgjlneedpbgfpaadoor", sum := "d64948444c82941c3461239aa62e693ed83e02337a79084955138b867627a637", func := "gesso/gessolaw08.NormForms", spec := "normForms", unfollowed := true, recurses := true, named := ["unicode/utf8.first", "unicode/utf8.acceptRanges", "internal/strconv.uint64pow10", "math/bits.deBruijn32tab", "math/bits.deBruijn64tab"], apart := false, laid := [("math/bits.deBruijn32tab", laid_math_bits_deBruijn32tab), ("math/bits.deBruijn64tab", laid_math_bits_deBruijn64tab), ("internal/strconv.uint64pow10", laid_internal_strconv_uint64pow10), ("unicode/utf8.acceptRanges", laid_unicode_utf8_acceptRanges), ("unicode/utf8.first", laid_unicode_utf8_first)] }
def NormFormsSaid : Prop := normFormsRow.holds Tryd.pinned (OpenSpec.ofChange normFormsSpec)

/-- ITS FALSE NEIGHBOUR: 'it returns false'. Refute it at one input. -/
def normFormsWrong : ChangeSpec := { name := "normForms", fn := fun _ => fun
  | [d] => { results := [.lit (.bool false)], args := [d] }
  | _ => none }
def NormFormsWrongFalsely : Prop := normFormsRow.holds Tryd.pinned (OpenSpec.ofChange normFormsWrong)

/-- 'gessolaw08.NormSames': WHATEVER THE INPUT: true; the input reads as it did. -/
def normSamesSpec : ChangeSpec := { name := "normSames", fn := fun _ => fun
  | [d1, d2] => { results := [.lit (.bool true)], args := [d1, d2] }
  | _ => none }
def normSamesRow : OpenClaim := { program := "ytgjlneedpbgfpaadoor", sum := "d64948444c82941c3461239aa62e693ed83e02337a79084955138b867627a637", func := "gesso/gessolaw08.NormSames", spec := "normSames", unfollowed := true, recurses := true, named := ["unicode/utf8.first", "unicode/utf8.acceptRanges", "internal/strconv.uint64pow10", "math/bits.deBruijn32tab", "math/bits.deBruijn64tab"], apart := false, laid := [("math/bits.deBruijn32tab", laid_math_bits_deBruijn32tab), ("math/bits.deBruijn64tab", laid_math_bits_deBruijn64tab), ("internal/strconv.uint64pow10", laid_internal_strconv_uint64pow10), ("unicode/utf8.acceptRanges", laid_unicode_utf8_acceptRanges), ("unicode/utf8.first", laid_unicode_utf8_first)] }
def NormSamesSaid : Prop := normSamesRow.holds Tryd.pinned (OpenSpec.ofChange normSamesSpec)

/-- ITS FALSE NEIGHBOUR: 'it returns false'. Refute it at one input. -/
def normSamesWrong : ChangeSpec := { name := "normSames", fn := fun _ => fun
  | [d1, d2] => { results := [.lit (.bool false)], args := [d1, d2] }
  | _ => none }
def NormSamesWrongFalsely : Prop := normSamesRow.holds Tryd.pinned (OpenSpec.ofChange normSamesWrong)

/-- 'gessolaw08.NormEqual': WHATEVER THE INPUT: true; the input reads as it did. -/
def normEqualSpec : ChangeSpec := { name := "normEqual", fn := fun _ => fun
  | [d1, d2] => { results := [.lit (.bool true)], args := [d1, d2] }
  | _ => none }
def normEqualRow : OpenClaim := { program := "ytgjlneedpbgfpaadoor", sum := "d64948444c82941c3461239aa62e693ed83e02337a79084955138b867627a637", func := "gesso/gessolaw08.NormEqual", spec := "normEqual", unfollowed := true, recurses := true, named := ["unicode/utf8.first", "unicode/utf8.acceptRanges", "internal/strconv.uint64pow10", "math/bits.deBruijn32tab", "math/bits.deBruijn64tab"], apart := false, laid := [("math/bits.deBruijn32tab", laid_math_bits_deBruijn32tab), ("math/bits.deBruijn64tab", laid_math_bits_deBruijn64tab), ("internal/strconv.uint64pow10", laid_internal_strconv_uint64pow10), ("unicode/utf8.acceptRanges", laid_unicode_utf8_acceptRanges), ("unicode/utf8.first", laid_unicode_utf8_first)] }
def NormEqualSaid : Prop := normEqualRow.holds Tryd.pinned (OpenSpec.ofChange normEqualSpec)

/-- ITS FALSE NEIGHBOUR: 'it returns false'. Refute it at one input. -/
def normEqualWrong : ChangeSpec := { name := "normEqual", fn := fun _ => fun
  | [d1, d2] => { results := [.lit (.bool false)], args := [d1, d2] }
  | _ => none }
def NormEqualWrongFalsely : Prop := normEqualRow.holds Tryd.pinned (OpenSpec.ofChange normEqualWrong)

/-- 'gessolaw08.NormAgain': WHATEVER THE INPUT: true; the input reads as it did. -/
def normAgainSpec : ChangeSpec := { name := "normAgain", fn := fun _ => fun
  | [d] => { results := [.lit (.bool true)], args := [d] }
  | _ => none }
def normAgainRow : OpenClaim := { program := "ytgjlneedpbgfpaadoor", sum := "d64948444c82941c3461239aa62e693ed83e02337a79084955138b867627a637", func := "gesso/gessolaw08.NormAgain", spec := "normAgain", unfollowed := true, recurses := true, named := ["unicode/utf8.first", "unicode/utf8.acceptRanges", "internal/strconv.uint64pow10", "math/bits.deBruijn32tab", "math/bits.deBruijn64tab"], apart := false, laid := [("math/bits.deBruijn32tab", laid_math_bits_deBruijn32tab), ("math/bits.deBruijn64tab", laid_math_bits_deBruijn64tab), ("internal/strconv.uint64pow10", laid_internal_strconv_uint64pow10), ("unicode/utf8.acceptRanges", laid_unicode_utf8_acceptRanges), ("unicode/utf8.first", laid_unicode_utf8_first)] }
def NormAgainSaid : Prop := normAgainRow.holds Tryd.pinned (OpenSpec.ofChange normAgainSpec)

/-- ITS FALSE NEIGHBOUR: 'it returns false'. Refute it at one input. -/
def normAgainWrong : ChangeSpec := { name := "normAgain", fn := fun _ => fun
  | [d] => { results := [.lit (.bool false)], args := [d] }
  | _ => none }
def NormAgainWrongFalsely : Prop := normAgainRow.holds Tryd.pinned (OpenSpec.ofChange normAgainWrong)

/- THE SECOND FORM. 'bulk': how many values and letters a reading holds, each counted each time it is reached (what is shared counts as often as it is met; a slice's spare places count too). A statement '..UptoSaid' is the law's where the arguments, and the package variables that the reading takes, are together of bulk at most 1048576: NARROWER than '..Said'. Prove '..Said' where nothing that the law and all that it calls make is longer than what came in: it says more and counts as full. Else prove '..UptoSaid'. A law counts once. -/
mutual
def uptoBulk {H : Type} : DataW H → Nat
  | .lit (.string bytes) => bytes.length + 1
  | .lit _ => 1
  | .nil => 1
  | .ptr d => uptoBulk d + 1
  | .slice elems spare => uptoBulkAll elems + uptoBulkAll spare + 1
  | .agg parts => uptoBulkAll parts + 1
  | .iface _ d => uptoBulk d + 1
  | .map entries => uptoBulkEntries entries + 1
  | .held _ => 1
def uptoBulkAll {H : Type} : List (DataW H) → Nat
  | [] => 0
  | d :: r => uptoBulk d + uptoBulkAll r
def uptoBulkEntries {H : Type} : List (Lit × DataW H) → Nat
  | [] => 0
  | x :: r => uptoBulkEntry x + uptoBulkEntries r
def uptoBulkEntry {H : Type} : Lit × DataW H → Nat
  | (.string bytes, d) => bytes.length + uptoBulk d + 1
  | (_, d) => uptoBulk d + 1
 end
def uptoSmall : (H : Type) → List (DataW H) → Bool := fun _ ds => decide (uptoBulkAll ds ≤ 1048576)
def OpenSpec.upto (s : _root_.Go.ChangeSpec) : _root_.Go.OpenSpec := { _root_.Go.OpenSpec.ofChange s with cond := some uptoSmall }

/-- 'gessolaw07.ComposeTwos', WHERE WHAT IT READS IS OF BULK AT MOST 1048576: true; the input reads as it did. -/
def composeTwosUptoRow : OpenClaim := { program := "ytgjlneedpbgfpaadoor", sum := "d64948444c82941c3461239aa62e693ed83e02337a79084955138b867627a637", func := "gesso/gessolaw07.ComposeTwos", spec := "composeTwos", unfollowed := true, recurses := true, named := ["internal/strconv.uint64pow10", "math/bits.deBruijn32tab", "math/bits.deBruijn64tab"], apart := false, laid := [("math/bits.deBruijn32tab", laid_math_bits_deBruijn32tab), ("math/bits.deBruijn64tab", laid_math_bits_deBruijn64tab), ("internal/strconv.uint64pow10", laid_internal_strconv_uint64pow10)], narrowed := true }
def ComposeTwosUptoSaid : Prop := composeTwosUptoRow.holds Tryd.pinned (OpenSpec.upto composeTwosSpec)

/-- 'gessolaw07.ComposeLists', WHERE WHAT IT READS IS OF BULK AT MOST 1048576: true; the input reads as it did. -/
def composeListsUptoRow : OpenClaim := { program := "ytgjlneedpbgfpaadoor", sum := "d64948444c82941c3461239aa62e693ed83e02337a79084955138b867627a637", func := "gesso/gessolaw07.ComposeLists", spec := "composeLists", unfollowed := true, recurses := true, named := ["internal/strconv.uint64pow10", "math/bits.deBruijn32tab", "math/bits.deBruijn64tab"], apart := false, laid := [("math/bits.deBruijn32tab", laid_math_bits_deBruijn32tab), ("math/bits.deBruijn64tab", laid_math_bits_deBruijn64tab), ("internal/strconv.uint64pow10", laid_internal_strconv_uint64pow10)], narrowed := true }
def ComposeListsUptoSaid : Prop := composeListsUptoRow.holds Tryd.pinned (OpenSpec.upto composeListsSpec)

/-- 'gessolaw07.ComposeParts', WHERE WHAT IT READS IS OF BULK AT MOST 1048576: true; the input reads as it did. -/
def composePartsUptoRow : OpenClaim := { program := "ytgjlneedpbgfpaadoor", sum := "d64948444c82941c3461239aa62e693ed83e02337a79084955138b867627a637", func := "gesso/gessolaw07.ComposeParts", spec := "composeParts", unfollowed := true, recurses := true, named := ["internal/strconv.uint64pow10", "math/bits.deBruijn32tab", "math/bits.deBruijn64tab"], apart := false, laid := [("math/bits.deBruijn32tab", laid_math_bits_deBruijn32tab), ("math/bits.deBruijn64tab", laid_math_bits_deBruijn64tab), ("internal/strconv.uint64pow10", laid_internal_strconv_uint64pow10)], narrowed := true }
def ComposePartsUptoSaid : Prop := composePartsUptoRow.holds Tryd.pinned (OpenSpec.upto composePartsSpec)

/-- 'gessolaw07.ComposeFull', WHERE WHAT IT READS IS OF BULK AT MOST 1048576: true; the input reads as it did. -/
def composeFullUptoRow : OpenClaim := { program := "ytgjlneedpbgfpaadoor", sum := "d64948444c82941c3461239aa62e693ed83e02337a79084955138b867627a637", func := "gesso/gessolaw07.ComposeFull", spec := "composeFull", unfollowed := true, recurses := true, named := ["internal/strconv.uint64pow10", "math/bits.deBruijn32tab", "math/bits.deBruijn64tab"], apart := false, laid := [("math/bits.deBruijn32tab", laid_math_bits_deBruijn32tab), ("math/bits.deBruijn64tab", laid_math_bits_deBruijn64tab), ("internal/strconv.uint64pow10", laid_internal_strconv_uint64pow10)], narrowed := true }
def ComposeFullUptoSaid : Prop := composeFullUptoRow.holds Tryd.pinned (OpenSpec.upto composeFullSpec)

/-- 'gessolaw06.OrderOrders', WHERE WHAT IT READS IS OF BULK AT MOST 1048576: true; the input reads as it did. -/
def orderOrdersUptoRow : OpenClaim := { program := "ytgjlneedpbgfpaadoor", sum := "d64948444c82941c3461239aa62e693ed83e02337a79084955138b867627a637", func := "gesso/gessolaw06.OrderOrders", spec := "orderOrders", unfollowed := true, recurses := true, named := ["internal/strconv.uint64pow10", "math/bits.deBruijn32tab", "math/bits.deBruijn64tab"], apart := false, laid := [("math/bits.deBruijn32tab", laid_math_bits_deBruijn32tab), ("math/bits.deBruijn64tab", laid_math_bits_deBruijn64tab), ("internal/strconv.uint64pow10", laid_internal_strconv_uint64pow10)], narrowed := true }
def OrderOrdersUptoSaid : Prop := orderOrdersUptoRow.holds Tryd.pinned (OpenSpec.upto orderOrdersSpec)

/-- 'gessolaw06.OrderIs', WHERE WHAT IT READS IS OF BULK AT MOST 1048576: true; the input reads as it did. -/
def orderIsUptoRow : OpenClaim := { program := "ytgjlneedpbgfpaadoor", sum := "d64948444c82941c3461239aa62e693ed83e02337a79084955138b867627a637", func := "gesso/gessolaw06.OrderIs", spec := "orderIs", unfollowed := true, recurses := true, named := ["internal/strconv.uint64pow10", "math/bits.deBruijn32tab", "math/bits.deBruijn64tab"], apart := false, laid := [("math/bits.deBruijn32tab", laid_math_bits_deBruijn32tab), ("math/bits.deBruijn64tab", laid_math_bits_deBruijn64tab), ("internal/strconv.uint64pow10", laid_internal_strconv_uint64pow10)], narrowed := true }
def OrderIsUptoSaid : Prop := orderIsUptoRow.holds Tryd.pinned (OpenSpec.upto orderIsSpec)

/-- 'gessolaw06.OrderAgain', WHERE WHAT IT READS IS OF BULK AT MOST 1048576: true; the input reads as it did. -/
def orderAgainUptoRow : OpenClaim := { program := "ytgjlneedpbgfpaadoor", sum := "d64948444c82941c3461239aa62e693ed83e02337a79084955138b867627a637", func := "gesso/gessolaw06.OrderAgain", spec := "orderAgain", unfollowed := true, recurses := true, named := ["internal/strconv.uint64pow10", "math/bits.deBruijn32tab", "math/bits.deBruijn64tab"], apart := false, laid := [("math/bits.deBruijn32tab", laid_math_bits_deBruijn32tab), ("math/bits.deBruijn64tab", laid_math_bits_deBruijn64tab), ("internal/strconv.uint64pow10", laid_internal_strconv_uint64pow10)], narrowed := true }
def OrderAgainUptoSaid : Prop := orderAgainUptoRow.holds Tryd.pinned (OpenSpec.upto orderAgainSpec)

/-- 'gessolaw06.OrderSame', WHERE WHAT IT READS IS OF BULK AT MOST 1048576: true; the input reads as it did. -/
def orderSameUptoRow : OpenClaim := { program := "ytgjlneedpbgfpaadoor", sum := "d64948444c82941c3461239aa62e693ed83e02337a79084955138b867627a637", func := "gesso/gessolaw06.OrderSame", spec := "orderSame", unfollowed := true, recurses := true, named := ["internal/strconv.uint64pow10", "math/bits.deBruijn32tab", "math/bits.deBruijn64tab"], apart := false, laid := [("math/bits.deBruijn32tab", laid_math_bits_deBruijn32tab), ("math/bits.deBruijn64tab", laid_math_bits_deBruijn64tab), ("internal/strconv.uint64pow10", laid_internal_strconv_uint64pow10)], narrowed := true }
def OrderSameUptoSaid : Prop := orderSameUptoRow.holds Tryd.pinned (OpenSpec.upto orderSameSpec)

/-- 'gessolaw06.OrderParts', WHERE WHAT IT READS IS OF BULK AT MOST 1048576: true; the input reads as it did. -/
def orderPartsUptoRow : OpenClaim := { program := "ytgjlneedpbgfpaadoor", sum := "d64948444c82941c3461239aa62e693ed83e02337a79084955138b867627a637", func := "gesso/gessolaw06.OrderParts", spec := "orderParts", unfollowed := true, recurses := true, named := ["internal/strconv.uint64pow10", "math/bits.deBruijn32tab", "math/bits.deBruijn64tab"], apart := false, laid := [("math/bits.deBruijn32tab", laid_math_bits_deBruijn32tab), ("math/bits.deBruijn64tab", laid_math_bits_deBruijn64tab), ("internal/strconv.uint64pow10", laid_internal_strconv_uint64pow10)], narrowed := true }
def OrderPartsUptoSaid : Prop := orderPartsUptoRow.holds Tryd.pinned (OpenSpec.upto orderPartsSpec)

/-- 'gessolaw06.OrderFull', WHERE WHAT IT READS IS OF BULK AT MOST 1048576: true; the input reads as it did. -/
def orderFullUptoRow : OpenClaim := { program := "ytgjlneedpbgfpaadoor", sum := "d64948444c82941c3461239aa62e693ed83e02337a79084955138b867627a637", func := "gesso/gessolaw06.OrderFull", spec := "orderFull", unfollowed := true, recurses := true, named := ["internal/strconv.uint64pow10", "math/bits.deBruijn32tab", "math/bits.deBruijn64tab"], apart := false, laid := [("math/bits.deBruijn32tab", laid_math_bits_deBruijn32tab), ("math/bits.deBruijn64tab", laid_math_bits_deBruijn64tab), ("internal/strconv.uint64pow10", laid_internal_strconv_uint64pow10)], narrowed := true }
def OrderFullUptoSaid : Prop := orderFullUptoRow.holds Tryd.pinned (OpenSpec.upto orderFullSpec)

/-- 'gessolaw07.ComposeBack', WHERE WHAT IT READS IS OF BULK AT MOST 1048576: true; the input reads as it did. -/
def composeBackUptoRow : OpenClaim := { program := "ytgjlneedpbgfpaadoor", sum := "d64948444c82941c3461239aa62e693ed83e02337a79084955138b867627a637", func := "gesso/gessolaw07.ComposeBack", spec := "composeBack", unfollowed := true, recurses := true, named := ["internal/strconv.uint64pow10", "math/bits.deBruijn32tab", "math/bits.deBruijn64tab"], apart := false, laid := [("math/bits.deBruijn32tab", laid_math_bits_deBruijn32tab), ("math/bits.deBruijn64tab", laid_math_bits_deBruijn64tab), ("internal/strconv.uint64pow10", laid_internal_strconv_uint64pow10)], narrowed := true }
def ComposeBackUptoSaid : Prop := composeBackUptoRow.holds Tryd.pinned (OpenSpec.upto composeBackSpec)

/-- 'gessolaw07.ComposeAgain', WHERE WHAT IT READS IS OF BULK AT MOST 1048576: true; the input reads as it did. -/
def composeAgainUptoRow : OpenClaim := { program := "ytgjlneedpbgfpaadoor", sum := "d64948444c82941c3461239aa62e693ed83e02337a79084955138b867627a637", func := "gesso/gessolaw07.ComposeAgain", spec := "composeAgain", unfollowed := true, recurses := true, named := ["internal/strconv.uint64pow10", "math/bits.deBruijn32tab", "math/bits.deBruijn64tab"], apart := false, laid := [("math/bits.deBruijn32tab", laid_math_bits_deBruijn32tab), ("math/bits.deBruijn64tab", laid_math_bits_deBruijn64tab), ("internal/strconv.uint64pow10", laid_internal_strconv_uint64pow10)], narrowed := true }
def ComposeAgainUptoSaid : Prop := composeAgainUptoRow.holds Tryd.pinned (OpenSpec.upto composeAgainSpec)

/-- 'gessolaw08.NormSafes', WHERE WHAT IT READS IS OF BULK AT MOST 1048576: true; the input reads as it did. -/
def normSafesUptoRow : OpenClaim := { program := "ytgjlneedpbgfpaadoor", sum := "d64948444c82941c3461239aa62e693ed83e02337a79084955138b867627a637", func := "gesso/gessolaw08.NormSafes", spec := "normSafes", unfollowed := true, recurses := true, named := ["internal/strconv.uint64pow10", "math/bits.deBruijn32tab", "math/bits.deBruijn64tab", "unicode/utf8.first", "unicode/utf8.acceptRanges"], apart := false, laid := [("math/bits.deBruijn32tab", laid_math_bits_deBruijn32tab), ("math/bits.deBruijn64tab", laid_math_bits_deBruijn64tab), ("internal/strconv.uint64pow10", laid_internal_strconv_uint64pow10), ("unicode/utf8.acceptRanges", laid_unicode_utf8_acceptRanges), ("unicode/utf8.first", laid_unicode_utf8_first)], narrowed := true }
def NormSafesUptoSaid : Prop := normSafesUptoRow.holds Tryd.pinned (OpenSpec.upto normSafesSpec)

/-- 'gessolaw08.NormParts', WHERE WHAT IT READS IS OF BULK AT MOST 1048576: true; the input reads as it did. -/
def normPartsUptoRow : OpenClaim := { program := "ytgjlneedpbgfpaadoor", sum := "d64948444c82941c3461239aa62e693ed83e02337a79084955138b867627a637", func := "gesso/gessolaw08.NormParts", spec := "normParts", unfollowed := true, recurses := true, named := ["unicode/utf8.first", "unicode/utf8.acceptRanges", "internal/strconv.uint64pow10", "math/bits.deBruijn32tab", "math/bits.deBruijn64tab"], apart := false, laid := [("math/bits.deBruijn32tab", laid_math_bits_deBruijn32tab), ("math/bits.deBruijn64tab", laid_math_bits_deBruijn64tab), ("internal/strconv.uint64pow10", laid_internal_strconv_uint64pow10), ("unicode/utf8.acceptRanges", laid_unicode_utf8_acceptRanges), ("unicode/utf8.first", laid_unicode_utf8_first)], narrowed := true }
def NormPartsUptoSaid : Prop := normPartsUptoRow.holds Tryd.pinned (OpenSpec.upto normPartsSpec)

/-- 'gessolaw08.NormBytes', WHERE WHAT IT READS IS OF BULK AT MOST 1048576: true; the input reads as it did. -/
def normBytesUptoRow : OpenClaim := { program := "ytgjlneedpbgfpaadoor", sum := "d64948444c82941c3461239aa62e693ed83e02337a79084955138b867627a637", func := "gesso/gessolaw08.NormBytes", spec := "normBytes", unfollowed := true, recurses := true, named := ["unicode/utf8.first", "unicode/utf8.acceptRanges", "internal/strconv.uint64pow10", "math/bits.deBruijn32tab", "math/bits.deBruijn64tab"], apart := false, laid := [("math/bits.deBruijn32tab", laid_math_bits_deBruijn32tab), ("math/bits.deBruijn64tab", laid_math_bits_deBruijn64tab), ("internal/strconv.uint64pow10", laid_internal_strconv_uint64pow10), ("unicode/utf8.acceptRanges", laid_unicode_utf8_acceptRanges), ("unicode/utf8.first", laid_unicode_utf8_first)], narrowed := true }
def NormBytesUptoSaid : Prop := normBytesUptoRow.holds Tryd.pinned (OpenSpec.upto normBytesSpec)

/-- 'gessolaw08.NormMarks', WHERE WHAT IT READS IS OF BULK AT MOST 1048576: true; the input reads as it did. -/
def normMarksUptoRow : OpenClaim := { program := "ytgjlneedpbgfpaadoor", sum := "d64948444c82941c3461239aa62e693ed83e02337a79084955138b867627a637", func := "gesso/gessolaw08.NormMarks", spec := "normMarks", unfollowed := true, recurses := true, named := ["unicode/utf8.first", "unicode/utf8.acceptRanges", "internal/strconv.uint64pow10", "math/bits.deBruijn32tab", "math/bits.deBruijn64tab"], apart := false, laid := [("math/bits.deBruijn32tab", laid_math_bits_deBruijn32tab), ("math/bits.deBruijn64tab", laid_math_bits_deBruijn64tab), ("internal/strconv.uint64pow10", laid_internal_strconv_uint64pow10), ("unicode/utf8.acceptRanges", laid_unicode_utf8_acceptRanges), ("unicode/utf8.first", laid_unicode_utf8_first)], narrowed := true }
def NormMarksUptoSaid : Prop := normMarksUptoRow.holds Tryd.pinned (OpenSpec.upto normMarksSpec)

/-- 'gessolaw08.NormForms', WHERE WHAT IT READS IS OF BULK AT MOST 1048576: true; the input reads as it did. -/
def normFormsUptoRow : OpenClaim := { program := "ytgjlneedpbgfpaadoor", sum := "d64948444c82941c3461239aa62e693ed83e02337a79084955138b867627a637", func := "gesso/gessolaw08.NormForms", spec := "normForms", unfollowed := true, recurses := true, named := ["unicode/utf8.first", "unicode/utf8.acceptRanges", "internal/strconv.uint64pow10", "math/bits.deBruijn32tab", "math/bits.deBruijn64tab"], apart := false, laid := [("math/bits.deBruijn32tab", laid_math_bits_deBruijn32tab), ("math/bits.deBruijn64tab", laid_math_bits_deBruijn64tab), ("internal/strconv.uint64pow10", laid_internal_strconv_uint64pow10), ("unicode/utf8.acceptRanges", laid_unicode_utf8_acceptRanges), ("unicode/utf8.first", laid_unicode_utf8_first)], narrowed := true }
def NormFormsUptoSaid : Prop := normFormsUptoRow.holds Tryd.pinned (OpenSpec.upto normFormsSpec)

/-- 'gessolaw08.NormSames', WHERE WHAT IT READS IS OF BULK AT MOST 1048576: true; the input reads as it did. -/
def normSamesUptoRow : OpenClaim := { program := "ytgjlneedpbgfpaadoor", sum := "d64948444c82941c3461239aa62e693ed83e02337a79084955138b867627a637", func := "gesso/gessolaw08.NormSames", spec := "normSames", unfollowed := true, recurses := true, named := ["unicode/utf8.first", "unicode/utf8.acceptRanges", "internal/strconv.uint64pow10", "math/bits.deBruijn32tab", "math/bits.deBruijn64tab"], apart := false, laid := [("math/bits.deBruijn32tab", laid_math_bits_deBruijn32tab), ("math/bits.deBruijn64tab", laid_math_bits_deBruijn64tab), ("internal/strconv.uint64pow10", laid_internal_strconv_uint64pow10), ("unicode/utf8.acceptRanges", laid_unicode_utf8_acceptRanges), ("unicode/utf8.first", laid_unicode_utf8_first)], narrowed := true }
def NormSamesUptoSaid : Prop := normSamesUptoRow.holds Tryd.pinned (OpenSpec.upto normSamesSpec)

/-- 'gessolaw08.NormEqual', WHERE WHAT IT READS IS OF BULK AT MOST 1048576: true; the input reads as it did. -/
def normEqualUptoRow : OpenClaim := { program := "ytgjlneedpbgfpaadoor", sum := "d64948444c82941c3461239aa62e693ed83e02337a79084955138b867627a637", func := "gesso/gessolaw08.NormEqual", spec := "normEqual", unfollowed := true, recurses := true, named := ["unicode/utf8.first", "unicode/utf8.acceptRanges", "internal/strconv.uint64pow10", "math/bits.deBruijn32tab", "math/bits.deBruijn64tab"], apart := false, laid := [("math/bits.deBruijn32tab", laid_math_bits_deBruijn32tab), ("math/bits.deBruijn64tab", laid_math_bits_deBruijn64tab), ("internal/strconv.uint64pow10", laid_internal_strconv_uint64pow10), ("unicode/utf8.acceptRanges", laid_unicode_utf8_acceptRanges), ("unicode/utf8.first", laid_unicode_utf8_first)], narrowed := true }
def NormEqualUptoSaid : Prop := normEqualUptoRow.holds Tryd.pinned (OpenSpec.upto normEqualSpec)

/-- 'gessolaw08.NormAgain', WHERE WHAT IT READS IS OF BULK AT MOST 1048576: true; the input reads as it did. -/
def normAgainUptoRow : OpenClaim := { program := "ytgjlneedpbgfpaadoor", sum := "d64948444c82941c3461239aa62e693ed83e02337a79084955138b867627a637", func := "gesso/gessolaw08.NormAgain", spec := "normAgain", unfollowed := true, recurses := true, named := ["unicode/utf8.first", "unicode/utf8.acceptRanges", "internal/strconv.uint64pow10", "math/bits.deBruijn32tab", "math/bits.deBruijn64tab"], apart := false, laid := [("math/bits.deBruijn32tab", laid_math_bits_deBruijn32tab), ("math/bits.deBruijn64tab", laid_math_bits_deBruijn64tab), ("internal/strconv.uint64pow10", laid_internal_strconv_uint64pow10), ("unicode/utf8.acceptRanges", laid_unicode_utf8_acceptRanges), ("unicode/utf8.first", laid_unicode_utf8_first)], narrowed := true }
def NormAgainUptoSaid : Prop := normAgainUptoRow.holds Tryd.pinned (OpenSpec.upto normAgainSpec)

end Rows
end Go.Proofs.YtgjlneedpbgfpaaDoor
