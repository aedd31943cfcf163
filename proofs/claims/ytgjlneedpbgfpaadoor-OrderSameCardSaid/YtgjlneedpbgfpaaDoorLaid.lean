import Derived.Test.YtgjlneedpbgfpaaDoorHex
import Derived.ProofKit
import Derived.LaidMore
import Derived.OpenShut
import Derived.Stop.Joined
import Derived.Stop.LaidErr
import Derived.Lib.LaidTab
import Derived.MakeChecks
/- What the row's condition gives: the table's one place. -/
namespace Go.Proofs.YtgjlneedpbgfpaaDoor
open Go.RowKit

theorem own : ownKnob Tryd.prog.godebug = none := by kernel_rfl
/-- What the rows list. -/
abbrev laid3 : List (String × DataW Unit) := [("math/bits.deBruijn32tab", Rows.laid_math_bits_deBruijn32tab), ("math/bits.deBruijn64tab", Rows.laid_math_bits_deBruijn64tab), ("internal/strconv.uint64pow10", Rows.laid_internal_strconv_uint64pow10)]

theorem g64 : Tryd.prog.globalNamed "math/bits.deBruijn64tab" = some 4 := by kernel_rfl
theorem ty64 : (Tryd.prog.globals[4]?).map (·.type) = some 111 := by kernel_rfl

/-- The door's own heap meets the condition. -/
theorem door_met (os : Os) (args : Array Value) : laidMetH Tryd.prog laid3 ((World.doorLaid Tryd.prog 400 os).forCall (fun _ _ => 0) ⟨#[], args, []⟩).memory :=
  laidMetH_of_parts3 (fuel := 8) (laidMet_of_run' 8 (by kernel_rfl) (by kernel_rfl)) (by kernel_rfl) (by kernel_rfl)

/-- The same, where the call begins with blocks of its own. -/
theorem of_laid {W : World} (h : laidMetH Tryd.prog laid3 W) : Tz W := by
  rw [MakeChecks.laidMetH_plain _ _ _ (by kernel_rfl)] at h
  have h1 := h.tail
  have ht : Lib.TabIs Tryd.prog W "math/bits.deBruijn64tab" .u8 [0, 1, 56, 2, 57, 49, 28, 3, 61, 58, 42, 50, 38, 29, 17, 4, 62, 47, 59, 36, 45, 43, 51, 22, 53, 39, 33, 30, 24, 18, 12, 5, 63, 55, 48, 27, 60, 41, 37, 16, 46, 35, 44, 21, 52, 32, 23, 11, 54, 26, 40, 15, 34, 20, 31, 10, 25, 14, 19, 9, 13, 8, 7, 6] :=
    Lib.tabIs_of_head g64 ty64 Tryd.underlying111 Tryd.underlying5 (by kernel_rfl) (by kernel_rfl) h1
  exact ht.cell g64 15 (by decide)
end Go.Proofs.YtgjlneedpbgfpaaDoor
