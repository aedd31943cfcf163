import Derived.Test.YtgjlneedpbgfpaaDoorFullW
import Derived.Test.YtgjlneedpbgfpaaDoorRefFull
/- decomp.Whole; what is told of some characters: gessolaw05.awake. -/
namespace Go.Proofs.YtgjlneedpbgfpaaDoor
open Go.RowKit

noncomputable def whole (c : Nat) : Bool := (dfind c).isNone && !isH c

set_option maxHeartbeats 1000000 in
theorem whole_any (c : Nat) (hc : c < 4294967296) (w : World) (ht : Tz w) : Calls Tryd.prog 32 #[.int .u32 c] w fun e w' => e = .returned (.bool (whole c)) ∧ Gr w w' := by
  have hi := fun w' => his_any c w'
  unfold whole
  cases hd : dfind c with
  | none =>
    have hr := decomp_no c hc w ht hd
    generalize isH c = b at hi
    clear hd
    go_enter Tryd.func32, Tryd.ntmps32
    go_wp2_with (first | (go_at_call 47; refine hr.mono ?_; rintro e w1 ⟨rfl, g1⟩) | (go_at_call 65; refine (hi _).mono ?_; rintro e w2 ⟨rfl, rfl⟩))
    all_goals go_ret
    all_goals exact ⟨by cases b <;> rfl, g1⟩
  | some e =>
    have hr := decomp_yes c hc w ht e hd
    generalize isH c = b at hi
    generalize e.2.1 = x at hr
    generalize e.2.2.1 = y at hr
    clear hd
    go_enter Tryd.func32, Tryd.ntmps32
    go_wp2_with (first | (go_at_call 47; refine hr.mono ?_; rintro e w1 ⟨rfl, g1⟩) | (go_at_call 65; refine (hi _).mono ?_; rintro e w2 ⟨rfl, rfl⟩))
    all_goals go_ret
    all_goals exact ⟨rfl, g1⟩

theorem whole_iff (c : Nat) : whole c = true ↔ full c = [c] := by
  unfold whole
  cases hd : dfind c with
  | none =>
    cases hh : isH c with
    | false => rw [full_no hh hd]; simp
    | true =>
      rw [full_h hh]
      have := hsp_len c
      constructor
      · intro h; simp at h
      · intro h; rw [h] at this; simp at this
  | some e =>
    have hh : isH c = false := by
      have := (D_noH (dfind_some hd).1).1
      rw [(dfind_some hd).2] at this; exact this
    constructor
    · intro h; simp at h
    · intro h
      have hm := fullF_mem (deep3 c) hh c (by show c ∈ full c; rw [h]; simp)
      rw [hm.2.1] at hd; cases hd

end Go.Proofs.YtgjlneedpbgfpaaDoor
