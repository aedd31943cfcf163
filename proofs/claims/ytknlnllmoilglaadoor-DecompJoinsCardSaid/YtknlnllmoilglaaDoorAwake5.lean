import Derived.Test.YtknlnllmoilglaaDoorFullW
import Derived.Test.YtknlnllmoilglaaDoorRefFull
/- decomp.Whole; what is told of some characters: gessolaw05.awake. -/
namespace Go.Proofs.YtknlnllmoilglaaDoor
open Go.RowKit

noncomputable def whole (c : Nat) : Bool := (dfind c).isNone && !isH c

set_option maxHeartbeats 1000000 in
theorem whole_any (c : Nat) (hc : c < 4294967296) (w : World) (ht : Tz w) : Calls Tryd.prog 18 #[.int .u32 c] w fun e w' => e = .returned (.bool (whole c)) ∧ Gr w w' := by
  have hi := fun w' => his_any c w'
  unfold whole
  cases hd : dfind c with
  | none =>
    have hr := decomp_no c hc w ht hd
    generalize isH c = b at hi
    clear hd
    go_enter Tryd.func18, Tryd.ntmps18
    go_wp2_with (first | (go_at_call 31; refine hr.mono ?_; rintro e w1 ⟨rfl, g1⟩) | (go_at_call 40; refine (hi _).mono ?_; rintro e w2 ⟨rfl, rfl⟩))
    all_goals go_ret
    all_goals exact ⟨by cases b <;> rfl, g1⟩
  | some e =>
    have hr := decomp_yes c hc w ht e hd
    generalize isH c = b at hi
    generalize e.2.1 = x at hr
    generalize e.2.2.1 = y at hr
    clear hd
    go_enter Tryd.func18, Tryd.ntmps18
    go_wp2_with (first | (go_at_call 31; refine hr.mono ?_; rintro e w1 ⟨rfl, g1⟩) | (go_at_call 40; refine (hi _).mono ?_; rintro e w2 ⟨rfl, rfl⟩))
    all_goals go_ret
    all_goals exact ⟨rfl, g1⟩

theorem whole_iff (c : Nat) : whole c = true ↔ full c = [c] := by
  unfold whole
  cases hd : dfind c with
  | none =>
    cases hh : isH c with
    | false => rw [full_no hh hd]; simp
    | true =>
      rw [full_h hh]
      have := hsp_len c
      constructor
      · intro h; simp at h
      · intro h; rw [h] at this; simp at this
  | some e =>
    have hh : isH c = false := by
      have := (D_noH (dfind_some hd).1).1
      rw [(dfind_some hd).2] at this; exact this
    constructor
    · intro h; simp at h
    · intro h
      have hm := fullF_mem (deep3 c) hh c (by show c ∈ full c; rw [h]; simp)
      rw [hm.2.1] at hd; cases hd

theorem awake5_facts : full 7701 = [101, 772, 768] ∧ whole 7701 = false ∧ whole 101 = true := by decide +kernel

set_option maxHeartbeats 2000000 in
theorem awake5_any (w : World) (ht : Tz w) : Calls Tryd.prog 19 #[] w fun e w' => e = .returned (.bool true) ∧ Gr w w' := by
  obtain ⟨f1, f2, f3⟩ := awake5_facts
  have F := fun w' (g : Gr w w') => Full_any 7701 (by omega) w' (ht.gr g)
  rw [f1] at F
  have W1 := fun w' (g : Gr w w') => whole_any 7701 (by omega) w' (ht.gr g)
  have W2 := fun w' (g : Gr w w') => whole_any 101 (by omega) w' (ht.gr g)
  rw [f2] at W1
  rw [f3] at W2
  have HF := hid F
  have H1 := hid W1
  have H2 := hid W2
  clear F W1 W2 f1 f2 f3
  go_enter Tryd.func19, Tryd.ntmps19
  go_wp2_with (go_at_call 15; refine (HF.out _ (Gr.refl _)).mono ?_; rintro e w1 ⟨v, rfl, hv, g1⟩)
  have hs := same_any v (.slice (some ⟨w1.heap.size, 0, none⟩) 3 3) [101, 772, 768] [101, 772, 768] (w1.alloc (.cells #[.int .u32 101, .int .u32 772, .int .u32 768] 22)) ((Sl.of_row hv).gr (Gr.alloc _ _)) (Sl.of_row (base := w1.heap.size) (World.ownsRow_lit w1 #[.int .u32 101, .int .u32 772, .int .u32 768] 3 (Nat.le_refl _) (by unfold maxLen; omega) rfl)) (by decide)
  rw [decide_eq_true rfl] at hs
  refine hs.mono ?_
  rintro e w2 ⟨rfl, g2'⟩
  have g2 := (g1.trans (Gr.alloc _ _)).trans g2'
  clear hs hv g2' g1
  go_wp2_with fail
  refine (H1.out _ g2).mono ?_
  rintro e w3 ⟨rfl, g3'⟩
  have g3 := g2.trans g3'
  clear g2 g3'
  go_wp2_with fail
  refine (H2.out _ g3).mono ?_
  rintro e w4 ⟨rfl, g4'⟩
  have g4 := g3.trans g4'
  clear g3 g4'
  go_wp2
  go_ret
  exact ⟨rfl, g4⟩
end Go.Proofs.YtknlnllmoilglaaDoor
