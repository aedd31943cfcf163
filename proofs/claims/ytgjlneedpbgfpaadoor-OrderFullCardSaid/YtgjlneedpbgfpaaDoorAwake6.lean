import Derived.Test.YtgjlneedpbgfpaaDoorOrdO
/- What is told of some marks: gessolaw06.awake. -/
namespace Go.Proofs.YtgjlneedpbgfpaaDoor
open Go.RowKit

theorem awake6_f : ordF [97, 769, 803] = [97, 803, 769] ∧ inOrd cls 0 [803, 65, 769] = true ∧ inOrd cls 0 [769, 803] = false := by decide +kernel
theorem small_of {l : List Nat} (h : l.all (fun x => Nat.blt x 4294967296) = true) : ∀ x ∈ l, x < 4294967296 := fun x hx => by
  have := List.all_eq_true.1 h x hx
  rwa [Nat.blt_eq] at this

set_option maxRecDepth 20000 in
set_option maxHeartbeats 4000000 in
theorem awake6_any (w : World) (ht : Tz w) : Calls Tryd.prog 33 #[] w fun e w' => e = .returned (.bool true) ∧ Gr w w' := by
  obtain ⟨f1, f2, f3⟩ := awake6_f
  have HO : Hid (Calls Tryd.prog 34 #[.slice (some ⟨w.heap.size, 0, none⟩) 3 3] (w.alloc (.cells #[.int .u32 97, .int .u32 769, .int .u32 803] 22)) (RowOf [97, 803, 769] (w.alloc (.cells #[.int .u32 97, .int .u32 769, .int .u32 803] 22)))) := by
    have := Order_any (.slice (some ⟨w.heap.size, 0, none⟩) 3 3) [97, 769, 803] (w.alloc (.cells #[.int .u32 97, .int .u32 769, .int .u32 803] 22)) (ht.gr (Gr.alloc _ _)) (Sl.of_row (base := w.heap.size) (World.ownsRow_lit w #[.int .u32 97, .int .u32 769, .int .u32 803] 3 (Nat.le_refl _) (by unfold maxLen; omega) rfl)) (small_of rfl) (by simp)
    rw [← ordF_eq, f1] at this
    exact this
  have H2 : Hid (∀ W, Tz W → Calls Tryd.prog 38 #[.slice (some ⟨W.heap.size, 0, none⟩) 3 3] (W.alloc (.cells #[.int .u32 803, .int .u32 65, .int .u32 769] 22)) fun e w' => e = .returned (.bool true) ∧ Gr (W.alloc (.cells #[.int .u32 803, .int .u32 65, .int .u32 769] 22)) w') := fun W t => by
    have := Is_any (.slice (some ⟨W.heap.size, 0, none⟩) 3 3) [803, 65, 769] (W.alloc (.cells #[.int .u32 803, .int .u32 65, .int .u32 769] 22)) (t.gr (Gr.alloc _ _)) (Sl.of_row (base := W.heap.size) (World.ownsRow_lit W #[.int .u32 803, .int .u32 65, .int .u32 769] 3 (Nat.le_refl _) (by unfold maxLen; omega) rfl)) (small_of rfl) (by simp)
    rw [f2] at this
    exact this
  have H3 : Hid (∀ W, Tz W → Calls Tryd.prog 38 #[.slice (some ⟨W.heap.size, 0, none⟩) 2 2] (W.alloc (.cells #[.int .u32 769, .int .u32 803] 22)) fun e w' => e = .returned (.bool false) ∧ Gr (W.alloc (.cells #[.int .u32 769, .int .u32 803] 22)) w') := fun W t => by
    have := Is_any (.slice (some ⟨W.heap.size, 0, none⟩) 2 2) [769, 803] (W.alloc (.cells #[.int .u32 769, .int .u32 803] 22)) (t.gr (Gr.alloc _ _)) (Sl.of_row (base := W.heap.size) (World.ownsRow_lit W #[.int .u32 769, .int .u32 803] 2 (Nat.le_refl _) (by unfold maxLen; omega) rfl)) (small_of rfl) (by simp)
    rw [f3] at this
    exact this
  clear f1 f2 f3
  go_enter Tryd.func33, Tryd.ntmps33
  go_wp2_with (first
    | (go_at_call 34; refine HO.out.mono ?_; rintro e w1 ⟨v, rfl, hv, g1'⟩; have g1 := (Gr.alloc w _).trans g1'; have HV := hid (Sl.of_row hv); clear hv)
    | (go_at_call 27; refine (same_any v (.slice (some ⟨w1.heap.size, 0, none⟩) 3 3) [97, 803, 769] [97, 803, 769] (w1.alloc (.cells #[.int .u32 97, .int .u32 803, .int .u32 769] 22)) (HV.out.gr (Gr.alloc _ _)) (Sl.of_row (base := w1.heap.size) (World.ownsRow_lit w1 #[.int .u32 97, .int .u32 803, .int .u32 769] 3 (Nat.le_refl _) (by unfold maxLen; omega) rfl)) (by simp)).mono ?_; rintro e w2 ⟨rfl, g2'⟩; have g2 := (g1.trans (Gr.alloc _ _)).trans g2')
    | (go_at_call 38; refine (H2.out w2 (ht.gr g2)).mono ?_; clear H2; rintro e w3 ⟨rfl, g3'⟩; have g3 := (g2.trans (Gr.alloc _ _)).trans g3')
    | (go_at_call 38; refine (H3.out w3 (ht.gr g3)).mono ?_; clear H3; rintro e w4 ⟨rfl, g4'⟩; have g4 := (g3.trans (Gr.alloc _ _)).trans g4'))
  go_ret
  exact ⟨rfl, g4⟩
end Go.Proofs.YtgjlneedpbgfpaaDoor
