import Derived.Test.YtknlnllmoilglaaDoorRef7
/- What the tables tell of some characters; the walk of gessolaw03.awake. -/
namespace Go.Proofs.YtknlnllmoilglaaDoor
open Go.RowKit

theorem awake3_facts : dfind 233 = some (233, 101, 769, true) ∧ pfind 101 769 = some (101, 769, 233) ∧ cls 769 = 230 ∧ quick 2392 = 1 ∧ starts 2494 = false ∧ starts 65 = true := by decide +kernel

set_option maxHeartbeats 2000000 in
theorem awake3_any (w : World) (ht : Tz w) : Calls Tryd.prog 22 #[] w fun e w' => e = .returned (.bool true) ∧ Gr w w' := by
  obtain ⟨f1, f2, f3, f4, f5, f6⟩ := awake3_facts
  have d1 := fun w' (g : Gr w w') => decomp_yes 233 (by omega) w' (ht.gr g) _ f1
  have p1 := fun w' (g : Gr w w') => pair_yes 101 769 (by omega) (by omega) w' (ht.gr g) _ f2
  have c1 := fun w' (g : Gr w w') => class_any 769 (by omega) w' (ht.gr g)
  have q1 := fun w' (g : Gr w w') => quick_any 2392 (by omega) w' (ht.gr g)
  have s1 := fun w' (g : Gr w w') => starts_any 2494 (by omega) w' (ht.gr g)
  have s2 := fun w' (g : Gr w w') => starts_any 65 (by omega) w' (ht.gr g)
  rw [f3] at c1
  rw [f4] at q1
  rw [f5] at s1
  rw [f6] at s2
  have D1 := hid d1
  have P1 := hid p1
  have C1 := hid c1
  have Q1 := hid q1
  have S1 := hid s1
  have S2 := hid s2
  clear d1 p1 c1 q1 s1 s2 f1 f2 f3 f4 f5 f6
  go_enter Tryd.func22, Tryd.ntmps22
  go_wp2_with fail
  refine (D1.out _ (Gr.refl _)).mono ?_
  rintro e w1 ⟨rfl, g1⟩
  go_wp2_with fail
  refine (P1.out _ g1).mono ?_
  rintro e w2 ⟨rfl, g2'⟩
  have g2 := g1.trans g2'
  clear g1 g2'
  go_wp2_with fail
  refine (C1.out _ g2).mono ?_
  rintro e w3 ⟨rfl, g3'⟩
  have g3 := g2.trans g3'
  clear g2 g3'
  go_wp2_with fail
  refine (Q1.out _ g3).mono ?_
  rintro e w4 ⟨rfl, g4'⟩
  have g4 := g3.trans g4'
  clear g3 g4'
  go_wp2_with fail
  refine (S1.out _ g4).mono ?_
  rintro e w5 ⟨rfl, g5'⟩
  have g5 := g4.trans g5'
  clear g4 g5'
  go_wp2_with fail
  refine (S2.out _ g5).mono ?_
  rintro e w6 ⟨rfl, g6'⟩
  have g6 := g5.trans g6'
  clear g5 g6'
  go_wp2
  go_ret
  exact ⟨rfl, g6⟩
end Go.Proofs.YtknlnllmoilglaaDoor
