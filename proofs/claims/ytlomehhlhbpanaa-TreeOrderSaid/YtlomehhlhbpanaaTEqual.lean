import Derived.Test.YtlomehhlhbpanaaT0
namespace Go.Proofs.Ytlomehhlhbpanaa.Prt
open Go.RowKit Go.Proofs.YtlomehhlhbpanaaW.PrintWords Go.Proofs.YtlomehhlhbpanaaW.PrintLast Go.Proofs.YtlomehhlhbpanaaW.PrintMore
attribute [local go_sem] max2_int min2_int max_two min_two max_three min_three max_four min_four   -- for this text's walks alone
set_option linter.unusedVariables false
set_option linter.unusedSimpArgs false

/-! ### gessoref14_Equal: function 18 -/
def gessoref14_Equal.l0 : Nat → List (S41) → List (S41) → Int → Option (Bool)
  | 0, _, _, _ => none
  | k + 1, x0, x1, x5 => if x5 < (x0.length : Int) then (if 0 ≤ x5 then (if x5 < (x1.length : Int) then (if ((rd_T41 x0 x5).f0) = ((rd_T41 x1 x5).f0) then (if ((rd_T41 x0 x5).f1).toList = ((rd_T41 x1 x5).f1).toList then (if (((rd_T41 x0 x5).f2) != ((rd_T41 x1 x5).f2)) = true then (some false) else (if (strOfNums ((rd_T41 x0 x5).f3)).toList = (strOfNums ((rd_T41 x1 x5).f3)).toList then (gessoref14_Equal.l0 k x0 x1 (wrap64 (x5 + 1))) else (some false))) else (some false)) else (some false)) else (none)) else (none)) else (some true)
def gessoref14_Equal.f (k : Nat) (l0 : List (S41)) (l1 : List (S41)) : Option (Bool) := if (l0.length : Int) = (l1.length : Int) then (gessoref14_Equal.l0 k l0 l1 0) else (some false)
theorem gessoref14_Equal.mono_l : ∀ k, (∀ y0 y1 y2, LeO (gessoref14_Equal.l0 k y0 y1 y2) (gessoref14_Equal.l0 (k + 1) y0 y1 y2))
  | 0 => fun _ _ _ r h => by simp [gessoref14_Equal.l0] at h
  | k + 1 => by
    have ih0 := gessoref14_Equal.mono_l k
    · intro y0 y1 y2
      unfold gessoref14_Equal.l0
      repeat' first
      | (with_reducible exact ih0 _ _ _)
      | (with_reducible exact LeO.refl _)
      | (with_reducible exact LeO.none _)
      | (with_reducible refine LeO.ite ?_ ?_)
      | (with_reducible refine LeO.bind ?_ (fun _ => ?_))
      | exact ih0 _ _ _
      | exact LeO.none _
      | refine LeO.ite ?_ ?_
      | refine LeO.bind ?_ (fun _ => ?_)
theorem gessoref14_Equal.mono : ∀ a0 a1 k, LeO (gessoref14_Equal.f k a0 a1) (gessoref14_Equal.f (k + 1) a0 a1) := by
  intro a0 a1 k
  have ih0 := gessoref14_Equal.mono_l k
  unfold gessoref14_Equal.f
  repeat' first
      | (with_reducible exact ih0 _ _ _)
      | (with_reducible exact LeO.refl _)
      | (with_reducible exact LeO.none _)
      | (with_reducible refine LeO.ite ?_ ?_)
      | (with_reducible refine LeO.bind ?_ (fun _ => ?_))
      | exact ih0 _ _ _
      | exact LeO.none _
      | refine LeO.ite ?_ ?_
      | refine LeO.bind ?_ (fun _ => ?_)
set_option maxHeartbeats 8000000 in
set_option maxRecDepth 100000 in
theorem gessoref14_Equal.calls (k : Nat) (A0 : Option Addr) (c0 : Nat) (l0 : List (S41)) (A1 : Option Addr) (c1 : Nat) (l1 : List (S41)) (r : Bool) (w : World) (hr0 : Kd.C k41 w A0 l0.length l0) (hc0 : l0.length ≤ c0) (hr1 : Kd.C k41 w A1 l1.length l1) (hc1 : l1.length ≤ c1) (h : gessoref14_Equal.f k l0 l1 = some r) :
    Calls Try.prog 18 #[.slice A0 l0.length c0, .slice A1 l1.length c1] w fun e w' => e = .returned (.bool r) ∧ Drawn0 w w' := by
  have HR0 := Aside0.mk hr0
  have HC0 := Aside0.mk hc0
  clear hr0 hc0
  have HR1 := Aside0.mk hr1
  have HC1 := Aside0.mk hc1
  clear hr1 hc1
  have H : (if (l0.length : Int) = (l1.length : Int) then (gessoref14_Equal.l0 k l0 l1 0) else (some false)) = some r := h
  clear h
  by_cases c3 : (l0.length : Int) = (l1.length : Int)
  · rw [if_pos c3] at H
    have c3b0 : ((l0.length : Int) == (l1.length : Int)) = true := beq_iff_eq.mpr c3
    have c3b1 : ((l0.length : Int) != (l1.length : Int)) = false := bne_eq_false_iff_eq.mpr c3
    have c3b2 : (l0.length == l1.length) = true := by first | simpa using c3 | (simp at c3 ⊢; omega)
    clear c3
    have H' := Aside0.mk H
    clear H
    go_enter Try.func18, Try.ntmps18
    go_wp2
    repeat (go_quiet (fail); try go_wp2)
    go_loopg [5] k (fun kq v5 w' => ∃ (x5_1 : Int), v5 = .int .i64 x5_1 ∧ Aside0 (gessoref14_Equal.l0 kq l0 l1 x5_1 = some r) ∧ Aside0 (kq ≤ k) ∧ Drawn0 w w')
    case atStart => exact ⟨(0), (by first | rfl | (simp; done) | (simp [*]; done)), H', ⟨Nat.le_refl _⟩, by repeat (first | exact Drawn0.refl _ | apply Drawn0.step)⟩
    case round =>
      clear H'
      try clear c1
      try clear p2
      try clear c3
      try clear c3b0
      try clear c3b1
      try clear c3b2
      obtain ⟨x5_1, rfl, HA, HK1, ⟨m1, rfl⟩⟩ := hrel
      cases gk with
      | zero => exact absurd HA.out (by simp [gessoref14_Equal.l0])
      | succ k1 =>
        have H := HA.out
        clear HA
        simp only [gessoref14_Equal.l0] at H
        by_cases c4 : x5_1 < (l0.length : Int)
        · rw [if_pos c4] at H
          have c4b0 : decide (x5_1 < (l0.length : Int)) = true := decide_eq_true c4
          clear c4
          by_cases c5 : 0 ≤ x5_1
          · rw [if_pos c5] at H
            have c5b0 : decide (0 ≤ x5_1) = true := decide_eq_true c5
            clear c5
            by_cases c6 : x5_1 < (l1.length : Int)
            · rw [if_pos c6] at H
              have c6b0 : decide (x5_1 < (l1.length : Int)) = true := decide_eq_true c6
              clear c6
              by_cases c7 : ((rd_T41 l0 x5_1).f0) = ((rd_T41 l1 x5_1).f0)
              · rw [if_pos c7] at H
                have c7b0 : (((rd_T41 l0 x5_1).f0) == ((rd_T41 l1 x5_1).f0)) = true := beq_iff_eq.mpr c7
                have c7b1 : (((rd_T41 l0 x5_1).f0) != ((rd_T41 l1 x5_1).f0)) = false := bne_eq_false_iff_eq.mpr c7
                clear c7
                by_cases c8 : ((rd_T41 l0 x5_1).f1).toList = ((rd_T41 l1 x5_1).f1).toList
                · rw [if_pos c8] at H
                  have c8b0 : (((rd_T41 l0 x5_1).f1).toList == ((rd_T41 l1 x5_1).f1).toList) = true := beq_iff_eq.mpr c8
                  have c8b1 : (((rd_T41 l0 x5_1).f1).toList != ((rd_T41 l1 x5_1).f1).toList) = false := bne_eq_false_iff_eq.mpr c8
                  clear c8
                  by_cases c9 : (((rd_T41 l0 x5_1).f2) != ((rd_T41 l1 x5_1).f2)) = true
                  · rw [if_pos c9] at H
                    have c9b0 : (((rd_T41 l0 x5_1).f2) != ((rd_T41 l1 x5_1).f2)) = true := c9
                    (try (have c9b1 : decide (((rd_T41 l0 x5_1).f2) = ((rd_T41 l1 x5_1).f2)) = false := by simpa using c9))
                    (try (have c9b2 : (((rd_T41 l0 x5_1).f2) == ((rd_T41 l1 x5_1).f2)) = false := by simpa using c9))
                    (try (have c9b3 : ¬ (((rd_T41 l0 x5_1).f2) = ((rd_T41 l1 x5_1).f2)) := by simpa using c9))
                    clear c9
                    obtain rfl := Option.some.inj H
                    have p132 : 0 ≤ (x5_1 : Int) := of_decide_eq_true (by first | (with_reducible assumption) | assumption)
                    have q132 : x5_1 < (l0.length : Int) := of_decide_eq_true (by first | (with_reducible assumption) | assumption)
                    obtain ⟨ad132, A132_3, c132_3, e132, hx132_0, hx132_1, hx132_2, hx132_3, hl132_3, hi132_3⟩ := at_T41 HR0.out x5_1 p132 q132
                    cases e132
                    have HR132_3 := Aside0.mk hi132_3
                    have HC132_3 := Aside0.mk hl132_3
                    clear hi132_3 hl132_3
                    replace p132 := eq_true p132
                    replace q132 := eq_true q132
                    have p133 : 0 ≤ (x5_1 : Int) := of_decide_eq_true (by first | (with_reducible assumption) | assumption)
                    have q133 : x5_1 < (l1.length : Int) := of_decide_eq_true (by first | (with_reducible assumption) | assumption)
                    obtain ⟨ad133, A133_3, c133_3, e133, hx133_0, hx133_1, hx133_2, hx133_3, hl133_3, hi133_3⟩ := at_T41 HR1.out x5_1 p133 q133
                    cases e133
                    have HR133_3 := Aside0.mk hi133_3
                    have HC133_3 := Aside0.mk hl133_3
                    clear hi133_3 hl133_3
                    replace p133 := eq_true p133
                    replace q133 := eq_true q133
                    have p134 : 0 ≤ (x5_1 : Int) := of_decide_eq_true (by first | (with_reducible assumption) | assumption)
                    have q134 : x5_1 < (l0.length : Int) := of_decide_eq_true (by first | (with_reducible assumption) | assumption)
                    obtain ⟨ad134, A134_3, c134_3, e134, hx134_0, hx134_1, hx134_2, hx134_3, hl134_3, hi134_3⟩ := at_T41 HR0.out x5_1 p134 q134
                    obtain rfl : ad132 = ad134 := (by injection e134)
                    have HR134_3 := Aside0.mk hi134_3
                    have HC134_3 := Aside0.mk hl134_3
                    clear hi134_3 hl134_3
                    replace p134 := eq_true p134
                    replace q134 := eq_true q134
                    have ea_ := Option.some.inj (hx132_3.symm.trans hx134_3)
                    injection ea_ with ea_ en_ ec_
                    subst ea_
                    subst ec_
                    clear en_
                    have p135 : 0 ≤ (x5_1 : Int) := of_decide_eq_true (by first | (with_reducible assumption) | assumption)
                    have q135 : x5_1 < (l1.length : Int) := of_decide_eq_true (by first | (with_reducible assumption) | assumption)
                    obtain ⟨ad135, A135_3, c135_3, e135, hx135_0, hx135_1, hx135_2, hx135_3, hl135_3, hi135_3⟩ := at_T41 HR1.out x5_1 p135 q135
                    obtain rfl : ad133 = ad135 := (by injection e135)
                    have HR135_3 := Aside0.mk hi135_3
                    have HC135_3 := Aside0.mk hl135_3
                    clear hi135_3 hl135_3
                    replace p135 := eq_true p135
                    replace q135 := eq_true q135
                    have ea_ := Option.some.inj (hx133_3.symm.trans hx135_3)
                    injection ea_ with ea_ en_ ec_
                    subst ea_
                    subst ec_
                    clear en_
                    have p136 : 0 ≤ (x5_1 : Int) := of_decide_eq_true (by first | (with_reducible assumption) | assumption)
                    have q136 : x5_1 < (l0.length : Int) := of_decide_eq_true (by first | (with_reducible assumption) | assumption)
                    obtain ⟨ad136, A136_3, c136_3, e136, hx136_0, hx136_1, hx136_2, hx136_3, hl136_3, hi136_3⟩ := at_T41 HR0.out x5_1 p136 q136
                    obtain rfl : ad132 = ad136 := (by injection e136)
                    have HR136_3 := Aside0.mk hi136_3
                    have HC136_3 := Aside0.mk hl136_3
                    clear hi136_3 hl136_3
                    replace p136 := eq_true p136
                    replace q136 := eq_true q136
                    have ea_ := Option.some.inj (hx132_3.symm.trans hx136_3)
                    injection ea_ with ea_ en_ ec_
                    subst ea_
                    subst ec_
                    clear en_
                    have p137 : 0 ≤ (x5_1 : Int) := of_decide_eq_true (by first | (with_reducible assumption) | assumption)
                    have q137 : x5_1 < (l1.length : Int) := of_decide_eq_true (by first | (with_reducible assumption) | assumption)
                    obtain ⟨ad137, A137_3, c137_3, e137, hx137_0, hx137_1, hx137_2, hx137_3, hl137_3, hi137_3⟩ := at_T41 HR1.out x5_1 p137 q137
                    obtain rfl : ad133 = ad137 := (by injection e137)
                    have HR137_3 := Aside0.mk hi137_3
                    have HC137_3 := Aside0.mk hl137_3
                    clear hi137_3 hl137_3
                    replace p137 := eq_true p137
                    replace q137 := eq_true q137
                    have ea_ := Option.some.inj (hx133_3.symm.trans hx137_3)
                    injection ea_ with ea_ en_ ec_
                    subst ea_
                    subst ec_
                    clear en_
                    go_wp2
                    repeat (go_quiet (fail); try go_wp2)
                    go_ret
                    exact ⟨by first | rfl | (simp; done) | (simp [*]; done), by repeat (first | exact Drawn0.refl _ | apply Drawn0.step)⟩
                  · rw [if_neg c9] at H
                    have c9b0 : (((rd_T41 l0 x5_1).f2) != ((rd_T41 l1 x5_1).f2)) = false := by simpa using c9
                    (try (have c9b1 : decide (((rd_T41 l0 x5_1).f2) = ((rd_T41 l1 x5_1).f2)) = true := by simpa using c9))
                    (try (have c9b2 : (((rd_T41 l0 x5_1).f2) == ((rd_T41 l1 x5_1).f2)) = true := by simpa using c9))
                    clear c9
                    by_cases c10 : (strOfNums ((rd_T41 l0 x5_1).f3)).toList = (strOfNums ((rd_T41 l1 x5_1).f3)).toList
                    · rw [if_pos c10] at H
                      have c10b0 : ((strOfNums ((rd_T41 l0 x5_1).f3)).toList == (strOfNums ((rd_T41 l1 x5_1).f3)).toList) = true := beq_iff_eq.mpr c10
                      have c10b1 : ((strOfNums ((rd_T41 l0 x5_1).f3)).toList != (strOfNums ((rd_T41 l1 x5_1).f3)).toList) = false := bne_eq_false_iff_eq.mpr c10
                      clear c10
                      have H' := Aside0.mk H
                      clear H
                      have p132 : 0 ≤ (x5_1 : Int) := of_decide_eq_true (by first | (with_reducible assumption) | assumption)
                      have q132 : x5_1 < (l0.length : Int) := of_decide_eq_true (by first | (with_reducible assumption) | assumption)
                      obtain ⟨ad132, A132_3, c132_3, e132, hx132_0, hx132_1, hx132_2, hx132_3, hl132_3, hi132_3⟩ := at_T41 HR0.out x5_1 p132 q132
                      cases e132
                      have HR132_3 := Aside0.mk hi132_3
                      have HC132_3 := Aside0.mk hl132_3
                      clear hi132_3 hl132_3
                      replace p132 := eq_true p132
                      replace q132 := eq_true q132
                      have p133 : 0 ≤ (x5_1 : Int) := of_decide_eq_true (by first | (with_reducible assumption) | assumption)
                      have q133 : x5_1 < (l1.length : Int) := of_decide_eq_true (by first | (with_reducible assumption) | assumption)
                      obtain ⟨ad133, A133_3, c133_3, e133, hx133_0, hx133_1, hx133_2, hx133_3, hl133_3, hi133_3⟩ := at_T41 HR1.out x5_1 p133 q133
                      cases e133
                      have HR133_3 := Aside0.mk hi133_3
                      have HC133_3 := Aside0.mk hl133_3
                      clear hi133_3 hl133_3
                      replace p133 := eq_true p133
                      replace q133 := eq_true q133
                      have p134 : 0 ≤ (x5_1 : Int) := of_decide_eq_true (by first | (with_reducible assumption) | assumption)
                      have q134 : x5_1 < (l0.length : Int) := of_decide_eq_true (by first | (with_reducible assumption) | assumption)
                      obtain ⟨ad134, A134_3, c134_3, e134, hx134_0, hx134_1, hx134_2, hx134_3, hl134_3, hi134_3⟩ := at_T41 HR0.out x5_1 p134 q134
                      obtain rfl : ad132 = ad134 := (by injection e134)
                      have HR134_3 := Aside0.mk hi134_3
                      have HC134_3 := Aside0.mk hl134_3
                      clear hi134_3 hl134_3
                      replace p134 := eq_true p134
                      replace q134 := eq_true q134
                      have ea_ := Option.some.inj (hx132_3.symm.trans hx134_3)
                      injection ea_ with ea_ en_ ec_
                      subst ea_
                      subst ec_
                      clear en_
                      have p135 : 0 ≤ (x5_1 : Int) := of_decide_eq_true (by first | (with_reducible assumption) | assumption)
                      have q135 : x5_1 < (l1.length : Int) := of_decide_eq_true (by first | (with_reducible assumption) | assumption)
                      obtain ⟨ad135, A135_3, c135_3, e135, hx135_0, hx135_1, hx135_2, hx135_3, hl135_3, hi135_3⟩ := at_T41 HR1.out x5_1 p135 q135
                      obtain rfl : ad133 = ad135 := (by injection e135)
                      have HR135_3 := Aside0.mk hi135_3
                      have HC135_3 := Aside0.mk hl135_3
                      clear hi135_3 hl135_3
                      replace p135 := eq_true p135
                      replace q135 := eq_true q135
                      have ea_ := Option.some.inj (hx133_3.symm.trans hx135_3)
                      injection ea_ with ea_ en_ ec_
                      subst ea_
                      subst ec_
                      clear en_
                      have p136 : 0 ≤ (x5_1 : Int) := of_decide_eq_true (by first | (with_reducible assumption) | assumption)
                      have q136 : x5_1 < (l0.length : Int) := of_decide_eq_true (by first | (with_reducible assumption) | assumption)
                      obtain ⟨ad136, A136_3, c136_3, e136, hx136_0, hx136_1, hx136_2, hx136_3, hl136_3, hi136_3⟩ := at_T41 HR0.out x5_1 p136 q136
                      obtain rfl : ad132 = ad136 := (by injection e136)
                      have HR136_3 := Aside0.mk hi136_3
                      have HC136_3 := Aside0.mk hl136_3
                      clear hi136_3 hl136_3
                      replace p136 := eq_true p136
                      replace q136 := eq_true q136
                      have ea_ := Option.some.inj (hx132_3.symm.trans hx136_3)
                      injection ea_ with ea_ en_ ec_
                      subst ea_
                      subst ec_
                      clear en_
                      have p137 : 0 ≤ (x5_1 : Int) := of_decide_eq_true (by first | (with_reducible assumption) | assumption)
                      have q137 : x5_1 < (l1.length : Int) := of_decide_eq_true (by first | (with_reducible assumption) | assumption)
                      obtain ⟨ad137, A137_3, c137_3, e137, hx137_0, hx137_1, hx137_2, hx137_3, hl137_3, hi137_3⟩ := at_T41 HR1.out x5_1 p137 q137
                      obtain rfl : ad133 = ad137 := (by injection e137)
                      have HR137_3 := Aside0.mk hi137_3
                      have HC137_3 := Aside0.mk hl137_3
                      clear hi137_3 hl137_3
                      replace p137 := eq_true p137
                      replace q137 := eq_true q137
                      have ea_ := Option.some.inj (hx133_3.symm.trans hx137_3)
                      injection ea_ with ea_ en_ ec_
                      subst ea_
                      subst ec_
                      clear en_
                      have p138 : 0 ≤ (x5_1 : Int) := of_decide_eq_true (by first | (with_reducible assumption) | assumption)
                      have q138 : x5_1 < (l0.length : Int) := of_decide_eq_true (by first | (with_reducible assumption) | assumption)
                      obtain ⟨ad138, A138_3, c138_3, e138, hx138_0, hx138_1, hx138_2, hx138_3, hl138_3, hi138_3⟩ := at_T41 HR0.out x5_1 p138 q138
                      obtain rfl : ad132 = ad138 := (by injection e138)
                      have HR138_3 := Aside0.mk hi138_3
                      have HC138_3 := Aside0.mk hl138_3
                      clear hi138_3 hl138_3
                      replace p138 := eq_true p138
                      replace q138 := eq_true q138
                      have ea_ := Option.some.inj (hx132_3.symm.trans hx138_3)
                      injection ea_ with ea_ en_ ec_
                      subst ea_
                      subst ec_
                      clear en_
                      have hcv11 := fun m => Kd.C_string (P := Try.prog) (w := w.drewN m) (A := A132_3) (c := c132_3) Try.underlying39 Try.underlying5 Try.underlying9 (Kd.C_below HR138_3.out (Drawn0.below ⟨⟨_, rfl⟩⟩))
                      have hcv11b := fun m n => Kd.C_string (P := Try.prog) (w := (w.drewN m).drewN n) (A := A132_3) (c := c132_3) Try.underlying39 Try.underlying5 Try.underlying9 (Kd.C_below (Kd.C_below HR138_3.out (Drawn0.below ⟨⟨m, rfl⟩⟩)) (Drawn0.below (w := w.drewN m) ⟨⟨n, rfl⟩⟩))
                      have p139 : 0 ≤ (x5_1 : Int) := of_decide_eq_true (by first | (with_reducible assumption) | assumption)
                      have q139 : x5_1 < (l1.length : Int) := of_decide_eq_true (by first | (with_reducible assumption) | assumption)
                      obtain ⟨ad139, A139_3, c139_3, e139, hx139_0, hx139_1, hx139_2, hx139_3, hl139_3, hi139_3⟩ := at_T41 HR1.out x5_1 p139 q139
                      obtain rfl : ad133 = ad139 := (by injection e139)
                      have HR139_3 := Aside0.mk hi139_3
                      have HC139_3 := Aside0.mk hl139_3
                      clear hi139_3 hl139_3
                      replace p139 := eq_true p139
                      replace q139 := eq_true q139
                      have ea_ := Option.some.inj (hx133_3.symm.trans hx139_3)
                      injection ea_ with ea_ en_ ec_
                      subst ea_
                      subst ec_
                      clear en_
                      have hcv12 := fun m => Kd.C_string (P := Try.prog) (w := w.drewN m) (A := A133_3) (c := c133_3) Try.underlying39 Try.underlying5 Try.underlying9 (Kd.C_below HR139_3.out (Drawn0.below ⟨⟨_, rfl⟩⟩))
                      have hcv12b := fun m n => Kd.C_string (P := Try.prog) (w := (w.drewN m).drewN n) (A := A133_3) (c := c133_3) Try.underlying39 Try.underlying5 Try.underlying9 (Kd.C_below (Kd.C_below HR139_3.out (Drawn0.below ⟨⟨m, rfl⟩⟩)) (Drawn0.below (w := w.drewN m) ⟨⟨n, rfl⟩⟩))
                      go_wp2
                      repeat (go_quiet (fail); try go_wp2)
                      go_roundg k1
                      case measure => have := HK1.out; omega
                      case rel => exact ⟨(wrap64 (x5_1 + 1)), (by first | rfl | (simp; done) | (simp [*]; done)), H', ⟨by have := HK1.out; omega⟩, by repeat (first | exact Drawn0.refl _ | apply Drawn0.step)⟩
                    · rw [if_neg c10] at H
                      have c10b0 : ((strOfNums ((rd_T41 l0 x5_1).f3)).toList == (strOfNums ((rd_T41 l1 x5_1).f3)).toList) = false := beq_eq_false_iff_ne.mpr c10
                      have c10b1 : ((strOfNums ((rd_T41 l0 x5_1).f3)).toList != (strOfNums ((rd_T41 l1 x5_1).f3)).toList) = true := bne_iff_ne.mpr c10
                      obtain rfl := Option.some.inj H
                      have p132 : 0 ≤ (x5_1 : Int) := of_decide_eq_true (by first | (with_reducible assumption) | assumption)
                      have q132 : x5_1 < (l0.length : Int) := of_decide_eq_true (by first | (with_reducible assumption) | assumption)
                      obtain ⟨ad132, A132_3, c132_3, e132, hx132_0, hx132_1, hx132_2, hx132_3, hl132_3, hi132_3⟩ := at_T41 HR0.out x5_1 p132 q132
                      cases e132
                      have HR132_3 := Aside0.mk hi132_3
                      have HC132_3 := Aside0.mk hl132_3
                      clear hi132_3 hl132_3
                      replace p132 := eq_true p132
                      replace q132 := eq_true q132
                      have p133 : 0 ≤ (x5_1 : Int) := of_decide_eq_true (by first | (with_reducible assumption) | assumption)
                      have q133 : x5_1 < (l1.length : Int) := of_decide_eq_true (by first | (with_reducible assumption) | assumption)
                      obtain ⟨ad133, A133_3, c133_3, e133, hx133_0, hx133_1, hx133_2, hx133_3, hl133_3, hi133_3⟩ := at_T41 HR1.out x5_1 p133 q133
                      cases e133
                      have HR133_3 := Aside0.mk hi133_3
                      have HC133_3 := Aside0.mk hl133_3
                      clear hi133_3 hl133_3
                      replace p133 := eq_true p133
                      replace q133 := eq_true q133
                      have p134 : 0 ≤ (x5_1 : Int) := of_decide_eq_true (by first | (with_reducible assumption) | assumption)
                      have q134 : x5_1 < (l0.length : Int) := of_decide_eq_true (by first | (with_reducible assumption) | assumption)
                      obtain ⟨ad134, A134_3, c134_3, e134, hx134_0, hx134_1, hx134_2, hx134_3, hl134_3, hi134_3⟩ := at_T41 HR0.out x5_1 p134 q134
                      obtain rfl : ad132 = ad134 := (by injection e134)
                      have HR134_3 := Aside0.mk hi134_3
                      have HC134_3 := Aside0.mk hl134_3
                      clear hi134_3 hl134_3
                      replace p134 := eq_true p134
                      replace q134 := eq_true q134
                      have ea_ := Option.some.inj (hx132_3.symm.trans hx134_3)
                      injection ea_ with ea_ en_ ec_
                      subst ea_
                      subst ec_
                      clear en_
                      have p135 : 0 ≤ (x5_1 : Int) := of_decide_eq_true (by first | (with_reducible assumption) | assumption)
                      have q135 : x5_1 < (l1.length : Int) := of_decide_eq_true (by first | (with_reducible assumption) | assumption)
                      obtain ⟨ad135, A135_3, c135_3, e135, hx135_0, hx135_1, hx135_2, hx135_3, hl135_3, hi135_3⟩ := at_T41 HR1.out x5_1 p135 q135
                      obtain rfl : ad133 = ad135 := (by injection e135)
                      have HR135_3 := Aside0.mk hi135_3
                      have HC135_3 := Aside0.mk hl135_3
                      clear hi135_3 hl135_3
                      replace p135 := eq_true p135
                      replace q135 := eq_true q135
                      have ea_ := Option.some.inj (hx133_3.symm.trans hx135_3)
                      injection ea_ with ea_ en_ ec_
                      subst ea_
                      subst ec_
                      clear en_
                      have p136 : 0 ≤ (x5_1 : Int) := of_decide_eq_true (by first | (with_reducible assumption) | assumption)
                      have q136 : x5_1 < (l0.length : Int) := of_decide_eq_true (by first | (with_reducible assumption) | assumption)
                      obtain ⟨ad136, A136_3, c136_3, e136, hx136_0, hx136_1, hx136_2, hx136_3, hl136_3, hi136_3⟩ := at_T41 HR0.out x5_1 p136 q136
                      obtain rfl : ad132 = ad136 := (by injection e136)
                      have HR136_3 := Aside0.mk hi136_3
                      have HC136_3 := Aside0.mk hl136_3
                      clear hi136_3 hl136_3
                      replace p136 := eq_true p136
                      replace q136 := eq_true q136
                      have ea_ := Option.some.inj (hx132_3.symm.trans hx136_3)
                      injection ea_ with ea_ en_ ec_
                      subst ea_
                      subst ec_
                      clear en_
                      have p137 : 0 ≤ (x5_1 : Int) := of_decide_eq_true (by first | (with_reducible assumption) | assumption)
                      have q137 : x5_1 < (l1.length : Int) := of_decide_eq_true (by first | (with_reducible assumption) | assumption)
                      obtain ⟨ad137, A137_3, c137_3, e137, hx137_0, hx137_1, hx137_2, hx137_3, hl137_3, hi137_3⟩ := at_T41 HR1.out x5_1 p137 q137
                      obtain rfl : ad133 = ad137 := (by injection e137)
                      have HR137_3 := Aside0.mk hi137_3
                      have HC137_3 := Aside0.mk hl137_3
                      clear hi137_3 hl137_3
                      replace p137 := eq_true p137
                      replace q137 := eq_true q137
                      have ea_ := Option.some.inj (hx133_3.symm.trans hx137_3)
                      injection ea_ with ea_ en_ ec_
                      subst ea_
                      subst ec_
                      clear en_
                      have p138 : 0 ≤ (x5_1 : Int) := of_decide_eq_true (by first | (with_reducible assumption) | assumption)
                      have q138 : x5_1 < (l0.length : Int) := of_decide_eq_true (by first | (with_reducible assumption) | assumption)
                      obtain ⟨ad138, A138_3, c138_3, e138, hx138_0, hx138_1, hx138_2, hx138_3, hl138_3, hi138_3⟩ := at_T41 HR0.out x5_1 p138 q138
                      obtain rfl : ad132 = ad138 := (by injection e138)
                      have HR138_3 := Aside0.mk hi138_3
                      have HC138_3 := Aside0.mk hl138_3
                      clear hi138_3 hl138_3
                      replace p138 := eq_true p138
                      replace q138 := eq_true q138
                      have ea_ := Option.some.inj (hx132_3.symm.trans hx138_3)
                      injection ea_ with ea_ en_ ec_
                      subst ea_
                      subst ec_
                      clear en_
                      have hcv13 := fun m => Kd.C_string (P := Try.prog) (w := w.drewN m) (A := A132_3) (c := c132_3) Try.underlying39 Try.underlying5 Try.underlying9 (Kd.C_below HR138_3.out (Drawn0.below ⟨⟨_, rfl⟩⟩))
                      have hcv13b := fun m n => Kd.C_string (P := Try.prog) (w := (w.drewN m).drewN n) (A := A132_3) (c := c132_3) Try.underlying39 Try.underlying5 Try.underlying9 (Kd.C_below (Kd.C_below HR138_3.out (Drawn0.below ⟨⟨m, rfl⟩⟩)) (Drawn0.below (w := w.drewN m) ⟨⟨n, rfl⟩⟩))
                      have p139 : 0 ≤ (x5_1 : Int) := of_decide_eq_true (by first | (with_reducible assumption) | assumption)
                      have q139 : x5_1 < (l1.length : Int) := of_decide_eq_true (by first | (with_reducible assumption) | assumption)
                      obtain ⟨ad139, A139_3, c139_3, e139, hx139_0, hx139_1, hx139_2, hx139_3, hl139_3, hi139_3⟩ := at_T41 HR1.out x5_1 p139 q139
                      obtain rfl : ad133 = ad139 := (by injection e139)
                      have HR139_3 := Aside0.mk hi139_3
                      have HC139_3 := Aside0.mk hl139_3
                      clear hi139_3 hl139_3
                      replace p139 := eq_true p139
                      replace q139 := eq_true q139
                      have ea_ := Option.some.inj (hx133_3.symm.trans hx139_3)
                      injection ea_ with ea_ en_ ec_
                      subst ea_
                      subst ec_
                      clear en_
                      have hcv14 := fun m => Kd.C_string (P := Try.prog) (w := w.drewN m) (A := A133_3) (c := c133_3) Try.underlying39 Try.underlying5 Try.underlying9 (Kd.C_below HR139_3.out (Drawn0.below ⟨⟨_, rfl⟩⟩))
                      have hcv14b := fun m n => Kd.C_string (P := Try.prog) (w := (w.drewN m).drewN n) (A := A133_3) (c := c133_3) Try.underlying39 Try.underlying5 Try.underlying9 (Kd.C_below (Kd.C_below HR139_3.out (Drawn0.below ⟨⟨m, rfl⟩⟩)) (Drawn0.below (w := w.drewN m) ⟨⟨n, rfl⟩⟩))
                      go_wp2
                      repeat (go_quiet (fail); try go_wp2)
                      go_ret
                      exact ⟨by first | rfl | (simp; done) | (simp [*]; done), by repeat (first | exact Drawn0.refl _ | apply Drawn0.step)⟩
                · rw [if_neg c8] at H
                  have c8b0 : (((rd_T41 l0 x5_1).f1).toList == ((rd_T41 l1 x5_1).f1).toList) = false := beq_eq_false_iff_ne.mpr c8
                  have c8b1 : (((rd_T41 l0 x5_1).f1).toList != ((rd_T41 l1 x5_1).f1).toList) = true := bne_iff_ne.mpr c8
                  obtain rfl := Option.some.inj H
                  have p132 : 0 ≤ (x5_1 : Int) := of_decide_eq_true (by first | (with_reducible assumption) | assumption)
                  have q132 : x5_1 < (l0.length : Int) := of_decide_eq_true (by first | (with_reducible assumption) | assumption)
                  obtain ⟨ad132, A132_3, c132_3, e132, hx132_0, hx132_1, hx132_2, hx132_3, hl132_3, hi132_3⟩ := at_T41 HR0.out x5_1 p132 q132
                  cases e132
                  have HR132_3 := Aside0.mk hi132_3
                  have HC132_3 := Aside0.mk hl132_3
                  clear hi132_3 hl132_3
                  replace p132 := eq_true p132
                  replace q132 := eq_true q132
                  have p133 : 0 ≤ (x5_1 : Int) := of_decide_eq_true (by first | (with_reducible assumption) | assumption)
                  have q133 : x5_1 < (l1.length : Int) := of_decide_eq_true (by first | (with_reducible assumption) | assumption)
                  obtain ⟨ad133, A133_3, c133_3, e133, hx133_0, hx133_1, hx133_2, hx133_3, hl133_3, hi133_3⟩ := at_T41 HR1.out x5_1 p133 q133
                  cases e133
                  have HR133_3 := Aside0.mk hi133_3
                  have HC133_3 := Aside0.mk hl133_3
                  clear hi133_3 hl133_3
                  replace p133 := eq_true p133
                  replace q133 := eq_true q133
                  have p134 : 0 ≤ (x5_1 : Int) := of_decide_eq_true (by first | (with_reducible assumption) | assumption)
                  have q134 : x5_1 < (l0.length : Int) := of_decide_eq_true (by first | (with_reducible assumption) | assumption)
                  obtain ⟨ad134, A134_3, c134_3, e134, hx134_0, hx134_1, hx134_2, hx134_3, hl134_3, hi134_3⟩ := at_T41 HR0.out x5_1 p134 q134
                  obtain rfl : ad132 = ad134 := (by injection e134)
                  have HR134_3 := Aside0.mk hi134_3
                  have HC134_3 := Aside0.mk hl134_3
                  clear hi134_3 hl134_3
                  replace p134 := eq_true p134
                  replace q134 := eq_true q134
                  have ea_ := Option.some.inj (hx132_3.symm.trans hx134_3)
                  injection ea_ with ea_ en_ ec_
                  subst ea_
                  subst ec_
                  clear en_
                  have p135 : 0 ≤ (x5_1 : Int) := of_decide_eq_true (by first | (with_reducible assumption) | assumption)
                  have q135 : x5_1 < (l1.length : Int) := of_decide_eq_true (by first | (with_reducible assumption) | assumption)
                  obtain ⟨ad135, A135_3, c135_3, e135, hx135_0, hx135_1, hx135_2, hx135_3, hl135_3, hi135_3⟩ := at_T41 HR1.out x5_1 p135 q135
                  obtain rfl : ad133 = ad135 := (by injection e135)
                  have HR135_3 := Aside0.mk hi135_3
                  have HC135_3 := Aside0.mk hl135_3
                  clear hi135_3 hl135_3
                  replace p135 := eq_true p135
                  replace q135 := eq_true q135
                  have ea_ := Option.some.inj (hx133_3.symm.trans hx135_3)
                  injection ea_ with ea_ en_ ec_
                  subst ea_
                  subst ec_
                  clear en_
                  go_wp2
                  repeat (go_quiet (fail); try go_wp2)
                  go_ret
                  exact ⟨by first | rfl | (simp; done) | (simp [*]; done), by repeat (first | exact Drawn0.refl _ | apply Drawn0.step)⟩
              · rw [if_neg c7] at H
                have c7b0 : (((rd_T41 l0 x5_1).f0) == ((rd_T41 l1 x5_1).f0)) = false := beq_eq_false_iff_ne.mpr c7
                have c7b1 : (((rd_T41 l0 x5_1).f0) != ((rd_T41 l1 x5_1).f0)) = true := bne_iff_ne.mpr c7
                obtain rfl := Option.some.inj H
                have p132 : 0 ≤ (x5_1 : Int) := of_decide_eq_true (by first | (with_reducible assumption) | assumption)
                have q132 : x5_1 < (l0.length : Int) := of_decide_eq_true (by first | (with_reducible assumption) | assumption)
                obtain ⟨ad132, A132_3, c132_3, e132, hx132_0, hx132_1, hx132_2, hx132_3, hl132_3, hi132_3⟩ := at_T41 HR0.out x5_1 p132 q132
                cases e132
                have HR132_3 := Aside0.mk hi132_3
                have HC132_3 := Aside0.mk hl132_3
                clear hi132_3 hl132_3
                replace p132 := eq_true p132
                replace q132 := eq_true q132
                have p133 : 0 ≤ (x5_1 : Int) := of_decide_eq_true (by first | (with_reducible assumption) | assumption)
                have q133 : x5_1 < (l1.length : Int) := of_decide_eq_true (by first | (with_reducible assumption) | assumption)
                obtain ⟨ad133, A133_3, c133_3, e133, hx133_0, hx133_1, hx133_2, hx133_3, hl133_3, hi133_3⟩ := at_T41 HR1.out x5_1 p133 q133
                cases e133
                have HR133_3 := Aside0.mk hi133_3
                have HC133_3 := Aside0.mk hl133_3
                clear hi133_3 hl133_3
                replace p133 := eq_true p133
                replace q133 := eq_true q133
                go_wp2
                repeat (go_quiet (fail); try go_wp2)
                go_ret
                exact ⟨by first | rfl | (simp; done) | (simp [*]; done), by repeat (first | exact Drawn0.refl _ | apply Drawn0.step)⟩
            · rw [if_neg c6] at H
              exact absurd H (by simp)
          · rw [if_neg c5] at H
            exact absurd H (by simp)
        · rw [if_neg c4] at H
          have c4b0 : decide (x5_1 < (l0.length : Int)) = false := decide_eq_false c4
          clear c4
          obtain rfl := Option.some.inj H
          go_wp2
          repeat (go_quiet (fail); try go_wp2)
          go_ret
          exact ⟨by first | rfl | (simp; done) | (simp [*]; done), by repeat (first | exact Drawn0.refl _ | apply Drawn0.step)⟩
  · rw [if_neg c3] at H
    have c3b0 : ((l0.length : Int) == (l1.length : Int)) = false := beq_eq_false_iff_ne.mpr c3
    have c3b1 : ((l0.length : Int) != (l1.length : Int)) = true := bne_iff_ne.mpr c3
    have c3b2 : (l0.length == l1.length) = false := by first | simpa using c3 | (simp at c3 ⊢; omega)
    obtain rfl := Option.some.inj H
    go_enter Try.func18, Try.ntmps18
    go_wp2
    repeat (go_quiet (fail); try go_wp2)
    go_ret
    exact ⟨by first | rfl | (simp; done) | (simp [*]; done), by repeat (first | exact Drawn0.refl _ | apply Drawn0.step)⟩

end Go.Proofs.Ytlomehhlhbpanaa.Prt
