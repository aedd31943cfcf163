import Derived.Test.YtlomehhlhbpanaaT0
namespace Go.Proofs.Ytlomehhlhbpanaa.Prt
open Go.RowKit Go.Proofs.YtlomehhlhbpanaaW.PrintWords Go.Proofs.YtlomehhlhbpanaaW.PrintLast Go.Proofs.YtlomehhlhbpanaaW.PrintMore
attribute [local go_sem] max2_int min2_int max_two min_two max_three min_three max_four min_four   -- for this text's walks alone
set_option linter.unusedVariables false
set_option linter.unusedSimpArgs false

/-! ### gessoref13_Name: function 41 -/
def gessoref13_Name.l0 : Nat → ByteArray → Int → Option (Bool)
  | 0, _, _ => none
  | k + 1, x0, x3 => if x3 < (x0.size : Int) then (if 0 ≤ x3 then (if (bt x0 x3) = 0 then (some false) else (if (bt x0 x3) = 47 then (some false) else (gessoref13_Name.l0 k x0 (wrap64 (x3 + 1))))) else (none)) else (if (x0.size : Int) ≥ 1 then (some (decide ((x0.size : Int) ≤ 64))) else (some false))
def gessoref13_Name.f (k : Nat) (a0 : ByteArray) : Option (Bool) := gessoref13_Name.l0 k a0 0
theorem gessoref13_Name.mono_l : ∀ k, (∀ y0 y1, LeO (gessoref13_Name.l0 k y0 y1) (gessoref13_Name.l0 (k + 1) y0 y1))
  | 0 => fun _ _ r h => by simp [gessoref13_Name.l0] at h
  | k + 1 => by
    have ih0 := gessoref13_Name.mono_l k
    · intro y0 y1
      unfold gessoref13_Name.l0
      repeat' first
      | (with_reducible exact ih0 _ _)
      | (with_reducible exact LeO.refl _)
      | (with_reducible exact LeO.none _)
      | (with_reducible refine LeO.ite ?_ ?_)
      | (with_reducible refine LeO.bind ?_ (fun _ => ?_))
      | exact ih0 _ _
      | exact LeO.none _
      | refine LeO.ite ?_ ?_
      | refine LeO.bind ?_ (fun _ => ?_)
theorem gessoref13_Name.mono : ∀ a0 k, LeO (gessoref13_Name.f k a0) (gessoref13_Name.f (k + 1) a0) := by
  intro a0 k
  have ih0 := gessoref13_Name.mono_l k
  unfold gessoref13_Name.f
  repeat' first
      | (with_reducible exact ih0 _ _)
      | (with_reducible exact LeO.refl _)
      | (with_reducible exact LeO.none _)
      | (with_reducible refine LeO.ite ?_ ?_)
      | (with_reducible refine LeO.bind ?_ (fun _ => ?_))
      | exact ih0 _ _
      | exact LeO.none _
      | refine LeO.ite ?_ ?_
      | refine LeO.bind ?_ (fun _ => ?_)
set_option maxHeartbeats 8000000 in
set_option maxRecDepth 100000 in
theorem gessoref13_Name.calls (k : Nat) (a0 : ByteArray) (r : Bool) (w : World) (h : gessoref13_Name.f k a0 = some r) :
    Calls Try.prog 41 #[.string a0] w fun e w' => e = .returned (.bool r) ∧ Drawn0 w w' := by
  have H : (gessoref13_Name.l0 k a0 0) = some r := h
  clear h
  have H' := Aside0.mk H
  clear H
  go_enter Try.func41, Try.ntmps41
  go_wp2
  go_loopg [3] k (fun kq v3 w' => ∃ (x3_1 : Int), v3 = .int .i64 x3_1 ∧ Aside0 (gessoref13_Name.l0 kq a0 x3_1 = some r) ∧ Aside0 (kq ≤ k) ∧ Drawn0 w w')
  case atStart => exact ⟨(0), (by first | rfl | (simp; done) | (simp [*]; done)), H', ⟨Nat.le_refl _⟩, by repeat (first | exact Drawn0.refl _ | apply Drawn0.step)⟩
  case round =>
    clear H'
    obtain ⟨x3_1, rfl, HA, HK1, ⟨m1, rfl⟩⟩ := hrel
    cases gk with
    | zero => exact absurd HA.out (by simp [gessoref13_Name.l0])
    | succ k1 =>
      have H := HA.out
      clear HA
      simp only [gessoref13_Name.l0] at H
      by_cases c2 : x3_1 < (a0.size : Int)
      · rw [if_pos c2] at H
        have c2b0 : decide (x3_1 < (a0.size : Int)) = true := decide_eq_true c2
        clear c2
        by_cases c3 : 0 ≤ x3_1
        · rw [if_pos c3] at H
          have c3b0 : decide (0 ≤ x3_1) = true := decide_eq_true c3
          clear c3
          by_cases c5 : (bt a0 x3_1) = 0
          · rw [if_pos c5] at H
            have c5b0 : ((bt a0 x3_1) == 0) = true := beq_iff_eq.mpr c5
            have c5b1 : ((bt a0 x3_1) != 0) = false := bne_eq_false_iff_eq.mpr c5
            clear c5
            obtain rfl := Option.some.inj H
            have p4 : 0 ≤ (x3_1 : Int) := of_decide_eq_true (by first | (with_reducible assumption) | assumption)
            have q4 : x3_1 < (a0.size : Int) := of_decide_eq_true (by first | (with_reducible assumption) | assumption)
            have hx4 := bt_at a0 x3_1
            replace p4 := eq_true p4
            replace q4 := eq_true q4
            go_wp2
            go_ret
            exact ⟨by first | rfl | (simp; done) | (simp [*]; done), by repeat (first | exact Drawn0.refl _ | apply Drawn0.step)⟩
          · rw [if_neg c5] at H
            have c5b0 : ((bt a0 x3_1) == 0) = false := beq_eq_false_iff_ne.mpr c5
            have c5b1 : ((bt a0 x3_1) != 0) = true := bne_iff_ne.mpr c5
            by_cases c7 : (bt a0 x3_1) = 47
            · rw [if_pos c7] at H
              have c7b0 : ((bt a0 x3_1) == 47) = true := beq_iff_eq.mpr c7
              have c7b1 : ((bt a0 x3_1) != 47) = false := bne_eq_false_iff_eq.mpr c7
              clear c7
              obtain rfl := Option.some.inj H
              have p4 : 0 ≤ (x3_1 : Int) := of_decide_eq_true (by first | (with_reducible assumption) | assumption)
              have q4 : x3_1 < (a0.size : Int) := of_decide_eq_true (by first | (with_reducible assumption) | assumption)
              have hx4 := bt_at a0 x3_1
              replace p4 := eq_true p4
              replace q4 := eq_true q4
              have p6 : 0 ≤ (x3_1 : Int) := of_decide_eq_true (by first | (with_reducible assumption) | assumption)
              have q6 : x3_1 < (a0.size : Int) := of_decide_eq_true (by first | (with_reducible assumption) | assumption)
              have hx6 := bt_at a0 x3_1
              replace p6 := eq_true p6
              replace q6 := eq_true q6
              go_wp2
              go_ret
              exact ⟨by first | rfl | (simp; done) | (simp [*]; done), by repeat (first | exact Drawn0.refl _ | apply Drawn0.step)⟩
            · rw [if_neg c7] at H
              have c7b0 : ((bt a0 x3_1) == 47) = false := beq_eq_false_iff_ne.mpr c7
              have c7b1 : ((bt a0 x3_1) != 47) = true := bne_iff_ne.mpr c7
              have H' := Aside0.mk H
              clear H
              have p4 : 0 ≤ (x3_1 : Int) := of_decide_eq_true (by first | (with_reducible assumption) | assumption)
              have q4 : x3_1 < (a0.size : Int) := of_decide_eq_true (by first | (with_reducible assumption) | assumption)
              have hx4 := bt_at a0 x3_1
              replace p4 := eq_true p4
              replace q4 := eq_true q4
              have p6 : 0 ≤ (x3_1 : Int) := of_decide_eq_true (by first | (with_reducible assumption) | assumption)
              have q6 : x3_1 < (a0.size : Int) := of_decide_eq_true (by first | (with_reducible assumption) | assumption)
              have hx6 := bt_at a0 x3_1
              replace p6 := eq_true p6
              replace q6 := eq_true q6
              go_wp2
              go_roundg k1
              case measure => have := HK1.out; omega
              case rel => exact ⟨(wrap64 (x3_1 + 1)), (by first | rfl | (simp; done) | (simp [*]; done)), H', ⟨by have := HK1.out; omega⟩, by repeat (first | exact Drawn0.refl _ | apply Drawn0.step)⟩
        · rw [if_neg c3] at H
          exact absurd H (by simp)
      · rw [if_neg c2] at H
        have c2b0 : decide (x3_1 < (a0.size : Int)) = false := decide_eq_false c2
        clear c2
        by_cases c8 : (a0.size : Int) ≥ 1
        · rw [if_pos c8] at H
          have c8b0 : decide (1 ≤ (a0.size : Int)) = true := decide_eq_true c8
          have c8b1 : decide (1 ≤ a0.size) = true := decide_eq_true (by omega)
          clear c8
          obtain rfl := Option.some.inj H
          go_wp2
          go_ret
          exact ⟨by first | rfl | (simp; done) | (simp [*]; done), by repeat (first | exact Drawn0.refl _ | apply Drawn0.step)⟩
        · rw [if_neg c8] at H
          have c8b0 : decide (1 ≤ (a0.size : Int)) = false := decide_eq_false c8
          have c8b1 : decide (1 ≤ a0.size) = false := decide_eq_false (by omega)
          clear c8
          obtain rfl := Option.some.inj H
          go_wp2
          go_ret
          exact ⟨by first | rfl | (simp; done) | (simp [*]; done), by repeat (first | exact Drawn0.refl _ | apply Drawn0.step)⟩

/-! ### gessoref14_deep: function 42 -/
def gessoref14_deep.l0 : Nat → List (S41) → Int → Int → Option (Int)
  | 0, _, _, _ => none
  | k + 1, x0, x1, x5 => if 0 ≤ x1 then (if x1 < (x0.length : Int) then (if ((rd_T41 x0 x1).f0) ≥ 0 then (gessoref14_deep.l0 k x0 ((rd_T41 x0 x1).f0) (wrap64 (x5 + 1))) else (some x5)) else (none)) else (none)
def gessoref14_deep.f (k : Nat) (l0 : List (S41)) (a1 : Int) : Option (Int) := gessoref14_deep.l0 k l0 a1 1
theorem gessoref14_deep.mono_l : ∀ k, (∀ y0 y1 y2, LeO (gessoref14_deep.l0 k y0 y1 y2) (gessoref14_deep.l0 (k + 1) y0 y1 y2))
  | 0 => fun _ _ _ r h => by simp [gessoref14_deep.l0] at h
  | k + 1 => by
    have ih0 := gessoref14_deep.mono_l k
    · intro y0 y1 y2
      unfold gessoref14_deep.l0
      repeat' first
      | (with_reducible exact ih0 _ _ _)
      | (with_reducible exact LeO.refl _)
      | (with_reducible exact LeO.none _)
      | (with_reducible refine LeO.ite ?_ ?_)
      | (with_reducible refine LeO.bind ?_ (fun _ => ?_))
      | exact ih0 _ _ _
      | exact LeO.none _
      | refine LeO.ite ?_ ?_
      | refine LeO.bind ?_ (fun _ => ?_)
theorem gessoref14_deep.mono : ∀ a0 a1 k, LeO (gessoref14_deep.f k a0 a1) (gessoref14_deep.f (k + 1) a0 a1) := by
  intro a0 a1 k
  have ih0 := gessoref14_deep.mono_l k
  unfold gessoref14_deep.f
  repeat' first
      | (with_reducible exact ih0 _ _ _)
      | (with_reducible exact LeO.refl _)
      | (with_reducible exact LeO.none _)
      | (with_reducible refine LeO.ite ?_ ?_)
      | (with_reducible refine LeO.bind ?_ (fun _ => ?_))
      | exact ih0 _ _ _
      | exact LeO.none _
      | refine LeO.ite ?_ ?_
      | refine LeO.bind ?_ (fun _ => ?_)
set_option maxHeartbeats 8000000 in
set_option maxRecDepth 100000 in
theorem gessoref14_deep.calls (k : Nat) (A0 : Option Addr) (c0 : Nat) (l0 : List (S41)) (a1 : Int) (r : Int) (w : World) (hr0 : Kd.C k41 w A0 l0.length l0) (hc0 : l0.length ≤ c0) (h : gessoref14_deep.f k l0 a1 = some r) :
    Calls Try.prog 42 #[.slice A0 l0.length c0, .int .i64 a1] w fun e w' => e = .returned (.int .i64 r) ∧ Drawn0 w w' := by
  have HR0 := Aside0.mk hr0
  have HC0 := Aside0.mk hc0
  clear hr0 hc0
  have H : (gessoref14_deep.l0 k l0 a1 1) = some r := h
  clear h
  have H' := Aside0.mk H
  clear H
  go_enter Try.func42, Try.ntmps42
  go_wp2
  go_loopg [1, 5] k (fun kq v1 v5 w' => ∃ (x1_1 : Int) (x5_1 : Int), v1 = .int .i64 x1_1 ∧ v5 = .int .i64 x5_1 ∧ Aside0 (gessoref14_deep.l0 kq l0 x1_1 x5_1 = some r) ∧ Aside0 (kq ≤ k) ∧ Drawn0 w w')
  case atStart => exact ⟨(a1), (1), (by first | rfl | (simp; done) | (simp [*]; done)), (by first | rfl | (simp; done) | (simp [*]; done)), H', ⟨Nat.le_refl _⟩, by repeat (first | exact Drawn0.refl _ | apply Drawn0.step)⟩
  case round =>
    clear H'
    try clear p2
    obtain ⟨x1_1, x5_1, rfl, rfl, HA, HK1, ⟨m1, rfl⟩⟩ := hrel
    cases gk with
    | zero => exact absurd HA.out (by simp [gessoref14_deep.l0])
    | succ k1 =>
      have H := HA.out
      clear HA
      simp only [gessoref14_deep.l0] at H
      by_cases c3 : 0 ≤ x1_1
      · rw [if_pos c3] at H
        have c3b0 : decide (0 ≤ x1_1) = true := decide_eq_true c3
        clear c3
        by_cases c4 : x1_1 < (l0.length : Int)
        · rw [if_pos c4] at H
          have c4b0 : decide (x1_1 < (l0.length : Int)) = true := decide_eq_true c4
          clear c4
          by_cases c5 : ((rd_T41 l0 x1_1).f0) ≥ 0
          · rw [if_pos c5] at H
            have c5b0 : decide (0 ≤ ((rd_T41 l0 x1_1).f0)) = true := decide_eq_true c5
            clear c5
            have H' := Aside0.mk H
            clear H
            have p140 : 0 ≤ (x1_1 : Int) := of_decide_eq_true (by first | (with_reducible assumption) | assumption)
            have q140 : x1_1 < (l0.length : Int) := of_decide_eq_true (by first | (with_reducible assumption) | assumption)
            obtain ⟨ad140, A140_3, c140_3, e140, hx140_0, hx140_1, hx140_2, hx140_3, hl140_3, hi140_3⟩ := at_T41 HR0.out x1_1 p140 q140
            cases e140
            have HR140_3 := Aside0.mk hi140_3
            have HC140_3 := Aside0.mk hl140_3
            clear hi140_3 hl140_3
            replace p140 := eq_true p140
            replace q140 := eq_true q140
            have p141 : 0 ≤ (x1_1 : Int) := of_decide_eq_true (by first | (with_reducible assumption) | assumption)
            have q141 : x1_1 < (l0.length : Int) := of_decide_eq_true (by first | (with_reducible assumption) | assumption)
            obtain ⟨ad141, A141_3, c141_3, e141, hx141_0, hx141_1, hx141_2, hx141_3, hl141_3, hi141_3⟩ := at_T41 HR0.out x1_1 p141 q141
            obtain rfl : ad140 = ad141 := (by injection e141)
            have HR141_3 := Aside0.mk hi141_3
            have HC141_3 := Aside0.mk hl141_3
            clear hi141_3 hl141_3
            replace p141 := eq_true p141
            replace q141 := eq_true q141
            have ea_ := Option.some.inj (hx140_3.symm.trans hx141_3)
            injection ea_ with ea_ en_ ec_
            subst ea_
            subst ec_
            clear en_
            go_wp2
            go_roundg k1
            case measure => have := HK1.out; omega
            case rel => exact ⟨((rd_T41 l0 x1_1).f0), (wrap64 (x5_1 + 1)), (by first | rfl | (simp; done) | (simp [*]; done)), (by first | rfl | (simp; done) | (simp [*]; done)), H', ⟨by have := HK1.out; omega⟩, by repeat (first | exact Drawn0.refl _ | apply Drawn0.step)⟩
          · rw [if_neg c5] at H
            have c5b0 : decide (0 ≤ ((rd_T41 l0 x1_1).f0)) = false := decide_eq_false c5
            clear c5
            obtain rfl := Option.some.inj H
            have p140 : 0 ≤ (x1_1 : Int) := of_decide_eq_true (by first | (with_reducible assumption) | assumption)
            have q140 : x1_1 < (l0.length : Int) := of_decide_eq_true (by first | (with_reducible assumption) | assumption)
            obtain ⟨ad140, A140_3, c140_3, e140, hx140_0, hx140_1, hx140_2, hx140_3, hl140_3, hi140_3⟩ := at_T41 HR0.out x1_1 p140 q140
            cases e140
            have HR140_3 := Aside0.mk hi140_3
            have HC140_3 := Aside0.mk hl140_3
            clear hi140_3 hl140_3
            replace p140 := eq_true p140
            replace q140 := eq_true q140
            go_wp2
            go_ret
            exact ⟨by first | rfl | (simp; done) | (simp [*]; done), by repeat (first | exact Drawn0.refl _ | apply Drawn0.step)⟩
        · rw [if_neg c4] at H
          exact absurd H (by simp)
      · rw [if_neg c3] at H
        exact absurd H (by simp)


end Go.Proofs.Ytlomehhlhbpanaa.Prt
