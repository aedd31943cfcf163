import Derived.Test.YtlomehhlhbpanaaT0
import Derived.Test.YtlomehhlhbpanaaT5
namespace Go.Proofs.Ytlomehhlhbpanaa.Prt
open Go.RowKit Go.Proofs.YtlomehhlhbpanaaW.PrintWords Go.Proofs.YtlomehhlhbpanaaW.PrintLast Go.Proofs.YtlomehhlhbpanaaW.PrintMore
attribute [local go_sem] max2_int min2_int max_two min_two max_three min_three max_four min_four   -- for this text's walks alone
set_option linter.unusedVariables false
set_option linter.unusedSimpArgs false

/-! ### gessoref14_Sort: function 20 -/
mutual
def gessoref14_Sort.l0 : Nat → List (S41) → List Int → Int → Option ((List (S41)) × Int)
  | 0, _, _, _ => none
  | k + 1, x0, x4, x5 => if x5 < (x0.length : Int) then (gessoref14_Sort.l1 k x0 x4 x5 0) else (if 0 ≤ (x0.length : Int) then (if ((x0.length : Int) : Int).toNat ≤ 35184372088832 then (gessoref14_Sort.l2 k x0 x4 (List.replicate ((x0.length : Int) : Int).toNat 0) 0) else (none)) else (none))
def gessoref14_Sort.l1 : Nat → List (S41) → List Int → Int → Int → Option ((List (S41)) × Int)
  | 0, _, _, _, _ => none
  | k + 1, x0, x4, x5, x6 => if x6 < (x4.length : Int) then (if 0 ≤ x6 then ((gessoref14_Path.f k x0 (rd x4 x6)).bind fun t168 => ((gessoref14_Path.f k x0 x5).bind fun t171 => ((gessoref14_Less.f k t168 t171).bind fun t174 => (if t174 = true then (gessoref14_Sort.l1 k x0 x4 x5 (wrap64 (x6 + 1))) else (if x6 ≤ (x4.length : Int) then ((some (x4.take (x6 : Int).toNat : List Int)).bind fun y175 => (if ([] : List Int).length + y175.length < 17592186044416 then ((some (([] : List Int) ++ y175 : List Int)).bind fun y179 => (if y179.length < 17592186044416 then ((some (y179 ++ [x5] : List Int)).bind fun y182 => ((some (x4.drop (x6 : Int).toNat : List Int)).bind fun y185 => (if y182.length + y185.length < 17592186044416 then (gessoref14_Sort.l0 k x0 (y182 ++ y185) (wrap64 (x5 + 1))) else (none)))) else (none))) else (none))) else (none)))))) else (none)) else (if 0 ≤ x6 then (if x6 ≤ (x4.length : Int) then ((some (x4.take (x6 : Int).toNat : List Int)).bind fun y192 => (if ([] : List Int).length + y192.length < 17592186044416 then ((some (([] : List Int) ++ y192 : List Int)).bind fun y196 => (if y196.length < 17592186044416 then ((some (y196 ++ [x5] : List Int)).bind fun y199 => ((some (x4.drop (x6 : Int).toNat : List Int)).bind fun y202 => (if y199.length + y202.length < 17592186044416 then (gessoref14_Sort.l0 k x0 (y199 ++ y202) (wrap64 (x5 + 1))) else (none)))) else (none))) else (none))) else (none)) else (none))
def gessoref14_Sort.l2 : Nat → List (S41) → List Int → List Int → Int → Option ((List (S41)) × Int)
  | 0, _, _, _, _ => none
  | k + 1, x0, x4, x8, x9 => if x9 < (x4.length : Int) then (if 0 ≤ x9 then (if 0 ≤ (rd x4 x9) then (if (rd x4 x9) < (x8.length : Int) then (gessoref14_Sort.l2 k x0 x4 (x8.set ((rd x4 x9) : Int).toNat x9) (wrap64 (x9 + 1))) else (none)) else (none)) else (none)) else (gessoref14_Sort.l3 k x0 x4 x8 ([] : List (S41)) 0)
def gessoref14_Sort.l3 : Nat → List (S41) → List Int → List Int → List (S41) → Int → Option ((List (S41)) × Int)
  | 0, _, _, _, _, _ => none
  | k + 1, x0, x4, x8, x10, x11 => if x11 < (x4.length : Int) then (if 0 ≤ x11 then (if 0 ≤ (rd x4 x11) then (if (rd x4 x11) < (x0.length : Int) then (if ((rd_T41 x0 (rd x4 x11)).f0) ≥ 0 then (if 0 ≤ ((rd_T41 x0 (rd x4 x11)).f0) then (if ((rd_T41 x0 (rd x4 x11)).f0) < (x8.length : Int) then ((some (([] : List Int) : List Int)).bind fun y218 => (if y218.length + ((rd_T41 x0 (rd x4 x11)).f3).length < 140737488355328 then (if x10.length < 2513169434916 then (gessoref14_Sort.l3 k x0 x4 x8 (x10 ++ [(⟨rd x8 ((rd_T41 x0 (rd x4 x11)).f0), (rd_T41 x0 (rd x4 x11)).f1, (rd_T41 x0 (rd x4 x11)).f2, (y218 ++ ((rd_T41 x0 (rd x4 x11)).f3))⟩ : S41)]) (wrap64 (x11 + 1))) else (none)) else (none))) else (none)) else (none)) else ((some (([] : List Int) : List Int)).bind fun y227 => (if y227.length + ((rd_T41 x0 (rd x4 x11)).f3).length < 140737488355328 then (if x10.length < 2513169434916 then (gessoref14_Sort.l3 k x0 x4 x8 (x10 ++ [(⟨(rd_T41 x0 (rd x4 x11)).f0, (rd_T41 x0 (rd x4 x11)).f1, (rd_T41 x0 (rd x4 x11)).f2, (y227 ++ ((rd_T41 x0 (rd x4 x11)).f3))⟩ : S41)]) (wrap64 (x11 + 1))) else (none)) else (none)))) else (none)) else (none)) else (none)) else (some (x10, 0))
end
def gessoref14_Sort.f (k : Nat) (l0 : List (S41)) : Option ((List (S41)) × Int) := (gessoref14_Check.f k l0).bind fun t166 => (if t166 = 14 then (some (([] : List (S41)), 14)) else (gessoref14_Sort.l0 k l0 ([] : List Int) 0))
theorem gessoref14_Sort.mono_l : ∀ k, (∀ y0 y1 y2, LeO (gessoref14_Sort.l0 k y0 y1 y2) (gessoref14_Sort.l0 (k + 1) y0 y1 y2)) ∧ (∀ y0 y1 y2 y3, LeO (gessoref14_Sort.l1 k y0 y1 y2 y3) (gessoref14_Sort.l1 (k + 1) y0 y1 y2 y3)) ∧ (∀ y0 y1 y2 y3, LeO (gessoref14_Sort.l2 k y0 y1 y2 y3) (gessoref14_Sort.l2 (k + 1) y0 y1 y2 y3)) ∧ (∀ y0 y1 y2 y3 y4, LeO (gessoref14_Sort.l3 k y0 y1 y2 y3 y4) (gessoref14_Sort.l3 (k + 1) y0 y1 y2 y3 y4))
  | 0 => ⟨fun _ _ _ r h => by simp [gessoref14_Sort.l0] at h, fun _ _ _ _ r h => by simp [gessoref14_Sort.l1] at h, fun _ _ _ _ r h => by simp [gessoref14_Sort.l2] at h, fun _ _ _ _ _ r h => by simp [gessoref14_Sort.l3] at h⟩
  | k + 1 => by
    obtain ⟨ih0, ih1, ih2, ih3⟩ := gessoref14_Sort.mono_l k
    refine ⟨?_, ?_, ?_, ?_⟩
    · intro y0 y1 y2
      unfold gessoref14_Sort.l0
      repeat' first
      | (with_reducible exact ih0 _ _ _)
      | (with_reducible exact ih1 _ _ _ _)
      | (with_reducible exact ih2 _ _ _ _)
      | (with_reducible exact ih3 _ _ _ _ _)
      | (with_reducible exact gessoref14_Check.mono _ _)
      | (with_reducible exact gessoref14_Less.mono _ _ _)
      | (with_reducible exact gessoref14_Path.mono _ _ _)
      | (with_reducible exact LeO.refl _)
      | (with_reducible exact LeO.none _)
      | (with_reducible refine LeO.ite ?_ ?_)
      | (with_reducible refine LeO.bind ?_ (fun _ => ?_))
      | exact ih0 _ _ _
      | exact ih1 _ _ _ _
      | exact ih2 _ _ _ _
      | exact ih3 _ _ _ _ _
      | exact gessoref14_Check.mono _ _
      | exact gessoref14_Less.mono _ _ _
      | exact gessoref14_Path.mono _ _ _
      | exact LeO.none _
      | refine LeO.ite ?_ ?_
      | refine LeO.bind ?_ (fun _ => ?_)
    · intro y0 y1 y2 y3
      unfold gessoref14_Sort.l1
      repeat' first
      | (with_reducible exact ih0 _ _ _)
      | (with_reducible exact ih1 _ _ _ _)
      | (with_reducible exact ih2 _ _ _ _)
      | (with_reducible exact ih3 _ _ _ _ _)
      | (with_reducible exact gessoref14_Check.mono _ _)
      | (with_reducible exact gessoref14_Less.mono _ _ _)
      | (with_reducible exact gessoref14_Path.mono _ _ _)
      | (with_reducible exact LeO.refl _)
      | (with_reducible exact LeO.none _)
      | (with_reducible refine LeO.ite ?_ ?_)
      | (with_reducible refine LeO.bind ?_ (fun _ => ?_))
      | exact ih0 _ _ _
      | exact ih1 _ _ _ _
      | exact ih2 _ _ _ _
      | exact ih3 _ _ _ _ _
      | exact gessoref14_Check.mono _ _
      | exact gessoref14_Less.mono _ _ _
      | exact gessoref14_Path.mono _ _ _
      | exact LeO.none _
      | refine LeO.ite ?_ ?_
      | refine LeO.bind ?_ (fun _ => ?_)
    · intro y0 y1 y2 y3
      unfold gessoref14_Sort.l2
      repeat' first
      | (with_reducible exact ih0 _ _ _)
      | (with_reducible exact ih1 _ _ _ _)
      | (with_reducible exact ih2 _ _ _ _)
      | (with_reducible exact ih3 _ _ _ _ _)
      | (with_reducible exact gessoref14_Check.mono _ _)
      | (with_reducible exact gessoref14_Less.mono _ _ _)
      | (with_reducible exact gessoref14_Path.mono _ _ _)
      | (with_reducible exact LeO.refl _)
      | (with_reducible exact LeO.none _)
      | (with_reducible refine LeO.ite ?_ ?_)
      | (with_reducible refine LeO.bind ?_ (fun _ => ?_))
      | exact ih0 _ _ _
      | exact ih1 _ _ _ _
      | exact ih2 _ _ _ _
      | exact ih3 _ _ _ _ _
      | exact gessoref14_Check.mono _ _
      | exact gessoref14_Less.mono _ _ _
      | exact gessoref14_Path.mono _ _ _
      | exact LeO.none _
      | refine LeO.ite ?_ ?_
      | refine LeO.bind ?_ (fun _ => ?_)
    · intro y0 y1 y2 y3 y4
      unfold gessoref14_Sort.l3
      repeat' first
      | (with_reducible exact ih0 _ _ _)
      | (with_reducible exact ih1 _ _ _ _)
      | (with_reducible exact ih2 _ _ _ _)
      | (with_reducible exact ih3 _ _ _ _ _)
      | (with_reducible exact gessoref14_Check.mono _ _)
      | (with_reducible exact gessoref14_Less.mono _ _ _)
      | (with_reducible exact gessoref14_Path.mono _ _ _)
      | (with_reducible exact LeO.refl _)
      | (with_reducible exact LeO.none _)
      | (with_reducible refine LeO.ite ?_ ?_)
      | (with_reducible refine LeO.bind ?_ (fun _ => ?_))
      | exact ih0 _ _ _
      | exact ih1 _ _ _ _
      | exact ih2 _ _ _ _
      | exact ih3 _ _ _ _ _
      | exact gessoref14_Check.mono _ _
      | exact gessoref14_Less.mono _ _ _
      | exact gessoref14_Path.mono _ _ _
      | exact LeO.none _
      | refine LeO.ite ?_ ?_
      | refine LeO.bind ?_ (fun _ => ?_)
theorem gessoref14_Sort.mono : ∀ a0 k, LeO (gessoref14_Sort.f k a0) (gessoref14_Sort.f (k + 1) a0) := by
  intro a0 k
  obtain ⟨ih0, ih1, ih2, ih3⟩ := gessoref14_Sort.mono_l k
  unfold gessoref14_Sort.f
  repeat' first
      | (with_reducible exact ih0 _ _ _)
      | (with_reducible exact ih1 _ _ _ _)
      | (with_reducible exact ih2 _ _ _ _)
      | (with_reducible exact ih3 _ _ _ _ _)
      | (with_reducible exact gessoref14_Check.mono _ _)
      | (with_reducible exact gessoref14_Less.mono _ _ _)
      | (with_reducible exact gessoref14_Path.mono _ _ _)
      | (with_reducible exact LeO.refl _)
      | (with_reducible exact LeO.none _)
      | (with_reducible refine LeO.ite ?_ ?_)
      | (with_reducible refine LeO.bind ?_ (fun _ => ?_))
      | exact ih0 _ _ _
      | exact ih1 _ _ _ _
      | exact ih2 _ _ _ _
      | exact ih3 _ _ _ _ _
      | exact gessoref14_Check.mono _ _
      | exact gessoref14_Less.mono _ _ _
      | exact gessoref14_Path.mono _ _ _
      | exact LeO.none _
      | refine LeO.ite ?_ ?_
      | refine LeO.bind ?_ (fun _ => ?_)
set_option maxHeartbeats 8000000 in
set_option maxRecDepth 100000 in
theorem gessoref14_Sort.calls (k : Nat) (A0 : Option Addr) (c0 : Nat) (l0 : List (S41)) (r1 : List (S41)) (r2 : Int) (w : World) (hr0 : Kd.C k41 w A0 l0.length l0) (hc0 : l0.length ≤ c0) (h : gessoref14_Sort.f k l0 = some (r1, r2)) :
    Calls Try.prog 20 #[.slice A0 l0.length c0] w fun e w' => ∃ v0_ : Value, e = .returned (.tuple #[v0_, .int .i64 r2]) ∧ Kd.S k41 41 w' w.heap.size (fun _ => True) v0_ r1 ∧ Below w.heap.size w w' := by
  have hu41 := Try.underlying41
  have HR0 := Aside0.mk hr0
  have HC0 := Aside0.mk hc0
  clear hr0 hc0
  have HB := Aside0.mk (Below.refl w.heap.size w)
  have H : ((gessoref14_Check.f k l0).bind fun t166 => (if t166 = 14 then (some (([] : List (S41)), 14)) else (gessoref14_Sort.l0 k l0 ([] : List Int) 0))) = some (r1, r2) := h
  clear h
  replace H := Option.bind_eq_some_iff.mp H
  obtain ⟨t166, A20, H⟩ := H
  replace H : (if t166 = 14 then (some (([] : List (S41)), 14)) else (gessoref14_Sort.l0 k l0 ([] : List Int) 0)) = some (r1, r2) := H
  have A2 := Aside0.mk A20
  clear A20
  by_cases c3 : t166 = 14
  · rw [if_pos c3] at H
    have c3b0 : (t166 == 14) = true := beq_iff_eq.mpr c3
    have c3b1 : (t166 != 14) = false := bne_eq_false_iff_eq.mpr c3
    clear c3
    simp only [Option.some.injEq, Prod.mk.injEq] at H
    obtain ⟨rfl, rfl⟩ := H
    go_enter Try.func20, Try.ntmps20
    go_wp2_with (first | ((with_reducible refine gate_callee (f := 11) rfl ?_); refine goesL_ (some 14) rfl rfl Try.func11 (by kernel_rfl) rfl #[.slice A0 l0.length c0] rfl (by (try simp only [List.map_toArray, List.map_cons, List.map_nil]); first | done | rfl | (simp only [List.length_drop, List.length_take]; rfl)) ?_; (with_reducible refine (gessoref14_Check.calls k _ _ l0 t166 _ ?side1 ?side2 A2.out).mono ?_); (case side1 => repeat (first | exact HR0.out | (with_reducible refine Kd.C_alloc ?_ _) | (with_reducible refine Kd.C_drewN ?_ _) | (with_reducible refine Kd.C_drew ?_))); (case side2 => exact HC0.out); rintro e w4 ⟨rfl, hb⟩; refine ⟨_, rfl, ?_⟩; have n0_ := Aside0.mk (below_step (by repeat (first | (with_reducible first | exact HB.out | apply below_alloc | apply pw_below_drewN | apply below_drew1) | exact HB.out)) hb); clear HB; have HB := n0_; clear n0_; (try clear hb); (try clear hb2); (try clear hk); (try clear hi)))
    go_ret2
    exact ⟨_, by first | rfl | (simp [errW_none, errW_some] <;> rfl) | (simp [*, errW_none, errW_some] <;> rfl), by first | exact Kd.S_nil _ _ _ _ _ | exact Kd.N_nil _ _ _ _ _ | exact Kd.V_nil _ _ _ _ _ | exact Kd.Q_nil _ _ _ _ _ | exact Kd.R_nil _ _ _ _ _, by repeat (first | (with_reducible first | exact HB.out | apply below_alloc | apply pw_below_drewN | apply below_drew1) | exact HB.out)⟩
  · rw [if_neg c3] at H
    have c3b0 : (t166 == 14) = false := beq_eq_false_iff_ne.mpr c3
    have c3b1 : (t166 != 14) = true := bne_iff_ne.mpr c3
    have H' := Aside0.mk H
    clear H
    go_enter Try.func20, Try.ntmps20
    go_wp2_with (first | ((with_reducible refine gate_callee (f := 11) rfl ?_); refine goesL_ (some 14) rfl rfl Try.func11 (by kernel_rfl) rfl #[.slice A0 l0.length c0] rfl (by (try simp only [List.map_toArray, List.map_cons, List.map_nil]); first | done | rfl | (simp only [List.length_drop, List.length_take]; rfl)) ?_; (with_reducible refine (gessoref14_Check.calls k _ _ l0 t166 _ ?side1 ?side2 A2.out).mono ?_); (case side1 => repeat (first | exact HR0.out | (with_reducible refine Kd.C_alloc ?_ _) | (with_reducible refine Kd.C_drewN ?_ _) | (with_reducible refine Kd.C_drew ?_))); (case side2 => exact HC0.out); rintro e w5 ⟨rfl, hb⟩; refine ⟨_, rfl, ?_⟩; have n0_ := Aside0.mk (below_step (by repeat (first | (with_reducible first | exact HB.out | apply below_alloc | apply pw_below_drewN | apply below_drew1) | exact HB.out)) hb); clear HB; have HB := n0_; clear n0_; (try clear hb); (try clear hb2); (try clear hk); (try clear hi)))
    go_loopg [4, 5] k (fun kq v4 v5 w' => ∃ (x4_1 : List Int) (x5_1 : Int), v5 = .int .i64 x5_1 ∧ Aside0 (gessoref14_Sort.l0 kq l0 x4_1 x5_1 = some (r1, r2)) ∧ Aside0 (kq ≤ k) ∧ Aside0 (Kd.R (Kd.int .i64) 3 w' w.heap.size (fun _ => True) v4 x4_1) ∧ Aside0 (Below w.heap.size w w'))
    case atStart => exact ⟨(([] : List Int)), (0), (by first | rfl | (simp; done) | (simp [*]; done)), H', ⟨Nat.le_refl _⟩, ⟨by first | exact Kd.R_nil _ _ _ _ _ | exact Kd.N_nil _ _ _ _ _ | exact Kd.V_nil _ _ _ _ _ | exact Kd.Q_nil _ _ _ _ _ | exact Kd.S_nil _ _ _ _ _⟩, ⟨by repeat (first | (with_reducible first | exact HB.out | apply below_alloc | apply pw_below_drewN | apply below_drew1) | exact HB.out)⟩⟩
    case round =>
      clear H'
      try clear c1
      try clear c2
      try clear p2
      try clear c3
      try clear c3b0
      try clear c3b1
      obtain ⟨x4_1, x5_1, rfl, HA, HK1, HO_4, HB⟩ := hrel
      cases gk with
      | zero => exact absurd HA.out (by simp [gessoref14_Sort.l0])
      | succ k1 =>
        have H := HA.out
        clear HA
        simp only [gessoref14_Sort.l0] at H
        by_cases c6 : x5_1 < (l0.length : Int)
        · rw [if_pos c6] at H
          have c6b0 : decide (x5_1 < (l0.length : Int)) = true := decide_eq_true c6
          clear c6
          have H' := Aside0.mk H
          clear H
          go_wp2
          go_loopg [6] k1 (fun kq v6 w' => ∃ (x6_2 : Int), v6 = .int .i64 x6_2 ∧ Aside0 (gessoref14_Sort.l1 kq l0 x4_1 x5_1 x6_2 = some (r1, r2)) ∧ Aside0 (kq ≤ k1) ∧ Aside0 (Kd.R (Kd.int .i64) 3 w' w.heap.size (fun _ => True) u4 x4_1) ∧ Aside0 (Below w.heap.size w w'))
          case atStart => exact ⟨(0), (by first | rfl | (simp; done) | (simp [*]; done)), H', ⟨Nat.le_refl _⟩, ⟨by (with_reducible repeat (first | apply Kd.R_alloc | apply Kd.R_drewN | apply Kd.R_drew)); exact HO_4.out⟩, ⟨by repeat (first | (with_reducible first | exact HB.out | apply below_alloc | apply pw_below_drewN | apply below_drew1) | exact HB.out)⟩⟩
          case round =>
            clear H'
            try clear c1
            try clear c2
            try clear p2
            try clear c3
            try clear c3b0
            try clear c3b1
            try clear c6
            try clear c6b0
            try clear p2
            obtain ⟨x6_2, rfl, HA, HK2, HO_4, HB⟩ := hrel
            cases gk with
            | zero => exact absurd HA.out (by simp [gessoref14_Sort.l1])
            | succ k2 =>
              have H := HA.out
              clear HA
              simp only [gessoref14_Sort.l1] at H
              by_cases c7 : x6_2 < (x4_1.length : Int)
              · rw [if_pos c7] at H
                have c7b0 : decide (x6_2 < (x4_1.length : Int)) = true := decide_eq_true c7
                clear c7
                by_cases c8 : 0 ≤ x6_2
                · rw [if_pos c8] at H
                  have c8b0 : decide (0 ≤ x6_2) = true := decide_eq_true c8
                  clear c8
                  replace H := Option.bind_eq_some_iff.mp H
                  obtain ⟨t168, A90, H⟩ := H
                  replace H : ((gessoref14_Path.f k2 l0 x5_1).bind fun t171 => ((gessoref14_Less.f k2 t168 t171).bind fun t174 => (if t174 = true then (gessoref14_Sort.l1 k2 l0 x4_1 x5_1 (wrap64 (x6_2 + 1))) else (if x6_2 ≤ (x4_1.length : Int) then ((some (x4_1.take (x6_2 : Int).toNat : List Int)).bind fun y175 => (if ([] : List Int).length + y175.length < 17592186044416 then ((some (([] : List Int) ++ y175 : List Int)).bind fun y179 => (if y179.length < 17592186044416 then ((some (y179 ++ [x5_1] : List Int)).bind fun y182 => ((some (x4_1.drop (x6_2 : Int).toNat : List Int)).bind fun y185 => (if y182.length + y185.length < 17592186044416 then (gessoref14_Sort.l0 k2 l0 (y182 ++ y185) (wrap64 (x5_1 + 1))) else (none)))) else (none))) else (none))) else (none))))) = some (r1, r2) := H
                  have A9 := Aside0.mk A90
                  clear A90
                  replace H := Option.bind_eq_some_iff.mp H
                  obtain ⟨t171, A100, H⟩ := H
                  replace H : ((gessoref14_Less.f k2 t168 t171).bind fun t174 => (if t174 = true then (gessoref14_Sort.l1 k2 l0 x4_1 x5_1 (wrap64 (x6_2 + 1))) else (if x6_2 ≤ (x4_1.length : Int) then ((some (x4_1.take (x6_2 : Int).toNat : List Int)).bind fun y175 => (if ([] : List Int).length + y175.length < 17592186044416 then ((some (([] : List Int) ++ y175 : List Int)).bind fun y179 => (if y179.length < 17592186044416 then ((some (y179 ++ [x5_1] : List Int)).bind fun y182 => ((some (x4_1.drop (x6_2 : Int).toNat : List Int)).bind fun y185 => (if y182.length + y185.length < 17592186044416 then (gessoref14_Sort.l0 k2 l0 (y182 ++ y185) (wrap64 (x5_1 + 1))) else (none)))) else (none))) else (none))) else (none)))) = some (r1, r2) := H
                  have A10 := Aside0.mk A100
                  clear A100
                  replace H := Option.bind_eq_some_iff.mp H
                  obtain ⟨t174, A110, H⟩ := H
                  replace H : (if t174 = true then (gessoref14_Sort.l1 k2 l0 x4_1 x5_1 (wrap64 (x6_2 + 1))) else (if x6_2 ≤ (x4_1.length : Int) then ((some (x4_1.take (x6_2 : Int).toNat : List Int)).bind fun y175 => (if ([] : List Int).length + y175.length < 17592186044416 then ((some (([] : List Int) ++ y175 : List Int)).bind fun y179 => (if y179.length < 17592186044416 then ((some (y179 ++ [x5_1] : List Int)).bind fun y182 => ((some (x4_1.drop (x6_2 : Int).toNat : List Int)).bind fun y185 => (if y182.length + y185.length < 17592186044416 then (gessoref14_Sort.l0 k2 l0 (y182 ++ y185) (wrap64 (x5_1 + 1))) else (none)))) else (none))) else (none))) else (none))) = some (r1, r2) := H
                  have A11 := Aside0.mk A110
                  clear A110
                  by_cases c12 : t174 = true
                  · subst c12
                    have H1 : (gessoref14_Sort.l1 k2 l0 x4_1 x5_1 (wrap64 (x6_2 + 1))) = some (r1, r2) := by rw [if_pos rfl] at H; exact H
                    clear H
                    have H := H1
                    clear H1
                    have H' := Aside0.mk H
                    clear H
                    obtain ⟨Ao13, co13, eo13⟩ := Kd.R_slice HO_4.out
                    subst eo13
                    have p167 : 0 ≤ (x6_2 : Int) := of_decide_eq_true (by first | (with_reducible assumption) | assumption)
                    have q167 : x6_2 < (x4_1.length : Int) := of_decide_eq_true (by first | (with_reducible assumption) | assumption)
                    obtain ⟨ad167, e167, hx167_0⟩ := Kd.at_int (Kd.R_reads' HO_4.out).2.2 x6_2 p167 q167
                    cases e167
                    replace p167 := eq_true p167
                    replace q167 := eq_true q167
                    go_wp2_with (first | (go_at_call 14; (with_reducible refine (gessoref14_Path.calls k2 _ _ l0 (rd x4_1 x6_2) t168 _ ?side1 ?side2 A9.out).mono ?_); (case side1 => repeat (first | exact (Kd.C_below HR0.out HB.out) | (with_reducible refine Kd.C_alloc ?_ _) | (with_reducible refine Kd.C_drewN ?_ _) | (with_reducible refine Kd.C_drew ?_))); (case side2 => exact HC0.out); rintro e w14 ⟨v169, rfl, ho0, hb⟩; have n0_ := Aside0.mk (Kd.R_below (by (with_reducible repeat (first | apply Kd.R_alloc | apply Kd.R_drewN | apply Kd.R_drew)); exact HO_4.out) hb); have n1_ := Aside0.mk (Kd.R_lower ho0 (below_size (by repeat (first | (with_reducible first | exact HB.out | apply below_alloc | apply pw_below_drewN | apply below_drew1) | exact HB.out)))); have n2_ := Aside0.mk (below_step (by repeat (first | (with_reducible first | exact HB.out | apply below_alloc | apply pw_below_drewN | apply below_drew1) | exact HB.out)) hb); clear HO_4; clear HB; have HO_4 := n0_; have HO170 := n1_; have HB := n2_; clear n0_ n1_ n2_; (try clear hb); (try clear hb2); (try clear hk); (try clear hi); (try clear ho0)) | (go_at_call 14; (with_reducible refine (gessoref14_Path.calls k2 _ _ l0 x5_1 t171 _ ?side1 ?side2 A10.out).mono ?_); (case side1 => repeat (first | exact (Kd.C_below HR0.out HB.out) | (with_reducible refine Kd.C_alloc ?_ _) | (with_reducible refine Kd.C_drewN ?_ _) | (with_reducible refine Kd.C_drew ?_))); (case side2 => exact HC0.out); rintro e w15 ⟨v172, rfl, ho0, hb⟩; have n0_ := Aside0.mk (Kd.R_below (by (with_reducible repeat (first | apply Kd.R_alloc | apply Kd.R_drewN | apply Kd.R_drew)); exact HO_4.out) hb); have n1_ := Aside0.mk (Kd.R_elder' (by (with_reducible repeat (first | apply Kd.R_alloc | apply Kd.R_drewN | apply Kd.R_drew)); exact HO170.out) (Kd.R_base ho0) hb); have n2_ := Aside0.mk (Kd.R_lower (Kd.R_new' ho0 (Kd.R_lt (by (with_reducible repeat (first | apply Kd.R_alloc | apply Kd.R_drewN | apply Kd.R_drew)); exact HO170.out))) (below_size (by repeat (first | (with_reducible first | exact HB.out | apply below_alloc | apply pw_below_drewN | apply below_drew1) | exact HB.out)))); have n3_ := Aside0.mk (below_step (by repeat (first | (with_reducible first | exact HB.out | apply below_alloc | apply pw_below_drewN | apply below_drew1) | exact HB.out)) hb); clear HO_4; clear HO170; clear HB; have HO_4 := n0_; have HO170 := n1_; have HO173 := n2_; have HB := n3_; clear n0_ n1_ n2_ n3_; (try clear hb); (try clear hb2); (try clear hk); (try clear hi); (try clear ho0); obtain ⟨Ao16, co16, eo16⟩ := Kd.R_slice HO170.out; subst eo16; obtain ⟨Ao17, co17, eo17⟩ := Kd.R_slice HO173.out; subst eo17) | (go_at_call 23; (with_reducible refine (gessoref14_Less.calls k2 _ _ t168 _ _ t171 true _ ?side1 ?side2 ?side3 ?side4 A11.out).mono ?_); (case side1 => repeat (first | exact (Kd.R_reads' HO170.out).2.2 | (with_reducible refine Kd.C_alloc ?_ _) | (with_reducible refine Kd.C_drewN ?_ _) | (with_reducible refine Kd.C_drew ?_))); (case side2 => exact (Kd.R_reads' HO170.out).2.1); (case side3 => repeat (first | exact (Kd.R_reads' HO173.out).2.2 | (with_reducible refine Kd.C_alloc ?_ _) | (with_reducible refine Kd.C_drewN ?_ _) | (with_reducible refine Kd.C_drew ?_))); (case side4 => exact (Kd.R_reads' HO173.out).2.1); rintro e w' ⟨rfl, ⟨nd, rfl⟩⟩))
                    go_roundg k2
                    case measure => have := HK1.out; have := HK2.out; omega
                    case rel => exact ⟨(wrap64 (x6_2 + 1)), (by first | rfl | (simp; done) | (simp [*]; done)), H', ⟨by have := HK1.out; have := HK2.out; omega⟩, ⟨by (with_reducible repeat (first | apply Kd.R_alloc | apply Kd.R_drewN | apply Kd.R_drew)); exact HO_4.out⟩, ⟨by repeat (first | (with_reducible first | exact HB.out | apply below_alloc | apply pw_below_drewN | apply below_drew1) | exact HB.out)⟩⟩
                  · replace c12 := Bool.eq_false_iff.mpr c12
                    subst c12
                    have H1 : (if x6_2 ≤ (x4_1.length : Int) then ((some (x4_1.take (x6_2 : Int).toNat : List Int)).bind fun y175 => (if ([] : List Int).length + y175.length < 17592186044416 then ((some (([] : List Int) ++ y175 : List Int)).bind fun y179 => (if y179.length < 17592186044416 then ((some (y179 ++ [x5_1] : List Int)).bind fun y182 => ((some (x4_1.drop (x6_2 : Int).toNat : List Int)).bind fun y185 => (if y182.length + y185.length < 17592186044416 then (gessoref14_Sort.l0 k2 l0 (y182 ++ y185) (wrap64 (x5_1 + 1))) else (none)))) else (none))) else (none))) else (none)) = some (r1, r2) := by rw [if_neg (show ¬ (false = true) by decide)] at H; exact H
                    clear H
                    have H := H1
                    clear H1
                    have c18b0 := eq_true (of_decide_eq_true (by first | (with_reducible assumption) | assumption) : 0 ≤ x6_2)
                    by_cases c19 : x6_2 ≤ (x4_1.length : Int)
                    · rw [if_pos c19] at H
                      have c19b0 := eq_true c19
                      have c19b1 : decide (x6_2 ≤ (x4_1.length : Int)) = true := decide_eq_true c19
                      clear c19
                      obtain ⟨y175, hy175⟩ : ∃ y_ : List Int, y_ = (x4_1.take (x6_2 : Int).toNat) := ⟨_, rfl⟩
                      replace H : (if ([] : List Int).length + y175.length < 17592186044416 then ((some (([] : List Int) ++ y175 : List Int)).bind fun y179 => (if y179.length < 17592186044416 then ((some (y179 ++ [x5_1] : List Int)).bind fun y182 => ((some (x4_1.drop (x6_2 : Int).toNat : List Int)).bind fun y185 => (if y182.length + y185.length < 17592186044416 then (gessoref14_Sort.l0 k2 l0 (y182 ++ y185) (wrap64 (x5_1 + 1))) else (none)))) else (none))) else (none)) = some (r1, r2) := by first | (rw [hy175]; with_reducible exact H) | (have H2_ := (Option.bind_some _ _).symm.trans H; rw [hy175]; with_reducible exact H2_) | (have H2_ := (Option.bind_some _ _).symm.trans H; with_reducible exact H2_) | with_reducible exact H | (rw [hy175]; exact H) | exact H
                      have Ny175 := Aside0.mk hy175
                      clear hy175
                      by_cases c20 : ([] : List Int).length + y175.length < 17592186044416
                      · rw [if_pos c20] at H
                        have LMc20 := Aside0.mk c20
                        clear c20
                        obtain ⟨y179, hy179⟩ : ∃ y_ : List Int, y_ = (([] : List Int) ++ y175) := ⟨_, rfl⟩
                        replace H : (if y179.length < 17592186044416 then ((some (y179 ++ [x5_1] : List Int)).bind fun y182 => ((some (x4_1.drop (x6_2 : Int).toNat : List Int)).bind fun y185 => (if y182.length + y185.length < 17592186044416 then (gessoref14_Sort.l0 k2 l0 (y182 ++ y185) (wrap64 (x5_1 + 1))) else (none)))) else (none)) = some (r1, r2) := by first | (rw [hy179]; with_reducible exact H) | (have H2_ := (Option.bind_some _ _).symm.trans H; rw [hy179]; with_reducible exact H2_) | (have H2_ := (Option.bind_some _ _).symm.trans H; with_reducible exact H2_) | with_reducible exact H | (rw [hy179]; exact H) | exact H
                        have Ny179 := Aside0.mk hy179
                        clear hy179
                        by_cases c21 : y179.length < 17592186044416
                        · rw [if_pos c21] at H
                          have LMc21 := Aside0.mk c21
                          clear c21
                          obtain ⟨y182, hy182⟩ : ∃ y_ : List Int, y_ = (y179 ++ [x5_1]) := ⟨_, rfl⟩
                          replace H : ((some (x4_1.drop (x6_2 : Int).toNat : List Int)).bind fun y185 => (if y182.length + y185.length < 17592186044416 then (gessoref14_Sort.l0 k2 l0 (y182 ++ y185) (wrap64 (x5_1 + 1))) else (none))) = some (r1, r2) := by first | (rw [hy182]; with_reducible exact H) | (have H2_ := (Option.bind_some _ _).symm.trans H; rw [hy182]; with_reducible exact H2_) | (have H2_ := (Option.bind_some _ _).symm.trans H; with_reducible exact H2_) | with_reducible exact H | (rw [hy182]; exact H) | exact H
                          have Ny182 := Aside0.mk hy182
                          clear hy182
                          have c22b0 := eq_true (of_decide_eq_true (by first | (with_reducible assumption) | assumption) : 0 ≤ x6_2)
                          have c23b0 := eq_true (of_decide_eq_true (by first | (with_reducible assumption) | assumption) : x6_2 ≤ (x4_1.length : Int))
                          obtain ⟨y185, hy185⟩ : ∃ y_ : List Int, y_ = (x4_1.drop (x6_2 : Int).toNat) := ⟨_, rfl⟩
                          replace H : (if y182.length + y185.length < 17592186044416 then (gessoref14_Sort.l0 k2 l0 (y182 ++ y185) (wrap64 (x5_1 + 1))) else (none)) = some (r1, r2) := by first | (rw [hy185]; with_reducible exact H) | (have H2_ := (Option.bind_some _ _).symm.trans H; rw [hy185]; with_reducible exact H2_) | (have H2_ := (Option.bind_some _ _).symm.trans H; with_reducible exact H2_) | with_reducible exact H | (rw [hy185]; exact H) | exact H
                          have Ny185 := Aside0.mk hy185
                          clear hy185
                          by_cases c24 : y182.length + y185.length < 17592186044416
                          · rw [if_pos c24] at H
                            have LMc24 := Aside0.mk c24
                            clear c24
                            obtain ⟨y189, hy189⟩ : ∃ y_ : List Int, y_ = (y182 ++ y185) := ⟨_, rfl⟩
                            replace H : (gessoref14_Sort.l0 k2 l0 y189 (wrap64 (x5_1 + 1))) = some (r1, r2) := by first | (rw [hy189]; with_reducible exact H) | (have H2_ := (Option.bind_some _ _).symm.trans H; rw [hy189]; with_reducible exact H2_) | (have H2_ := (Option.bind_some _ _).symm.trans H; with_reducible exact H2_) | with_reducible exact H | (rw [hy189]; exact H) | exact H
                            have Ny189 := Aside0.mk hy189
                            clear hy189
                            have H' := Aside0.mk H
                            clear H
                            obtain ⟨Ao25, co25, eo25⟩ := Kd.R_slice HO_4.out
                            subst eo25
                            have p167 : 0 ≤ (x6_2 : Int) := of_decide_eq_true (by first | (with_reducible assumption) | assumption)
                            have q167 : x6_2 < (x4_1.length : Int) := of_decide_eq_true (by first | (with_reducible assumption) | assumption)
                            obtain ⟨ad167, e167, hx167_0⟩ := Kd.at_int (Kd.R_reads' HO_4.out).2.2 x6_2 p167 q167
                            cases e167
                            replace p167 := eq_true p167
                            replace q167 := eq_true q167
                            go_wp2_with (first | (go_at_call 14; (with_reducible refine (gessoref14_Path.calls k2 _ _ l0 (rd x4_1 x6_2) t168 _ ?side1 ?side2 A9.out).mono ?_); (case side1 => repeat (first | exact (Kd.C_below HR0.out HB.out) | (with_reducible refine Kd.C_alloc ?_ _) | (with_reducible refine Kd.C_drewN ?_ _) | (with_reducible refine Kd.C_drew ?_))); (case side2 => exact HC0.out); rintro e w26 ⟨v169, rfl, ho0, hb⟩; have n0_ := Aside0.mk (Kd.R_below (by (with_reducible repeat (first | apply Kd.R_alloc | apply Kd.R_drewN | apply Kd.R_drew)); exact HO_4.out) hb); have n1_ := Aside0.mk (Kd.R_lower ho0 (below_size (by repeat (first | (with_reducible first | exact HB.out | apply below_alloc | apply pw_below_drewN | apply below_drew1) | exact HB.out)))); have n2_ := Aside0.mk (below_step (by repeat (first | (with_reducible first | exact HB.out | apply below_alloc | apply pw_below_drewN | apply below_drew1) | exact HB.out)) hb); clear HO_4; clear HB; have HO_4 := n0_; have HO170 := n1_; have HB := n2_; clear n0_ n1_ n2_; (try clear hb); (try clear hb2); (try clear hk); (try clear hi); (try clear ho0)) | (go_at_call 14; (with_reducible refine (gessoref14_Path.calls k2 _ _ l0 x5_1 t171 _ ?side1 ?side2 A10.out).mono ?_); (case side1 => repeat (first | exact (Kd.C_below HR0.out HB.out) | (with_reducible refine Kd.C_alloc ?_ _) | (with_reducible refine Kd.C_drewN ?_ _) | (with_reducible refine Kd.C_drew ?_))); (case side2 => exact HC0.out); rintro e w27 ⟨v172, rfl, ho0, hb⟩; have n0_ := Aside0.mk (Kd.R_below (by (with_reducible repeat (first | apply Kd.R_alloc | apply Kd.R_drewN | apply Kd.R_drew)); exact HO_4.out) hb); have n1_ := Aside0.mk (Kd.R_elder' (by (with_reducible repeat (first | apply Kd.R_alloc | apply Kd.R_drewN | apply Kd.R_drew)); exact HO170.out) (Kd.R_base ho0) hb); have n2_ := Aside0.mk (Kd.R_lower (Kd.R_new' ho0 (Kd.R_lt (by (with_reducible repeat (first | apply Kd.R_alloc | apply Kd.R_drewN | apply Kd.R_drew)); exact HO170.out))) (below_size (by repeat (first | (with_reducible first | exact HB.out | apply below_alloc | apply pw_below_drewN | apply below_drew1) | exact HB.out)))); have n3_ := Aside0.mk (below_step (by repeat (first | (with_reducible first | exact HB.out | apply below_alloc | apply pw_below_drewN | apply below_drew1) | exact HB.out)) hb); clear HO_4; clear HO170; clear HB; have HO_4 := n0_; have HO170 := n1_; have HO173 := n2_; have HB := n3_; clear n0_ n1_ n2_ n3_; (try clear hb); (try clear hb2); (try clear hk); (try clear hi); (try clear ho0); obtain ⟨Ao28, co28, eo28⟩ := Kd.R_slice HO170.out; subst eo28; obtain ⟨Ao29, co29, eo29⟩ := Kd.R_slice HO173.out; subst eo29) | (go_at_call 23; (with_reducible refine (gessoref14_Less.calls k2 _ _ t168 _ _ t171 false _ ?side1 ?side2 ?side3 ?side4 A11.out).mono ?_); (case side1 => repeat (first | exact (Kd.R_reads' HO170.out).2.2 | (with_reducible refine Kd.C_alloc ?_ _) | (with_reducible refine Kd.C_drewN ?_ _) | (with_reducible refine Kd.C_drew ?_))); (case side2 => exact (Kd.R_reads' HO170.out).2.1); (case side3 => repeat (first | exact (Kd.R_reads' HO173.out).2.2 | (with_reducible refine Kd.C_alloc ?_ _) | (with_reducible refine Kd.C_drewN ?_ _) | (with_reducible refine Kd.C_drew ?_))); (case side4 => exact (Kd.R_reads' HO173.out).2.1); rintro e w' ⟨rfl, ⟨nd, rfl⟩⟩; have q30 : (x6_2 : Int) ≤ ((x4_1.length : Int) : Int) := of_decide_eq_true (by first | (with_reducible assumption) | assumption); obtain ⟨i030, hi030, _, hsz30, _⟩ := info_parts info3; have hroom30 : x4_1.length ≤ co25 := (Kd.R_reads' HO_4.out).2.1; have hC30 : Kd.C (Kd.int .i64) _ (some ad167) x4_1.length x4_1 := (Kd.R_reads' HO_4.out).2.2; have hcut30 := cut_to (P := Try.prog) 44 3 .i64 Try.underlying44 hi030 (some ad167) x4_1.length co25 x6_2 (of_decide_eq_true (by first | (with_reducible assumption) | assumption)) q30 hroom30; have hr30 := Kd.C_take (m := (x6_2 : Int).toNat) hC30 (by omega); have hy30 : y175.length = (x6_2 : Int).toNat := (by rw [Ny175.out, List.length_take]; omega); rw [← Ny175.out] at hr30; rw [← hy30] at hcut30; have HR178 := Aside0.mk hr30; have HC178 := Aside0.mk (show y175.length ≤ co25 from by omega); clear hr30 hC30 hroom30 hi030 hsz30; have KY30 := Aside0.mk hy30; clear hy30; have KL30 := Aside0.mk (show (x6_2 : Int).toNat ≤ x4_1.length from by omega); replace q30 := eq_true q30) | ((with_reducible refine gate_builtin (b := .append) (xs := #[.tmp 40, .tmp 43]) rfl ?_); at_builtin; refine Kd.R_append_rows (Kd.int .i64) (w0 := w) w.heap.size rfl (.tmp 40) (.tmp 43) 44 3 (.int .i64 0) 8 rfl Try.underlying44 info3 rfl (by decide) (by omega) (.slice none 0 0) ([] : List Int) y175 _ _ _ (fun k_ => some k_ ≠ (.slice (some ad167) x4_1.length co25 : Value).ownBlock) (fun _ => False) rfl rfl ?aO ?aR (fun _ _ h => h) (fun _ h => h.elim) ?aF ?aB ?aS ?aL ?_; (case aR => repeat (first | exact (by repeat (first | (with_reducible exact HR178.out) | (with_reducible refine Kd.C_alloc ?_ _) | (with_reducible refine Kd.C_drewN ?_ _) | (with_reducible refine Kd.C_drew ?_) | exact HR178.out)) | (with_reducible refine Kd.C_alloc ?_ _) | (with_reducible refine Kd.C_drewN ?_ _) | (with_reducible refine Kd.C_drew ?_))); (case aB => exact (by repeat (first | (with_reducible first | exact HB.out | apply below_alloc | apply pw_below_drewN | apply below_drew1) | exact HB.out))); (case aF => exact (fun k_ hk => Kd.fresh' (Kd.R_lt (by (with_reducible repeat (first | apply Kd.R_alloc | apply Kd.R_drewN | apply Kd.R_drew)); exact HO_4.out)) k_ hk)); (case aO => exact ((Kd.R_nil _ _ _ _ (fun k_ => some k_ ≠ (.slice (some ad167) x4_1.length co25 : Value).ownBlock)))); (case aS => exact (below_size (by repeat (first | (with_reducible first | exact HB.out | apply below_alloc | apply pw_below_drewN | apply below_drew1) | exact HB.out)))); (case aL => have := LMc20.out; omega); intro v180 w31 ho hb hg hat; rw [← Ny179.out] at ho; have n0_ := Aside0.mk (Kd.R_after (Kd.R_apart_nil (by (with_reducible repeat (first | apply Kd.R_alloc | apply Kd.R_drewN | apply Kd.R_drew)); exact HO_4.out)) hg hat); have n1_ := Aside0.mk (Kd.R_grown (by (with_reducible repeat (first | apply Kd.R_alloc | apply Kd.R_drewN | apply Kd.R_drew)); exact HO170.out) hg (fun _ _ => by simp [Value.ownBlock])); have n2_ := Aside0.mk (Kd.R_grown (by (with_reducible repeat (first | apply Kd.R_alloc | apply Kd.R_drewN | apply Kd.R_drew)); exact HO173.out) hg (fun _ _ => by simp [Value.ownBlock])); have n3_ := Aside0.mk (hb); have n4_ := Aside0.mk ((show Kd.C (Kd.int .i64) w31 (some ad167) y175.length y175 from by rw [Ny175.out]; exact Kd.C_take (m := (x6_2 : Int).toNat) ((Kd.R_reads' (Kd.R_after (Kd.R_apart_nil (by (with_reducible repeat (first | apply Kd.R_alloc | apply Kd.R_drewN | apply Kd.R_drew)); exact HO_4.out)) hg hat)).2.2) KL30.out)); have n5_ := Aside0.mk (ho); clear HO_4; clear HO170; clear HO173; clear HB; clear HR178; have HO_4 := n0_; have HO170 := n1_; have HO173 := n2_; have HB := n3_; have HR178 := n4_; have HO181 := n5_; clear n0_ n1_ n2_ n3_ n4_ n5_; clear ho hb hg hat) | ((with_reducible refine gate_builtin (b := .append) (xs := #[.tmp 44, .tmp 46]) rfl ?_); at_builtin; refine Kd.R_append (Kd.int .i64) (w0 := w) w.heap.size rfl (.tmp 44) (.tmp 46) 44 3 (.int .i64 0) 8 rfl Try.underlying44 info3 rfl (by decide) (by omega) v180 y179 x5_1 [.int .i64 x5_1] (fun k_ => some k_ ≠ (.slice (some ad167) x4_1.length co25 : Value).ownBlock) (fun _ => False) rfl rfl ?aP (fun _ hk => hk.elim) ?aF ?aO ?aB ?aS ?aL ?_; (case aP => exact rfl); (case aB => exact (by repeat (first | (with_reducible first | exact HB.out | apply below_alloc | apply pw_below_drewN | apply below_drew1) | exact HB.out))); (case aF => exact (fun k_ hk => Kd.fresh' (Kd.R_lt (by (with_reducible repeat (first | apply Kd.R_alloc | apply Kd.R_drewN | apply Kd.R_drew)); exact HO_4.out)) k_ hk)); (case aO => exact (by (with_reducible repeat (first | apply Kd.R_alloc | apply Kd.R_drewN | apply Kd.R_drew)); exact HO181.out)); (case aS => exact (below_size (by repeat (first | (with_reducible first | exact HB.out | apply below_alloc | apply pw_below_drewN | apply below_drew1) | exact HB.out)))); (case aL => have := LMc21.out; omega); intro v183 w32 ho hb hg hat; rw [← Ny182.out] at ho; have n0_ := Aside0.mk (Kd.R_after (ok := (fun _ => True)) (by (with_reducible repeat (first | apply Kd.R_alloc | apply Kd.R_drewN | apply Kd.R_drew)); exact HO_4.out) hg hat); have n1_ := Aside0.mk (Kd.R_over' (by (with_reducible repeat (first | apply Kd.R_alloc | apply Kd.R_drewN | apply Kd.R_drew)); exact HO170.out) (Kd.R_typed (by (with_reducible repeat (first | apply Kd.R_alloc | apply Kd.R_drewN | apply Kd.R_drew)); exact HO181.out)) (by decide) hg); have n2_ := Aside0.mk (Kd.R_over' (by (with_reducible repeat (first | apply Kd.R_alloc | apply Kd.R_drewN | apply Kd.R_drew)); exact HO173.out) (Kd.R_typed (by (with_reducible repeat (first | apply Kd.R_alloc | apply Kd.R_drewN | apply Kd.R_drew)); exact HO181.out)) (by decide) hg); have n3_ := Aside0.mk (hb); have n4_ := Aside0.mk ((show Kd.C (Kd.int .i64) w32 (some ad167) y175.length y175 from by rw [Ny175.out]; exact Kd.C_take (m := (x6_2 : Int).toNat) ((Kd.R_reads' (Kd.R_after (ok := (fun _ => True)) (by (with_reducible repeat (first | apply Kd.R_alloc | apply Kd.R_drewN | apply Kd.R_drew)); exact HO_4.out) hg hat)).2.2) KL30.out)); have n5_ := Aside0.mk (ho); clear HO_4; clear HO170; clear HO173; clear HB; clear HR178; clear HO181; have HO_4 := n0_; have HO170 := n1_; have HO173 := n2_; have HB := n3_; have HR178 := n4_; have HO184 := n5_; clear n0_ n1_ n2_ n3_ n4_ n5_; clear ho hb hg hat; have q33 : (x6_2 : Int) ≤ ((x4_1.length : Int) : Int) := of_decide_eq_true (by first | (with_reducible assumption) | assumption); obtain ⟨i033, hi033, _, hsz33, _⟩ := info_parts info3; have hroom33 : x4_1.length ≤ co25 := (Kd.R_reads' HO_4.out).2.1; have hC33 : Kd.C (Kd.int .i64) _ (some ad167) x4_1.length x4_1 := (Kd.R_reads' HO_4.out).2.2; have q033 : (0 : Int) ≤ (x6_2 : Int) := of_decide_eq_true (by first | (with_reducible assumption) | assumption); have hcut33 := cut_from (P := Try.prog) 44 3 .i64 Try.underlying44 hi033 1 hsz33 (some ad167) x4_1.length co25 x6_2 q033 q33; have hr33 := Kd.C_drop (m := (x6_2 : Int).toNat) (c := co25) hC33 (by omega) hroom33; obtain ⟨A33, hA33⟩ : ∃ A1, A1 = (if co25 = (x6_2 : Int).toNat then (some ad167) else ((some ad167) : Option Addr).map (·.add ((x6_2 : Int).toNat * 1))) := ⟨_, rfl⟩; obtain ⟨c33, hc33⟩ : ∃ c1, c1 = co25 - (x6_2 : Int).toNat := ⟨_, rfl⟩; have hy33 : y185.length = x4_1.length - (x6_2 : Int).toNat := (by rw [Ny185.out, List.length_drop] <;> omega); rw [show (x4_1).drop (x6_2 : Int).toNat = y185 from Ny185.out.symm] at hr33; replace hr33 : Kd.C (Kd.int .i64) _ A33 y185.length y185 := (by rw [hA33]; exact hr33); rw [← hy33, ← hA33, ← hc33] at hcut33; have HR188 := Aside0.mk hr33; have HC188 := Aside0.mk (show y185.length ≤ c33 from by rw [hy33, hc33]; exact Nat.sub_le_sub_right hroom33 _); clear hr33 hC33 hroom33 hi033 hsz33 hc33; have KY33 := Aside0.mk hy33; have KA33 := Aside0.mk hA33; clear hy33 hA33; have KL33 := Aside0.mk (show (x6_2 : Int).toNat ≤ x4_1.length from by omega); replace q33 := eq_true q33) | ((with_reducible refine gate_builtin (b := .append) (xs := #[.tmp 48, .tmp 51]) rfl ?_); at_builtin; refine Kd.R_append_rows (Kd.int .i64) (w0 := w) w.heap.size rfl (.tmp 48) (.tmp 51) 44 3 (.int .i64 0) 8 rfl Try.underlying44 info3 rfl (by decide) (by omega) v183 y182 y185 _ _ _ (fun k_ => some k_ ≠ (.slice (some ad167) x4_1.length co25 : Value).ownBlock) (fun _ => False) rfl rfl ?aO ?aR (fun _ _ h => h) (fun _ h => h.elim) ?aF ?aB ?aS ?aL ?_; (case aR => repeat (first | exact (by repeat (first | (with_reducible exact HR188.out) | (with_reducible refine Kd.C_alloc ?_ _) | (with_reducible refine Kd.C_drewN ?_ _) | (with_reducible refine Kd.C_drew ?_) | exact HR188.out)) | (with_reducible refine Kd.C_alloc ?_ _) | (with_reducible refine Kd.C_drewN ?_ _) | (with_reducible refine Kd.C_drew ?_))); (case aB => exact (by repeat (first | (with_reducible first | exact HB.out | apply below_alloc | apply pw_below_drewN | apply below_drew1) | exact HB.out))); (case aF => exact (fun k_ hk => Kd.fresh' (Kd.R_lt (by (with_reducible repeat (first | apply Kd.R_alloc | apply Kd.R_drewN | apply Kd.R_drew)); exact HO_4.out)) k_ hk)); (case aO => exact (by (with_reducible repeat (first | apply Kd.R_alloc | apply Kd.R_drewN | apply Kd.R_drew)); exact HO184.out)); (case aS => exact (below_size (by repeat (first | (with_reducible first | exact HB.out | apply below_alloc | apply pw_below_drewN | apply below_drew1) | exact HB.out)))); (case aL => have := LMc24.out; omega); intro v190 w34 ho hb hg hat; rw [← Ny189.out] at ho; have n0_ := Aside0.mk (Kd.R_after (ok := (fun _ => True)) (by (with_reducible repeat (first | apply Kd.R_alloc | apply Kd.R_drewN | apply Kd.R_drew)); exact HO_4.out) hg hat); have n1_ := Aside0.mk (Kd.R_over' (by (with_reducible repeat (first | apply Kd.R_alloc | apply Kd.R_drewN | apply Kd.R_drew)); exact HO170.out) (Kd.R_typed (by (with_reducible repeat (first | apply Kd.R_alloc | apply Kd.R_drewN | apply Kd.R_drew)); exact HO184.out)) (by decide) hg); have n2_ := Aside0.mk (Kd.R_over' (by (with_reducible repeat (first | apply Kd.R_alloc | apply Kd.R_drewN | apply Kd.R_drew)); exact HO173.out) (Kd.R_typed (by (with_reducible repeat (first | apply Kd.R_alloc | apply Kd.R_drewN | apply Kd.R_drew)); exact HO184.out)) (by decide) hg); have n3_ := Aside0.mk (hb); have n4_ := Aside0.mk ((show Kd.C (Kd.int .i64) w34 (some ad167) y175.length y175 from by rw [Ny175.out]; exact Kd.C_take (m := (x6_2 : Int).toNat) ((Kd.R_reads' (Kd.R_after (ok := (fun _ => True)) (by (with_reducible repeat (first | apply Kd.R_alloc | apply Kd.R_drewN | apply Kd.R_drew)); exact HO_4.out) hg hat)).2.2) KL30.out)); have n5_ := Aside0.mk ((show Kd.C (Kd.int .i64) w34 A33 y185.length y185 from by rw [Ny185.out, KA33.out]; exact Kd.C_drop (m := (x6_2 : Int).toNat) (c := co25) ((Kd.R_reads' (Kd.R_after (ok := (fun _ => True)) (by (with_reducible repeat (first | apply Kd.R_alloc | apply Kd.R_drewN | apply Kd.R_drew)); exact HO_4.out) hg hat)).2.2) KL33.out ((Kd.R_reads' (Kd.R_after (ok := (fun _ => True)) (by (with_reducible repeat (first | apply Kd.R_alloc | apply Kd.R_drewN | apply Kd.R_drew)); exact HO_4.out) hg hat)).2.1))); have n6_ := Aside0.mk (ho); clear HO_4; clear HO170; clear HO173; clear HB; clear HR178; clear HR188; clear HO184; have HO_4 := n0_; have HO170 := n1_; have HO173 := n2_; have HB := n3_; have HR178 := n4_; have HR188 := n5_; have HO191 := n6_; clear n0_ n1_ n2_ n3_ n4_ n5_ n6_; clear ho hb hg hat))
                            go_roundg k2
                            case measure => have := HK1.out; have := HK2.out; omega
                            case rel => exact ⟨(y189), (wrap64 (x5_1 + 1)), (by first | rfl | (simp; done) | (simp [*]; done)), H', ⟨by have := HK1.out; have := HK2.out; omega⟩, ⟨by (with_reducible repeat (first | apply Kd.R_alloc | apply Kd.R_drewN | apply Kd.R_drew)); exact Kd.R_mono HO191.out (fun _ hk => trivial)⟩, ⟨by repeat (first | (with_reducible first | exact HB.out | apply below_alloc | apply pw_below_drewN | apply below_drew1) | exact HB.out)⟩⟩
                          · rw [if_neg c24] at H
                            exact absurd H (by simp)
                        · rw [if_neg c21] at H
                          exact absurd H (by simp)
                      · rw [if_neg c20] at H
                        exact absurd H (by simp)
                    · rw [if_neg c19] at H
                      exact absurd H (by simp)
                · rw [if_neg c8] at H
                  exact absurd H (by simp)
              · rw [if_neg c7] at H
                have c7b0 : decide (x6_2 < (x4_1.length : Int)) = false := decide_eq_false c7
                clear c7
                by_cases c35 : 0 ≤ x6_2
                · rw [if_pos c35] at H
                  have c35b0 := eq_true c35
                  have c35b1 : decide (0 ≤ x6_2) = true := decide_eq_true c35
                  clear c35
                  by_cases c36 : x6_2 ≤ (x4_1.length : Int)
                  · rw [if_pos c36] at H
                    have c36b0 := eq_true c36
                    have c36b1 : decide (x6_2 ≤ (x4_1.length : Int)) = true := decide_eq_true c36
                    clear c36
                    obtain ⟨y192, hy192⟩ : ∃ y_ : List Int, y_ = (x4_1.take (x6_2 : Int).toNat) := ⟨_, rfl⟩
                    replace H : (if ([] : List Int).length + y192.length < 17592186044416 then ((some (([] : List Int) ++ y192 : List Int)).bind fun y196 => (if y196.length < 17592186044416 then ((some (y196 ++ [x5_1] : List Int)).bind fun y199 => ((some (x4_1.drop (x6_2 : Int).toNat : List Int)).bind fun y202 => (if y199.length + y202.length < 17592186044416 then (gessoref14_Sort.l0 k2 l0 (y199 ++ y202) (wrap64 (x5_1 + 1))) else (none)))) else (none))) else (none)) = some (r1, r2) := by first | (rw [hy192]; with_reducible exact H) | (have H2_ := (Option.bind_some _ _).symm.trans H; rw [hy192]; with_reducible exact H2_) | (have H2_ := (Option.bind_some _ _).symm.trans H; with_reducible exact H2_) | with_reducible exact H | (rw [hy192]; exact H) | exact H
                    have Ny192 := Aside0.mk hy192
                    clear hy192
                    by_cases c37 : ([] : List Int).length + y192.length < 17592186044416
                    · rw [if_pos c37] at H
                      have LMc37 := Aside0.mk c37
                      clear c37
                      obtain ⟨y196, hy196⟩ : ∃ y_ : List Int, y_ = (([] : List Int) ++ y192) := ⟨_, rfl⟩
                      replace H : (if y196.length < 17592186044416 then ((some (y196 ++ [x5_1] : List Int)).bind fun y199 => ((some (x4_1.drop (x6_2 : Int).toNat : List Int)).bind fun y202 => (if y199.length + y202.length < 17592186044416 then (gessoref14_Sort.l0 k2 l0 (y199 ++ y202) (wrap64 (x5_1 + 1))) else (none)))) else (none)) = some (r1, r2) := by first | (rw [hy196]; with_reducible exact H) | (have H2_ := (Option.bind_some _ _).symm.trans H; rw [hy196]; with_reducible exact H2_) | (have H2_ := (Option.bind_some _ _).symm.trans H; with_reducible exact H2_) | with_reducible exact H | (rw [hy196]; exact H) | exact H
                      have Ny196 := Aside0.mk hy196
                      clear hy196
                      by_cases c38 : y196.length < 17592186044416
                      · rw [if_pos c38] at H
                        have LMc38 := Aside0.mk c38
                        clear c38
                        obtain ⟨y199, hy199⟩ : ∃ y_ : List Int, y_ = (y196 ++ [x5_1]) := ⟨_, rfl⟩
                        replace H : ((some (x4_1.drop (x6_2 : Int).toNat : List Int)).bind fun y202 => (if y199.length + y202.length < 17592186044416 then (gessoref14_Sort.l0 k2 l0 (y199 ++ y202) (wrap64 (x5_1 + 1))) else (none))) = some (r1, r2) := by first | (rw [hy199]; with_reducible exact H) | (have H2_ := (Option.bind_some _ _).symm.trans H; rw [hy199]; with_reducible exact H2_) | (have H2_ := (Option.bind_some _ _).symm.trans H; with_reducible exact H2_) | with_reducible exact H | (rw [hy199]; exact H) | exact H
                        have Ny199 := Aside0.mk hy199
                        clear hy199
                        have c39b0 := eq_true (of_decide_eq_true (by first | (with_reducible assumption) | assumption) : 0 ≤ x6_2)
                        have c40b0 := eq_true (of_decide_eq_true (by first | (with_reducible assumption) | assumption) : x6_2 ≤ (x4_1.length : Int))
                        obtain ⟨y202, hy202⟩ : ∃ y_ : List Int, y_ = (x4_1.drop (x6_2 : Int).toNat) := ⟨_, rfl⟩
                        replace H : (if y199.length + y202.length < 17592186044416 then (gessoref14_Sort.l0 k2 l0 (y199 ++ y202) (wrap64 (x5_1 + 1))) else (none)) = some (r1, r2) := by first | (rw [hy202]; with_reducible exact H) | (have H2_ := (Option.bind_some _ _).symm.trans H; rw [hy202]; with_reducible exact H2_) | (have H2_ := (Option.bind_some _ _).symm.trans H; with_reducible exact H2_) | with_reducible exact H | (rw [hy202]; exact H) | exact H
                        have Ny202 := Aside0.mk hy202
                        clear hy202
                        by_cases c41 : y199.length + y202.length < 17592186044416
                        · rw [if_pos c41] at H
                          have LMc41 := Aside0.mk c41
                          clear c41
                          obtain ⟨y206, hy206⟩ : ∃ y_ : List Int, y_ = (y199 ++ y202) := ⟨_, rfl⟩
                          replace H : (gessoref14_Sort.l0 k2 l0 y206 (wrap64 (x5_1 + 1))) = some (r1, r2) := by first | (rw [hy206]; with_reducible exact H) | (have H2_ := (Option.bind_some _ _).symm.trans H; rw [hy206]; with_reducible exact H2_) | (have H2_ := (Option.bind_some _ _).symm.trans H; with_reducible exact H2_) | with_reducible exact H | (rw [hy206]; exact H) | exact H
                          have Ny206 := Aside0.mk hy206
                          clear hy206
                          have H' := Aside0.mk H
                          clear H
                          obtain ⟨Ao42, co42, eo42⟩ := Kd.R_slice HO_4.out
                          subst eo42
                          have q43 : (x6_2 : Int) ≤ ((x4_1.length : Int) : Int) := of_decide_eq_true (by first | (with_reducible assumption) | assumption)
                          obtain ⟨i043, hi043, _, hsz43, _⟩ := info_parts info3
                          have hroom43 : x4_1.length ≤ co42 := (Kd.R_reads' HO_4.out).2.1
                          have hC43 : Kd.C (Kd.int .i64) _ Ao42 x4_1.length x4_1 := (Kd.R_reads' HO_4.out).2.2
                          have hcut43 := cut_to (P := Try.prog) 44 3 .i64 Try.underlying44 hi043 Ao42 x4_1.length co42 x6_2 (of_decide_eq_true (by first | (with_reducible assumption) | assumption)) q43 hroom43
                          have hr43 := Kd.C_take (m := (x6_2 : Int).toNat) hC43 (by omega)
                          have hy43 : y192.length = (x6_2 : Int).toNat := (by rw [Ny192.out, List.length_take]; omega)
                          rw [← Ny192.out] at hr43
                          rw [← hy43] at hcut43
                          have HR195 := Aside0.mk hr43
                          have HC195 := Aside0.mk (show y192.length ≤ co42 from by omega)
                          clear hr43 hC43 hroom43 hi043 hsz43
                          have KY43 := Aside0.mk hy43
                          clear hy43
                          have KL43 := Aside0.mk (show (x6_2 : Int).toNat ≤ x4_1.length from by omega)
                          replace q43 := eq_true q43
                          go_wp2_with (first | ((with_reducible refine gate_builtin (b := .append) (xs := #[.tmp 40, .tmp 43]) rfl ?_); at_builtin; refine Kd.R_append_rows (Kd.int .i64) (w0 := w) w.heap.size rfl (.tmp 40) (.tmp 43) 44 3 (.int .i64 0) 8 rfl Try.underlying44 info3 rfl (by decide) (by omega) (.slice none 0 0) ([] : List Int) y192 _ _ _ (fun k_ => some k_ ≠ (.slice Ao42 x4_1.length co42 : Value).ownBlock) (fun _ => False) rfl rfl ?aO ?aR (fun _ _ h => h) (fun _ h => h.elim) ?aF ?aB ?aS ?aL ?_; (case aR => repeat (first | exact (by repeat (first | (with_reducible exact HR195.out) | (with_reducible refine Kd.C_alloc ?_ _) | (with_reducible refine Kd.C_drewN ?_ _) | (with_reducible refine Kd.C_drew ?_) | exact HR195.out)) | (with_reducible refine Kd.C_alloc ?_ _) | (with_reducible refine Kd.C_drewN ?_ _) | (with_reducible refine Kd.C_drew ?_))); (case aB => exact (by repeat (first | (with_reducible first | exact HB.out | apply below_alloc | apply pw_below_drewN | apply below_drew1) | exact HB.out))); (case aF => exact (fun k_ hk => Kd.fresh' (Kd.R_lt (by (with_reducible repeat (first | apply Kd.R_alloc | apply Kd.R_drewN | apply Kd.R_drew)); exact HO_4.out)) k_ hk)); (case aO => exact ((Kd.R_nil _ _ _ _ (fun k_ => some k_ ≠ (.slice Ao42 x4_1.length co42 : Value).ownBlock)))); (case aS => exact (below_size (by repeat (first | (with_reducible first | exact HB.out | apply below_alloc | apply pw_below_drewN | apply below_drew1) | exact HB.out)))); (case aL => have := LMc37.out; omega); intro v197 w44 ho hb hg hat; rw [← Ny196.out] at ho; have n0_ := Aside0.mk (Kd.R_after (Kd.R_apart_nil (by (with_reducible repeat (first | apply Kd.R_alloc | apply Kd.R_drewN | apply Kd.R_drew)); exact HO_4.out)) hg hat); have n1_ := Aside0.mk (hb); have n2_ := Aside0.mk ((show Kd.C (Kd.int .i64) w44 Ao42 y192.length y192 from by rw [Ny192.out]; exact Kd.C_take (m := (x6_2 : Int).toNat) ((Kd.R_reads' (Kd.R_after (Kd.R_apart_nil (by (with_reducible repeat (first | apply Kd.R_alloc | apply Kd.R_drewN | apply Kd.R_drew)); exact HO_4.out)) hg hat)).2.2) KL43.out)); have n3_ := Aside0.mk (ho); clear HO_4; clear HB; clear HR195; have HO_4 := n0_; have HB := n1_; have HR195 := n2_; have HO198 := n3_; clear n0_ n1_ n2_ n3_; clear ho hb hg hat) | ((with_reducible refine gate_builtin (b := .append) (xs := #[.tmp 44, .tmp 46]) rfl ?_); at_builtin; refine Kd.R_append (Kd.int .i64) (w0 := w) w.heap.size rfl (.tmp 44) (.tmp 46) 44 3 (.int .i64 0) 8 rfl Try.underlying44 info3 rfl (by decide) (by omega) v197 y196 x5_1 [.int .i64 x5_1] (fun k_ => some k_ ≠ (.slice Ao42 x4_1.length co42 : Value).ownBlock) (fun _ => False) rfl rfl ?aP (fun _ hk => hk.elim) ?aF ?aO ?aB ?aS ?aL ?_; (case aP => exact rfl); (case aB => exact (by repeat (first | (with_reducible first | exact HB.out | apply below_alloc | apply pw_below_drewN | apply below_drew1) | exact HB.out))); (case aF => exact (fun k_ hk => Kd.fresh' (Kd.R_lt (by (with_reducible repeat (first | apply Kd.R_alloc | apply Kd.R_drewN | apply Kd.R_drew)); exact HO_4.out)) k_ hk)); (case aO => exact (by (with_reducible repeat (first | apply Kd.R_alloc | apply Kd.R_drewN | apply Kd.R_drew)); exact HO198.out)); (case aS => exact (below_size (by repeat (first | (with_reducible first | exact HB.out | apply below_alloc | apply pw_below_drewN | apply below_drew1) | exact HB.out)))); (case aL => have := LMc38.out; omega); intro v200 w45 ho hb hg hat; rw [← Ny199.out] at ho; have n0_ := Aside0.mk (Kd.R_after (ok := (fun _ => True)) (by (with_reducible repeat (first | apply Kd.R_alloc | apply Kd.R_drewN | apply Kd.R_drew)); exact HO_4.out) hg hat); have n1_ := Aside0.mk (hb); have n2_ := Aside0.mk ((show Kd.C (Kd.int .i64) w45 Ao42 y192.length y192 from by rw [Ny192.out]; exact Kd.C_take (m := (x6_2 : Int).toNat) ((Kd.R_reads' (Kd.R_after (ok := (fun _ => True)) (by (with_reducible repeat (first | apply Kd.R_alloc | apply Kd.R_drewN | apply Kd.R_drew)); exact HO_4.out) hg hat)).2.2) KL43.out)); have n3_ := Aside0.mk (ho); clear HO_4; clear HB; clear HR195; clear HO198; have HO_4 := n0_; have HB := n1_; have HR195 := n2_; have HO201 := n3_; clear n0_ n1_ n2_ n3_; clear ho hb hg hat; have q46 : (x6_2 : Int) ≤ ((x4_1.length : Int) : Int) := of_decide_eq_true (by first | (with_reducible assumption) | assumption); obtain ⟨i046, hi046, _, hsz46, _⟩ := info_parts info3; have hroom46 : x4_1.length ≤ co42 := (Kd.R_reads' HO_4.out).2.1; have hC46 : Kd.C (Kd.int .i64) _ Ao42 x4_1.length x4_1 := (Kd.R_reads' HO_4.out).2.2; have q046 : (0 : Int) ≤ (x6_2 : Int) := of_decide_eq_true (by first | (with_reducible assumption) | assumption); have hcut46 := cut_from (P := Try.prog) 44 3 .i64 Try.underlying44 hi046 1 hsz46 Ao42 x4_1.length co42 x6_2 q046 q46; have hr46 := Kd.C_drop (m := (x6_2 : Int).toNat) (c := co42) hC46 (by omega) hroom46; obtain ⟨A46, hA46⟩ : ∃ A1, A1 = (if co42 = (x6_2 : Int).toNat then Ao42 else (Ao42 : Option Addr).map (·.add ((x6_2 : Int).toNat * 1))) := ⟨_, rfl⟩; obtain ⟨c46, hc46⟩ : ∃ c1, c1 = co42 - (x6_2 : Int).toNat := ⟨_, rfl⟩; have hy46 : y202.length = x4_1.length - (x6_2 : Int).toNat := (by rw [Ny202.out, List.length_drop] <;> omega); rw [show (x4_1).drop (x6_2 : Int).toNat = y202 from Ny202.out.symm] at hr46; replace hr46 : Kd.C (Kd.int .i64) _ A46 y202.length y202 := (by rw [hA46]; exact hr46); rw [← hy46, ← hA46, ← hc46] at hcut46; have HR205 := Aside0.mk hr46; have HC205 := Aside0.mk (show y202.length ≤ c46 from by rw [hy46, hc46]; exact Nat.sub_le_sub_right hroom46 _); clear hr46 hC46 hroom46 hi046 hsz46 hc46; have KY46 := Aside0.mk hy46; have KA46 := Aside0.mk hA46; clear hy46 hA46; have KL46 := Aside0.mk (show (x6_2 : Int).toNat ≤ x4_1.length from by omega); replace q46 := eq_true q46) | ((with_reducible refine gate_builtin (b := .append) (xs := #[.tmp 48, .tmp 51]) rfl ?_); at_builtin; refine Kd.R_append_rows (Kd.int .i64) (w0 := w) w.heap.size rfl (.tmp 48) (.tmp 51) 44 3 (.int .i64 0) 8 rfl Try.underlying44 info3 rfl (by decide) (by omega) v200 y199 y202 _ _ _ (fun k_ => some k_ ≠ (.slice Ao42 x4_1.length co42 : Value).ownBlock) (fun _ => False) rfl rfl ?aO ?aR (fun _ _ h => h) (fun _ h => h.elim) ?aF ?aB ?aS ?aL ?_; (case aR => repeat (first | exact (by repeat (first | (with_reducible exact HR205.out) | (with_reducible refine Kd.C_alloc ?_ _) | (with_reducible refine Kd.C_drewN ?_ _) | (with_reducible refine Kd.C_drew ?_) | exact HR205.out)) | (with_reducible refine Kd.C_alloc ?_ _) | (with_reducible refine Kd.C_drewN ?_ _) | (with_reducible refine Kd.C_drew ?_))); (case aB => exact (by repeat (first | (with_reducible first | exact HB.out | apply below_alloc | apply pw_below_drewN | apply below_drew1) | exact HB.out))); (case aF => exact (fun k_ hk => Kd.fresh' (Kd.R_lt (by (with_reducible repeat (first | apply Kd.R_alloc | apply Kd.R_drewN | apply Kd.R_drew)); exact HO_4.out)) k_ hk)); (case aO => exact (by (with_reducible repeat (first | apply Kd.R_alloc | apply Kd.R_drewN | apply Kd.R_drew)); exact HO201.out)); (case aS => exact (below_size (by repeat (first | (with_reducible first | exact HB.out | apply below_alloc | apply pw_below_drewN | apply below_drew1) | exact HB.out)))); (case aL => have := LMc41.out; omega); intro v207 w47 ho hb hg hat; rw [← Ny206.out] at ho; have n0_ := Aside0.mk (Kd.R_after (ok := (fun _ => True)) (by (with_reducible repeat (first | apply Kd.R_alloc | apply Kd.R_drewN | apply Kd.R_drew)); exact HO_4.out) hg hat); have n1_ := Aside0.mk (hb); have n2_ := Aside0.mk ((show Kd.C (Kd.int .i64) w47 Ao42 y192.length y192 from by rw [Ny192.out]; exact Kd.C_take (m := (x6_2 : Int).toNat) ((Kd.R_reads' (Kd.R_after (ok := (fun _ => True)) (by (with_reducible repeat (first | apply Kd.R_alloc | apply Kd.R_drewN | apply Kd.R_drew)); exact HO_4.out) hg hat)).2.2) KL43.out)); have n3_ := Aside0.mk ((show Kd.C (Kd.int .i64) w47 A46 y202.length y202 from by rw [Ny202.out, KA46.out]; exact Kd.C_drop (m := (x6_2 : Int).toNat) (c := co42) ((Kd.R_reads' (Kd.R_after (ok := (fun _ => True)) (by (with_reducible repeat (first | apply Kd.R_alloc | apply Kd.R_drewN | apply Kd.R_drew)); exact HO_4.out) hg hat)).2.2) KL46.out ((Kd.R_reads' (Kd.R_after (ok := (fun _ => True)) (by (with_reducible repeat (first | apply Kd.R_alloc | apply Kd.R_drewN | apply Kd.R_drew)); exact HO_4.out) hg hat)).2.1))); have n4_ := Aside0.mk (ho); clear HO_4; clear HB; clear HR195; clear HR205; clear HO201; have HO_4 := n0_; have HB := n1_; have HR195 := n2_; have HR205 := n3_; have HO208 := n4_; clear n0_ n1_ n2_ n3_ n4_; clear ho hb hg hat))
                          go_roundg k2
                          case measure => have := HK1.out; have := HK2.out; omega
                          case rel => exact ⟨(y206), (wrap64 (x5_1 + 1)), (by first | rfl | (simp; done) | (simp [*]; done)), H', ⟨by have := HK1.out; have := HK2.out; omega⟩, ⟨by (with_reducible repeat (first | apply Kd.R_alloc | apply Kd.R_drewN | apply Kd.R_drew)); exact Kd.R_mono HO208.out (fun _ hk => trivial)⟩, ⟨by repeat (first | (with_reducible first | exact HB.out | apply below_alloc | apply pw_below_drewN | apply below_drew1) | exact HB.out)⟩⟩
                        · rw [if_neg c41] at H
                          exact absurd H (by simp)
                      · rw [if_neg c38] at H
                        exact absurd H (by simp)
                    · rw [if_neg c37] at H
                      exact absurd H (by simp)
                  · rw [if_neg c36] at H
                    exact absurd H (by simp)
                · rw [if_neg c35] at H
                  exact absurd H (by simp)
        · rw [if_neg c6] at H
          have c6b0 : decide (x5_1 < (l0.length : Int)) = false := decide_eq_false c6
          clear c6
          by_cases c48 : 0 ≤ (l0.length : Int)
          · rw [if_pos c48] at H
            have c48b0 := eq_true c48
            have c48b1 : decide (0 ≤ (l0.length : Int)) = true := decide_eq_true c48
            clear c48
            by_cases c49 : ((l0.length : Int) : Int).toNat ≤ 35184372088832
            · rw [if_pos c49] at H
              have c49b0 := eq_true c49
              have c49b1 : decide (((l0.length : Int) : Int).toNat ≤ 35184372088832) = true := decide_eq_true c49
              clear c49
              obtain ⟨y209, hy209⟩ : ∃ y_ : List Int, y_ = (List.replicate ((l0.length : Int) : Int).toNat 0) := ⟨_, rfl⟩
              replace H : (gessoref14_Sort.l2 k1 l0 x4_1 y209 0) = some (r1, r2) := by first | (rw [hy209]; with_reducible exact H) | (have H2_ := (Option.bind_some _ _).symm.trans H; rw [hy209]; with_reducible exact H2_) | (have H2_ := (Option.bind_some _ _).symm.trans H; with_reducible exact H2_) | with_reducible exact H | (rw [hy209]; exact H) | exact H
              have Ny209 := Aside0.mk hy209
              clear hy209
              have H' := Aside0.mk H
              clear H
              go_wp2_with (first | ((with_reducible refine gate_dst (N := 55) rfl ?_); refine Kd.R_make (Kd.int .i64) _ 3 rfl (N := 55) rfl 44 _ _ rfl (l0.length : Int) rfl rfl Try.underlying44 (.int .i64 0) 8 info3 rfl (by decide) (by omega) 0 (ok := fun _ => True) (okp := fun _ => True) rfl (fun _ hk => hk) trivial (of_decide_eq_true (by first | (with_reducible assumption) | assumption)) (Nat.le_trans (Nat.mul_le_mul_right _ (of_decide_eq_true (by first | (with_reducible assumption) | assumption) : (l0.length : Int).toNat ≤ 35184372088832)) (by omega)) (Below.refl _ _) (Nat.le_refl _) ?_; intro v210 w50 ho51 hb hg_ hnew_; clear hg_ hnew_; (first | rw [← Ny209.out] at ho51 | (simp only [Int.reduceToNat] at ho51; rw [← Ny209.out] at ho51)); have n0_ := Aside0.mk (Kd.R_elder' (by (with_reducible repeat (first | apply Kd.R_alloc | apply Kd.R_drewN | apply Kd.R_drew)); exact HO_4.out) (Kd.R_base ho51) hb); have n1_ := Aside0.mk (Kd.R_lower (Kd.R_new' ho51 (Kd.R_lt (by (with_reducible repeat (first | apply Kd.R_alloc | apply Kd.R_drewN | apply Kd.R_drew)); exact HO_4.out))) (below_size (by repeat (first | (with_reducible first | exact HB.out | apply below_alloc | apply pw_below_drewN | apply below_drew1) | exact HB.out)))); have n2_ := Aside0.mk (below_step (by repeat (first | (with_reducible first | exact HB.out | apply below_alloc | apply pw_below_drewN | apply below_drew1) | exact HB.out)) hb); clear HO_4; clear HB; have HO_4 := n0_; have HO211 := n1_; have HB := n2_; clear n0_ n1_ n2_; clear hb ho51))
              go_loopg [9] k1 (fun kq v9 w' => ∃ (x8_2 : List Int) (x9_2 : Int), v9 = .int .i64 x9_2 ∧ Aside0 (gessoref14_Sort.l2 kq l0 x4_1 x8_2 x9_2 = some (r1, r2)) ∧ Aside0 (kq ≤ k1) ∧ Aside0 (Kd.R (Kd.int .i64) 3 w' w.heap.size (fun k_ => some k_ ≠ (v210 : Value).ownBlock) u4 x4_1) ∧ Aside0 (Kd.R (Kd.int .i64) 3 w' w.heap.size (fun k_ => some k_ ≠ (u4 : Value).ownBlock) v210 x8_2) ∧ Aside0 (Below w.heap.size w w'))
              case atStart => exact ⟨(y209), (0), (by first | rfl | (simp; done) | (simp [*]; done)), H', ⟨Nat.le_refl _⟩, ⟨by (with_reducible repeat (first | apply Kd.R_alloc | apply Kd.R_drewN | apply Kd.R_drew)); exact Kd.R_mono HO_4.out (fun _ hk => hk.2)⟩, ⟨by (with_reducible repeat (first | apply Kd.R_alloc | apply Kd.R_drewN | apply Kd.R_drew)); exact Kd.R_mono HO211.out (fun _ hk => hk.2)⟩, ⟨by repeat (first | (with_reducible first | exact HB.out | apply below_alloc | apply pw_below_drewN | apply below_drew1) | exact HB.out)⟩⟩
              case round =>
                clear H'
                try clear c1
                try clear p1
                try clear q1
                try clear hx1
                try clear c2
                try clear p2
                try clear c3
                try clear c3b0
                try clear c3b1
                try clear q3
                try clear c4
                try clear q4
                try clear c6
                try clear c6b0
                try clear p6
                try clear c7
                try clear c7b0
                try clear c8
                try clear c8b0
                try clear c11
                try clear c12
                try clear p16
                try clear q16
                try clear hx16
                try clear c18
                try clear c18b0
                try clear c19
                try clear c19b0
                try clear c19b1
                try clear c20
                try clear c21
                try clear c22
                try clear c22b0
                try clear c23
                try clear c23b0
                try clear c24
                try clear q30
                try clear c33
                try clear q33
                try clear c35
                try clear c35b0
                try clear c35b1
                try clear c36
                try clear c36b0
                try clear c36b1
                try clear c37
                try clear c38
                try clear c39
                try clear c39b0
                try clear c40
                try clear c40b0
                try clear c41
                try clear q43
                try clear c46
                try clear q46
                try clear c48
                try clear c48b0
                try clear c48b1
                try clear c49
                try clear c49b0
                try clear c49b1
                try clear hx167_0
                try clear p167
                try clear p2
                try clear q033
                try clear q046
                try clear q167
                try clear q30
                try clear q33
                try clear q43
                try clear q46
                obtain ⟨x8_2, x9_2, rfl, HA, HK2, HO_4, HO_8, HB⟩ := hrel
                cases gk with
                | zero => exact absurd HA.out (by simp [gessoref14_Sort.l2])
                | succ k2 =>
                  have H := HA.out
                  clear HA
                  simp only [gessoref14_Sort.l2] at H
                  by_cases c52 : x9_2 < (x4_1.length : Int)
                  · rw [if_pos c52] at H
                    have c52b0 : decide (x9_2 < (x4_1.length : Int)) = true := decide_eq_true c52
                    clear c52
                    by_cases c53 : 0 ≤ x9_2
                    · rw [if_pos c53] at H
                      have c53b0 : decide (0 ≤ x9_2) = true := decide_eq_true c53
                      clear c53
                      by_cases c54 : 0 ≤ (rd x4_1 x9_2)
                      · rw [if_pos c54] at H
                        have c54b0 : decide (0 ≤ (rd x4_1 x9_2)) = true := decide_eq_true c54
                        clear c54
                        by_cases c55 : (rd x4_1 x9_2) < (x8_2.length : Int)
                        · rw [if_pos c55] at H
                          have c55b0 : decide ((rd x4_1 x9_2) < (x8_2.length : Int)) = true := decide_eq_true c55
                          clear c55
                          obtain ⟨y213, hy213⟩ : ∃ y_ : List Int, y_ = (x8_2.set ((rd x4_1 x9_2) : Int).toNat x9_2) := ⟨_, rfl⟩
                          replace H : (gessoref14_Sort.l2 k2 l0 x4_1 y213 (wrap64 (x9_2 + 1))) = some (r1, r2) := by first | (rw [hy213]; with_reducible exact H) | (have H2_ := (Option.bind_some _ _).symm.trans H; rw [hy213]; with_reducible exact H2_) | (have H2_ := (Option.bind_some _ _).symm.trans H; with_reducible exact H2_) | with_reducible exact H | (rw [hy213]; exact H) | exact H
                          have Ny213 := Aside0.mk hy213
                          clear hy213
                          have H' := Aside0.mk H
                          clear H
                          obtain ⟨Ao57, co57, eo57⟩ := Kd.R_slice HO_4.out
                          subst eo57
                          have p212 : 0 ≤ (x9_2 : Int) := of_decide_eq_true (by first | (with_reducible assumption) | assumption)
                          have q212 : x9_2 < (x4_1.length : Int) := of_decide_eq_true (by first | (with_reducible assumption) | assumption)
                          obtain ⟨ad212, e212, hx212_0⟩ := Kd.at_int (Kd.R_reads' HO_4.out).2.2 x9_2 p212 q212
                          cases e212
                          replace p212 := eq_true p212
                          replace q212 := eq_true q212
                          have p56 : 0 ≤ ((rd x4_1 x9_2) : Int) := of_decide_eq_true (by first | (with_reducible assumption) | assumption)
                          have q56 : ((rd x4_1 x9_2) : Int) < ((x8_2.length : Int) : Int) := of_decide_eq_true (by first | (with_reducible assumption) | assumption)
                          obtain ⟨go56, co56, eo56, gb56, gl56, cl56, HG56⟩ := Kd.R_form HO_8.out (by omega)
                          (first | cases eo56 | (injection eo56 with ea_ en_ ec_; (first | subst ea_ | (injection ea_ with ea_; subst ea_)); subst ec_; clear en_))
                          have GB56 := Aside0.mk gb56
                          have GG56 := Aside0.mk HG56
                          clear gb56 gl56 HG56
                          obtain ⟨hx56_0, hf56_0⟩ := Kd.R_celln 0 HO_8.out ((rd x4_1 x9_2) : Int) p56 q56
                          replace p56 := eq_true p56
                          replace q56 := eq_true q56
                          have HP58 := Kd.R_putg HO_8.out ((rd x4_1 x9_2) : Int) x9_2
                          go_wp2_with (first | ((with_reducible refine gate_store (t := 3) (p := 68) rfl ?_); refine store_event (t := 3) (p := 68) (v := ?vo_w59) (w1 := (wr.setCell ⟨go56, ((rd x4_1 x9_2) : Int).toNat, none⟩ (.int .i64 x9_2))) ?hg ?ho ?hn ?hr ?_; (case ho => rfl); (case hg => rfl); (case hn => rfl); (case hr => first | (go_simp; done) | (go_simp; rfl)); intro w59 hw; have hg : wr.grownBy w59 (some go56) := (by rw [hw]; exact HP58.2); have hp_ : Kd.R (Kd.int .i64) 3 w59 w.heap.size (fun k_ => some k_ ≠ (.slice (some ad212) x4_1.length co57 : Value).ownBlock) (.slice (some ⟨go56, 0, none⟩) x8_2.length co56) y213 := (by rw [hw, Ny213.out]; exact HP58.1); clear HP58; have n0_ := Aside0.mk (Kd.R_after (v := (.slice (some ⟨go56, 0, none⟩) x8_2.length co56)) (v1 := (.slice (some ⟨go56, 0, none⟩) x8_2.length co56)) (ok := (fun _ => True)) (by (with_reducible repeat (first | apply Kd.R_alloc | apply Kd.R_drewN | apply Kd.R_drew)); exact Kd.R_mono HO_4.out (fun _ hk => ⟨trivial, hk⟩)) hg (.inl rfl)); have n1_ := Aside0.mk (hp_); have n2_ := Aside0.mk ((by rw [hw]; exact below_set (HB.out) GB56.out : Below w.heap.size w w59)); clear HO_4; clear HO_8; clear HB; have HO_4 := n0_; have HO_8 := n1_; have HB := n2_; clear n0_ n1_ n2_; clear hg hw hp_))
                          go_roundg k2
                          case measure => have := HK1.out; have := HK2.out; omega
                          case rel => exact ⟨(y213), (wrap64 (x9_2 + 1)), (by first | rfl | (simp; done) | (simp [*]; done)), H', ⟨by have := HK1.out; have := HK2.out; omega⟩, ⟨by (with_reducible repeat (first | apply Kd.R_alloc | apply Kd.R_drewN | apply Kd.R_drew)); exact Kd.R_mono HO_4.out (fun _ hk => hk.2)⟩, ⟨by (with_reducible repeat (first | apply Kd.R_alloc | apply Kd.R_drewN | apply Kd.R_drew)); exact HO_8.out⟩, ⟨by repeat (first | (with_reducible first | exact HB.out | apply below_alloc | apply pw_below_drewN | apply below_drew1) | exact HB.out)⟩⟩
                        · rw [if_neg c55] at H
                          exact absurd H (by simp)
                      · rw [if_neg c54] at H
                        exact absurd H (by simp)
                    · rw [if_neg c53] at H
                      exact absurd H (by simp)
                  · rw [if_neg c52] at H
                    have c52b0 : decide (x9_2 < (x4_1.length : Int)) = false := decide_eq_false c52
                    clear c52
                    have H' := Aside0.mk H
                    clear H
                    obtain ⟨Ao60, co60, eo60⟩ := Kd.R_slice HO_4.out
                    subst eo60
                    go_wp2
                    go_loopg [10, 11] k2 (fun kq v10 v11 w' => ∃ (x10_3 : List (S41)) (x11_3 : Int), v11 = .int .i64 x11_3 ∧ Aside0 (gessoref14_Sort.l3 kq l0 x4_1 x8_2 x10_3 x11_3 = some (r1, r2)) ∧ Aside0 (kq ≤ k2) ∧ Aside0 (Kd.R (Kd.int .i64) 3 w' w.heap.size (fun k_ => some k_ ≠ (v210 : Value).ownBlock) (.slice Ao60 x4_1.length co60) x4_1) ∧ Aside0 (Kd.R (Kd.int .i64) 3 w' w.heap.size (fun k_ => some k_ ≠ ((.slice Ao60 x4_1.length co60) : Value).ownBlock) v210 x8_2) ∧ Aside0 (Kd.S k41 41 w' w.heap.size (fun _ => True) v10 x10_3) ∧ Aside0 (Below w.heap.size w w'))
                    case atStart => exact ⟨(([] : List (S41))), (0), (by first | rfl | (simp; done) | (simp [*]; done)), H', ⟨Nat.le_refl _⟩, ⟨by (with_reducible repeat (first | apply Kd.R_alloc | apply Kd.R_drewN | apply Kd.R_drew)); exact HO_4.out⟩, ⟨by (with_reducible repeat (first | apply Kd.R_alloc | apply Kd.R_drewN | apply Kd.R_drew)); exact HO_8.out⟩, ⟨by first | exact Kd.S_nil _ _ _ _ _ | exact Kd.N_nil _ _ _ _ _ | exact Kd.V_nil _ _ _ _ _ | exact Kd.Q_nil _ _ _ _ _ | exact Kd.R_nil _ _ _ _ _⟩, ⟨by repeat (first | (with_reducible first | exact HB.out | apply below_alloc | apply pw_below_drewN | apply below_drew1) | exact HB.out)⟩⟩
                    case round =>
                      clear H'
                      try clear c1
                      try clear p1
                      try clear q1
                      try clear hx1
                      try clear c2
                      try clear p2
                      try clear q2
                      try clear hx2
                      try clear c3
                      try clear c3b0
                      try clear c3b1
                      try clear q3
                      try clear c4
                      try clear q4
                      try clear c5
                      try clear p5
                      try clear q5
                      try clear hx5
                      try clear hf5
                      try clear c6
                      try clear c6b0
                      try clear p6
                      try clear c7
                      try clear c7b0
                      try clear c8
                      try clear c8b0
                      try clear c11
                      try clear c12
                      try clear p16
                      try clear q16
                      try clear hx16
                      try clear c18
                      try clear c18b0
                      try clear c19
                      try clear c19b0
                      try clear c19b1
                      try clear c20
                      try clear c21
                      try clear p21
                      try clear q21
                      try clear hx21
                      try clear c22
                      try clear c22b0
                      try clear c23
                      try clear c23b0
                      try clear c24
                      try clear q30
                      try clear c33
                      try clear q33
                      try clear c35
                      try clear c35b0
                      try clear c35b1
                      try clear c36
                      try clear c36b0
                      try clear c36b1
                      try clear c37
                      try clear c38
                      try clear c39
                      try clear c39b0
                      try clear c40
                      try clear c40b0
                      try clear c41
                      try clear q43
                      try clear c46
                      try clear q46
                      try clear c48
                      try clear c48b0
                      try clear c48b1
                      try clear c49
                      try clear c49b0
                      try clear c49b1
                      try clear c52
                      try clear c52b0
                      try clear c53
                      try clear c53b0
                      try clear c54
                      try clear c54b0
                      try clear c55
                      try clear c55b0
                      try clear p56
                      try clear q56
                      try clear hx56
                      try clear hf56
                      try clear hx167_0
                      try clear hx212_0
                      try clear hx56_0
                      try clear p1
                      try clear p16
                      try clear p167
                      try clear p2
                      try clear p212
                      try clear p56
                      try clear p6
                      try clear q033
                      try clear q046
                      try clear q1
                      try clear q16
                      try clear q167
                      try clear q212
                      try clear q3
                      try clear q30
                      try clear q33
                      try clear q4
                      try clear q43
                      try clear q46
                      try clear q56
                      obtain ⟨x10_3, x11_3, rfl, HA, HK3, HO_4, HO_8, HO_10, HB⟩ := hrel
                      cases gk with
                      | zero => exact absurd HA.out (by simp [gessoref14_Sort.l3])
                      | succ k3 =>
                        have H := HA.out
                        clear HA
                        simp only [gessoref14_Sort.l3] at H
                        by_cases c61 : x11_3 < (x4_1.length : Int)
                        · rw [if_pos c61] at H
                          have c61b0 : decide (x11_3 < (x4_1.length : Int)) = true := decide_eq_true c61
                          clear c61
                          by_cases c62 : 0 ≤ x11_3
                          · rw [if_pos c62] at H
                            have c62b0 : decide (0 ≤ x11_3) = true := decide_eq_true c62
                            clear c62
                            by_cases c63 : 0 ≤ (rd x4_1 x11_3)
                            · rw [if_pos c63] at H
                              have c63b0 : decide (0 ≤ (rd x4_1 x11_3)) = true := decide_eq_true c63
                              clear c63
                              by_cases c64 : (rd x4_1 x11_3) < (l0.length : Int)
                              · rw [if_pos c64] at H
                                have c64b0 : decide ((rd x4_1 x11_3) < (l0.length : Int)) = true := decide_eq_true c64
                                clear c64
                                by_cases c65 : ((rd_T41 l0 (rd x4_1 x11_3)).f0) ≥ 0
                                · rw [if_pos c65] at H
                                  have c65b0 : decide (0 ≤ ((rd_T41 l0 (rd x4_1 x11_3)).f0)) = true := decide_eq_true c65
                                  clear c65
                                  by_cases c66 : 0 ≤ ((rd_T41 l0 (rd x4_1 x11_3)).f0)
                                  · rw [if_pos c66] at H
                                    have c66b0 : decide (0 ≤ ((rd_T41 l0 (rd x4_1 x11_3)).f0)) = true := decide_eq_true c66
                                    clear c66
                                    by_cases c67 : ((rd_T41 l0 (rd x4_1 x11_3)).f0) < (x8_2.length : Int)
                                    · rw [if_pos c67] at H
                                      have c67b0 : decide (((rd_T41 l0 (rd x4_1 x11_3)).f0) < (x8_2.length : Int)) = true := decide_eq_true c67
                                      clear c67
                                      obtain ⟨y218, hy218⟩ : ∃ y_ : List Int, y_ = (([] : List Int)) := ⟨_, rfl⟩
                                      replace H : (if y218.length + ((rd_T41 l0 (rd x4_1 x11_3)).f3).length < 140737488355328 then (if x10_3.length < 2513169434916 then (gessoref14_Sort.l3 k3 l0 x4_1 x8_2 (x10_3 ++ [(⟨rd x8_2 ((rd_T41 l0 (rd x4_1 x11_3)).f0), (rd_T41 l0 (rd x4_1 x11_3)).f1, (rd_T41 l0 (rd x4_1 x11_3)).f2, (y218 ++ ((rd_T41 l0 (rd x4_1 x11_3)).f3))⟩ : S41)]) (wrap64 (x11_3 + 1))) else (none)) else (none)) = some (r1, r2) := by first | (rw [hy218]; with_reducible exact H) | (have H2_ := (Option.bind_some _ _).symm.trans H; rw [hy218]; with_reducible exact H2_) | (have H2_ := (Option.bind_some _ _).symm.trans H; with_reducible exact H2_) | with_reducible exact H | (rw [hy218]; exact H) | exact H
                                      have Ny218 := Aside0.mk hy218
                                      clear hy218
                                      by_cases c68 : y218.length + ((rd_T41 l0 (rd x4_1 x11_3)).f3).length < 140737488355328
                                      · rw [if_pos c68] at H
                                        have LMc68 := Aside0.mk c68
                                        clear c68
                                        obtain ⟨y221, hy221⟩ : ∃ y_ : List Int, y_ = (y218 ++ ((rd_T41 l0 (rd x4_1 x11_3)).f3)) := ⟨_, rfl⟩
                                        replace H : (if x10_3.length < 2513169434916 then (gessoref14_Sort.l3 k3 l0 x4_1 x8_2 (x10_3 ++ [(⟨rd x8_2 ((rd_T41 l0 (rd x4_1 x11_3)).f0), (rd_T41 l0 (rd x4_1 x11_3)).f1, (rd_T41 l0 (rd x4_1 x11_3)).f2, y221⟩ : S41)]) (wrap64 (x11_3 + 1))) else (none)) = some (r1, r2) := by first | (rw [hy221]; with_reducible exact H) | (have H2_ := (Option.bind_some _ _).symm.trans H; rw [hy221]; with_reducible exact H2_) | (have H2_ := (Option.bind_some _ _).symm.trans H; with_reducible exact H2_) | with_reducible exact H | (rw [hy221]; exact H) | exact H
                                        have Ny221 := Aside0.mk hy221
                                        clear hy221
                                        by_cases c69 : x10_3.length < 2513169434916
                                        · rw [if_pos c69] at H
                                          have LMc69 := Aside0.mk c69
                                          clear c69
                                          obtain ⟨y224, hy224⟩ : ∃ y_ : List (S41), y_ = (x10_3 ++ [(⟨rd x8_2 ((rd_T41 l0 (rd x4_1 x11_3)).f0), (rd_T41 l0 (rd x4_1 x11_3)).f1, (rd_T41 l0 (rd x4_1 x11_3)).f2, y221⟩ : S41)]) := ⟨_, rfl⟩
                                          replace H : (gessoref14_Sort.l3 k3 l0 x4_1 x8_2 y224 (wrap64 (x11_3 + 1))) = some (r1, r2) := by first | (rw [hy224]; with_reducible exact H) | (have H2_ := (Option.bind_some _ _).symm.trans H; rw [hy224]; with_reducible exact H2_) | (have H2_ := (Option.bind_some _ _).symm.trans H; with_reducible exact H2_) | with_reducible exact H | (rw [hy224]; exact H) | exact H
                                          have Ny224 := Aside0.mk hy224
                                          clear hy224
                                          have H' := Aside0.mk H
                                          clear H
                                          have p214 : 0 ≤ (x11_3 : Int) := of_decide_eq_true (by first | (with_reducible assumption) | assumption)
                                          have q214 : x11_3 < (x4_1.length : Int) := of_decide_eq_true (by first | (with_reducible assumption) | assumption)
                                          obtain ⟨ad214, e214, hx214_0⟩ := Kd.at_int (Kd.R_reads' HO_4.out).2.2 x11_3 p214 q214
                                          cases e214
                                          replace p214 := eq_true p214
                                          replace q214 := eq_true q214
                                          have p215 : 0 ≤ ((rd x4_1 x11_3) : Int) := of_decide_eq_true (by first | (with_reducible assumption) | assumption)
                                          have q215 : (rd x4_1 x11_3) < (l0.length : Int) := of_decide_eq_true (by first | (with_reducible assumption) | assumption)
                                          obtain ⟨ad215, A215_3, c215_3, e215, hx215_0, hx215_1, hx215_2, hx215_3, hl215_3, hi215_3⟩ := at_T41 HR0.out (rd x4_1 x11_3) p215 q215
                                          cases e215
                                          replace hx215_0 := (HB.out.cell (World.block_lt_of_cell? w _ hx215_0)).trans hx215_0
                                          replace hx215_1 := (HB.out.cell (World.block_lt_of_cell? w _ hx215_1)).trans hx215_1
                                          replace hx215_2 := (HB.out.cell (World.block_lt_of_cell? w _ hx215_2)).trans hx215_2
                                          replace hx215_3 := (HB.out.cell (World.block_lt_of_cell? w _ hx215_3)).trans hx215_3
                                          have HR215_3 := Aside0.mk hi215_3
                                          have HC215_3 := Aside0.mk hl215_3
                                          clear hi215_3 hl215_3
                                          replace p215 := eq_true p215
                                          replace q215 := eq_true q215
                                          go_wp2_with (first | ((with_reducible refine gate_dst (N := 12) rfl ?_); refine box_event ?hg (N := 12) ?hd (cs := #[.int .i64 0, .string (⟨#[]⟩ : ByteArray), .bool false, .slice none 0 0]) (t := 41) ?hr ?_; (case hd => rfl); (case hg => rfl); (case hr => first | (go_simp; done) | (go_simp; rfl)); intro gb216 hg w70 hbox hb; have n0_ := Aside0.mk (Kd.R_below (by (with_reducible repeat (first | apply Kd.R_alloc | apply Kd.R_drewN | apply Kd.R_drew)); exact HO_4.out) hb); have n1_ := Aside0.mk (Kd.R_below (by (with_reducible repeat (first | apply Kd.R_alloc | apply Kd.R_drewN | apply Kd.R_drew)); exact HO_8.out) hb); have n2_ := Aside0.mk (Kd.S_below (Kd.S_elderB (by (with_reducible repeat (first | apply Kd.S_alloc | apply Kd.S_drewN | apply Kd.S_drew)); exact HO_10.out) gb216 (Nat.le_of_eq hg.symm)) hb); have n3_ := Aside0.mk (below_step (by repeat (first | (with_reducible first | exact HB.out | apply below_alloc | apply pw_below_drewN | apply below_drew1) | exact HB.out)) hb); have n4_ := Aside0.mk (hbox); have n5_ := Aside0.mk ((by rw [hg]; exact (below_size (by repeat (first | (with_reducible first | exact HB.out | apply below_alloc | apply pw_below_drewN | apply below_drew1) | exact HB.out))) : w.heap.size ≤ gb216)); have n6_ := Aside0.mk ((by rw [hg]; exact (below_size (by repeat (first | (with_reducible first | exact HB.out | apply below_alloc | apply pw_below_drewN | apply below_drew1) | exact HB.out))) : w.heap.size ≤ gb216)); clear HO_4; clear HO_8; clear HO_10; clear HB; have HO_4 := n0_; have HO_8 := n1_; have HO_10 := n2_; have HB := n3_; have BK216 := n4_; have GW216 := n5_; have GE216 := n6_; clear n0_ n1_ n2_ n3_ n4_ n5_ n6_; clear hb hbox hg; have hcz71_0 : w70.cell? ⟨gb216, 0, none⟩ = some (.int .i64 0) := (blk_cell BK216.out 0).trans rfl; have hcz71_1 : w70.cell? ⟨gb216, 1, none⟩ = some (.string (⟨#[]⟩ : ByteArray)) := (blk_cell BK216.out 1).trans rfl; have hcz71_2 : w70.cell? ⟨gb216, 2, none⟩ = some (.bool false) := (blk_cell BK216.out 2).trans rfl; have hcz71_3 : w70.cell? ⟨gb216, 3, none⟩ = some (.slice none 0 0) := (blk_cell BK216.out 3).trans rfl; have hfz71_0 := blk_frozen BK216.out 0; have hfz71_1 := blk_frozen BK216.out 1; have hfz71_2 := blk_frozen BK216.out 2; have hfz71_3 := blk_frozen BK216.out 3; obtain ⟨Ao72, co72, eo72⟩ := Kd.R_slice HO_8.out; subst eo72; have p217 : 0 ≤ (((rd_T41 l0 (rd x4_1 x11_3)).f0) : Int) := of_decide_eq_true (by first | (with_reducible assumption) | assumption); have q217 : ((rd_T41 l0 (rd x4_1 x11_3)).f0) < (x8_2.length : Int) := of_decide_eq_true (by first | (with_reducible assumption) | assumption); obtain ⟨ad217, e217, hx217_0⟩ := Kd.at_int (Kd.R_reads' HO_8.out).2.2 ((rd_T41 l0 (rd x4_1 x11_3)).f0) p217 q217; cases e217; have hn217_0 : ad217.block ≠ gb216 := Kd.own_blk (Kd.R_ne HO_8.out BK216.out (by decide)); have hn217_1 : ad217.block ≠ gb216 := Kd.own_blk (Kd.R_ne HO_8.out BK216.out (by decide)); have hn217_2 : ad217.block ≠ gb216 := Kd.own_blk (Kd.R_ne HO_8.out BK216.out (by decide)); have hn217_3 : ad217.block ≠ gb216 := Kd.own_blk (Kd.R_ne HO_8.out BK216.out (by decide)); replace hx217_0 := (cell_far (p := ⟨gb216, 0, none⟩) (by first | (rw [add_block]; exact hn217_0) | (show (Addr.add _ _).block ≠ _; rw [add_block]; exact hn217_0) | exact hn217_0) (.int .i64 ((rd_T41 l0 (rd x4_1 x11_3)).f0))).trans hx217_0; replace hx217_0 := (cell_far (p := ⟨gb216, 1, none⟩) (by first | (rw [add_block]; exact hn217_1) | (show (Addr.add _ _).block ≠ _; rw [add_block]; exact hn217_1) | exact hn217_1) (.string ((rd_T41 l0 (rd x4_1 x11_3)).f1))).trans hx217_0; replace hx217_0 := (cell_far (p := ⟨gb216, 2, none⟩) (by first | (rw [add_block]; exact hn217_2) | (show (Addr.add _ _).block ≠ _; rw [add_block]; exact hn217_2) | exact hn217_2) (.bool ((rd_T41 l0 (rd x4_1 x11_3)).f2))).trans hx217_0; replace hx217_0 := (cell_far (p := ⟨gb216, 3, none⟩) (by first | (rw [add_block]; exact hn217_3) | (show (Addr.add _ _).block ≠ _; rw [add_block]; exact hn217_3) | exact hn217_3) (.slice A215_3 ((rd_T41 l0 (rd x4_1 x11_3)).f3).length c215_3)).trans hx217_0; clear hn217_0; clear hn217_1; clear hn217_2; clear hn217_3; replace p217 := eq_true p217; replace q217 := eq_true q217) | ((with_reducible refine gate_dst (N := 91) rfl ?_); refine Kd.R_lit (Kd.int .u8) _ 5 ?hg (N := 91) ?hd (xs := ([] : List Int)) (inner := []) (ok := fun _ => True) (okp := fun _ => True) ?hr ?hp (fun _ hk => hk) trivial (Below.refl _ _) (Nat.le_refl _) (by simp) ?_; (case hd => rfl); (case hg => rfl); (case hr => first | (go_simp; done) | (go_simp; rfl)); (case hp => exact (Reps.none _ _)); intro v219 w73 ho74 hb hg_ hnew_; clear hg_ hnew_; (first | rw [← Ny218.out] at ho74 | (simp only [Int.reduceToNat] at ho74; rw [← Ny218.out] at ho74)); have n0_ := Aside0.mk (Kd.R_below (by (with_reducible repeat (first | apply Kd.R_alloc | apply Kd.R_drewN | apply Kd.R_drew)); exact (Kd.R_mono (Kd.R_far (p := ⟨gb216, 0, none⟩) (Kd.R_far (p := ⟨gb216, 3, none⟩) (Kd.R_far (p := ⟨gb216, 2, none⟩) (Kd.R_far (p := ⟨gb216, 1, none⟩) (Kd.R_far (p := ⟨gb216, 0, none⟩) (Kd.R_types HO_4.out BK216.out (by decide)) (fun _ hk => hk.2) (.int .i64 ((rd_T41 l0 (rd x4_1 x11_3)).f0))) (fun _ hk => hk.2) (.string ((rd_T41 l0 (rd x4_1 x11_3)).f1))) (fun _ hk => hk.2) (.bool ((rd_T41 l0 (rd x4_1 x11_3)).f2))) (fun _ hk => hk.2) (.slice A215_3 ((rd_T41 l0 (rd x4_1 x11_3)).f3).length c215_3)) (fun _ hk => hk.2) (.int .i64 (rd x8_2 ((rd_T41 l0 (rd x4_1 x11_3)).f0)))) (fun _ h_ => h_.1))) hb); have n1_ := Aside0.mk (Kd.R_below (by (with_reducible repeat (first | apply Kd.R_alloc | apply Kd.R_drewN | apply Kd.R_drew)); exact (Kd.R_mono (Kd.R_far (p := ⟨gb216, 0, none⟩) (Kd.R_far (p := ⟨gb216, 3, none⟩) (Kd.R_far (p := ⟨gb216, 2, none⟩) (Kd.R_far (p := ⟨gb216, 1, none⟩) (Kd.R_far (p := ⟨gb216, 0, none⟩) (Kd.R_types HO_8.out BK216.out (by decide)) (fun _ hk => hk.2) (.int .i64 ((rd_T41 l0 (rd x4_1 x11_3)).f0))) (fun _ hk => hk.2) (.string ((rd_T41 l0 (rd x4_1 x11_3)).f1))) (fun _ hk => hk.2) (.bool ((rd_T41 l0 (rd x4_1 x11_3)).f2))) (fun _ hk => hk.2) (.slice A215_3 ((rd_T41 l0 (rd x4_1 x11_3)).f3).length c215_3)) (fun _ hk => hk.2) (.int .i64 (rd x8_2 ((rd_T41 l0 (rd x4_1 x11_3)).f0)))) (fun _ h_ => h_.1))) hb); have n2_ := Aside0.mk (Kd.S_elder' (by (with_reducible repeat (first | apply Kd.S_alloc | apply Kd.S_drewN | apply Kd.S_drew)); exact (Kd.S_mono (Kd.S_far (p := ⟨gb216, 0, none⟩) (Kd.S_far (p := ⟨gb216, 3, none⟩) (Kd.S_far (p := ⟨gb216, 2, none⟩) (Kd.S_far (p := ⟨gb216, 1, none⟩) (Kd.S_far (p := ⟨gb216, 0, none⟩) (Kd.S_mono HO_10.out (fun k_ hk => (⟨hk, hk.2⟩ : _ ∧ k_ ≠ gb216))) (fun _ hk => hk.2) (.int .i64 ((rd_T41 l0 (rd x4_1 x11_3)).f0))) (fun _ hk => hk.2) (.string ((rd_T41 l0 (rd x4_1 x11_3)).f1))) (fun _ hk => hk.2) (.bool ((rd_T41 l0 (rd x4_1 x11_3)).f2))) (fun _ hk => hk.2) (.slice A215_3 ((rd_T41 l0 (rd x4_1 x11_3)).f3).length c215_3)) (fun _ hk => hk.2) (.int .i64 (rd x8_2 ((rd_T41 l0 (rd x4_1 x11_3)).f0)))) (fun _ h_ => h_.1))) (Kd.R_base ho74) hb); have n3_ := Aside0.mk (Kd.R_lower ho74 (below_size (by repeat (first | (with_reducible first | exact HB.out | apply below_alloc | apply pw_below_drewN | apply below_drew1 | refine below_set ?_ GE216.out) | exact HB.out)))); have n4_ := Aside0.mk (blk_below (g := gb216) (o := .cells #[.int .i64 (rd x8_2 ((rd_T41 l0 (rd x4_1 x11_3)).f0)), .string ((rd_T41 l0 (rd x4_1 x11_3)).f1), .bool ((rd_T41 l0 (rd x4_1 x11_3)).f2), .slice A215_3 ((rd_T41 l0 (rd x4_1 x11_3)).f3).length c215_3] 41 (0, 0)) (by (with_reducible repeat (first | refine blk_drewN ?_ _ | refine blk_drew ?_ | refine blk_alloc ?_ _)); refine blk_put (cs := #[.int .i64 ((rd_T41 l0 (rd x4_1 x11_3)).f0), .string ((rd_T41 l0 (rd x4_1 x11_3)).f1), .bool ((rd_T41 l0 (rd x4_1 x11_3)).f2), .slice A215_3 ((rd_T41 l0 (rd x4_1 x11_3)).f3).length c215_3]) ?_ 0 _ rfl; (with_reducible repeat (first | refine blk_drewN ?_ _ | refine blk_drew ?_ | refine blk_alloc ?_ _)); refine blk_put (cs := #[.int .i64 ((rd_T41 l0 (rd x4_1 x11_3)).f0), .string ((rd_T41 l0 (rd x4_1 x11_3)).f1), .bool ((rd_T41 l0 (rd x4_1 x11_3)).f2), .slice none 0 0]) ?_ 3 _ rfl; (with_reducible repeat (first | refine blk_drewN ?_ _ | refine blk_drew ?_ | refine blk_alloc ?_ _)); refine blk_put (cs := #[.int .i64 ((rd_T41 l0 (rd x4_1 x11_3)).f0), .string ((rd_T41 l0 (rd x4_1 x11_3)).f1), .bool false, .slice none 0 0]) ?_ 2 _ rfl; (with_reducible repeat (first | refine blk_drewN ?_ _ | refine blk_drew ?_ | refine blk_alloc ?_ _)); refine blk_put (cs := #[.int .i64 ((rd_T41 l0 (rd x4_1 x11_3)).f0), .string (⟨#[]⟩ : ByteArray), .bool false, .slice none 0 0]) ?_ 1 _ rfl; (with_reducible repeat (first | refine blk_drewN ?_ _ | refine blk_drew ?_ | refine blk_alloc ?_ _)); refine blk_put (cs := #[.int .i64 0, .string (⟨#[]⟩ : ByteArray), .bool false, .slice none 0 0]) ?_ 0 _ rfl; (with_reducible repeat (first | refine blk_drewN ?_ _ | refine blk_drew ?_ | refine blk_alloc ?_ _)); exact BK216.out) hb); have n5_ := Aside0.mk (below_step (by repeat (first | (with_reducible first | exact HB.out | apply below_alloc | apply pw_below_drewN | apply below_drew1 | refine below_set ?_ GE216.out) | exact HB.out)) hb); clear HO_4; clear HO_8; clear HO_10; clear BK216; clear HB; have HO_4 := n0_; have HO_8 := n1_; have HO_10 := n2_; have HO220 := n3_; have BK216 := n4_; have HB := n5_; clear n0_ n1_ n2_ n3_ n4_ n5_; clear hb ho74; have hcz75_0 : w73.cell? ⟨gb216, 0, none⟩ = some (.int .i64 (rd x8_2 ((rd_T41 l0 (rd x4_1 x11_3)).f0))) := (blk_cell BK216.out 0).trans rfl; have hcz75_1 : w73.cell? ⟨gb216, 1, none⟩ = some (.string ((rd_T41 l0 (rd x4_1 x11_3)).f1)) := (blk_cell BK216.out 1).trans rfl; have hcz75_2 : w73.cell? ⟨gb216, 2, none⟩ = some (.bool ((rd_T41 l0 (rd x4_1 x11_3)).f2)) := (blk_cell BK216.out 2).trans rfl; have hcz75_3 : w73.cell? ⟨gb216, 3, none⟩ = some (.slice A215_3 ((rd_T41 l0 (rd x4_1 x11_3)).f3).length c215_3) := (blk_cell BK216.out 3).trans rfl; have hfz75_0 := blk_frozen BK216.out 0; have hfz75_1 := blk_frozen BK216.out 1; have hfz75_2 := blk_frozen BK216.out 2; have hfz75_3 := blk_frozen BK216.out 3) | ((with_reducible refine gate_builtin (b := .append) (xs := #[.tmp 91, .tmp 93]) rfl ?_); at_builtin; refine Kd.R_append_rows (Kd.int .u8) (w0 := w) w.heap.size rfl (.tmp 91) (.tmp 93) 39 5 (.int .u8 0) 1 rfl Try.underlying39 info5 rfl (by decide) (by omega) v219 y218 ((rd_T41 l0 (rd x4_1 x11_3)).f3) _ _ _ (fun _ => True) (fun _ => False) rfl rfl ?aO ?aR (fun _ _ h => h) (fun _ h => h.elim) ?aF ?aB ?aS ?aL ?_; (case aR => repeat (first | exact (Kd.C_below HR215_3.out HB.out) | (with_reducible refine Kd.C_alloc ?_ _) | (with_reducible refine Kd.C_drewN ?_ _) | (with_reducible refine Kd.C_drew ?_))); (case aB => exact (by repeat (first | (with_reducible first | exact HB.out | apply below_alloc | apply pw_below_drewN | apply below_drew1 | refine below_set ?_ GE216.out) | exact HB.out))); (case aF => exact (fun _ _ => trivial)); (case aO => exact (by (with_reducible repeat (first | apply Kd.R_alloc | apply Kd.R_drewN | apply Kd.R_drew)); exact HO220.out)); (case aS => exact (below_size (by repeat (first | (with_reducible first | exact HB.out | apply below_alloc | apply pw_below_drewN | apply below_drew1 | refine below_set ?_ GE216.out) | exact HB.out)))); (case aL => have := LMc68.out; omega); intro v222 w76 ho hb hg hat; rw [← Ny221.out] at ho; have n0_ := Aside0.mk (Kd.R_over' (by (with_reducible repeat (first | apply Kd.R_alloc | apply Kd.R_drewN | apply Kd.R_drew)); exact HO_4.out) (Kd.R_typed (by (with_reducible repeat (first | apply Kd.R_alloc | apply Kd.R_drewN | apply Kd.R_drew)); exact HO220.out)) (by decide) hg); have n1_ := Aside0.mk (Kd.R_over' (by (with_reducible repeat (first | apply Kd.R_alloc | apply Kd.R_drewN | apply Kd.R_drew)); exact HO_8.out) (Kd.R_typed (by (with_reducible repeat (first | apply Kd.R_alloc | apply Kd.R_drewN | apply Kd.R_drew)); exact HO220.out)) (by decide) hg); have n2_ := Aside0.mk (Kd.S_after (ok := (fun k_ => k_ ≠ gb216)) (by (with_reducible repeat (first | apply Kd.S_alloc | apply Kd.S_drewN | apply Kd.S_drew)); exact Kd.S_mono HO_10.out (fun _ hk => ⟨hk.1.2, hk.2⟩)) hg hat); have n3_ := Aside0.mk (blk_grown (g := gb216) (o := .cells #[.int .i64 (rd x8_2 ((rd_T41 l0 (rd x4_1 x11_3)).f0)), .string ((rd_T41 l0 (rd x4_1 x11_3)).f1), .bool ((rd_T41 l0 (rd x4_1 x11_3)).f2), .slice A215_3 ((rd_T41 l0 (rd x4_1 x11_3)).f3).length c215_3] 41 (0, 0)) (by (with_reducible repeat (first | refine blk_drewN ?_ _ | refine blk_drew ?_ | refine blk_alloc ?_ _)); exact BK216.out) hg (Kd.R_ne HO220.out BK216.out (by decide))); have n4_ := Aside0.mk (hb); have n5_ := Aside0.mk (ho); clear HO_4; clear HO_8; clear HO_10; clear BK216; clear HB; clear HO220; have HO_4 := n0_; have HO_8 := n1_; have HO_10 := n2_; have BK216 := n3_; have HB := n4_; have HO223 := n5_; clear n0_ n1_ n2_ n3_ n4_ n5_; clear ho hb hg hat; obtain ⟨Ao77, co77, eo77⟩ := Kd.R_slice HO223.out; subst eo77; have hcz78_0 : w76.cell? ⟨gb216, 0, none⟩ = some (.int .i64 (rd x8_2 ((rd_T41 l0 (rd x4_1 x11_3)).f0))) := (blk_cell BK216.out 0).trans rfl; have hcz78_1 : w76.cell? ⟨gb216, 1, none⟩ = some (.string ((rd_T41 l0 (rd x4_1 x11_3)).f1)) := (blk_cell BK216.out 1).trans rfl; have hcz78_2 : w76.cell? ⟨gb216, 2, none⟩ = some (.bool ((rd_T41 l0 (rd x4_1 x11_3)).f2)) := (blk_cell BK216.out 2).trans rfl; have hcz78_3 : w76.cell? ⟨gb216, 3, none⟩ = some (.slice A215_3 ((rd_T41 l0 (rd x4_1 x11_3)).f3).length c215_3) := (blk_cell BK216.out 3).trans rfl; have hfz78_0 := blk_frozen BK216.out 0; have hfz78_1 := blk_frozen BK216.out 1; have hfz78_2 := blk_frozen BK216.out 2; have hfz78_3 := blk_frozen BK216.out 3) | ((with_reducible refine gate_store (t := 39) (p := 95) rfl ?_); refine store_event (t := 39) (p := 95) (v := ?vo_w79) (w1 := (w76.setCell ⟨gb216, 3, none⟩ (.slice Ao77 y221.length co77))) ?hg ?ho ?hn ?hr ?_; (case ho => rfl); (case hg => rfl); (case hn => rfl); (case hr => first | (go_simp; done) | (go_simp; rfl)); intro w79 hw; have n0_ : Aside0 (Kd.R (Kd.int .i64) 3 w79 w.heap.size (fun k_ => some k_ ≠ (.slice (some ad217) x8_2.length co72 : Value).ownBlock) (.slice (some ad214) x4_1.length co60) x4_1) := ⟨(by rw [hw]; exact (by (with_reducible repeat (first | apply Kd.R_alloc | apply Kd.R_drewN | apply Kd.R_drew)); exact Kd.R_mono (Kd.R_far (p := ⟨gb216, 3, none⟩) (Kd.R_types HO_4.out BK216.out (by decide)) (fun _ hk => hk.2) (.slice Ao77 y221.length co77)) (fun _ hk => hk.1)))⟩; have n1_ : Aside0 (Kd.R (Kd.int .i64) 3 w79 w.heap.size (fun k_ => some k_ ≠ (.slice (some ad214) x4_1.length co60 : Value).ownBlock) (.slice (some ad217) x8_2.length co72) x8_2) := ⟨(by rw [hw]; exact (by (with_reducible repeat (first | apply Kd.R_alloc | apply Kd.R_drewN | apply Kd.R_drew)); exact Kd.R_mono (Kd.R_far (p := ⟨gb216, 3, none⟩) (Kd.R_types HO_8.out BK216.out (by decide)) (fun _ hk => hk.2) (.slice Ao77 y221.length co77)) (fun _ hk => hk.1)))⟩; have n2_ : Aside0 (Kd.S k41 41 w79 w.heap.size (fun k_ => some k_ ≠ (.slice Ao77 y221.length co77 : Value).ownBlock ∧ k_ ≠ gb216) u10 x10_3) := ⟨(by rw [hw]; exact (by (with_reducible repeat (first | apply Kd.S_alloc | apply Kd.S_drewN | apply Kd.S_drew)); exact Kd.S_mono (Kd.S_far (p := ⟨gb216, 3, none⟩) (Kd.S_mono HO_10.out (fun k_ hk => (⟨hk, hk.1⟩ : _ ∧ k_ ≠ gb216))) (fun _ hk => hk.2) (.slice Ao77 y221.length co77)) (fun _ hk => ⟨hk.1.2, hk.1.1⟩)))⟩; have n3_ : Aside0 (Kd.R (Kd.int .u8) 5 w79 w.heap.size (fun _ => True) (.slice Ao77 y221.length co77) y221) := ⟨(by rw [hw]; exact (by (with_reducible repeat (first | apply Kd.R_alloc | apply Kd.R_drewN | apply Kd.R_drew)); exact Kd.R_mono (Kd.R_far (p := ⟨gb216, 3, none⟩) (Kd.R_types HO223.out BK216.out (by decide)) (fun _ hk => hk.2) (.slice Ao77 y221.length co77)) (fun _ hk => trivial)))⟩; have n4_ : Aside0 (w79.heap[gb216]? = some (.cells #[.int .i64 (rd x8_2 ((rd_T41 l0 (rd x4_1 x11_3)).f0)), .string ((rd_T41 l0 (rd x4_1 x11_3)).f1), .bool ((rd_T41 l0 (rd x4_1 x11_3)).f2), .slice Ao77 y221.length co77] 41 (0, 0))) := ⟨(by rw [hw]; exact (by (with_reducible repeat (first | refine blk_drewN ?_ _ | refine blk_drew ?_ | refine blk_alloc ?_ _)); refine blk_put (cs := #[.int .i64 (rd x8_2 ((rd_T41 l0 (rd x4_1 x11_3)).f0)), .string ((rd_T41 l0 (rd x4_1 x11_3)).f1), .bool ((rd_T41 l0 (rd x4_1 x11_3)).f2), .slice A215_3 ((rd_T41 l0 (rd x4_1 x11_3)).f3).length c215_3]) ?_ 3 _ rfl; (with_reducible repeat (first | refine blk_drewN ?_ _ | refine blk_drew ?_ | refine blk_alloc ?_ _)); exact BK216.out))⟩; have n5_ : Aside0 (Below w.heap.size w w79) := ⟨(by rw [hw]; exact (by repeat (first | (with_reducible first | exact HB.out | apply below_alloc | apply pw_below_drewN | apply below_drew1 | refine below_set ?_ GE216.out) | exact HB.out)))⟩; clear hw; clear HO_4; clear HO_8; clear HO_10; clear HO223; clear BK216; clear HB; have HO_4 := n0_; have HO_8 := n1_; have HO_10 := n2_; have HO223 := n3_; have BK216 := n4_; have HB := n5_; clear n0_ n1_ n2_ n3_ n4_ n5_; have hcz80_0 : w79.cell? ⟨gb216, 0, none⟩ = some (.int .i64 (rd x8_2 ((rd_T41 l0 (rd x4_1 x11_3)).f0))) := (blk_cell BK216.out 0).trans rfl; have hcz80_1 : w79.cell? ⟨gb216, 1, none⟩ = some (.string ((rd_T41 l0 (rd x4_1 x11_3)).f1)) := (blk_cell BK216.out 1).trans rfl; have hcz80_2 : w79.cell? ⟨gb216, 2, none⟩ = some (.bool ((rd_T41 l0 (rd x4_1 x11_3)).f2)) := (blk_cell BK216.out 2).trans rfl; have hcz80_3 : w79.cell? ⟨gb216, 3, none⟩ = some (.slice Ao77 y221.length co77) := (blk_cell BK216.out 3).trans rfl; have hfz80_0 := blk_frozen BK216.out 0; have hfz80_1 := blk_frozen BK216.out 1; have hfz80_2 := blk_frozen BK216.out 2; have hfz80_3 := blk_frozen BK216.out 3) | ((with_reducible refine gate_builtin (b := .append) (xs := #[.tmp 96, .tmp 98]) rfl ?_); at_builtin; refine Kd.S_append k41 (w0 := w) w.heap.size rfl (.tmp 96) (.tmp 98) 22 41 (.agg #[(.int .i64 0), (.string ⟨#[]⟩), (.bool false), (.slice none 0 0)]) 56 rfl Try.underlying22 info41 rfl (by decide) (by omega) u10 x10_3 (⟨rd x8_2 ((rd_T41 l0 (rd x4_1 x11_3)).f0), (rd_T41 l0 (rd x4_1 x11_3)).f1, (rd_T41 l0 (rd x4_1 x11_3)).f2, y221⟩ : S41) [.int .i64 (rd x8_2 ((rd_T41 l0 (rd x4_1 x11_3)).f0)), .string ((rd_T41 l0 (rd x4_1 x11_3)).f1), .bool ((rd_T41 l0 (rd x4_1 x11_3)).f2), .slice Ao77 y221.length co77] (fun k_ => k_ ≠ gb216) (fun k_ => some k_ = (.slice Ao77 y221.length co77 : Value).ownBlock) rfl rfl ?aP (fun k_ hk_ => ((Kd.R_mono (ok' := fun k_ => ((fun k_ => k_ ≠ gb216)) k_ ∧ some k_ ≠ (u10 : Value).ownBlock) (Kd.R_types (Kd.R_apart' (HO223.out) (Kd.S_typed HO_10.out) (by decide)) BK216.out (by decide)) (fun k_ hk => ⟨hk.2, hk.1.2⟩))).1 k_ hk_.symm) ?aF ?aO ?aB ?aS ?aL ?_; (case aP => exact k41_mkM _ _ _ (⟨rd x8_2 ((rd_T41 l0 (rd x4_1 x11_3)).f0), (rd_T41 l0 (rd x4_1 x11_3)).f1, (rd_T41 l0 (rd x4_1 x11_3)).f2, y221⟩ : S41) (Kd.R_mono (Kd.R_tight rfl (Kd.R_mono (ok' := fun k_ => ((fun k_ => k_ ≠ gb216)) k_ ∧ some k_ ≠ (u10 : Value).ownBlock) (Kd.R_types (Kd.R_apart' (HO223.out) (Kd.S_typed HO_10.out) (by decide)) BK216.out (by decide)) (fun k_ hk => ⟨hk.2, hk.1.2⟩))) (fun _ h_ => h_))); (case aB => exact (by repeat (first | (with_reducible first | exact HB.out | apply below_alloc | apply pw_below_drewN | apply below_drew1 | refine below_set ?_ GE216.out) | exact HB.out))); (case aF => exact (fun k_ hk => Kd.freshB (g := gb216) (o := .cells #[.int .i64 (rd x8_2 ((rd_T41 l0 (rd x4_1 x11_3)).f0)), .string ((rd_T41 l0 (rd x4_1 x11_3)).f1), .bool ((rd_T41 l0 (rd x4_1 x11_3)).f2), .slice Ao77 y221.length co77] 41 (0, 0)) (by (with_reducible repeat (first | refine blk_drewN ?_ _ | refine blk_drew ?_ | refine blk_alloc ?_ _)); exact BK216.out) k_ hk)); (case aO => exact (by (with_reducible repeat (first | apply Kd.S_alloc | apply Kd.S_drewN | apply Kd.S_drew)); exact Kd.S_mono HO_10.out (fun k_ hk => ⟨hk.2, fun e_ => hk.1 e_⟩))); (case aS => exact (below_size (by repeat (first | (with_reducible first | exact HB.out | apply below_alloc | apply pw_below_drewN | apply below_drew1 | refine below_set ?_ GE216.out) | exact HB.out)))); (case aL => have := LMc69.out; omega); intro v225 w81 ho hb hg hat; rw [← Ny224.out] at ho; have n0_ := Aside0.mk (Kd.R_over' (by (with_reducible repeat (first | apply Kd.R_alloc | apply Kd.R_drewN | apply Kd.R_drew)); exact HO_4.out) (Kd.S_typed (by (with_reducible repeat (first | apply Kd.S_alloc | apply Kd.S_drewN | apply Kd.S_drew)); exact HO_10.out)) (by decide) hg); have n1_ := Aside0.mk (Kd.R_over' (by (with_reducible repeat (first | apply Kd.R_alloc | apply Kd.R_drewN | apply Kd.R_drew)); exact HO_8.out) (Kd.S_typed (by (with_reducible repeat (first | apply Kd.S_alloc | apply Kd.S_drewN | apply Kd.S_drew)); exact HO_10.out)) (by decide) hg); have n2_ := Aside0.mk (blk_grown (g := gb216) (o := .cells #[.int .i64 (rd x8_2 ((rd_T41 l0 (rd x4_1 x11_3)).f0)), .string ((rd_T41 l0 (rd x4_1 x11_3)).f1), .bool ((rd_T41 l0 (rd x4_1 x11_3)).f2), .slice Ao77 y221.length co77] 41 (0, 0)) (by (with_reducible repeat (first | refine blk_drewN ?_ _ | refine blk_drew ?_ | refine blk_alloc ?_ _)); exact BK216.out) hg (Kd.S_away HO_10.out (fun _ hk => hk.2))); have n3_ := Aside0.mk (hb); have n4_ := Aside0.mk (ho); clear HO_4; clear HO_8; clear BK216; clear HB; clear HO_10; clear HO223; have HO_4 := n0_; have HO_8 := n1_; have BK216 := n2_; have HB := n3_; have HO226 := n4_; clear n0_ n1_ n2_ n3_ n4_; clear ho hb hg hat))
                                          go_roundg k3
                                          case measure => have := HK1.out; have := HK2.out; have := HK3.out; omega
                                          case rel => exact ⟨(y224), (wrap64 (x11_3 + 1)), (by first | rfl | (simp; done) | (simp [*]; done)), H', ⟨by have := HK1.out; have := HK2.out; have := HK3.out; omega⟩, ⟨by (with_reducible repeat (first | apply Kd.R_alloc | apply Kd.R_drewN | apply Kd.R_drew)); exact HO_4.out⟩, ⟨by (with_reducible repeat (first | apply Kd.R_alloc | apply Kd.R_drewN | apply Kd.R_drew)); exact HO_8.out⟩, ⟨by (with_reducible repeat (first | apply Kd.S_alloc | apply Kd.S_drewN | apply Kd.S_drew)); exact Kd.S_mono HO226.out (fun _ hk => trivial)⟩, ⟨by repeat (first | (with_reducible first | exact HB.out | apply below_alloc | apply pw_below_drewN | apply below_drew1 | refine below_set ?_ GE216.out) | exact HB.out)⟩⟩
                                        · rw [if_neg c69] at H
                                          exact absurd H (by simp)
                                      · rw [if_neg c68] at H
                                        exact absurd H (by simp)
                                    · rw [if_neg c67] at H
                                      exact absurd H (by simp)
                                  · rw [if_neg c66] at H
                                    exact absurd H (by simp)
                                · rw [if_neg c65] at H
                                  have c65b0 : decide (0 ≤ ((rd_T41 l0 (rd x4_1 x11_3)).f0)) = false := decide_eq_false c65
                                  clear c65
                                  obtain ⟨y227, hy227⟩ : ∃ y_ : List Int, y_ = (([] : List Int)) := ⟨_, rfl⟩
                                  replace H : (if y227.length + ((rd_T41 l0 (rd x4_1 x11_3)).f3).length < 140737488355328 then (if x10_3.length < 2513169434916 then (gessoref14_Sort.l3 k3 l0 x4_1 x8_2 (x10_3 ++ [(⟨(rd_T41 l0 (rd x4_1 x11_3)).f0, (rd_T41 l0 (rd x4_1 x11_3)).f1, (rd_T41 l0 (rd x4_1 x11_3)).f2, (y227 ++ ((rd_T41 l0 (rd x4_1 x11_3)).f3))⟩ : S41)]) (wrap64 (x11_3 + 1))) else (none)) else (none)) = some (r1, r2) := by first | (rw [hy227]; with_reducible exact H) | (have H2_ := (Option.bind_some _ _).symm.trans H; rw [hy227]; with_reducible exact H2_) | (have H2_ := (Option.bind_some _ _).symm.trans H; with_reducible exact H2_) | with_reducible exact H | (rw [hy227]; exact H) | exact H
                                  have Ny227 := Aside0.mk hy227
                                  clear hy227
                                  by_cases c82 : y227.length + ((rd_T41 l0 (rd x4_1 x11_3)).f3).length < 140737488355328
                                  · rw [if_pos c82] at H
                                    have LMc82 := Aside0.mk c82
                                    clear c82
                                    obtain ⟨y230, hy230⟩ : ∃ y_ : List Int, y_ = (y227 ++ ((rd_T41 l0 (rd x4_1 x11_3)).f3)) := ⟨_, rfl⟩
                                    replace H : (if x10_3.length < 2513169434916 then (gessoref14_Sort.l3 k3 l0 x4_1 x8_2 (x10_3 ++ [(⟨(rd_T41 l0 (rd x4_1 x11_3)).f0, (rd_T41 l0 (rd x4_1 x11_3)).f1, (rd_T41 l0 (rd x4_1 x11_3)).f2, y230⟩ : S41)]) (wrap64 (x11_3 + 1))) else (none)) = some (r1, r2) := by first | (rw [hy230]; with_reducible exact H) | (have H2_ := (Option.bind_some _ _).symm.trans H; rw [hy230]; with_reducible exact H2_) | (have H2_ := (Option.bind_some _ _).symm.trans H; with_reducible exact H2_) | with_reducible exact H | (rw [hy230]; exact H) | exact H
                                    have Ny230 := Aside0.mk hy230
                                    clear hy230
                                    by_cases c83 : x10_3.length < 2513169434916
                                    · rw [if_pos c83] at H
                                      have LMc83 := Aside0.mk c83
                                      clear c83
                                      obtain ⟨y233, hy233⟩ : ∃ y_ : List (S41), y_ = (x10_3 ++ [(⟨(rd_T41 l0 (rd x4_1 x11_3)).f0, (rd_T41 l0 (rd x4_1 x11_3)).f1, (rd_T41 l0 (rd x4_1 x11_3)).f2, y230⟩ : S41)]) := ⟨_, rfl⟩
                                      replace H : (gessoref14_Sort.l3 k3 l0 x4_1 x8_2 y233 (wrap64 (x11_3 + 1))) = some (r1, r2) := by first | (rw [hy233]; with_reducible exact H) | (have H2_ := (Option.bind_some _ _).symm.trans H; rw [hy233]; with_reducible exact H2_) | (have H2_ := (Option.bind_some _ _).symm.trans H; with_reducible exact H2_) | with_reducible exact H | (rw [hy233]; exact H) | exact H
                                      have Ny233 := Aside0.mk hy233
                                      clear hy233
                                      have H' := Aside0.mk H
                                      clear H
                                      have p214 : 0 ≤ (x11_3 : Int) := of_decide_eq_true (by first | (with_reducible assumption) | assumption)
                                      have q214 : x11_3 < (x4_1.length : Int) := of_decide_eq_true (by first | (with_reducible assumption) | assumption)
                                      obtain ⟨ad214, e214, hx214_0⟩ := Kd.at_int (Kd.R_reads' HO_4.out).2.2 x11_3 p214 q214
                                      cases e214
                                      replace p214 := eq_true p214
                                      replace q214 := eq_true q214
                                      have p215 : 0 ≤ ((rd x4_1 x11_3) : Int) := of_decide_eq_true (by first | (with_reducible assumption) | assumption)
                                      have q215 : (rd x4_1 x11_3) < (l0.length : Int) := of_decide_eq_true (by first | (with_reducible assumption) | assumption)
                                      obtain ⟨ad215, A215_3, c215_3, e215, hx215_0, hx215_1, hx215_2, hx215_3, hl215_3, hi215_3⟩ := at_T41 HR0.out (rd x4_1 x11_3) p215 q215
                                      cases e215
                                      replace hx215_0 := (HB.out.cell (World.block_lt_of_cell? w _ hx215_0)).trans hx215_0
                                      replace hx215_1 := (HB.out.cell (World.block_lt_of_cell? w _ hx215_1)).trans hx215_1
                                      replace hx215_2 := (HB.out.cell (World.block_lt_of_cell? w _ hx215_2)).trans hx215_2
                                      replace hx215_3 := (HB.out.cell (World.block_lt_of_cell? w _ hx215_3)).trans hx215_3
                                      have HR215_3 := Aside0.mk hi215_3
                                      have HC215_3 := Aside0.mk hl215_3
                                      clear hi215_3 hl215_3
                                      replace p215 := eq_true p215
                                      replace q215 := eq_true q215
                                      go_wp2_with (first | ((with_reducible refine gate_dst (N := 12) rfl ?_); refine box_event ?hg (N := 12) ?hd (cs := #[.int .i64 0, .string (⟨#[]⟩ : ByteArray), .bool false, .slice none 0 0]) (t := 41) ?hr ?_; (case hd => rfl); (case hg => rfl); (case hr => first | (go_simp; done) | (go_simp; rfl)); intro gb216 hg w84 hbox hb; have n0_ := Aside0.mk (Kd.R_below (by (with_reducible repeat (first | apply Kd.R_alloc | apply Kd.R_drewN | apply Kd.R_drew)); exact HO_4.out) hb); have n1_ := Aside0.mk (Kd.R_below (by (with_reducible repeat (first | apply Kd.R_alloc | apply Kd.R_drewN | apply Kd.R_drew)); exact HO_8.out) hb); have n2_ := Aside0.mk (Kd.S_below (Kd.S_elderB (by (with_reducible repeat (first | apply Kd.S_alloc | apply Kd.S_drewN | apply Kd.S_drew)); exact HO_10.out) gb216 (Nat.le_of_eq hg.symm)) hb); have n3_ := Aside0.mk (below_step (by repeat (first | (with_reducible first | exact HB.out | apply below_alloc | apply pw_below_drewN | apply below_drew1) | exact HB.out)) hb); have n4_ := Aside0.mk (hbox); have n5_ := Aside0.mk ((by rw [hg]; exact (below_size (by repeat (first | (with_reducible first | exact HB.out | apply below_alloc | apply pw_below_drewN | apply below_drew1) | exact HB.out))) : w.heap.size ≤ gb216)); have n6_ := Aside0.mk ((by rw [hg]; exact (below_size (by repeat (first | (with_reducible first | exact HB.out | apply below_alloc | apply pw_below_drewN | apply below_drew1) | exact HB.out))) : w.heap.size ≤ gb216)); clear HO_4; clear HO_8; clear HO_10; clear HB; have HO_4 := n0_; have HO_8 := n1_; have HO_10 := n2_; have HB := n3_; have BK216 := n4_; have GW216 := n5_; have GE216 := n6_; clear n0_ n1_ n2_ n3_ n4_ n5_ n6_; clear hb hbox hg; have hcz85_0 : w84.cell? ⟨gb216, 0, none⟩ = some (.int .i64 0) := (blk_cell BK216.out 0).trans rfl; have hcz85_1 : w84.cell? ⟨gb216, 1, none⟩ = some (.string (⟨#[]⟩ : ByteArray)) := (blk_cell BK216.out 1).trans rfl; have hcz85_2 : w84.cell? ⟨gb216, 2, none⟩ = some (.bool false) := (blk_cell BK216.out 2).trans rfl; have hcz85_3 : w84.cell? ⟨gb216, 3, none⟩ = some (.slice none 0 0) := (blk_cell BK216.out 3).trans rfl; have hfz85_0 := blk_frozen BK216.out 0; have hfz85_1 := blk_frozen BK216.out 1; have hfz85_2 := blk_frozen BK216.out 2; have hfz85_3 := blk_frozen BK216.out 3) | ((with_reducible refine gate_dst (N := 91) rfl ?_); refine Kd.R_lit (Kd.int .u8) _ 5 ?hg (N := 91) ?hd (xs := ([] : List Int)) (inner := []) (ok := fun _ => True) (okp := fun _ => True) ?hr ?hp (fun _ hk => hk) trivial (Below.refl _ _) (Nat.le_refl _) (by simp) ?_; (case hd => rfl); (case hg => rfl); (case hr => first | (go_simp; done) | (go_simp; rfl)); (case hp => exact (Reps.none _ _)); intro v228 w86 ho87 hb hg_ hnew_; clear hg_ hnew_; (first | rw [← Ny227.out] at ho87 | (simp only [Int.reduceToNat] at ho87; rw [← Ny227.out] at ho87)); have n0_ := Aside0.mk (Kd.R_below (by (with_reducible repeat (first | apply Kd.R_alloc | apply Kd.R_drewN | apply Kd.R_drew)); exact (Kd.R_mono (Kd.R_far (p := ⟨gb216, 3, none⟩) (Kd.R_far (p := ⟨gb216, 2, none⟩) (Kd.R_far (p := ⟨gb216, 1, none⟩) (Kd.R_far (p := ⟨gb216, 0, none⟩) (Kd.R_types HO_4.out BK216.out (by decide)) (fun _ hk => hk.2) (.int .i64 ((rd_T41 l0 (rd x4_1 x11_3)).f0))) (fun _ hk => hk.2) (.string ((rd_T41 l0 (rd x4_1 x11_3)).f1))) (fun _ hk => hk.2) (.bool ((rd_T41 l0 (rd x4_1 x11_3)).f2))) (fun _ hk => hk.2) (.slice A215_3 ((rd_T41 l0 (rd x4_1 x11_3)).f3).length c215_3)) (fun _ h_ => h_.1))) hb); have n1_ := Aside0.mk (Kd.R_below (by (with_reducible repeat (first | apply Kd.R_alloc | apply Kd.R_drewN | apply Kd.R_drew)); exact (Kd.R_mono (Kd.R_far (p := ⟨gb216, 3, none⟩) (Kd.R_far (p := ⟨gb216, 2, none⟩) (Kd.R_far (p := ⟨gb216, 1, none⟩) (Kd.R_far (p := ⟨gb216, 0, none⟩) (Kd.R_types HO_8.out BK216.out (by decide)) (fun _ hk => hk.2) (.int .i64 ((rd_T41 l0 (rd x4_1 x11_3)).f0))) (fun _ hk => hk.2) (.string ((rd_T41 l0 (rd x4_1 x11_3)).f1))) (fun _ hk => hk.2) (.bool ((rd_T41 l0 (rd x4_1 x11_3)).f2))) (fun _ hk => hk.2) (.slice A215_3 ((rd_T41 l0 (rd x4_1 x11_3)).f3).length c215_3)) (fun _ h_ => h_.1))) hb); have n2_ := Aside0.mk (Kd.S_elder' (by (with_reducible repeat (first | apply Kd.S_alloc | apply Kd.S_drewN | apply Kd.S_drew)); exact (Kd.S_mono (Kd.S_far (p := ⟨gb216, 3, none⟩) (Kd.S_far (p := ⟨gb216, 2, none⟩) (Kd.S_far (p := ⟨gb216, 1, none⟩) (Kd.S_far (p := ⟨gb216, 0, none⟩) (Kd.S_mono HO_10.out (fun k_ hk => (⟨hk, hk.2⟩ : _ ∧ k_ ≠ gb216))) (fun _ hk => hk.2) (.int .i64 ((rd_T41 l0 (rd x4_1 x11_3)).f0))) (fun _ hk => hk.2) (.string ((rd_T41 l0 (rd x4_1 x11_3)).f1))) (fun _ hk => hk.2) (.bool ((rd_T41 l0 (rd x4_1 x11_3)).f2))) (fun _ hk => hk.2) (.slice A215_3 ((rd_T41 l0 (rd x4_1 x11_3)).f3).length c215_3)) (fun _ h_ => h_.1))) (Kd.R_base ho87) hb); have n3_ := Aside0.mk (Kd.R_lower ho87 (below_size (by repeat (first | (with_reducible first | exact HB.out | apply below_alloc | apply pw_below_drewN | apply below_drew1 | refine below_set ?_ GE216.out) | exact HB.out)))); have n4_ := Aside0.mk (blk_below (g := gb216) (o := .cells #[.int .i64 ((rd_T41 l0 (rd x4_1 x11_3)).f0), .string ((rd_T41 l0 (rd x4_1 x11_3)).f1), .bool ((rd_T41 l0 (rd x4_1 x11_3)).f2), .slice A215_3 ((rd_T41 l0 (rd x4_1 x11_3)).f3).length c215_3] 41 (0, 0)) (by (with_reducible repeat (first | refine blk_drewN ?_ _ | refine blk_drew ?_ | refine blk_alloc ?_ _)); refine blk_put (cs := #[.int .i64 ((rd_T41 l0 (rd x4_1 x11_3)).f0), .string ((rd_T41 l0 (rd x4_1 x11_3)).f1), .bool ((rd_T41 l0 (rd x4_1 x11_3)).f2), .slice none 0 0]) ?_ 3 _ rfl; (with_reducible repeat (first | refine blk_drewN ?_ _ | refine blk_drew ?_ | refine blk_alloc ?_ _)); refine blk_put (cs := #[.int .i64 ((rd_T41 l0 (rd x4_1 x11_3)).f0), .string ((rd_T41 l0 (rd x4_1 x11_3)).f1), .bool false, .slice none 0 0]) ?_ 2 _ rfl; (with_reducible repeat (first | refine blk_drewN ?_ _ | refine blk_drew ?_ | refine blk_alloc ?_ _)); refine blk_put (cs := #[.int .i64 ((rd_T41 l0 (rd x4_1 x11_3)).f0), .string (⟨#[]⟩ : ByteArray), .bool false, .slice none 0 0]) ?_ 1 _ rfl; (with_reducible repeat (first | refine blk_drewN ?_ _ | refine blk_drew ?_ | refine blk_alloc ?_ _)); refine blk_put (cs := #[.int .i64 0, .string (⟨#[]⟩ : ByteArray), .bool false, .slice none 0 0]) ?_ 0 _ rfl; (with_reducible repeat (first | refine blk_drewN ?_ _ | refine blk_drew ?_ | refine blk_alloc ?_ _)); exact BK216.out) hb); have n5_ := Aside0.mk (below_step (by repeat (first | (with_reducible first | exact HB.out | apply below_alloc | apply pw_below_drewN | apply below_drew1 | refine below_set ?_ GE216.out) | exact HB.out)) hb); clear HO_4; clear HO_8; clear HO_10; clear BK216; clear HB; have HO_4 := n0_; have HO_8 := n1_; have HO_10 := n2_; have HO229 := n3_; have BK216 := n4_; have HB := n5_; clear n0_ n1_ n2_ n3_ n4_ n5_; clear hb ho87; have hcz88_0 : w86.cell? ⟨gb216, 0, none⟩ = some (.int .i64 ((rd_T41 l0 (rd x4_1 x11_3)).f0)) := (blk_cell BK216.out 0).trans rfl; have hcz88_1 : w86.cell? ⟨gb216, 1, none⟩ = some (.string ((rd_T41 l0 (rd x4_1 x11_3)).f1)) := (blk_cell BK216.out 1).trans rfl; have hcz88_2 : w86.cell? ⟨gb216, 2, none⟩ = some (.bool ((rd_T41 l0 (rd x4_1 x11_3)).f2)) := (blk_cell BK216.out 2).trans rfl; have hcz88_3 : w86.cell? ⟨gb216, 3, none⟩ = some (.slice A215_3 ((rd_T41 l0 (rd x4_1 x11_3)).f3).length c215_3) := (blk_cell BK216.out 3).trans rfl; have hfz88_0 := blk_frozen BK216.out 0; have hfz88_1 := blk_frozen BK216.out 1; have hfz88_2 := blk_frozen BK216.out 2; have hfz88_3 := blk_frozen BK216.out 3) | ((with_reducible refine gate_builtin (b := .append) (xs := #[.tmp 91, .tmp 93]) rfl ?_); at_builtin; refine Kd.R_append_rows (Kd.int .u8) (w0 := w) w.heap.size rfl (.tmp 91) (.tmp 93) 39 5 (.int .u8 0) 1 rfl Try.underlying39 info5 rfl (by decide) (by omega) v228 y227 ((rd_T41 l0 (rd x4_1 x11_3)).f3) _ _ _ (fun _ => True) (fun _ => False) rfl rfl ?aO ?aR (fun _ _ h => h) (fun _ h => h.elim) ?aF ?aB ?aS ?aL ?_; (case aR => repeat (first | exact (Kd.C_below HR215_3.out HB.out) | (with_reducible refine Kd.C_alloc ?_ _) | (with_reducible refine Kd.C_drewN ?_ _) | (with_reducible refine Kd.C_drew ?_))); (case aB => exact (by repeat (first | (with_reducible first | exact HB.out | apply below_alloc | apply pw_below_drewN | apply below_drew1 | refine below_set ?_ GE216.out) | exact HB.out))); (case aF => exact (fun _ _ => trivial)); (case aO => exact (by (with_reducible repeat (first | apply Kd.R_alloc | apply Kd.R_drewN | apply Kd.R_drew)); exact HO229.out)); (case aS => exact (below_size (by repeat (first | (with_reducible first | exact HB.out | apply below_alloc | apply pw_below_drewN | apply below_drew1 | refine below_set ?_ GE216.out) | exact HB.out)))); (case aL => have := LMc82.out; omega); intro v231 w89 ho hb hg hat; rw [← Ny230.out] at ho; have n0_ := Aside0.mk (Kd.R_over' (by (with_reducible repeat (first | apply Kd.R_alloc | apply Kd.R_drewN | apply Kd.R_drew)); exact HO_4.out) (Kd.R_typed (by (with_reducible repeat (first | apply Kd.R_alloc | apply Kd.R_drewN | apply Kd.R_drew)); exact HO229.out)) (by decide) hg); have n1_ := Aside0.mk (Kd.R_over' (by (with_reducible repeat (first | apply Kd.R_alloc | apply Kd.R_drewN | apply Kd.R_drew)); exact HO_8.out) (Kd.R_typed (by (with_reducible repeat (first | apply Kd.R_alloc | apply Kd.R_drewN | apply Kd.R_drew)); exact HO229.out)) (by decide) hg); have n2_ := Aside0.mk (Kd.S_after (ok := (fun k_ => k_ ≠ gb216)) (by (with_reducible repeat (first | apply Kd.S_alloc | apply Kd.S_drewN | apply Kd.S_drew)); exact Kd.S_mono HO_10.out (fun _ hk => ⟨hk.1.2, hk.2⟩)) hg hat); have n3_ := Aside0.mk (blk_grown (g := gb216) (o := .cells #[.int .i64 ((rd_T41 l0 (rd x4_1 x11_3)).f0), .string ((rd_T41 l0 (rd x4_1 x11_3)).f1), .bool ((rd_T41 l0 (rd x4_1 x11_3)).f2), .slice A215_3 ((rd_T41 l0 (rd x4_1 x11_3)).f3).length c215_3] 41 (0, 0)) (by (with_reducible repeat (first | refine blk_drewN ?_ _ | refine blk_drew ?_ | refine blk_alloc ?_ _)); exact BK216.out) hg (Kd.R_ne HO229.out BK216.out (by decide))); have n4_ := Aside0.mk (hb); have n5_ := Aside0.mk (ho); clear HO_4; clear HO_8; clear HO_10; clear BK216; clear HB; clear HO229; have HO_4 := n0_; have HO_8 := n1_; have HO_10 := n2_; have BK216 := n3_; have HB := n4_; have HO232 := n5_; clear n0_ n1_ n2_ n3_ n4_ n5_; clear ho hb hg hat; obtain ⟨Ao90, co90, eo90⟩ := Kd.R_slice HO232.out; subst eo90; have hcz91_0 : w89.cell? ⟨gb216, 0, none⟩ = some (.int .i64 ((rd_T41 l0 (rd x4_1 x11_3)).f0)) := (blk_cell BK216.out 0).trans rfl; have hcz91_1 : w89.cell? ⟨gb216, 1, none⟩ = some (.string ((rd_T41 l0 (rd x4_1 x11_3)).f1)) := (blk_cell BK216.out 1).trans rfl; have hcz91_2 : w89.cell? ⟨gb216, 2, none⟩ = some (.bool ((rd_T41 l0 (rd x4_1 x11_3)).f2)) := (blk_cell BK216.out 2).trans rfl; have hcz91_3 : w89.cell? ⟨gb216, 3, none⟩ = some (.slice A215_3 ((rd_T41 l0 (rd x4_1 x11_3)).f3).length c215_3) := (blk_cell BK216.out 3).trans rfl; have hfz91_0 := blk_frozen BK216.out 0; have hfz91_1 := blk_frozen BK216.out 1; have hfz91_2 := blk_frozen BK216.out 2; have hfz91_3 := blk_frozen BK216.out 3) | ((with_reducible refine gate_store (t := 39) (p := 95) rfl ?_); refine store_event (t := 39) (p := 95) (v := ?vo_w92) (w1 := (w89.setCell ⟨gb216, 3, none⟩ (.slice Ao90 y230.length co90))) ?hg ?ho ?hn ?hr ?_; (case ho => rfl); (case hg => rfl); (case hn => rfl); (case hr => first | (go_simp; done) | (go_simp; rfl)); intro w92 hw; have n0_ : Aside0 (Kd.R (Kd.int .i64) 3 w92 w.heap.size (fun k_ => some k_ ≠ (v210 : Value).ownBlock) (.slice (some ad214) x4_1.length co60) x4_1) := ⟨(by rw [hw]; exact (by (with_reducible repeat (first | apply Kd.R_alloc | apply Kd.R_drewN | apply Kd.R_drew)); exact Kd.R_mono (Kd.R_far (p := ⟨gb216, 3, none⟩) (Kd.R_types HO_4.out BK216.out (by decide)) (fun _ hk => hk.2) (.slice Ao90 y230.length co90)) (fun _ hk => hk.1)))⟩; have n1_ : Aside0 (Kd.R (Kd.int .i64) 3 w92 w.heap.size (fun k_ => some k_ ≠ (.slice (some ad214) x4_1.length co60 : Value).ownBlock) v210 x8_2) := ⟨(by rw [hw]; exact (by (with_reducible repeat (first | apply Kd.R_alloc | apply Kd.R_drewN | apply Kd.R_drew)); exact Kd.R_mono (Kd.R_far (p := ⟨gb216, 3, none⟩) (Kd.R_types HO_8.out BK216.out (by decide)) (fun _ hk => hk.2) (.slice Ao90 y230.length co90)) (fun _ hk => hk.1)))⟩; have n2_ : Aside0 (Kd.S k41 41 w92 w.heap.size (fun k_ => some k_ ≠ (.slice Ao90 y230.length co90 : Value).ownBlock ∧ k_ ≠ gb216) u10 x10_3) := ⟨(by rw [hw]; exact (by (with_reducible repeat (first | apply Kd.S_alloc | apply Kd.S_drewN | apply Kd.S_drew)); exact Kd.S_mono (Kd.S_far (p := ⟨gb216, 3, none⟩) (Kd.S_mono HO_10.out (fun k_ hk => (⟨hk, hk.1⟩ : _ ∧ k_ ≠ gb216))) (fun _ hk => hk.2) (.slice Ao90 y230.length co90)) (fun _ hk => ⟨hk.1.2, hk.1.1⟩)))⟩; have n3_ : Aside0 (Kd.R (Kd.int .u8) 5 w92 w.heap.size (fun _ => True) (.slice Ao90 y230.length co90) y230) := ⟨(by rw [hw]; exact (by (with_reducible repeat (first | apply Kd.R_alloc | apply Kd.R_drewN | apply Kd.R_drew)); exact Kd.R_mono (Kd.R_far (p := ⟨gb216, 3, none⟩) (Kd.R_types HO232.out BK216.out (by decide)) (fun _ hk => hk.2) (.slice Ao90 y230.length co90)) (fun _ hk => trivial)))⟩; have n4_ : Aside0 (w92.heap[gb216]? = some (.cells #[.int .i64 ((rd_T41 l0 (rd x4_1 x11_3)).f0), .string ((rd_T41 l0 (rd x4_1 x11_3)).f1), .bool ((rd_T41 l0 (rd x4_1 x11_3)).f2), .slice Ao90 y230.length co90] 41 (0, 0))) := ⟨(by rw [hw]; exact (by (with_reducible repeat (first | refine blk_drewN ?_ _ | refine blk_drew ?_ | refine blk_alloc ?_ _)); refine blk_put (cs := #[.int .i64 ((rd_T41 l0 (rd x4_1 x11_3)).f0), .string ((rd_T41 l0 (rd x4_1 x11_3)).f1), .bool ((rd_T41 l0 (rd x4_1 x11_3)).f2), .slice A215_3 ((rd_T41 l0 (rd x4_1 x11_3)).f3).length c215_3]) ?_ 3 _ rfl; (with_reducible repeat (first | refine blk_drewN ?_ _ | refine blk_drew ?_ | refine blk_alloc ?_ _)); exact BK216.out))⟩; have n5_ : Aside0 (Below w.heap.size w w92) := ⟨(by rw [hw]; exact (by repeat (first | (with_reducible first | exact HB.out | apply below_alloc | apply pw_below_drewN | apply below_drew1 | refine below_set ?_ GE216.out) | exact HB.out)))⟩; clear hw; clear HO_4; clear HO_8; clear HO_10; clear HO232; clear BK216; clear HB; have HO_4 := n0_; have HO_8 := n1_; have HO_10 := n2_; have HO232 := n3_; have BK216 := n4_; have HB := n5_; clear n0_ n1_ n2_ n3_ n4_ n5_; have hcz93_0 : w92.cell? ⟨gb216, 0, none⟩ = some (.int .i64 ((rd_T41 l0 (rd x4_1 x11_3)).f0)) := (blk_cell BK216.out 0).trans rfl; have hcz93_1 : w92.cell? ⟨gb216, 1, none⟩ = some (.string ((rd_T41 l0 (rd x4_1 x11_3)).f1)) := (blk_cell BK216.out 1).trans rfl; have hcz93_2 : w92.cell? ⟨gb216, 2, none⟩ = some (.bool ((rd_T41 l0 (rd x4_1 x11_3)).f2)) := (blk_cell BK216.out 2).trans rfl; have hcz93_3 : w92.cell? ⟨gb216, 3, none⟩ = some (.slice Ao90 y230.length co90) := (blk_cell BK216.out 3).trans rfl; have hfz93_0 := blk_frozen BK216.out 0; have hfz93_1 := blk_frozen BK216.out 1; have hfz93_2 := blk_frozen BK216.out 2; have hfz93_3 := blk_frozen BK216.out 3) | ((with_reducible refine gate_builtin (b := .append) (xs := #[.tmp 96, .tmp 98]) rfl ?_); at_builtin; refine Kd.S_append k41 (w0 := w) w.heap.size rfl (.tmp 96) (.tmp 98) 22 41 (.agg #[(.int .i64 0), (.string ⟨#[]⟩), (.bool false), (.slice none 0 0)]) 56 rfl Try.underlying22 info41 rfl (by decide) (by omega) u10 x10_3 (⟨(rd_T41 l0 (rd x4_1 x11_3)).f0, (rd_T41 l0 (rd x4_1 x11_3)).f1, (rd_T41 l0 (rd x4_1 x11_3)).f2, y230⟩ : S41) [.int .i64 ((rd_T41 l0 (rd x4_1 x11_3)).f0), .string ((rd_T41 l0 (rd x4_1 x11_3)).f1), .bool ((rd_T41 l0 (rd x4_1 x11_3)).f2), .slice Ao90 y230.length co90] (fun k_ => k_ ≠ gb216) (fun k_ => some k_ = (.slice Ao90 y230.length co90 : Value).ownBlock) rfl rfl ?aP (fun k_ hk_ => ((Kd.R_mono (ok' := fun k_ => ((fun k_ => k_ ≠ gb216)) k_ ∧ some k_ ≠ (u10 : Value).ownBlock) (Kd.R_types (Kd.R_apart' (HO232.out) (Kd.S_typed HO_10.out) (by decide)) BK216.out (by decide)) (fun k_ hk => ⟨hk.2, hk.1.2⟩))).1 k_ hk_.symm) ?aF ?aO ?aB ?aS ?aL ?_; (case aP => exact k41_mkM _ _ _ (⟨(rd_T41 l0 (rd x4_1 x11_3)).f0, (rd_T41 l0 (rd x4_1 x11_3)).f1, (rd_T41 l0 (rd x4_1 x11_3)).f2, y230⟩ : S41) (Kd.R_mono (Kd.R_tight rfl (Kd.R_mono (ok' := fun k_ => ((fun k_ => k_ ≠ gb216)) k_ ∧ some k_ ≠ (u10 : Value).ownBlock) (Kd.R_types (Kd.R_apart' (HO232.out) (Kd.S_typed HO_10.out) (by decide)) BK216.out (by decide)) (fun k_ hk => ⟨hk.2, hk.1.2⟩))) (fun _ h_ => h_))); (case aB => exact (by repeat (first | (with_reducible first | exact HB.out | apply below_alloc | apply pw_below_drewN | apply below_drew1 | refine below_set ?_ GE216.out) | exact HB.out))); (case aF => exact (fun k_ hk => Kd.freshB (g := gb216) (o := .cells #[.int .i64 ((rd_T41 l0 (rd x4_1 x11_3)).f0), .string ((rd_T41 l0 (rd x4_1 x11_3)).f1), .bool ((rd_T41 l0 (rd x4_1 x11_3)).f2), .slice Ao90 y230.length co90] 41 (0, 0)) (by (with_reducible repeat (first | refine blk_drewN ?_ _ | refine blk_drew ?_ | refine blk_alloc ?_ _)); exact BK216.out) k_ hk)); (case aO => exact (by (with_reducible repeat (first | apply Kd.S_alloc | apply Kd.S_drewN | apply Kd.S_drew)); exact Kd.S_mono HO_10.out (fun k_ hk => ⟨hk.2, fun e_ => hk.1 e_⟩))); (case aS => exact (below_size (by repeat (first | (with_reducible first | exact HB.out | apply below_alloc | apply pw_below_drewN | apply below_drew1 | refine below_set ?_ GE216.out) | exact HB.out)))); (case aL => have := LMc83.out; omega); intro v234 w94 ho hb hg hat; rw [← Ny233.out] at ho; have n0_ := Aside0.mk (Kd.R_over' (by (with_reducible repeat (first | apply Kd.R_alloc | apply Kd.R_drewN | apply Kd.R_drew)); exact HO_4.out) (Kd.S_typed (by (with_reducible repeat (first | apply Kd.S_alloc | apply Kd.S_drewN | apply Kd.S_drew)); exact HO_10.out)) (by decide) hg); have n1_ := Aside0.mk (Kd.R_over' (by (with_reducible repeat (first | apply Kd.R_alloc | apply Kd.R_drewN | apply Kd.R_drew)); exact HO_8.out) (Kd.S_typed (by (with_reducible repeat (first | apply Kd.S_alloc | apply Kd.S_drewN | apply Kd.S_drew)); exact HO_10.out)) (by decide) hg); have n2_ := Aside0.mk (blk_grown (g := gb216) (o := .cells #[.int .i64 ((rd_T41 l0 (rd x4_1 x11_3)).f0), .string ((rd_T41 l0 (rd x4_1 x11_3)).f1), .bool ((rd_T41 l0 (rd x4_1 x11_3)).f2), .slice Ao90 y230.length co90] 41 (0, 0)) (by (with_reducible repeat (first | refine blk_drewN ?_ _ | refine blk_drew ?_ | refine blk_alloc ?_ _)); exact BK216.out) hg (Kd.S_away HO_10.out (fun _ hk => hk.2))); have n3_ := Aside0.mk (hb); have n4_ := Aside0.mk (ho); clear HO_4; clear HO_8; clear BK216; clear HB; clear HO_10; clear HO232; have HO_4 := n0_; have HO_8 := n1_; have BK216 := n2_; have HB := n3_; have HO235 := n4_; clear n0_ n1_ n2_ n3_ n4_; clear ho hb hg hat))
                                      go_roundg k3
                                      case measure => have := HK1.out; have := HK2.out; have := HK3.out; omega
                                      case rel => exact ⟨(y233), (wrap64 (x11_3 + 1)), (by first | rfl | (simp; done) | (simp [*]; done)), H', ⟨by have := HK1.out; have := HK2.out; have := HK3.out; omega⟩, ⟨by (with_reducible repeat (first | apply Kd.R_alloc | apply Kd.R_drewN | apply Kd.R_drew)); exact HO_4.out⟩, ⟨by (with_reducible repeat (first | apply Kd.R_alloc | apply Kd.R_drewN | apply Kd.R_drew)); exact HO_8.out⟩, ⟨by (with_reducible repeat (first | apply Kd.S_alloc | apply Kd.S_drewN | apply Kd.S_drew)); exact Kd.S_mono HO235.out (fun _ hk => trivial)⟩, ⟨by repeat (first | (with_reducible first | exact HB.out | apply below_alloc | apply pw_below_drewN | apply below_drew1 | refine below_set ?_ GE216.out) | exact HB.out)⟩⟩
                                    · rw [if_neg c83] at H
                                      exact absurd H (by simp)
                                  · rw [if_neg c82] at H
                                    exact absurd H (by simp)
                              · rw [if_neg c64] at H
                                exact absurd H (by simp)
                            · rw [if_neg c63] at H
                              exact absurd H (by simp)
                          · rw [if_neg c62] at H
                            exact absurd H (by simp)
                        · rw [if_neg c61] at H
                          have c61b0 : decide (x11_3 < (x4_1.length : Int)) = false := decide_eq_false c61
                          clear c61
                          simp only [Option.some.injEq, Prod.mk.injEq] at H
                          obtain ⟨rfl, rfl⟩ := H
                          go_wp2
                          go_ret2
                          exact ⟨_, by first | rfl | (simp [errW_none, errW_some] <;> rfl) | (simp [*, errW_none, errW_some] <;> rfl), by (with_reducible repeat (first | apply Kd.S_alloc | apply Kd.S_drewN | apply Kd.S_drew)); exact HO_10.out, by repeat (first | (with_reducible first | exact HB.out | apply below_alloc | apply pw_below_drewN | apply below_drew1) | exact HB.out)⟩
            · rw [if_neg c49] at H
              exact absurd H (by simp)
          · rw [if_neg c48] at H
            exact absurd H (by simp)


end Go.Proofs.Ytlomehhlhbpanaa.Prt
