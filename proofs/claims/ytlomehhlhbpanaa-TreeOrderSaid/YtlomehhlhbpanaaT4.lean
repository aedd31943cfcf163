import Derived.Test.YtlomehhlhbpanaaT0
import Derived.Test.YtlomehhlhbpanaaT3
namespace Go.Proofs.Ytlomehhlhbpanaa.Prt
open Go.RowKit Go.Proofs.YtlomehhlhbpanaaW.PrintWords Go.Proofs.YtlomehhlhbpanaaW.PrintLast Go.Proofs.YtlomehhlhbpanaaW.PrintMore
attribute [local go_sem] max2_int min2_int max_two min_two max_three min_three max_four min_four   -- for this text's walks alone
set_option linter.unusedVariables false
set_option linter.unusedSimpArgs false

/-! ### gessoref14_one: function 30 -/
mutual
def gessoref14_one.j0 : Nat → List (S41) → Int → Bool → Int → ByteArray → Bool → List Int → Option (Bool)
  | 0, _, _, _, _, _, _, _ => none
  | k + 1, x0, x1, x33, x144000, x144001, x144002, x144003 => if x33 = true then (some false) else ((gessoref13_Name.f k x144001).bind fun t145 => (if t145 = true then (if (x144001.size : Int) > 48 then (gessoref14_one.j1 k x0 x1 true x144000 x144001 x144002 x144003) else (if x144002 = true then (if (x144003.length : Int) > 0 then (gessoref14_one.j1 k x0 x1 true x144000 x144001 x144002 x144003) else (if (x144003.length : Int) > 8192 then (gessoref14_one.j1 k x0 x1 true x144000 x144001 x144002 x144003) else ((gessoref14_deep.f k x0 x1).bind fun t146 => (gessoref14_one.j1 k x0 x1 (decide (t146 > 8)) x144000 x144001 x144002 x144003)))) else (if (x144003.length : Int) > 8192 then (gessoref14_one.j1 k x0 x1 true x144000 x144001 x144002 x144003) else ((gessoref14_deep.f k x0 x1).bind fun t147 => (gessoref14_one.j1 k x0 x1 (decide (t147 > 8)) x144000 x144001 x144002 x144003))))) else (gessoref14_one.j1 k x0 x1 true x144000 x144001 x144002 x144003)))
def gessoref14_one.j1 : Nat → List (S41) → Int → Bool → Int → ByteArray → Bool → List Int → Option (Bool)
  | 0, _, _, _, _, _, _, _ => none
  | k + 1, x0, x1, x65, x144000, x144001, x144002, x144003 => if x65 = true then (some false) else (gessoref14_one.l0 k x0 x1 0 x144000 x144001 x144002 x144003)
def gessoref14_one.l0 : Nat → List (S41) → Int → Int → Int → ByteArray → Bool → List Int → Option (Bool)
  | 0, _, _, _, _, _, _, _ => none
  | k + 1, x0, x1, x6, x144000, x144001, x144002, x144003 => if x6 < x1 then (if 0 ≤ x6 then (if x6 < (x0.length : Int) then (if ((rd_T41 x0 x6).f0) = x144000 then (if ((rd_T41 x0 x6).f1).toList = x144001.toList then (some false) else (gessoref14_one.l0 k x0 x1 (wrap64 (x6 + 1)) x144000 x144001 x144002 x144003)) else (gessoref14_one.l0 k x0 x1 (wrap64 (x6 + 1)) x144000 x144001 x144002 x144003)) else (none)) else (none)) else (some true)
end
def gessoref14_one.f (k : Nat) (l0 : List (S41)) (a1 : Int) : Option (Bool) := if 0 ≤ a1 then (if a1 < (l0.length : Int) then (if ((rd_T41 l0 a1).f0) < (-1) then (gessoref14_one.j0 k l0 a1 true ((rd_T41 l0 a1).f0) ((rd_T41 l0 a1).f1) ((rd_T41 l0 a1).f2) ((rd_T41 l0 a1).f3)) else (if ((rd_T41 l0 a1).f0) ≥ a1 then (gessoref14_one.j0 k l0 a1 true ((rd_T41 l0 a1).f0) ((rd_T41 l0 a1).f1) ((rd_T41 l0 a1).f2) ((rd_T41 l0 a1).f3)) else (if ((rd_T41 l0 a1).f0) ≥ 0 then (if 0 ≤ ((rd_T41 l0 a1).f0) then (if ((rd_T41 l0 a1).f0) < (l0.length : Int) then (gessoref14_one.j0 k l0 a1 (!((rd_T41 l0 ((rd_T41 l0 a1).f0)).f2)) ((rd_T41 l0 a1).f0) ((rd_T41 l0 a1).f1) ((rd_T41 l0 a1).f2) ((rd_T41 l0 a1).f3)) else (none)) else (none)) else (gessoref14_one.j0 k l0 a1 false ((rd_T41 l0 a1).f0) ((rd_T41 l0 a1).f1) ((rd_T41 l0 a1).f2) ((rd_T41 l0 a1).f3))))) else (none)) else (none)
theorem gessoref14_one.mono_l : ∀ k, (∀ y0 y1 y2 y3 y4 y5 y6, LeO (gessoref14_one.j0 k y0 y1 y2 y3 y4 y5 y6) (gessoref14_one.j0 (k + 1) y0 y1 y2 y3 y4 y5 y6)) ∧ (∀ y0 y1 y2 y3 y4 y5 y6, LeO (gessoref14_one.j1 k y0 y1 y2 y3 y4 y5 y6) (gessoref14_one.j1 (k + 1) y0 y1 y2 y3 y4 y5 y6)) ∧ (∀ y0 y1 y2 y3 y4 y5 y6, LeO (gessoref14_one.l0 k y0 y1 y2 y3 y4 y5 y6) (gessoref14_one.l0 (k + 1) y0 y1 y2 y3 y4 y5 y6))
  | 0 => ⟨fun _ _ _ _ _ _ _ r h => by simp [gessoref14_one.j0] at h, fun _ _ _ _ _ _ _ r h => by simp [gessoref14_one.j1] at h, fun _ _ _ _ _ _ _ r h => by simp [gessoref14_one.l0] at h⟩
  | k + 1 => by
    obtain ⟨ih0, ih1, ih2⟩ := gessoref14_one.mono_l k
    refine ⟨?_, ?_, ?_⟩
    · intro y0 y1 y2 y3 y4 y5 y6
      unfold gessoref14_one.j0
      repeat' first
      | (with_reducible exact ih0 _ _ _ _ _ _ _)
      | (with_reducible exact ih1 _ _ _ _ _ _ _)
      | (with_reducible exact ih2 _ _ _ _ _ _ _)
      | (with_reducible exact gessoref13_Name.mono _ _)
      | (with_reducible exact gessoref14_deep.mono _ _ _)
      | (with_reducible exact LeO.refl _)
      | (with_reducible exact LeO.none _)
      | (with_reducible refine LeO.ite ?_ ?_)
      | (with_reducible refine LeO.bind ?_ (fun _ => ?_))
      | exact ih0 _ _ _ _ _ _ _
      | exact ih1 _ _ _ _ _ _ _
      | exact ih2 _ _ _ _ _ _ _
      | exact gessoref13_Name.mono _ _
      | exact gessoref14_deep.mono _ _ _
      | exact LeO.none _
      | refine LeO.ite ?_ ?_
      | refine LeO.bind ?_ (fun _ => ?_)
    · intro y0 y1 y2 y3 y4 y5 y6
      unfold gessoref14_one.j1
      repeat' first
      | (with_reducible exact ih0 _ _ _ _ _ _ _)
      | (with_reducible exact ih1 _ _ _ _ _ _ _)
      | (with_reducible exact ih2 _ _ _ _ _ _ _)
      | (with_reducible exact gessoref13_Name.mono _ _)
      | (with_reducible exact gessoref14_deep.mono _ _ _)
      | (with_reducible exact LeO.refl _)
      | (with_reducible exact LeO.none _)
      | (with_reducible refine LeO.ite ?_ ?_)
      | (with_reducible refine LeO.bind ?_ (fun _ => ?_))
      | exact ih0 _ _ _ _ _ _ _
      | exact ih1 _ _ _ _ _ _ _
      | exact ih2 _ _ _ _ _ _ _
      | exact gessoref13_Name.mono _ _
      | exact gessoref14_deep.mono _ _ _
      | exact LeO.none _
      | refine LeO.ite ?_ ?_
      | refine LeO.bind ?_ (fun _ => ?_)
    · intro y0 y1 y2 y3 y4 y5 y6
      unfold gessoref14_one.l0
      repeat' first
      | (with_reducible exact ih0 _ _ _ _ _ _ _)
      | (with_reducible exact ih1 _ _ _ _ _ _ _)
      | (with_reducible exact ih2 _ _ _ _ _ _ _)
      | (with_reducible exact gessoref13_Name.mono _ _)
      | (with_reducible exact gessoref14_deep.mono _ _ _)
      | (with_reducible exact LeO.refl _)
      | (with_reducible exact LeO.none _)
      | (with_reducible refine LeO.ite ?_ ?_)
      | (with_reducible refine LeO.bind ?_ (fun _ => ?_))
      | exact ih0 _ _ _ _ _ _ _
      | exact ih1 _ _ _ _ _ _ _
      | exact ih2 _ _ _ _ _ _ _
      | exact gessoref13_Name.mono _ _
      | exact gessoref14_deep.mono _ _ _
      | exact LeO.none _
      | refine LeO.ite ?_ ?_
      | refine LeO.bind ?_ (fun _ => ?_)
theorem gessoref14_one.mono : ∀ a0 a1 k, LeO (gessoref14_one.f k a0 a1) (gessoref14_one.f (k + 1) a0 a1) := by
  intro a0 a1 k
  obtain ⟨ih0, ih1, ih2⟩ := gessoref14_one.mono_l k
  unfold gessoref14_one.f
  repeat' first
      | (with_reducible exact ih0 _ _ _ _ _ _ _)
      | (with_reducible exact ih1 _ _ _ _ _ _ _)
      | (with_reducible exact ih2 _ _ _ _ _ _ _)
      | (with_reducible exact gessoref13_Name.mono _ _)
      | (with_reducible exact gessoref14_deep.mono _ _ _)
      | (with_reducible exact LeO.refl _)
      | (with_reducible exact LeO.none _)
      | (with_reducible refine LeO.ite ?_ ?_)
      | (with_reducible refine LeO.bind ?_ (fun _ => ?_))
      | exact ih0 _ _ _ _ _ _ _
      | exact ih1 _ _ _ _ _ _ _
      | exact ih2 _ _ _ _ _ _ _
      | exact gessoref13_Name.mono _ _
      | exact gessoref14_deep.mono _ _ _
      | exact LeO.none _
      | refine LeO.ite ?_ ?_
      | refine LeO.bind ?_ (fun _ => ?_)
set_option maxHeartbeats 8000000 in
set_option maxRecDepth 100000 in
theorem gessoref14_one.calls (k : Nat) (A0 : Option Addr) (c0 : Nat) (l0 : List (S41)) (a1 : Int) (r : Bool) (w : World) (hr0 : Kd.C k41 w A0 l0.length l0) (hc0 : l0.length ≤ c0) (h : gessoref14_one.f k l0 a1 = some r) :
    Calls Try.prog 30 #[.slice A0 l0.length c0, .int .i64 a1] w fun e w' => e = .returned (.bool r) ∧ Below w.heap.size w w' := by
  have hu41 := Try.underlying41
  have HR0 := Aside0.mk hr0
  have HC0 := Aside0.mk hc0
  clear hr0 hc0
  have HB := Aside0.mk (Below.refl w.heap.size w)
  have H : (if 0 ≤ a1 then (if a1 < (l0.length : Int) then (if ((rd_T41 l0 a1).f0) < (-1) then (gessoref14_one.j0 k l0 a1 true ((rd_T41 l0 a1).f0) ((rd_T41 l0 a1).f1) ((rd_T41 l0 a1).f2) ((rd_T41 l0 a1).f3)) else (if ((rd_T41 l0 a1).f0) ≥ a1 then (gessoref14_one.j0 k l0 a1 true ((rd_T41 l0 a1).f0) ((rd_T41 l0 a1).f1) ((rd_T41 l0 a1).f2) ((rd_T41 l0 a1).f3)) else (if ((rd_T41 l0 a1).f0) ≥ 0 then (if 0 ≤ ((rd_T41 l0 a1).f0) then (if ((rd_T41 l0 a1).f0) < (l0.length : Int) then (gessoref14_one.j0 k l0 a1 (!((rd_T41 l0 ((rd_T41 l0 a1).f0)).f2)) ((rd_T41 l0 a1).f0) ((rd_T41 l0 a1).f1) ((rd_T41 l0 a1).f2) ((rd_T41 l0 a1).f3)) else (none)) else (none)) else (gessoref14_one.j0 k l0 a1 false ((rd_T41 l0 a1).f0) ((rd_T41 l0 a1).f1) ((rd_T41 l0 a1).f2) ((rd_T41 l0 a1).f3))))) else (none)) else (none)) = some r := h
  clear h
  by_cases c3 : 0 ≤ a1
  · rw [if_pos c3] at H
    have c3b0 : decide (0 ≤ a1) = true := decide_eq_true c3
    clear c3
    by_cases c4 : a1 < (l0.length : Int)
    · rw [if_pos c4] at H
      have c4b0 : decide (a1 < (l0.length : Int)) = true := decide_eq_true c4
      clear c4
      have HC5 := Aside0.mk H
      clear H
      have p142 : 0 ≤ (a1 : Int) := of_decide_eq_true (by first | (with_reducible assumption) | assumption)
      have q142 : a1 < (l0.length : Int) := of_decide_eq_true (by first | (with_reducible assumption) | assumption)
      obtain ⟨ad142, A142_3, c142_3, e142, hx142_0, hx142_1, hx142_2, hx142_3, hl142_3, hi142_3⟩ := at_T41 HR0.out a1 p142 q142
      cases e142
      have HR142_3 := Aside0.mk hi142_3
      have HC142_3 := Aside0.mk hl142_3
      clear hi142_3 hl142_3
      replace p142 := eq_true p142
      replace q142 := eq_true q142
      go_enter Try.func30, Try.ntmps30
      go_upto_region 2 with (first | ((with_reducible refine gate_dst (N := 5) rfl ?_); (try (refine gate_guard (by rfl) ?_; dsimp only)); refine box_event ?hg (N := 5) ?hd (cs := #[.int .i64 0, .string (⟨#[]⟩ : ByteArray), .bool false, .slice none 0 0]) (t := 41) ?hr ?_; (case hd => rfl); (case hg => rfl); (case hr => first | (go_simp; done) | (go_simp; rfl)); intro gb143 hg w6 hbox hb; have n0_ := Aside0.mk (below_step (by repeat (first | (with_reducible first | exact HB.out | apply below_alloc | apply pw_below_drewN | apply below_drew1) | exact HB.out)) hb); have n1_ := Aside0.mk (hbox); have n2_ := Aside0.mk ((by rw [hg]; exact (below_size (by repeat (first | (with_reducible first | exact HB.out | apply below_alloc | apply pw_below_drewN | apply below_drew1) | exact HB.out))) : w.heap.size ≤ gb143)); have n3_ := Aside0.mk ((by rw [hg]; exact (below_size (by repeat (first | (with_reducible first | exact HB.out | apply below_alloc | apply pw_below_drewN | apply below_drew1) | exact HB.out))) : w.heap.size ≤ gb143)); clear HB; have HB := n0_; have BK143 := n1_; have GW143 := n2_; have GE143 := n3_; clear n0_ n1_ n2_ n3_; clear hb hbox hg; have hcz7_0 : w6.cell? ⟨gb143, 0, none⟩ = some (.int .i64 0) := (blk_cell BK143.out 0).trans rfl; have hcz7_1 : w6.cell? ⟨gb143, 1, none⟩ = some (.string (⟨#[]⟩ : ByteArray)) := (blk_cell BK143.out 1).trans rfl; have hcz7_2 : w6.cell? ⟨gb143, 2, none⟩ = some (.bool false) := (blk_cell BK143.out 2).trans rfl; have hcz7_3 : w6.cell? ⟨gb143, 3, none⟩ = some (.slice none 0 0) := (blk_cell BK143.out 3).trans rfl; have hfz7_0 := blk_frozen BK143.out 0; have hfz7_1 := blk_frozen BK143.out 1; have hfz7_2 := blk_frozen BK143.out 2; have hfz7_3 := blk_frozen BK143.out 3))
      repeat (go_quiet (first | ((with_reducible refine gate_dst (N := 5) rfl ?_); (try (refine gate_guard (by rfl) ?_; dsimp only)); refine box_event ?hg (N := 5) ?hd (cs := #[.int .i64 0, .string (⟨#[]⟩ : ByteArray), .bool false, .slice none 0 0]) (t := 41) ?hr ?_; (case hd => rfl); (case hg => rfl); (case hr => first | (go_simp; done) | (go_simp; rfl)); intro gb143 hg w6 hbox hb; have n0_ := Aside0.mk (below_step (by repeat (first | (with_reducible first | exact HB.out | apply below_alloc | apply pw_below_drewN | apply below_drew1) | exact HB.out)) hb); have n1_ := Aside0.mk (hbox); have n2_ := Aside0.mk ((by rw [hg]; exact (below_size (by repeat (first | (with_reducible first | exact HB.out | apply below_alloc | apply pw_below_drewN | apply below_drew1) | exact HB.out))) : w.heap.size ≤ gb143)); have n3_ := Aside0.mk ((by rw [hg]; exact (below_size (by repeat (first | (with_reducible first | exact HB.out | apply below_alloc | apply pw_below_drewN | apply below_drew1) | exact HB.out))) : w.heap.size ≤ gb143)); clear HB; have HB := n0_; have BK143 := n1_; have GW143 := n2_; have GE143 := n3_; clear n0_ n1_ n2_ n3_; clear hb hbox hg; have hcz7_0 : w6.cell? ⟨gb143, 0, none⟩ = some (.int .i64 0) := (blk_cell BK143.out 0).trans rfl; have hcz7_1 : w6.cell? ⟨gb143, 1, none⟩ = some (.string (⟨#[]⟩ : ByteArray)) := (blk_cell BK143.out 1).trans rfl; have hcz7_2 : w6.cell? ⟨gb143, 2, none⟩ = some (.bool false) := (blk_cell BK143.out 2).trans rfl; have hcz7_3 : w6.cell? ⟨gb143, 3, none⟩ = some (.slice none 0 0) := (blk_cell BK143.out 3).trans rfl; have hfz7_0 := blk_frozen BK143.out 0; have hfz7_1 := blk_frozen BK143.out 1; have hfz7_2 := blk_frozen BK143.out 2; have hfz7_3 := blk_frozen BK143.out 3)); go_upto_region 2 with (first | ((with_reducible refine gate_dst (N := 5) rfl ?_); (try (refine gate_guard (by rfl) ?_; dsimp only)); refine box_event ?hg (N := 5) ?hd (cs := #[.int .i64 0, .string (⟨#[]⟩ : ByteArray), .bool false, .slice none 0 0]) (t := 41) ?hr ?_; (case hd => rfl); (case hg => rfl); (case hr => first | (go_simp; done) | (go_simp; rfl)); intro gb143 hg w6 hbox hb; have n0_ := Aside0.mk (below_step (by repeat (first | (with_reducible first | exact HB.out | apply below_alloc | apply pw_below_drewN | apply below_drew1) | exact HB.out)) hb); have n1_ := Aside0.mk (hbox); have n2_ := Aside0.mk ((by rw [hg]; exact (below_size (by repeat (first | (with_reducible first | exact HB.out | apply below_alloc | apply pw_below_drewN | apply below_drew1) | exact HB.out))) : w.heap.size ≤ gb143)); have n3_ := Aside0.mk ((by rw [hg]; exact (below_size (by repeat (first | (with_reducible first | exact HB.out | apply below_alloc | apply pw_below_drewN | apply below_drew1) | exact HB.out))) : w.heap.size ≤ gb143)); clear HB; have HB := n0_; have BK143 := n1_; have GW143 := n2_; have GE143 := n3_; clear n0_ n1_ n2_ n3_; clear hb hbox hg; have hcz7_0 : w6.cell? ⟨gb143, 0, none⟩ = some (.int .i64 0) := (blk_cell BK143.out 0).trans rfl; have hcz7_1 : w6.cell? ⟨gb143, 1, none⟩ = some (.string (⟨#[]⟩ : ByteArray)) := (blk_cell BK143.out 1).trans rfl; have hcz7_2 : w6.cell? ⟨gb143, 2, none⟩ = some (.bool false) := (blk_cell BK143.out 2).trans rfl; have hcz7_3 : w6.cell? ⟨gb143, 3, none⟩ = some (.slice none 0 0) := (blk_cell BK143.out 3).trans rfl; have hfz7_0 := blk_frozen BK143.out 0; have hfz7_1 := blk_frozen BK143.out 1; have hfz7_2 := blk_frozen BK143.out 2; have hfz7_3 := blk_frozen BK143.out 3)))
      (try simp only [Act.put, List.setIfInBounds_toArray, List.set_cons_zero, List.set_cons_succ])
      go_cut [33] (fun v33 wc => ∃ (kq : Nat) (x33_4 : Bool), v33 = .bool x33_4 ∧ Aside0 (gessoref14_one.j0 kq l0 a1 x33_4 ((rd_T41 l0 a1).f0) ((rd_T41 l0 a1).f1) ((rd_T41 l0 a1).f2) ((rd_T41 l0 a1).f3) = some r) ∧ Aside0 (kq ≤ k) ∧ Aside0 (wc.heap[gb143]? = some (.cells #[.int .i64 ((rd_T41 l0 a1).f0), .string ((rd_T41 l0 a1).f1), .bool ((rd_T41 l0 a1).f2), (.slice A142_3 ((rd_T41 l0 a1).f3).length c142_3)] 41 (0, 0))) ∧ Aside0 (Below w.heap.size w wc))
      case first =>
        have H := HC5.out
        clear HC5
        by_cases c8 : ((rd_T41 l0 a1).f0) < (-1)
        · rw [if_pos c8] at H
          have c8b0 : decide (((rd_T41 l0 a1).f0) < (-1)) = true := decide_eq_true c8
          clear c8
          (first | rw [c8b0] | (simp only [i64_w, i32_w]; rw [c8b0]) | skip)
          have H' := Aside0.mk H
          clear H
          have hcz9_0 : w6.cell? ⟨gb143, 0, none⟩ = some (.int .i64 0) := (blk_cell BK143.out 0).trans rfl
          have hcz9_1 : w6.cell? ⟨gb143, 1, none⟩ = some (.string (⟨#[]⟩ : ByteArray)) := (blk_cell BK143.out 1).trans rfl
          have hcz9_2 : w6.cell? ⟨gb143, 2, none⟩ = some (.bool false) := (blk_cell BK143.out 2).trans rfl
          have hcz9_3 : w6.cell? ⟨gb143, 3, none⟩ = some (.slice none 0 0) := (blk_cell BK143.out 3).trans rfl
          have hfz9_0 := blk_frozen BK143.out 0
          have hfz9_1 := blk_frozen BK143.out 1
          have hfz9_2 := blk_frozen BK143.out 2
          have hfz9_3 := blk_frozen BK143.out 3
          go_wp2
          repeat (go_quiet (fail); try go_wp2)
          go_meet
          case rel => exact ⟨_, (true), (by first | rfl | (simp; done) | (simp [*]; done)), H', ⟨by first | omega | exact Nat.le_refl _⟩, ⟨by (with_reducible repeat (first | refine blk_drewN ?_ _ | refine blk_drew ?_ | refine blk_alloc ?_ _)); refine blk_put (cs := #[.int .i64 ((rd_T41 l0 a1).f0), .string ((rd_T41 l0 a1).f1), .bool ((rd_T41 l0 a1).f2), .slice none 0 0]) ?_ 3 _ rfl; (with_reducible repeat (first | refine blk_drewN ?_ _ | refine blk_drew ?_ | refine blk_alloc ?_ _)); refine blk_put (cs := #[.int .i64 ((rd_T41 l0 a1).f0), .string ((rd_T41 l0 a1).f1), .bool false, .slice none 0 0]) ?_ 2 _ rfl; (with_reducible repeat (first | refine blk_drewN ?_ _ | refine blk_drew ?_ | refine blk_alloc ?_ _)); refine blk_put (cs := #[.int .i64 ((rd_T41 l0 a1).f0), .string (⟨#[]⟩ : ByteArray), .bool false, .slice none 0 0]) ?_ 1 _ rfl; (with_reducible repeat (first | refine blk_drewN ?_ _ | refine blk_drew ?_ | refine blk_alloc ?_ _)); refine blk_put (cs := #[.int .i64 0, .string (⟨#[]⟩ : ByteArray), .bool false, .slice none 0 0]) ?_ 0 _ rfl; (with_reducible repeat (first | refine blk_drewN ?_ _ | refine blk_drew ?_ | refine blk_alloc ?_ _)); exact BK143.out⟩, ⟨by repeat (first | (with_reducible first | exact HB.out | apply below_alloc | apply pw_below_drewN | apply below_drew1 | refine below_set ?_ GE143.out) | exact HB.out)⟩⟩
        · rw [if_neg c8] at H
          have c8b0 : decide (((rd_T41 l0 a1).f0) < (-1)) = false := decide_eq_false c8
          clear c8
          (first | rw [c8b0] | (simp only [i64_w, i32_w]; rw [c8b0]) | skip)
          by_cases c10 : ((rd_T41 l0 a1).f0) ≥ a1
          · rw [if_pos c10] at H
            have c10b0 : decide (a1 ≤ ((rd_T41 l0 a1).f0)) = true := decide_eq_true c10
            clear c10
            have H' := Aside0.mk H
            clear H
            have hcz11_0 : w6.cell? ⟨gb143, 0, none⟩ = some (.int .i64 0) := (blk_cell BK143.out 0).trans rfl
            have hcz11_1 : w6.cell? ⟨gb143, 1, none⟩ = some (.string (⟨#[]⟩ : ByteArray)) := (blk_cell BK143.out 1).trans rfl
            have hcz11_2 : w6.cell? ⟨gb143, 2, none⟩ = some (.bool false) := (blk_cell BK143.out 2).trans rfl
            have hcz11_3 : w6.cell? ⟨gb143, 3, none⟩ = some (.slice none 0 0) := (blk_cell BK143.out 3).trans rfl
            have hfz11_0 := blk_frozen BK143.out 0
            have hfz11_1 := blk_frozen BK143.out 1
            have hfz11_2 := blk_frozen BK143.out 2
            have hfz11_3 := blk_frozen BK143.out 3
            go_wp2
            repeat (go_quiet (fail); try go_wp2)
            go_meet
            case rel => exact ⟨_, (true), (by first | rfl | (simp; done) | (simp [*]; done)), H', ⟨by first | omega | exact Nat.le_refl _⟩, ⟨by (with_reducible repeat (first | refine blk_drewN ?_ _ | refine blk_drew ?_ | refine blk_alloc ?_ _)); refine blk_put (cs := #[.int .i64 ((rd_T41 l0 a1).f0), .string ((rd_T41 l0 a1).f1), .bool ((rd_T41 l0 a1).f2), .slice none 0 0]) ?_ 3 _ rfl; (with_reducible repeat (first | refine blk_drewN ?_ _ | refine blk_drew ?_ | refine blk_alloc ?_ _)); refine blk_put (cs := #[.int .i64 ((rd_T41 l0 a1).f0), .string ((rd_T41 l0 a1).f1), .bool false, .slice none 0 0]) ?_ 2 _ rfl; (with_reducible repeat (first | refine blk_drewN ?_ _ | refine blk_drew ?_ | refine blk_alloc ?_ _)); refine blk_put (cs := #[.int .i64 ((rd_T41 l0 a1).f0), .string (⟨#[]⟩ : ByteArray), .bool false, .slice none 0 0]) ?_ 1 _ rfl; (with_reducible repeat (first | refine blk_drewN ?_ _ | refine blk_drew ?_ | refine blk_alloc ?_ _)); refine blk_put (cs := #[.int .i64 0, .string (⟨#[]⟩ : ByteArray), .bool false, .slice none 0 0]) ?_ 0 _ rfl; (with_reducible repeat (first | refine blk_drewN ?_ _ | refine blk_drew ?_ | refine blk_alloc ?_ _)); exact BK143.out⟩, ⟨by repeat (first | (with_reducible first | exact HB.out | apply below_alloc | apply pw_below_drewN | apply below_drew1 | refine below_set ?_ GE143.out) | exact HB.out)⟩⟩
          · rw [if_neg c10] at H
            have c10b0 : decide (a1 ≤ ((rd_T41 l0 a1).f0)) = false := decide_eq_false c10
            clear c10
            by_cases c12 : ((rd_T41 l0 a1).f0) ≥ 0
            · rw [if_pos c12] at H
              have c12b0 : decide (0 ≤ ((rd_T41 l0 a1).f0)) = true := decide_eq_true c12
              clear c12
              by_cases c13 : 0 ≤ ((rd_T41 l0 a1).f0)
              · rw [if_pos c13] at H
                have c13b0 : decide (0 ≤ ((rd_T41 l0 a1).f0)) = true := decide_eq_true c13
                clear c13
                by_cases c14 : ((rd_T41 l0 a1).f0) < (l0.length : Int)
                · rw [if_pos c14] at H
                  have c14b0 : decide (((rd_T41 l0 a1).f0) < (l0.length : Int)) = true := decide_eq_true c14
                  clear c14
                  have H' := Aside0.mk H
                  clear H
                  have hcz15_0 : w6.cell? ⟨gb143, 0, none⟩ = some (.int .i64 0) := (blk_cell BK143.out 0).trans rfl
                  have hcz15_1 : w6.cell? ⟨gb143, 1, none⟩ = some (.string (⟨#[]⟩ : ByteArray)) := (blk_cell BK143.out 1).trans rfl
                  have hcz15_2 : w6.cell? ⟨gb143, 2, none⟩ = some (.bool false) := (blk_cell BK143.out 2).trans rfl
                  have hcz15_3 : w6.cell? ⟨gb143, 3, none⟩ = some (.slice none 0 0) := (blk_cell BK143.out 3).trans rfl
                  have hfz15_0 := blk_frozen BK143.out 0
                  have hfz15_1 := blk_frozen BK143.out 1
                  have hfz15_2 := blk_frozen BK143.out 2
                  have hfz15_3 := blk_frozen BK143.out 3
                  have p144 : 0 ≤ (((rd_T41 l0 a1).f0) : Int) := of_decide_eq_true (by first | (with_reducible assumption) | assumption)
                  have q144 : ((rd_T41 l0 a1).f0) < (l0.length : Int) := of_decide_eq_true (by first | (with_reducible assumption) | assumption)
                  obtain ⟨ad144, A144_3, c144_3, e144, hx144_0, hx144_1, hx144_2, hx144_3, hl144_3, hi144_3⟩ := at_T41 HR0.out ((rd_T41 l0 a1).f0) p144 q144
                  obtain rfl : ad142 = ad144 := (by injection e144)
                  have hn144_0 : ad142.block ≠ gb143 := Nat.ne_of_lt (Nat.lt_of_lt_of_le (by have := World.block_lt_of_cell? _ _ hx144_0; first | rwa [add_block] at this | exact this) GW143.out)
                  have hn144_1 : ad142.block ≠ gb143 := Nat.ne_of_lt (Nat.lt_of_lt_of_le (by have := World.block_lt_of_cell? _ _ hx144_0; first | rwa [add_block] at this | exact this) GW143.out)
                  have hn144_2 : ad142.block ≠ gb143 := Nat.ne_of_lt (Nat.lt_of_lt_of_le (by have := World.block_lt_of_cell? _ _ hx144_0; first | rwa [add_block] at this | exact this) GW143.out)
                  have hn144_3 : ad142.block ≠ gb143 := Nat.ne_of_lt (Nat.lt_of_lt_of_le (by have := World.block_lt_of_cell? _ _ hx144_0; first | rwa [add_block] at this | exact this) GW143.out)
                  replace hx144_0 := (HB.out.cell (World.block_lt_of_cell? w _ hx144_0)).trans hx144_0
                  replace hx144_1 := (HB.out.cell (World.block_lt_of_cell? w _ hx144_1)).trans hx144_1
                  replace hx144_2 := (HB.out.cell (World.block_lt_of_cell? w _ hx144_2)).trans hx144_2
                  replace hx144_3 := (HB.out.cell (World.block_lt_of_cell? w _ hx144_3)).trans hx144_3
                  have HR144_3 := Aside0.mk hi144_3
                  have HC144_3 := Aside0.mk hl144_3
                  clear hi144_3 hl144_3
                  replace hx144_0 := (cell_far (p := ⟨gb143, 0, none⟩) (by first | (rw [add_block]; exact hn144_0) | (show (Addr.add _ _).block ≠ _; rw [add_block]; exact hn144_0) | exact hn144_0) (.int .i64 ((rd_T41 l0 a1).f0))).trans hx144_0
                  replace hx144_1 := (cell_far (p := ⟨gb143, 0, none⟩) (by first | (rw [add_block]; exact hn144_0) | (show (Addr.add _ _).block ≠ _; rw [add_block]; exact hn144_0) | exact hn144_0) (.int .i64 ((rd_T41 l0 a1).f0))).trans hx144_1
                  replace hx144_2 := (cell_far (p := ⟨gb143, 0, none⟩) (by first | (rw [add_block]; exact hn144_0) | (show (Addr.add _ _).block ≠ _; rw [add_block]; exact hn144_0) | exact hn144_0) (.int .i64 ((rd_T41 l0 a1).f0))).trans hx144_2
                  replace hx144_3 := (cell_far (p := ⟨gb143, 0, none⟩) (by first | (rw [add_block]; exact hn144_0) | (show (Addr.add _ _).block ≠ _; rw [add_block]; exact hn144_0) | exact hn144_0) (.int .i64 ((rd_T41 l0 a1).f0))).trans hx144_3
                  replace hx144_0 := (cell_far (p := ⟨gb143, 1, none⟩) (by first | (rw [add_block]; exact hn144_1) | (show (Addr.add _ _).block ≠ _; rw [add_block]; exact hn144_1) | exact hn144_1) (.string ((rd_T41 l0 a1).f1))).trans hx144_0
                  replace hx144_1 := (cell_far (p := ⟨gb143, 1, none⟩) (by first | (rw [add_block]; exact hn144_1) | (show (Addr.add _ _).block ≠ _; rw [add_block]; exact hn144_1) | exact hn144_1) (.string ((rd_T41 l0 a1).f1))).trans hx144_1
                  replace hx144_2 := (cell_far (p := ⟨gb143, 1, none⟩) (by first | (rw [add_block]; exact hn144_1) | (show (Addr.add _ _).block ≠ _; rw [add_block]; exact hn144_1) | exact hn144_1) (.string ((rd_T41 l0 a1).f1))).trans hx144_2
                  replace hx144_3 := (cell_far (p := ⟨gb143, 1, none⟩) (by first | (rw [add_block]; exact hn144_1) | (show (Addr.add _ _).block ≠ _; rw [add_block]; exact hn144_1) | exact hn144_1) (.string ((rd_T41 l0 a1).f1))).trans hx144_3
                  replace hx144_0 := (cell_far (p := ⟨gb143, 2, none⟩) (by first | (rw [add_block]; exact hn144_2) | (show (Addr.add _ _).block ≠ _; rw [add_block]; exact hn144_2) | exact hn144_2) (.bool ((rd_T41 l0 a1).f2))).trans hx144_0
                  replace hx144_1 := (cell_far (p := ⟨gb143, 2, none⟩) (by first | (rw [add_block]; exact hn144_2) | (show (Addr.add _ _).block ≠ _; rw [add_block]; exact hn144_2) | exact hn144_2) (.bool ((rd_T41 l0 a1).f2))).trans hx144_1
                  replace hx144_2 := (cell_far (p := ⟨gb143, 2, none⟩) (by first | (rw [add_block]; exact hn144_2) | (show (Addr.add _ _).block ≠ _; rw [add_block]; exact hn144_2) | exact hn144_2) (.bool ((rd_T41 l0 a1).f2))).trans hx144_2
                  replace hx144_3 := (cell_far (p := ⟨gb143, 2, none⟩) (by first | (rw [add_block]; exact hn144_2) | (show (Addr.add _ _).block ≠ _; rw [add_block]; exact hn144_2) | exact hn144_2) (.bool ((rd_T41 l0 a1).f2))).trans hx144_3
                  replace hx144_0 := (cell_far (p := ⟨gb143, 3, none⟩) (by first | (rw [add_block]; exact hn144_3) | (show (Addr.add _ _).block ≠ _; rw [add_block]; exact hn144_3) | exact hn144_3) (.slice A142_3 ((rd_T41 l0 a1).f3).length c142_3)).trans hx144_0
                  replace hx144_1 := (cell_far (p := ⟨gb143, 3, none⟩) (by first | (rw [add_block]; exact hn144_3) | (show (Addr.add _ _).block ≠ _; rw [add_block]; exact hn144_3) | exact hn144_3) (.slice A142_3 ((rd_T41 l0 a1).f3).length c142_3)).trans hx144_1
                  replace hx144_2 := (cell_far (p := ⟨gb143, 3, none⟩) (by first | (rw [add_block]; exact hn144_3) | (show (Addr.add _ _).block ≠ _; rw [add_block]; exact hn144_3) | exact hn144_3) (.slice A142_3 ((rd_T41 l0 a1).f3).length c142_3)).trans hx144_2
                  replace hx144_3 := (cell_far (p := ⟨gb143, 3, none⟩) (by first | (rw [add_block]; exact hn144_3) | (show (Addr.add _ _).block ≠ _; rw [add_block]; exact hn144_3) | exact hn144_3) (.slice A142_3 ((rd_T41 l0 a1).f3).length c142_3)).trans hx144_3
                  (try have hy144_0 := fun (n_ : Nat) => (show ((((((w6.drewN n_).setCell ⟨gb143, 0, none⟩ (.int .i64 ((rd_T41 l0 a1).f0))).setCell ⟨gb143, 1, none⟩ (.string ((rd_T41 l0 a1).f1))).setCell ⟨gb143, 2, none⟩ (.bool ((rd_T41 l0 a1).f2))).setCell ⟨gb143, 3, none⟩ (.slice A142_3 ((rd_T41 l0 a1).f3).length c142_3))).cell? _ = some _ from hx144_0))
                  (try have hy144_1 := fun (n_ : Nat) => (show ((((((w6.drewN n_).setCell ⟨gb143, 0, none⟩ (.int .i64 ((rd_T41 l0 a1).f0))).setCell ⟨gb143, 1, none⟩ (.string ((rd_T41 l0 a1).f1))).setCell ⟨gb143, 2, none⟩ (.bool ((rd_T41 l0 a1).f2))).setCell ⟨gb143, 3, none⟩ (.slice A142_3 ((rd_T41 l0 a1).f3).length c142_3))).cell? _ = some _ from hx144_1))
                  (try have hy144_2 := fun (n_ : Nat) => (show ((((((w6.drewN n_).setCell ⟨gb143, 0, none⟩ (.int .i64 ((rd_T41 l0 a1).f0))).setCell ⟨gb143, 1, none⟩ (.string ((rd_T41 l0 a1).f1))).setCell ⟨gb143, 2, none⟩ (.bool ((rd_T41 l0 a1).f2))).setCell ⟨gb143, 3, none⟩ (.slice A142_3 ((rd_T41 l0 a1).f3).length c142_3))).cell? _ = some _ from hx144_2))
                  (try have hy144_3 := fun (n_ : Nat) => (show ((((((w6.drewN n_).setCell ⟨gb143, 0, none⟩ (.int .i64 ((rd_T41 l0 a1).f0))).setCell ⟨gb143, 1, none⟩ (.string ((rd_T41 l0 a1).f1))).setCell ⟨gb143, 2, none⟩ (.bool ((rd_T41 l0 a1).f2))).setCell ⟨gb143, 3, none⟩ (.slice A142_3 ((rd_T41 l0 a1).f3).length c142_3))).cell? _ = some _ from hx144_3))
                  clear hn144_0
                  clear hn144_1
                  clear hn144_2
                  clear hn144_3
                  replace p144 := eq_true p144
                  replace q144 := eq_true q144
                  go_wp2
                  repeat (go_quiet (fail); try go_wp2)
                  go_meet
                  case rel => exact ⟨_, (!((rd_T41 l0 ((rd_T41 l0 a1).f0)).f2)), (by first | rfl | (simp; done) | (simp [*]; done)), H', ⟨by first | omega | exact Nat.le_refl _⟩, ⟨by (with_reducible repeat (first | refine blk_drewN ?_ _ | refine blk_drew ?_ | refine blk_alloc ?_ _)); refine blk_put (cs := #[.int .i64 ((rd_T41 l0 a1).f0), .string ((rd_T41 l0 a1).f1), .bool ((rd_T41 l0 a1).f2), .slice none 0 0]) ?_ 3 _ rfl; (with_reducible repeat (first | refine blk_drewN ?_ _ | refine blk_drew ?_ | refine blk_alloc ?_ _)); refine blk_put (cs := #[.int .i64 ((rd_T41 l0 a1).f0), .string ((rd_T41 l0 a1).f1), .bool false, .slice none 0 0]) ?_ 2 _ rfl; (with_reducible repeat (first | refine blk_drewN ?_ _ | refine blk_drew ?_ | refine blk_alloc ?_ _)); refine blk_put (cs := #[.int .i64 ((rd_T41 l0 a1).f0), .string (⟨#[]⟩ : ByteArray), .bool false, .slice none 0 0]) ?_ 1 _ rfl; (with_reducible repeat (first | refine blk_drewN ?_ _ | refine blk_drew ?_ | refine blk_alloc ?_ _)); refine blk_put (cs := #[.int .i64 0, .string (⟨#[]⟩ : ByteArray), .bool false, .slice none 0 0]) ?_ 0 _ rfl; (with_reducible repeat (first | refine blk_drewN ?_ _ | refine blk_drew ?_ | refine blk_alloc ?_ _)); exact BK143.out⟩, ⟨by repeat (first | (with_reducible first | exact HB.out | apply below_alloc | apply pw_below_drewN | apply below_drew1 | refine below_set ?_ GE143.out) | exact HB.out)⟩⟩
                · rw [if_neg c14] at H
                  exact absurd H (by simp)
              · rw [if_neg c13] at H
                exact absurd H (by simp)
            · rw [if_neg c12] at H
              have c12b0 : decide (0 ≤ ((rd_T41 l0 a1).f0)) = false := decide_eq_false c12
              clear c12
              have H' := Aside0.mk H
              clear H
              have hcz16_0 : w6.cell? ⟨gb143, 0, none⟩ = some (.int .i64 0) := (blk_cell BK143.out 0).trans rfl
              have hcz16_1 : w6.cell? ⟨gb143, 1, none⟩ = some (.string (⟨#[]⟩ : ByteArray)) := (blk_cell BK143.out 1).trans rfl
              have hcz16_2 : w6.cell? ⟨gb143, 2, none⟩ = some (.bool false) := (blk_cell BK143.out 2).trans rfl
              have hcz16_3 : w6.cell? ⟨gb143, 3, none⟩ = some (.slice none 0 0) := (blk_cell BK143.out 3).trans rfl
              have hfz16_0 := blk_frozen BK143.out 0
              have hfz16_1 := blk_frozen BK143.out 1
              have hfz16_2 := blk_frozen BK143.out 2
              have hfz16_3 := blk_frozen BK143.out 3
              go_wp2
              repeat (go_quiet (fail); try go_wp2)
              go_meet
              case rel => exact ⟨_, (false), (by first | rfl | (simp; done) | (simp [*]; done)), H', ⟨by first | omega | exact Nat.le_refl _⟩, ⟨by (with_reducible repeat (first | refine blk_drewN ?_ _ | refine blk_drew ?_ | refine blk_alloc ?_ _)); refine blk_put (cs := #[.int .i64 ((rd_T41 l0 a1).f0), .string ((rd_T41 l0 a1).f1), .bool ((rd_T41 l0 a1).f2), .slice none 0 0]) ?_ 3 _ rfl; (with_reducible repeat (first | refine blk_drewN ?_ _ | refine blk_drew ?_ | refine blk_alloc ?_ _)); refine blk_put (cs := #[.int .i64 ((rd_T41 l0 a1).f0), .string ((rd_T41 l0 a1).f1), .bool false, .slice none 0 0]) ?_ 2 _ rfl; (with_reducible repeat (first | refine blk_drewN ?_ _ | refine blk_drew ?_ | refine blk_alloc ?_ _)); refine blk_put (cs := #[.int .i64 ((rd_T41 l0 a1).f0), .string (⟨#[]⟩ : ByteArray), .bool false, .slice none 0 0]) ?_ 1 _ rfl; (with_reducible repeat (first | refine blk_drewN ?_ _ | refine blk_drew ?_ | refine blk_alloc ?_ _)); refine blk_put (cs := #[.int .i64 0, .string (⟨#[]⟩ : ByteArray), .bool false, .slice none 0 0]) ?_ 0 _ rfl; (with_reducible repeat (first | refine blk_drewN ?_ _ | refine blk_drew ?_ | refine blk_alloc ?_ _)); exact BK143.out⟩, ⟨by repeat (first | (with_reducible first | exact HB.out | apply below_alloc | apply pw_below_drewN | apply below_drew1 | refine below_set ?_ GE143.out) | exact HB.out)⟩⟩
      case rest =>
        clear HC5
        try clear c1
        try clear p1
        try clear q1
        try clear hx1
        try clear p2
        try clear c3
        try clear c3b0
        try clear c4
        try clear c4b0
        try clear c8
        try clear c8b0
        try clear c10
        try clear c10b0
        try clear c12
        try clear c12b0
        try clear c13
        try clear c13b0
        try clear c14
        try clear c14b0
        try clear p14
        try clear q14
        try clear hx14
        try clear hcz11_0
        try clear hcz11_1
        try clear hcz11_2
        try clear hcz11_3
        try clear hcz15_0
        try clear hcz15_1
        try clear hcz15_2
        try clear hcz15_3
        try clear hcz16_0
        try clear hcz16_1
        try clear hcz16_2
        try clear hcz16_3
        try clear hcz7_0
        try clear hcz7_1
        try clear hcz7_2
        try clear hcz7_3
        try clear hcz9_0
        try clear hcz9_1
        try clear hcz9_2
        try clear hcz9_3
        try clear hfz11_0
        try clear hfz11_1
        try clear hfz11_2
        try clear hfz11_3
        try clear hfz15_0
        try clear hfz15_1
        try clear hfz15_2
        try clear hfz15_3
        try clear hfz16_0
        try clear hfz16_1
        try clear hfz16_2
        try clear hfz16_3
        try clear hfz7_0
        try clear hfz7_1
        try clear hfz7_2
        try clear hfz7_3
        try clear hfz9_0
        try clear hfz9_1
        try clear hfz9_2
        try clear hfz9_3
        try clear hx142_0
        try clear hx142_1
        try clear hx142_2
        try clear hx142_3
        try clear hx144_0
        try clear hx144_1
        try clear hx144_2
        try clear hx144_3
        try clear p142
        try clear p144
        try clear q142
        try clear q144
        obtain ⟨kq, x33_4, rfl, HA, HJ4, BK143, HB⟩ := hcut
        cases kq with
        | zero => exact absurd HA.out (by simp [gessoref14_one.j0])
        | succ kj4 =>
          have H := HA.out
          clear HA
          simp only [gessoref14_one.j0] at H
          by_cases c17 : x33_4 = true
          · subst c17
            have H1 : (some false) = some r := by rw [if_pos rfl] at H; exact H
            clear H
            have H := H1
            clear H1
            obtain rfl := Option.some.inj H
            go_wp2
            repeat (go_quiet (fail); try go_wp2)
            go_ret
            exact ⟨by first | rfl | (simp [errW_none, errW_some] <;> rfl) | (simp [*, errW_none, errW_some] <;> rfl), by repeat (first | (with_reducible first | exact HB.out | apply below_alloc | apply pw_below_drewN | apply below_drew1 | refine below_set ?_ GE143.out) | exact HB.out)⟩
          · replace c17 := Bool.eq_false_iff.mpr c17
            subst c17
            have H1 : ((gessoref13_Name.f kj4 ((rd_T41 l0 a1).f1)).bind fun t145 => (if t145 = true then (if (((rd_T41 l0 a1).f1).size : Int) > 48 then (gessoref14_one.j1 kj4 l0 a1 true ((rd_T41 l0 a1).f0) ((rd_T41 l0 a1).f1) ((rd_T41 l0 a1).f2) ((rd_T41 l0 a1).f3)) else (if ((rd_T41 l0 a1).f2) = true then (if (((rd_T41 l0 a1).f3).length : Int) > 0 then (gessoref14_one.j1 kj4 l0 a1 true ((rd_T41 l0 a1).f0) ((rd_T41 l0 a1).f1) ((rd_T41 l0 a1).f2) ((rd_T41 l0 a1).f3)) else (if (((rd_T41 l0 a1).f3).length : Int) > 8192 then (gessoref14_one.j1 kj4 l0 a1 true ((rd_T41 l0 a1).f0) ((rd_T41 l0 a1).f1) ((rd_T41 l0 a1).f2) ((rd_T41 l0 a1).f3)) else ((gessoref14_deep.f kj4 l0 a1).bind fun t146 => (gessoref14_one.j1 kj4 l0 a1 (decide (t146 > 8)) ((rd_T41 l0 a1).f0) ((rd_T41 l0 a1).f1) ((rd_T41 l0 a1).f2) ((rd_T41 l0 a1).f3))))) else (if (((rd_T41 l0 a1).f3).length : Int) > 8192 then (gessoref14_one.j1 kj4 l0 a1 true ((rd_T41 l0 a1).f0) ((rd_T41 l0 a1).f1) ((rd_T41 l0 a1).f2) ((rd_T41 l0 a1).f3)) else ((gessoref14_deep.f kj4 l0 a1).bind fun t147 => (gessoref14_one.j1 kj4 l0 a1 (decide (t147 > 8)) ((rd_T41 l0 a1).f0) ((rd_T41 l0 a1).f1) ((rd_T41 l0 a1).f2) ((rd_T41 l0 a1).f3)))))) else (gessoref14_one.j1 kj4 l0 a1 true ((rd_T41 l0 a1).f0) ((rd_T41 l0 a1).f1) ((rd_T41 l0 a1).f2) ((rd_T41 l0 a1).f3)))) = some r := by rw [if_neg (show ¬ (false = true) by decide)] at H; exact H
            clear H
            have H := H1
            clear H1
            have HC18 := Aside0.mk H
            clear H
            go_upto_region 4 with (fail)
            repeat (go_quiet (fail); go_upto_region 4 with (fail))
            go_cut [65] (fun v65 wc => ∃ (kq : Nat) (x65_17 : Bool), v65 = .bool x65_17 ∧ Aside0 (gessoref14_one.j1 kq l0 a1 x65_17 ((rd_T41 l0 a1).f0) ((rd_T41 l0 a1).f1) ((rd_T41 l0 a1).f2) ((rd_T41 l0 a1).f3) = some r) ∧ Aside0 (kq ≤ kj4) ∧ Aside0 (wc.heap[gb143]? = some (.cells #[.int .i64 ((rd_T41 l0 a1).f0), .string ((rd_T41 l0 a1).f1), .bool ((rd_T41 l0 a1).f2), (.slice A142_3 ((rd_T41 l0 a1).f3).length c142_3)] 41 (0, 0))) ∧ Aside0 (Below w.heap.size w wc))
            case first =>
              have H := HC18.out
              clear HC18
              replace H := Option.bind_eq_some_iff.mp H
              obtain ⟨t145, A190, H⟩ := H
              replace H : (if t145 = true then (if (((rd_T41 l0 a1).f1).size : Int) > 48 then (gessoref14_one.j1 kj4 l0 a1 true ((rd_T41 l0 a1).f0) ((rd_T41 l0 a1).f1) ((rd_T41 l0 a1).f2) ((rd_T41 l0 a1).f3)) else (if ((rd_T41 l0 a1).f2) = true then (if (((rd_T41 l0 a1).f3).length : Int) > 0 then (gessoref14_one.j1 kj4 l0 a1 true ((rd_T41 l0 a1).f0) ((rd_T41 l0 a1).f1) ((rd_T41 l0 a1).f2) ((rd_T41 l0 a1).f3)) else (if (((rd_T41 l0 a1).f3).length : Int) > 8192 then (gessoref14_one.j1 kj4 l0 a1 true ((rd_T41 l0 a1).f0) ((rd_T41 l0 a1).f1) ((rd_T41 l0 a1).f2) ((rd_T41 l0 a1).f3)) else ((gessoref14_deep.f kj4 l0 a1).bind fun t146 => (gessoref14_one.j1 kj4 l0 a1 (decide (t146 > 8)) ((rd_T41 l0 a1).f0) ((rd_T41 l0 a1).f1) ((rd_T41 l0 a1).f2) ((rd_T41 l0 a1).f3))))) else (if (((rd_T41 l0 a1).f3).length : Int) > 8192 then (gessoref14_one.j1 kj4 l0 a1 true ((rd_T41 l0 a1).f0) ((rd_T41 l0 a1).f1) ((rd_T41 l0 a1).f2) ((rd_T41 l0 a1).f3)) else ((gessoref14_deep.f kj4 l0 a1).bind fun t147 => (gessoref14_one.j1 kj4 l0 a1 (decide (t147 > 8)) ((rd_T41 l0 a1).f0) ((rd_T41 l0 a1).f1) ((rd_T41 l0 a1).f2) ((rd_T41 l0 a1).f3)))))) else (gessoref14_one.j1 kj4 l0 a1 true ((rd_T41 l0 a1).f0) ((rd_T41 l0 a1).f1) ((rd_T41 l0 a1).f2) ((rd_T41 l0 a1).f3))) = some r := H
              have A19 := Aside0.mk A190
              clear A190
              by_cases c20 : t145 = true
              · subst c20
                have H1 : (if (((rd_T41 l0 a1).f1).size : Int) > 48 then (gessoref14_one.j1 kj4 l0 a1 true ((rd_T41 l0 a1).f0) ((rd_T41 l0 a1).f1) ((rd_T41 l0 a1).f2) ((rd_T41 l0 a1).f3)) else (if ((rd_T41 l0 a1).f2) = true then (if (((rd_T41 l0 a1).f3).length : Int) > 0 then (gessoref14_one.j1 kj4 l0 a1 true ((rd_T41 l0 a1).f0) ((rd_T41 l0 a1).f1) ((rd_T41 l0 a1).f2) ((rd_T41 l0 a1).f3)) else (if (((rd_T41 l0 a1).f3).length : Int) > 8192 then (gessoref14_one.j1 kj4 l0 a1 true ((rd_T41 l0 a1).f0) ((rd_T41 l0 a1).f1) ((rd_T41 l0 a1).f2) ((rd_T41 l0 a1).f3)) else ((gessoref14_deep.f kj4 l0 a1).bind fun t146 => (gessoref14_one.j1 kj4 l0 a1 (decide (t146 > 8)) ((rd_T41 l0 a1).f0) ((rd_T41 l0 a1).f1) ((rd_T41 l0 a1).f2) ((rd_T41 l0 a1).f3))))) else (if (((rd_T41 l0 a1).f3).length : Int) > 8192 then (gessoref14_one.j1 kj4 l0 a1 true ((rd_T41 l0 a1).f0) ((rd_T41 l0 a1).f1) ((rd_T41 l0 a1).f2) ((rd_T41 l0 a1).f3)) else ((gessoref14_deep.f kj4 l0 a1).bind fun t147 => (gessoref14_one.j1 kj4 l0 a1 (decide (t147 > 8)) ((rd_T41 l0 a1).f0) ((rd_T41 l0 a1).f1) ((rd_T41 l0 a1).f2) ((rd_T41 l0 a1).f3)))))) = some r := by rw [if_pos rfl] at H; exact H
                clear H
                have H := H1
                clear H1
                by_cases c21 : (((rd_T41 l0 a1).f1).size : Int) > 48
                · rw [if_pos c21] at H
                  have c21b0 : decide (48 < (((rd_T41 l0 a1).f1).size : Int)) = true := decide_eq_true c21
                  have c21b1 : decide (48 < ((rd_T41 l0 a1).f1).size) = true := decide_eq_true (by omega)
                  clear c21
                  (first | rw [c21b0] | (simp only [i64_w, i32_w]; rw [c21b0]) | skip)
                  have H' := Aside0.mk H
                  clear H
                  have hcz22_0 : wc.cell? ⟨gb143, 0, none⟩ = some (.int .i64 ((rd_T41 l0 a1).f0)) := (blk_cell BK143.out 0).trans rfl
                  have hcz22_1 : wc.cell? ⟨gb143, 1, none⟩ = some (.string ((rd_T41 l0 a1).f1)) := (blk_cell BK143.out 1).trans rfl
                  have hcz22_2 : wc.cell? ⟨gb143, 2, none⟩ = some (.bool ((rd_T41 l0 a1).f2)) := (blk_cell BK143.out 2).trans rfl
                  have hcz22_3 : wc.cell? ⟨gb143, 3, none⟩ = some (.slice A142_3 ((rd_T41 l0 a1).f3).length c142_3) := (blk_cell BK143.out 3).trans rfl
                  have hfz22_0 := blk_frozen BK143.out 0
                  have hfz22_1 := blk_frozen BK143.out 1
                  have hfz22_2 := blk_frozen BK143.out 2
                  have hfz22_3 := blk_frozen BK143.out 3
                  go_wp2_with (first | (go_at_call 41; (with_reducible refine (gessoref13_Name.calls kj4 ((rd_T41 l0 a1).f1) true _ A19.out).mono ?_); rintro e w' ⟨rfl, ⟨nd, rfl⟩⟩; (try first | exact ⟨rfl, _, World.drewN_drewN _ _ _⟩ | exact ⟨rfl, _, Eq.trans (World.drewN_drewN _ _ _) (congrArg (World.drewN _) (Nat.add_assoc _ _ _))⟩)))
                  repeat (go_quiet (first | (go_at_call 41; (with_reducible refine (gessoref13_Name.calls kj4 ((rd_T41 l0 a1).f1) true _ A19.out).mono ?_); rintro e w' ⟨rfl, ⟨nd, rfl⟩⟩; (try first | exact ⟨rfl, _, World.drewN_drewN _ _ _⟩ | exact ⟨rfl, _, Eq.trans (World.drewN_drewN _ _ _) (congrArg (World.drewN _) (Nat.add_assoc _ _ _))⟩))); try go_wp2_with (first | (go_at_call 41; (with_reducible refine (gessoref13_Name.calls kj4 ((rd_T41 l0 a1).f1) true _ A19.out).mono ?_); rintro e w' ⟨rfl, ⟨nd, rfl⟩⟩; (try first | exact ⟨rfl, _, World.drewN_drewN _ _ _⟩ | exact ⟨rfl, _, Eq.trans (World.drewN_drewN _ _ _) (congrArg (World.drewN _) (Nat.add_assoc _ _ _))⟩))))
                  go_meet
                  case rel => exact ⟨_, (true), (by first | rfl | (simp; done) | (simp [*]; done)), H', ⟨by have := HJ4.out; first | omega | exact Nat.le_refl _⟩, ⟨by (with_reducible repeat (first | refine blk_drewN ?_ _ | refine blk_drew ?_ | refine blk_alloc ?_ _)); exact BK143.out⟩, ⟨by repeat (first | (with_reducible first | exact HB.out | apply below_alloc | apply pw_below_drewN | apply below_drew1 | refine below_set ?_ GE143.out) | exact HB.out)⟩⟩
                · rw [if_neg c21] at H
                  have c21b0 : decide (48 < (((rd_T41 l0 a1).f1).size : Int)) = false := decide_eq_false c21
                  have c21b1 : decide (48 < ((rd_T41 l0 a1).f1).size) = false := decide_eq_false (by omega)
                  clear c21
                  (first | rw [c21b0] | (simp only [i64_w, i32_w]; rw [c21b0]) | skip)
                  by_cases c23 : ((rd_T41 l0 a1).f2) = true
                  · rw [if_pos c23] at H
                    have c23b0 : ((rd_T41 l0 a1).f2) = true := c23
                    clear c23
                    by_cases c24 : (((rd_T41 l0 a1).f3).length : Int) > 0
                    · rw [if_pos c24] at H
                      have c24b0 : decide (0 < (((rd_T41 l0 a1).f3).length : Int)) = true := decide_eq_true c24
                      have c24b1 : decide (0 < ((rd_T41 l0 a1).f3).length) = true := decide_eq_true (by omega)
                      clear c24
                      have H' := Aside0.mk H
                      clear H
                      have hcz25_0 : wc.cell? ⟨gb143, 0, none⟩ = some (.int .i64 ((rd_T41 l0 a1).f0)) := (blk_cell BK143.out 0).trans rfl
                      have hcz25_1 : wc.cell? ⟨gb143, 1, none⟩ = some (.string ((rd_T41 l0 a1).f1)) := (blk_cell BK143.out 1).trans rfl
                      have hcz25_2 : wc.cell? ⟨gb143, 2, none⟩ = some (.bool ((rd_T41 l0 a1).f2)) := (blk_cell BK143.out 2).trans rfl
                      have hcz25_3 : wc.cell? ⟨gb143, 3, none⟩ = some (.slice A142_3 ((rd_T41 l0 a1).f3).length c142_3) := (blk_cell BK143.out 3).trans rfl
                      have hfz25_0 := blk_frozen BK143.out 0
                      have hfz25_1 := blk_frozen BK143.out 1
                      have hfz25_2 := blk_frozen BK143.out 2
                      have hfz25_3 := blk_frozen BK143.out 3
                      go_wp2_with (first | (go_at_call 41; (with_reducible refine (gessoref13_Name.calls kj4 ((rd_T41 l0 a1).f1) true _ A19.out).mono ?_); rintro e w' ⟨rfl, ⟨nd, rfl⟩⟩; (try first | exact ⟨rfl, _, World.drewN_drewN _ _ _⟩ | exact ⟨rfl, _, Eq.trans (World.drewN_drewN _ _ _) (congrArg (World.drewN _) (Nat.add_assoc _ _ _))⟩)))
                      repeat (go_quiet (first | (go_at_call 41; (with_reducible refine (gessoref13_Name.calls kj4 ((rd_T41 l0 a1).f1) true _ A19.out).mono ?_); rintro e w' ⟨rfl, ⟨nd, rfl⟩⟩; (try first | exact ⟨rfl, _, World.drewN_drewN _ _ _⟩ | exact ⟨rfl, _, Eq.trans (World.drewN_drewN _ _ _) (congrArg (World.drewN _) (Nat.add_assoc _ _ _))⟩))); try go_wp2_with (first | (go_at_call 41; (with_reducible refine (gessoref13_Name.calls kj4 ((rd_T41 l0 a1).f1) true _ A19.out).mono ?_); rintro e w' ⟨rfl, ⟨nd, rfl⟩⟩; (try first | exact ⟨rfl, _, World.drewN_drewN _ _ _⟩ | exact ⟨rfl, _, Eq.trans (World.drewN_drewN _ _ _) (congrArg (World.drewN _) (Nat.add_assoc _ _ _))⟩))))
                      go_meet
                      case rel => exact ⟨_, (true), (by first | rfl | (simp; done) | (simp [*]; done)), H', ⟨by have := HJ4.out; first | omega | exact Nat.le_refl _⟩, ⟨by (with_reducible repeat (first | refine blk_drewN ?_ _ | refine blk_drew ?_ | refine blk_alloc ?_ _)); exact BK143.out⟩, ⟨by repeat (first | (with_reducible first | exact HB.out | apply below_alloc | apply pw_below_drewN | apply below_drew1 | refine below_set ?_ GE143.out) | exact HB.out)⟩⟩
                    · rw [if_neg c24] at H
                      have c24b0 : decide (0 < (((rd_T41 l0 a1).f3).length : Int)) = false := decide_eq_false c24
                      have c24b1 : decide (0 < ((rd_T41 l0 a1).f3).length) = false := decide_eq_false (by omega)
                      clear c24
                      by_cases c26 : (((rd_T41 l0 a1).f3).length : Int) > 8192
                      · rw [if_pos c26] at H
                        have c26b0 : decide (8192 < (((rd_T41 l0 a1).f3).length : Int)) = true := decide_eq_true c26
                        have c26b1 : decide (8192 < ((rd_T41 l0 a1).f3).length) = true := decide_eq_true (by omega)
                        clear c26
                        have H' := Aside0.mk H
                        clear H
                        have hcz27_0 : wc.cell? ⟨gb143, 0, none⟩ = some (.int .i64 ((rd_T41 l0 a1).f0)) := (blk_cell BK143.out 0).trans rfl
                        have hcz27_1 : wc.cell? ⟨gb143, 1, none⟩ = some (.string ((rd_T41 l0 a1).f1)) := (blk_cell BK143.out 1).trans rfl
                        have hcz27_2 : wc.cell? ⟨gb143, 2, none⟩ = some (.bool ((rd_T41 l0 a1).f2)) := (blk_cell BK143.out 2).trans rfl
                        have hcz27_3 : wc.cell? ⟨gb143, 3, none⟩ = some (.slice A142_3 ((rd_T41 l0 a1).f3).length c142_3) := (blk_cell BK143.out 3).trans rfl
                        have hfz27_0 := blk_frozen BK143.out 0
                        have hfz27_1 := blk_frozen BK143.out 1
                        have hfz27_2 := blk_frozen BK143.out 2
                        have hfz27_3 := blk_frozen BK143.out 3
                        go_wp2_with (first | (go_at_call 41; (with_reducible refine (gessoref13_Name.calls kj4 ((rd_T41 l0 a1).f1) true _ A19.out).mono ?_); rintro e w' ⟨rfl, ⟨nd, rfl⟩⟩; (try first | exact ⟨rfl, _, World.drewN_drewN _ _ _⟩ | exact ⟨rfl, _, Eq.trans (World.drewN_drewN _ _ _) (congrArg (World.drewN _) (Nat.add_assoc _ _ _))⟩)))
                        repeat (go_quiet (first | (go_at_call 41; (with_reducible refine (gessoref13_Name.calls kj4 ((rd_T41 l0 a1).f1) true _ A19.out).mono ?_); rintro e w' ⟨rfl, ⟨nd, rfl⟩⟩; (try first | exact ⟨rfl, _, World.drewN_drewN _ _ _⟩ | exact ⟨rfl, _, Eq.trans (World.drewN_drewN _ _ _) (congrArg (World.drewN _) (Nat.add_assoc _ _ _))⟩))); try go_wp2_with (first | (go_at_call 41; (with_reducible refine (gessoref13_Name.calls kj4 ((rd_T41 l0 a1).f1) true _ A19.out).mono ?_); rintro e w' ⟨rfl, ⟨nd, rfl⟩⟩; (try first | exact ⟨rfl, _, World.drewN_drewN _ _ _⟩ | exact ⟨rfl, _, Eq.trans (World.drewN_drewN _ _ _) (congrArg (World.drewN _) (Nat.add_assoc _ _ _))⟩))))
                        go_meet
                        case rel => exact ⟨_, (true), (by first | rfl | (simp; done) | (simp [*]; done)), H', ⟨by have := HJ4.out; first | omega | exact Nat.le_refl _⟩, ⟨by (with_reducible repeat (first | refine blk_drewN ?_ _ | refine blk_drew ?_ | refine blk_alloc ?_ _)); exact BK143.out⟩, ⟨by repeat (first | (with_reducible first | exact HB.out | apply below_alloc | apply pw_below_drewN | apply below_drew1 | refine below_set ?_ GE143.out) | exact HB.out)⟩⟩
                      · rw [if_neg c26] at H
                        have c26b0 : decide (8192 < (((rd_T41 l0 a1).f3).length : Int)) = false := decide_eq_false c26
                        have c26b1 : decide (8192 < ((rd_T41 l0 a1).f3).length) = false := decide_eq_false (by omega)
                        clear c26
                        replace H := Option.bind_eq_some_iff.mp H
                        obtain ⟨t146, A280, H⟩ := H
                        replace H : (gessoref14_one.j1 kj4 l0 a1 (decide (t146 > 8)) ((rd_T41 l0 a1).f0) ((rd_T41 l0 a1).f1) ((rd_T41 l0 a1).f2) ((rd_T41 l0 a1).f3)) = some r := H
                        have A28 := Aside0.mk A280
                        clear A280
                        have H' := Aside0.mk H
                        clear H
                        have hcz29_0 : wc.cell? ⟨gb143, 0, none⟩ = some (.int .i64 ((rd_T41 l0 a1).f0)) := (blk_cell BK143.out 0).trans rfl
                        have hcz29_1 : wc.cell? ⟨gb143, 1, none⟩ = some (.string ((rd_T41 l0 a1).f1)) := (blk_cell BK143.out 1).trans rfl
                        have hcz29_2 : wc.cell? ⟨gb143, 2, none⟩ = some (.bool ((rd_T41 l0 a1).f2)) := (blk_cell BK143.out 2).trans rfl
                        have hcz29_3 : wc.cell? ⟨gb143, 3, none⟩ = some (.slice A142_3 ((rd_T41 l0 a1).f3).length c142_3) := (blk_cell BK143.out 3).trans rfl
                        have hfz29_0 := blk_frozen BK143.out 0
                        have hfz29_1 := blk_frozen BK143.out 1
                        have hfz29_2 := blk_frozen BK143.out 2
                        have hfz29_3 := blk_frozen BK143.out 3
                        go_wp2_with (first | (go_at_call 41; (with_reducible refine (gessoref13_Name.calls kj4 ((rd_T41 l0 a1).f1) true _ A19.out).mono ?_); rintro e w' ⟨rfl, ⟨nd, rfl⟩⟩; (try first | exact ⟨rfl, _, World.drewN_drewN _ _ _⟩ | exact ⟨rfl, _, Eq.trans (World.drewN_drewN _ _ _) (congrArg (World.drewN _) (Nat.add_assoc _ _ _))⟩)) | (go_at_call 42; (with_reducible refine (gessoref14_deep.calls kj4 _ _ l0 a1 t146 _ ?side1 ?side2 A28.out).mono ?_); (case side1 => repeat (first | exact (Kd.C_below HR0.out (by repeat (first | (with_reducible first | exact HB.out | apply below_alloc | apply pw_below_drewN | apply below_drew1 | refine below_set ?_ GE143.out) | exact HB.out))) | (with_reducible refine Kd.C_alloc ?_ _) | (with_reducible refine Kd.C_drewN ?_ _) | (with_reducible refine Kd.C_drew ?_))); (case side2 => exact HC0.out); rintro e w' ⟨rfl, ⟨nd, rfl⟩⟩; (try first | exact ⟨rfl, _, World.drewN_drewN _ _ _⟩ | exact ⟨rfl, _, Eq.trans (World.drewN_drewN _ _ _) (congrArg (World.drewN _) (Nat.add_assoc _ _ _))⟩)))
                        repeat (go_quiet (first | (go_at_call 41; (with_reducible refine (gessoref13_Name.calls kj4 ((rd_T41 l0 a1).f1) true _ A19.out).mono ?_); rintro e w' ⟨rfl, ⟨nd, rfl⟩⟩; (try first | exact ⟨rfl, _, World.drewN_drewN _ _ _⟩ | exact ⟨rfl, _, Eq.trans (World.drewN_drewN _ _ _) (congrArg (World.drewN _) (Nat.add_assoc _ _ _))⟩)) | (go_at_call 42; (with_reducible refine (gessoref14_deep.calls kj4 _ _ l0 a1 t146 _ ?side1 ?side2 A28.out).mono ?_); (case side1 => repeat (first | exact (Kd.C_below HR0.out (by repeat (first | (with_reducible first | exact HB.out | apply below_alloc | apply pw_below_drewN | apply below_drew1 | refine below_set ?_ GE143.out) | exact HB.out))) | (with_reducible refine Kd.C_alloc ?_ _) | (with_reducible refine Kd.C_drewN ?_ _) | (with_reducible refine Kd.C_drew ?_))); (case side2 => exact HC0.out); rintro e w' ⟨rfl, ⟨nd, rfl⟩⟩; (try first | exact ⟨rfl, _, World.drewN_drewN _ _ _⟩ | exact ⟨rfl, _, Eq.trans (World.drewN_drewN _ _ _) (congrArg (World.drewN _) (Nat.add_assoc _ _ _))⟩))); try go_wp2_with (first | (go_at_call 41; (with_reducible refine (gessoref13_Name.calls kj4 ((rd_T41 l0 a1).f1) true _ A19.out).mono ?_); rintro e w' ⟨rfl, ⟨nd, rfl⟩⟩; (try first | exact ⟨rfl, _, World.drewN_drewN _ _ _⟩ | exact ⟨rfl, _, Eq.trans (World.drewN_drewN _ _ _) (congrArg (World.drewN _) (Nat.add_assoc _ _ _))⟩)) | (go_at_call 42; (with_reducible refine (gessoref14_deep.calls kj4 _ _ l0 a1 t146 _ ?side1 ?side2 A28.out).mono ?_); (case side1 => repeat (first | exact (Kd.C_below HR0.out (by repeat (first | (with_reducible first | exact HB.out | apply below_alloc | apply pw_below_drewN | apply below_drew1 | refine below_set ?_ GE143.out) | exact HB.out))) | (with_reducible refine Kd.C_alloc ?_ _) | (with_reducible refine Kd.C_drewN ?_ _) | (with_reducible refine Kd.C_drew ?_))); (case side2 => exact HC0.out); rintro e w' ⟨rfl, ⟨nd, rfl⟩⟩; (try first | exact ⟨rfl, _, World.drewN_drewN _ _ _⟩ | exact ⟨rfl, _, Eq.trans (World.drewN_drewN _ _ _) (congrArg (World.drewN _) (Nat.add_assoc _ _ _))⟩))))
                        go_meet
                        case rel => exact ⟨_, (decide (t146 > 8)), (by first | rfl | (simp; done) | (simp [*]; done)), H', ⟨by have := HJ4.out; first | omega | exact Nat.le_refl _⟩, ⟨by (with_reducible repeat (first | refine blk_drewN ?_ _ | refine blk_drew ?_ | refine blk_alloc ?_ _)); exact BK143.out⟩, ⟨by repeat (first | (with_reducible first | exact HB.out | apply below_alloc | apply pw_below_drewN | apply below_drew1 | refine below_set ?_ GE143.out) | exact HB.out)⟩⟩
                  · rw [if_neg c23] at H
                    have c23b0 : ((rd_T41 l0 a1).f2) = false := by simpa using c23
                    clear c23
                    by_cases c30 : (((rd_T41 l0 a1).f3).length : Int) > 8192
                    · rw [if_pos c30] at H
                      have c30b0 : decide (8192 < (((rd_T41 l0 a1).f3).length : Int)) = true := decide_eq_true c30
                      have c30b1 : decide (8192 < ((rd_T41 l0 a1).f3).length) = true := decide_eq_true (by omega)
                      clear c30
                      have H' := Aside0.mk H
                      clear H
                      have hcz31_0 : wc.cell? ⟨gb143, 0, none⟩ = some (.int .i64 ((rd_T41 l0 a1).f0)) := (blk_cell BK143.out 0).trans rfl
                      have hcz31_1 : wc.cell? ⟨gb143, 1, none⟩ = some (.string ((rd_T41 l0 a1).f1)) := (blk_cell BK143.out 1).trans rfl
                      have hcz31_2 : wc.cell? ⟨gb143, 2, none⟩ = some (.bool ((rd_T41 l0 a1).f2)) := (blk_cell BK143.out 2).trans rfl
                      have hcz31_3 : wc.cell? ⟨gb143, 3, none⟩ = some (.slice A142_3 ((rd_T41 l0 a1).f3).length c142_3) := (blk_cell BK143.out 3).trans rfl
                      have hfz31_0 := blk_frozen BK143.out 0
                      have hfz31_1 := blk_frozen BK143.out 1
                      have hfz31_2 := blk_frozen BK143.out 2
                      have hfz31_3 := blk_frozen BK143.out 3
                      go_wp2_with (first | (go_at_call 41; (with_reducible refine (gessoref13_Name.calls kj4 ((rd_T41 l0 a1).f1) true _ A19.out).mono ?_); rintro e w' ⟨rfl, ⟨nd, rfl⟩⟩; (try first | exact ⟨rfl, _, World.drewN_drewN _ _ _⟩ | exact ⟨rfl, _, Eq.trans (World.drewN_drewN _ _ _) (congrArg (World.drewN _) (Nat.add_assoc _ _ _))⟩)))
                      repeat (go_quiet (first | (go_at_call 41; (with_reducible refine (gessoref13_Name.calls kj4 ((rd_T41 l0 a1).f1) true _ A19.out).mono ?_); rintro e w' ⟨rfl, ⟨nd, rfl⟩⟩; (try first | exact ⟨rfl, _, World.drewN_drewN _ _ _⟩ | exact ⟨rfl, _, Eq.trans (World.drewN_drewN _ _ _) (congrArg (World.drewN _) (Nat.add_assoc _ _ _))⟩))); try go_wp2_with (first | (go_at_call 41; (with_reducible refine (gessoref13_Name.calls kj4 ((rd_T41 l0 a1).f1) true _ A19.out).mono ?_); rintro e w' ⟨rfl, ⟨nd, rfl⟩⟩; (try first | exact ⟨rfl, _, World.drewN_drewN _ _ _⟩ | exact ⟨rfl, _, Eq.trans (World.drewN_drewN _ _ _) (congrArg (World.drewN _) (Nat.add_assoc _ _ _))⟩))))
                      go_meet
                      case rel => exact ⟨_, (true), (by first | rfl | (simp; done) | (simp [*]; done)), H', ⟨by have := HJ4.out; first | omega | exact Nat.le_refl _⟩, ⟨by (with_reducible repeat (first | refine blk_drewN ?_ _ | refine blk_drew ?_ | refine blk_alloc ?_ _)); exact BK143.out⟩, ⟨by repeat (first | (with_reducible first | exact HB.out | apply below_alloc | apply pw_below_drewN | apply below_drew1 | refine below_set ?_ GE143.out) | exact HB.out)⟩⟩
                    · rw [if_neg c30] at H
                      have c30b0 : decide (8192 < (((rd_T41 l0 a1).f3).length : Int)) = false := decide_eq_false c30
                      have c30b1 : decide (8192 < ((rd_T41 l0 a1).f3).length) = false := decide_eq_false (by omega)
                      clear c30
                      replace H := Option.bind_eq_some_iff.mp H
                      obtain ⟨t147, A320, H⟩ := H
                      replace H : (gessoref14_one.j1 kj4 l0 a1 (decide (t147 > 8)) ((rd_T41 l0 a1).f0) ((rd_T41 l0 a1).f1) ((rd_T41 l0 a1).f2) ((rd_T41 l0 a1).f3)) = some r := H
                      have A32 := Aside0.mk A320
                      clear A320
                      have H' := Aside0.mk H
                      clear H
                      have hcz33_0 : wc.cell? ⟨gb143, 0, none⟩ = some (.int .i64 ((rd_T41 l0 a1).f0)) := (blk_cell BK143.out 0).trans rfl
                      have hcz33_1 : wc.cell? ⟨gb143, 1, none⟩ = some (.string ((rd_T41 l0 a1).f1)) := (blk_cell BK143.out 1).trans rfl
                      have hcz33_2 : wc.cell? ⟨gb143, 2, none⟩ = some (.bool ((rd_T41 l0 a1).f2)) := (blk_cell BK143.out 2).trans rfl
                      have hcz33_3 : wc.cell? ⟨gb143, 3, none⟩ = some (.slice A142_3 ((rd_T41 l0 a1).f3).length c142_3) := (blk_cell BK143.out 3).trans rfl
                      have hfz33_0 := blk_frozen BK143.out 0
                      have hfz33_1 := blk_frozen BK143.out 1
                      have hfz33_2 := blk_frozen BK143.out 2
                      have hfz33_3 := blk_frozen BK143.out 3
                      go_wp2_with (first | (go_at_call 41; (with_reducible refine (gessoref13_Name.calls kj4 ((rd_T41 l0 a1).f1) true _ A19.out).mono ?_); rintro e w' ⟨rfl, ⟨nd, rfl⟩⟩; (try first | exact ⟨rfl, _, World.drewN_drewN _ _ _⟩ | exact ⟨rfl, _, Eq.trans (World.drewN_drewN _ _ _) (congrArg (World.drewN _) (Nat.add_assoc _ _ _))⟩)) | (go_at_call 42; (with_reducible refine (gessoref14_deep.calls kj4 _ _ l0 a1 t147 _ ?side1 ?side2 A32.out).mono ?_); (case side1 => repeat (first | exact (Kd.C_below HR0.out (by repeat (first | (with_reducible first | exact HB.out | apply below_alloc | apply pw_below_drewN | apply below_drew1 | refine below_set ?_ GE143.out) | exact HB.out))) | (with_reducible refine Kd.C_alloc ?_ _) | (with_reducible refine Kd.C_drewN ?_ _) | (with_reducible refine Kd.C_drew ?_))); (case side2 => exact HC0.out); rintro e w' ⟨rfl, ⟨nd, rfl⟩⟩; (try first | exact ⟨rfl, _, World.drewN_drewN _ _ _⟩ | exact ⟨rfl, _, Eq.trans (World.drewN_drewN _ _ _) (congrArg (World.drewN _) (Nat.add_assoc _ _ _))⟩)))
                      repeat (go_quiet (first | (go_at_call 41; (with_reducible refine (gessoref13_Name.calls kj4 ((rd_T41 l0 a1).f1) true _ A19.out).mono ?_); rintro e w' ⟨rfl, ⟨nd, rfl⟩⟩; (try first | exact ⟨rfl, _, World.drewN_drewN _ _ _⟩ | exact ⟨rfl, _, Eq.trans (World.drewN_drewN _ _ _) (congrArg (World.drewN _) (Nat.add_assoc _ _ _))⟩)) | (go_at_call 42; (with_reducible refine (gessoref14_deep.calls kj4 _ _ l0 a1 t147 _ ?side1 ?side2 A32.out).mono ?_); (case side1 => repeat (first | exact (Kd.C_below HR0.out (by repeat (first | (with_reducible first | exact HB.out | apply below_alloc | apply pw_below_drewN | apply below_drew1 | refine below_set ?_ GE143.out) | exact HB.out))) | (with_reducible refine Kd.C_alloc ?_ _) | (with_reducible refine Kd.C_drewN ?_ _) | (with_reducible refine Kd.C_drew ?_))); (case side2 => exact HC0.out); rintro e w' ⟨rfl, ⟨nd, rfl⟩⟩; (try first | exact ⟨rfl, _, World.drewN_drewN _ _ _⟩ | exact ⟨rfl, _, Eq.trans (World.drewN_drewN _ _ _) (congrArg (World.drewN _) (Nat.add_assoc _ _ _))⟩))); try go_wp2_with (first | (go_at_call 41; (with_reducible refine (gessoref13_Name.calls kj4 ((rd_T41 l0 a1).f1) true _ A19.out).mono ?_); rintro e w' ⟨rfl, ⟨nd, rfl⟩⟩; (try first | exact ⟨rfl, _, World.drewN_drewN _ _ _⟩ | exact ⟨rfl, _, Eq.trans (World.drewN_drewN _ _ _) (congrArg (World.drewN _) (Nat.add_assoc _ _ _))⟩)) | (go_at_call 42; (with_reducible refine (gessoref14_deep.calls kj4 _ _ l0 a1 t147 _ ?side1 ?side2 A32.out).mono ?_); (case side1 => repeat (first | exact (Kd.C_below HR0.out (by repeat (first | (with_reducible first | exact HB.out | apply below_alloc | apply pw_below_drewN | apply below_drew1 | refine below_set ?_ GE143.out) | exact HB.out))) | (with_reducible refine Kd.C_alloc ?_ _) | (with_reducible refine Kd.C_drewN ?_ _) | (with_reducible refine Kd.C_drew ?_))); (case side2 => exact HC0.out); rintro e w' ⟨rfl, ⟨nd, rfl⟩⟩; (try first | exact ⟨rfl, _, World.drewN_drewN _ _ _⟩ | exact ⟨rfl, _, Eq.trans (World.drewN_drewN _ _ _) (congrArg (World.drewN _) (Nat.add_assoc _ _ _))⟩))))
                      go_meet
                      case rel => exact ⟨_, (decide (t147 > 8)), (by first | rfl | (simp; done) | (simp [*]; done)), H', ⟨by have := HJ4.out; first | omega | exact Nat.le_refl _⟩, ⟨by (with_reducible repeat (first | refine blk_drewN ?_ _ | refine blk_drew ?_ | refine blk_alloc ?_ _)); exact BK143.out⟩, ⟨by repeat (first | (with_reducible first | exact HB.out | apply below_alloc | apply pw_below_drewN | apply below_drew1 | refine below_set ?_ GE143.out) | exact HB.out)⟩⟩
              · replace c20 := Bool.eq_false_iff.mpr c20
                subst c20
                have H1 : (gessoref14_one.j1 kj4 l0 a1 true ((rd_T41 l0 a1).f0) ((rd_T41 l0 a1).f1) ((rd_T41 l0 a1).f2) ((rd_T41 l0 a1).f3)) = some r := by rw [if_neg (show ¬ (false = true) by decide)] at H; exact H
                clear H
                have H := H1
                clear H1
                have H' := Aside0.mk H
                clear H
                have hcz34_0 : wc.cell? ⟨gb143, 0, none⟩ = some (.int .i64 ((rd_T41 l0 a1).f0)) := (blk_cell BK143.out 0).trans rfl
                have hcz34_1 : wc.cell? ⟨gb143, 1, none⟩ = some (.string ((rd_T41 l0 a1).f1)) := (blk_cell BK143.out 1).trans rfl
                have hcz34_2 : wc.cell? ⟨gb143, 2, none⟩ = some (.bool ((rd_T41 l0 a1).f2)) := (blk_cell BK143.out 2).trans rfl
                have hcz34_3 : wc.cell? ⟨gb143, 3, none⟩ = some (.slice A142_3 ((rd_T41 l0 a1).f3).length c142_3) := (blk_cell BK143.out 3).trans rfl
                have hfz34_0 := blk_frozen BK143.out 0
                have hfz34_1 := blk_frozen BK143.out 1
                have hfz34_2 := blk_frozen BK143.out 2
                have hfz34_3 := blk_frozen BK143.out 3
                go_wp2_with (first | (go_at_call 41; (with_reducible refine (gessoref13_Name.calls kj4 ((rd_T41 l0 a1).f1) false _ A19.out).mono ?_); rintro e w' ⟨rfl, ⟨nd, rfl⟩⟩; (try first | exact ⟨rfl, _, World.drewN_drewN _ _ _⟩ | exact ⟨rfl, _, Eq.trans (World.drewN_drewN _ _ _) (congrArg (World.drewN _) (Nat.add_assoc _ _ _))⟩)))
                repeat (go_quiet (first | (go_at_call 41; (with_reducible refine (gessoref13_Name.calls kj4 ((rd_T41 l0 a1).f1) false _ A19.out).mono ?_); rintro e w' ⟨rfl, ⟨nd, rfl⟩⟩; (try first | exact ⟨rfl, _, World.drewN_drewN _ _ _⟩ | exact ⟨rfl, _, Eq.trans (World.drewN_drewN _ _ _) (congrArg (World.drewN _) (Nat.add_assoc _ _ _))⟩))); try go_wp2_with (first | (go_at_call 41; (with_reducible refine (gessoref13_Name.calls kj4 ((rd_T41 l0 a1).f1) false _ A19.out).mono ?_); rintro e w' ⟨rfl, ⟨nd, rfl⟩⟩; (try first | exact ⟨rfl, _, World.drewN_drewN _ _ _⟩ | exact ⟨rfl, _, Eq.trans (World.drewN_drewN _ _ _) (congrArg (World.drewN _) (Nat.add_assoc _ _ _))⟩))))
                go_meet
                case rel => exact ⟨_, (true), (by first | rfl | (simp; done) | (simp [*]; done)), H', ⟨by have := HJ4.out; first | omega | exact Nat.le_refl _⟩, ⟨by (with_reducible repeat (first | refine blk_drewN ?_ _ | refine blk_drew ?_ | refine blk_alloc ?_ _)); exact BK143.out⟩, ⟨by repeat (first | (with_reducible first | exact HB.out | apply below_alloc | apply pw_below_drewN | apply below_drew1 | refine below_set ?_ GE143.out) | exact HB.out)⟩⟩
            case rest =>
              clear HC18
              try clear c1
              try clear p1
              try clear q1
              try clear hx1
              try clear c2
              try clear p2
              try clear c3
              try clear c3b0
              try clear c4
              try clear c4b0
              try clear c8
              try clear c8b0
              try clear c10
              try clear c10b0
              try clear c12
              try clear c12b0
              try clear c13
              try clear c13b0
              try clear c14
              try clear c14b0
              try clear p14
              try clear q14
              try clear hx14
              try clear c17
              try clear c20
              try clear c21
              try clear c21b0
              try clear c21b1
              try clear c23
              try clear c23b0
              try clear c24
              try clear c24b0
              try clear c24b1
              try clear c26
              try clear c26b0
              try clear c26b1
              try clear c30
              try clear c30b0
              try clear c30b1
              try clear hcz11_0
              try clear hcz11_1
              try clear hcz11_2
              try clear hcz11_3
              try clear hcz15_0
              try clear hcz15_1
              try clear hcz15_2
              try clear hcz15_3
              try clear hcz16_0
              try clear hcz16_1
              try clear hcz16_2
              try clear hcz16_3
              try clear hcz22_0
              try clear hcz22_1
              try clear hcz22_2
              try clear hcz22_3
              try clear hcz25_0
              try clear hcz25_1
              try clear hcz25_2
              try clear hcz25_3
              try clear hcz27_0
              try clear hcz27_1
              try clear hcz27_2
              try clear hcz27_3
              try clear hcz29_0
              try clear hcz29_1
              try clear hcz29_2
              try clear hcz29_3
              try clear hcz31_0
              try clear hcz31_1
              try clear hcz31_2
              try clear hcz31_3
              try clear hcz33_0
              try clear hcz33_1
              try clear hcz33_2
              try clear hcz33_3
              try clear hcz34_0
              try clear hcz34_1
              try clear hcz34_2
              try clear hcz34_3
              try clear hcz7_0
              try clear hcz7_1
              try clear hcz7_2
              try clear hcz7_3
              try clear hcz9_0
              try clear hcz9_1
              try clear hcz9_2
              try clear hcz9_3
              try clear hfz11_0
              try clear hfz11_1
              try clear hfz11_2
              try clear hfz11_3
              try clear hfz15_0
              try clear hfz15_1
              try clear hfz15_2
              try clear hfz15_3
              try clear hfz16_0
              try clear hfz16_1
              try clear hfz16_2
              try clear hfz16_3
              try clear hfz22_0
              try clear hfz22_1
              try clear hfz22_2
              try clear hfz22_3
              try clear hfz25_0
              try clear hfz25_1
              try clear hfz25_2
              try clear hfz25_3
              try clear hfz27_0
              try clear hfz27_1
              try clear hfz27_2
              try clear hfz27_3
              try clear hfz29_0
              try clear hfz29_1
              try clear hfz29_2
              try clear hfz29_3
              try clear hfz31_0
              try clear hfz31_1
              try clear hfz31_2
              try clear hfz31_3
              try clear hfz33_0
              try clear hfz33_1
              try clear hfz33_2
              try clear hfz33_3
              try clear hfz34_0
              try clear hfz34_1
              try clear hfz34_2
              try clear hfz34_3
              try clear hfz7_0
              try clear hfz7_1
              try clear hfz7_2
              try clear hfz7_3
              try clear hfz9_0
              try clear hfz9_1
              try clear hfz9_2
              try clear hfz9_3
              try clear hx142_0
              try clear hx142_1
              try clear hx142_2
              try clear hx142_3
              try clear hx144_0
              try clear hx144_1
              try clear hx144_2
              try clear hx144_3
              try clear p1
              try clear p14
              try clear p142
              try clear p144
              try clear p2
              try clear q1
              try clear q14
              try clear q142
              try clear q144
              obtain ⟨kq, x65_17, rfl, HA, HJ17, BK143, HB⟩ := hcut
              cases kq with
              | zero => exact absurd HA.out (by simp [gessoref14_one.j1])
              | succ kj17 =>
                have H := HA.out
                clear HA
                simp only [gessoref14_one.j1] at H
                by_cases c35 : x65_17 = true
                · subst c35
                  have H1 : (some false) = some r := by rw [if_pos rfl] at H; exact H
                  clear H
                  have H := H1
                  clear H1
                  obtain rfl := Option.some.inj H
                  go_wp2
                  repeat (go_quiet (fail); try go_wp2)
                  go_ret
                  exact ⟨by first | rfl | (simp [errW_none, errW_some] <;> rfl) | (simp [*, errW_none, errW_some] <;> rfl), by repeat (first | (with_reducible first | exact HB.out | apply below_alloc | apply pw_below_drewN | apply below_drew1 | refine below_set ?_ GE143.out) | exact HB.out)⟩
                · replace c35 := Bool.eq_false_iff.mpr c35
                  subst c35
                  have H1 : (gessoref14_one.l0 kj17 l0 a1 0 ((rd_T41 l0 a1).f0) ((rd_T41 l0 a1).f1) ((rd_T41 l0 a1).f2) ((rd_T41 l0 a1).f3)) = some r := by rw [if_neg (show ¬ (false = true) by decide)] at H; exact H
                  clear H
                  have H := H1
                  clear H1
                  have H' := Aside0.mk H
                  clear H
                  go_wp2
                  repeat (go_quiet (fail); try go_wp2)
                  go_loopg [6] kj17 (fun kq v6 w' => ∃ (x6_3 : Int), v6 = .int .i64 x6_3 ∧ Aside0 (gessoref14_one.l0 kq l0 a1 x6_3 ((rd_T41 l0 a1).f0) ((rd_T41 l0 a1).f1) ((rd_T41 l0 a1).f2) ((rd_T41 l0 a1).f3) = some r) ∧ Aside0 (kq ≤ kj17) ∧ Aside0 (w'.heap[gb143]? = some (.cells #[.int .i64 ((rd_T41 l0 a1).f0), .string ((rd_T41 l0 a1).f1), .bool ((rd_T41 l0 a1).f2), (.slice A142_3 ((rd_T41 l0 a1).f3).length c142_3)] 41 (0, 0))) ∧ Aside0 (Below w.heap.size w w'))
                  case atStart => exact ⟨(0), (by first | rfl | (simp; done) | (simp [*]; done)), H', ⟨Nat.le_refl _⟩, ⟨by (with_reducible repeat (first | refine blk_drewN ?_ _ | refine blk_drew ?_ | refine blk_alloc ?_ _)); exact BK143.out⟩, ⟨by repeat (first | (with_reducible first | exact HB.out | apply below_alloc | apply pw_below_drewN | apply below_drew1 | refine below_set ?_ GE143.out) | exact HB.out)⟩⟩
                  case round =>
                    clear H'
                    try clear c1
                    try clear p1
                    try clear q1
                    try clear hx1
                    try clear c2
                    try clear p2
                    try clear c3
                    try clear c3b0
                    try clear c4
                    try clear c4b0
                    try clear c8
                    try clear c8b0
                    try clear c10
                    try clear c10b0
                    try clear c12
                    try clear c12b0
                    try clear c13
                    try clear c13b0
                    try clear c14
                    try clear c14b0
                    try clear p14
                    try clear q14
                    try clear hx14
                    try clear c17
                    try clear c20
                    try clear c21
                    try clear c21b0
                    try clear c21b1
                    try clear c23
                    try clear c23b0
                    try clear c24
                    try clear c24b0
                    try clear c24b1
                    try clear c26
                    try clear c26b0
                    try clear c26b1
                    try clear c30
                    try clear c30b0
                    try clear c30b1
                    try clear c35
                    try clear hcz11_0
                    try clear hcz11_1
                    try clear hcz11_2
                    try clear hcz11_3
                    try clear hcz15_0
                    try clear hcz15_1
                    try clear hcz15_2
                    try clear hcz15_3
                    try clear hcz16_0
                    try clear hcz16_1
                    try clear hcz16_2
                    try clear hcz16_3
                    try clear hcz22_0
                    try clear hcz22_1
                    try clear hcz22_2
                    try clear hcz22_3
                    try clear hcz25_0
                    try clear hcz25_1
                    try clear hcz25_2
                    try clear hcz25_3
                    try clear hcz27_0
                    try clear hcz27_1
                    try clear hcz27_2
                    try clear hcz27_3
                    try clear hcz29_0
                    try clear hcz29_1
                    try clear hcz29_2
                    try clear hcz29_3
                    try clear hcz31_0
                    try clear hcz31_1
                    try clear hcz31_2
                    try clear hcz31_3
                    try clear hcz33_0
                    try clear hcz33_1
                    try clear hcz33_2
                    try clear hcz33_3
                    try clear hcz34_0
                    try clear hcz34_1
                    try clear hcz34_2
                    try clear hcz34_3
                    try clear hcz7_0
                    try clear hcz7_1
                    try clear hcz7_2
                    try clear hcz7_3
                    try clear hcz9_0
                    try clear hcz9_1
                    try clear hcz9_2
                    try clear hcz9_3
                    try clear hfz11_0
                    try clear hfz11_1
                    try clear hfz11_2
                    try clear hfz11_3
                    try clear hfz15_0
                    try clear hfz15_1
                    try clear hfz15_2
                    try clear hfz15_3
                    try clear hfz16_0
                    try clear hfz16_1
                    try clear hfz16_2
                    try clear hfz16_3
                    try clear hfz22_0
                    try clear hfz22_1
                    try clear hfz22_2
                    try clear hfz22_3
                    try clear hfz25_0
                    try clear hfz25_1
                    try clear hfz25_2
                    try clear hfz25_3
                    try clear hfz27_0
                    try clear hfz27_1
                    try clear hfz27_2
                    try clear hfz27_3
                    try clear hfz29_0
                    try clear hfz29_1
                    try clear hfz29_2
                    try clear hfz29_3
                    try clear hfz31_0
                    try clear hfz31_1
                    try clear hfz31_2
                    try clear hfz31_3
                    try clear hfz33_0
                    try clear hfz33_1
                    try clear hfz33_2
                    try clear hfz33_3
                    try clear hfz34_0
                    try clear hfz34_1
                    try clear hfz34_2
                    try clear hfz34_3
                    try clear hfz7_0
                    try clear hfz7_1
                    try clear hfz7_2
                    try clear hfz7_3
                    try clear hfz9_0
                    try clear hfz9_1
                    try clear hfz9_2
                    try clear hfz9_3
                    try clear hx142_0
                    try clear hx142_1
                    try clear hx142_2
                    try clear hx142_3
                    try clear hx144_0
                    try clear hx144_1
                    try clear hx144_2
                    try clear hx144_3
                    try clear p1
                    try clear p14
                    try clear p142
                    try clear p144
                    try clear p2
                    try clear q1
                    try clear q14
                    try clear q142
                    try clear q144
                    obtain ⟨x6_3, rfl, HA, HK3, BK143, HB⟩ := hrel
                    cases gk with
                    | zero => exact absurd HA.out (by simp [gessoref14_one.l0])
                    | succ k3 =>
                      have H := HA.out
                      clear HA
                      simp only [gessoref14_one.l0] at H
                      by_cases c36 : x6_3 < a1
                      · rw [if_pos c36] at H
                        have c36b0 : decide (x6_3 < a1) = true := decide_eq_true c36
                        clear c36
                        by_cases c37 : 0 ≤ x6_3
                        · rw [if_pos c37] at H
                          have c37b0 : decide (0 ≤ x6_3) = true := decide_eq_true c37
                          clear c37
                          by_cases c38 : x6_3 < (l0.length : Int)
                          · rw [if_pos c38] at H
                            have c38b0 : decide (x6_3 < (l0.length : Int)) = true := decide_eq_true c38
                            clear c38
                            by_cases c39 : ((rd_T41 l0 x6_3).f0) = ((rd_T41 l0 a1).f0)
                            · rw [if_pos c39] at H
                              have c39b0 : (((rd_T41 l0 x6_3).f0) == ((rd_T41 l0 a1).f0)) = true := beq_iff_eq.mpr c39
                              have c39b1 : (((rd_T41 l0 x6_3).f0) != ((rd_T41 l0 a1).f0)) = false := bne_eq_false_iff_eq.mpr c39
                              clear c39
                              by_cases c40 : ((rd_T41 l0 x6_3).f1).toList = ((rd_T41 l0 a1).f1).toList
                              · rw [if_pos c40] at H
                                have c40b0 : (((rd_T41 l0 x6_3).f1).toList == ((rd_T41 l0 a1).f1).toList) = true := beq_iff_eq.mpr c40
                                have c40b1 : (((rd_T41 l0 x6_3).f1).toList != ((rd_T41 l0 a1).f1).toList) = false := bne_eq_false_iff_eq.mpr c40
                                clear c40
                                obtain rfl := Option.some.inj H
                                have p148 : 0 ≤ (x6_3 : Int) := of_decide_eq_true (by first | (with_reducible assumption) | assumption)
                                have q148 : x6_3 < (l0.length : Int) := of_decide_eq_true (by first | (with_reducible assumption) | assumption)
                                obtain ⟨ad148, A148_3, c148_3, e148, hx148_0, hx148_1, hx148_2, hx148_3, hl148_3, hi148_3⟩ := at_T41 HR0.out x6_3 p148 q148
                                obtain rfl : ad142 = ad148 := (by injection e148)
                                replace hx148_0 := (HB.out.cell (World.block_lt_of_cell? w _ hx148_0)).trans hx148_0
                                replace hx148_1 := (HB.out.cell (World.block_lt_of_cell? w _ hx148_1)).trans hx148_1
                                replace hx148_2 := (HB.out.cell (World.block_lt_of_cell? w _ hx148_2)).trans hx148_2
                                replace hx148_3 := (HB.out.cell (World.block_lt_of_cell? w _ hx148_3)).trans hx148_3
                                have HR148_3 := Aside0.mk hi148_3
                                have HC148_3 := Aside0.mk hl148_3
                                clear hi148_3 hl148_3
                                replace p148 := eq_true p148
                                replace q148 := eq_true q148
                                have hcz41_0 : wr.cell? ⟨gb143, 0, none⟩ = some (.int .i64 ((rd_T41 l0 a1).f0)) := (blk_cell BK143.out 0).trans rfl
                                have hcz41_1 : wr.cell? ⟨gb143, 1, none⟩ = some (.string ((rd_T41 l0 a1).f1)) := (blk_cell BK143.out 1).trans rfl
                                have hcz41_2 : wr.cell? ⟨gb143, 2, none⟩ = some (.bool ((rd_T41 l0 a1).f2)) := (blk_cell BK143.out 2).trans rfl
                                have hcz41_3 : wr.cell? ⟨gb143, 3, none⟩ = some (.slice A142_3 ((rd_T41 l0 a1).f3).length c142_3) := (blk_cell BK143.out 3).trans rfl
                                have hfz41_0 := blk_frozen BK143.out 0
                                have hfz41_1 := blk_frozen BK143.out 1
                                have hfz41_2 := blk_frozen BK143.out 2
                                have hfz41_3 := blk_frozen BK143.out 3
                                have p149 : 0 ≤ (x6_3 : Int) := of_decide_eq_true (by first | (with_reducible assumption) | assumption)
                                have q149 : x6_3 < (l0.length : Int) := of_decide_eq_true (by first | (with_reducible assumption) | assumption)
                                obtain ⟨ad149, A149_3, c149_3, e149, hx149_0, hx149_1, hx149_2, hx149_3, hl149_3, hi149_3⟩ := at_T41 HR0.out x6_3 p149 q149
                                obtain rfl : ad142 = ad149 := (by injection e149)
                                replace hx149_0 := (HB.out.cell (World.block_lt_of_cell? w _ hx149_0)).trans hx149_0
                                replace hx149_1 := (HB.out.cell (World.block_lt_of_cell? w _ hx149_1)).trans hx149_1
                                replace hx149_2 := (HB.out.cell (World.block_lt_of_cell? w _ hx149_2)).trans hx149_2
                                replace hx149_3 := (HB.out.cell (World.block_lt_of_cell? w _ hx149_3)).trans hx149_3
                                have HR149_3 := Aside0.mk hi149_3
                                have HC149_3 := Aside0.mk hl149_3
                                clear hi149_3 hl149_3
                                replace p149 := eq_true p149
                                replace q149 := eq_true q149
                                have ea_ := Option.some.inj (hx148_3.symm.trans hx149_3)
                                injection ea_ with ea_ en_ ec_
                                subst ea_
                                subst ec_
                                clear en_
                                go_wp2
                                repeat (go_quiet (fail); try go_wp2)
                                go_ret
                                exact ⟨by first | rfl | (simp [errW_none, errW_some] <;> rfl) | (simp [*, errW_none, errW_some] <;> rfl), by repeat (first | (with_reducible first | exact HB.out | apply below_alloc | apply pw_below_drewN | apply below_drew1 | refine below_set ?_ GE143.out) | exact HB.out)⟩
                              · rw [if_neg c40] at H
                                have c40b0 : (((rd_T41 l0 x6_3).f1).toList == ((rd_T41 l0 a1).f1).toList) = false := beq_eq_false_iff_ne.mpr c40
                                have c40b1 : (((rd_T41 l0 x6_3).f1).toList != ((rd_T41 l0 a1).f1).toList) = true := bne_iff_ne.mpr c40
                                have H' := Aside0.mk H
                                clear H
                                have p148 : 0 ≤ (x6_3 : Int) := of_decide_eq_true (by first | (with_reducible assumption) | assumption)
                                have q148 : x6_3 < (l0.length : Int) := of_decide_eq_true (by first | (with_reducible assumption) | assumption)
                                obtain ⟨ad148, A148_3, c148_3, e148, hx148_0, hx148_1, hx148_2, hx148_3, hl148_3, hi148_3⟩ := at_T41 HR0.out x6_3 p148 q148
                                obtain rfl : ad142 = ad148 := (by injection e148)
                                replace hx148_0 := (HB.out.cell (World.block_lt_of_cell? w _ hx148_0)).trans hx148_0
                                replace hx148_1 := (HB.out.cell (World.block_lt_of_cell? w _ hx148_1)).trans hx148_1
                                replace hx148_2 := (HB.out.cell (World.block_lt_of_cell? w _ hx148_2)).trans hx148_2
                                replace hx148_3 := (HB.out.cell (World.block_lt_of_cell? w _ hx148_3)).trans hx148_3
                                have HR148_3 := Aside0.mk hi148_3
                                have HC148_3 := Aside0.mk hl148_3
                                clear hi148_3 hl148_3
                                replace p148 := eq_true p148
                                replace q148 := eq_true q148
                                have hcz42_0 : wr.cell? ⟨gb143, 0, none⟩ = some (.int .i64 ((rd_T41 l0 a1).f0)) := (blk_cell BK143.out 0).trans rfl
                                have hcz42_1 : wr.cell? ⟨gb143, 1, none⟩ = some (.string ((rd_T41 l0 a1).f1)) := (blk_cell BK143.out 1).trans rfl
                                have hcz42_2 : wr.cell? ⟨gb143, 2, none⟩ = some (.bool ((rd_T41 l0 a1).f2)) := (blk_cell BK143.out 2).trans rfl
                                have hcz42_3 : wr.cell? ⟨gb143, 3, none⟩ = some (.slice A142_3 ((rd_T41 l0 a1).f3).length c142_3) := (blk_cell BK143.out 3).trans rfl
                                have hfz42_0 := blk_frozen BK143.out 0
                                have hfz42_1 := blk_frozen BK143.out 1
                                have hfz42_2 := blk_frozen BK143.out 2
                                have hfz42_3 := blk_frozen BK143.out 3
                                have p149 : 0 ≤ (x6_3 : Int) := of_decide_eq_true (by first | (with_reducible assumption) | assumption)
                                have q149 : x6_3 < (l0.length : Int) := of_decide_eq_true (by first | (with_reducible assumption) | assumption)
                                obtain ⟨ad149, A149_3, c149_3, e149, hx149_0, hx149_1, hx149_2, hx149_3, hl149_3, hi149_3⟩ := at_T41 HR0.out x6_3 p149 q149
                                obtain rfl : ad142 = ad149 := (by injection e149)
                                replace hx149_0 := (HB.out.cell (World.block_lt_of_cell? w _ hx149_0)).trans hx149_0
                                replace hx149_1 := (HB.out.cell (World.block_lt_of_cell? w _ hx149_1)).trans hx149_1
                                replace hx149_2 := (HB.out.cell (World.block_lt_of_cell? w _ hx149_2)).trans hx149_2
                                replace hx149_3 := (HB.out.cell (World.block_lt_of_cell? w _ hx149_3)).trans hx149_3
                                have HR149_3 := Aside0.mk hi149_3
                                have HC149_3 := Aside0.mk hl149_3
                                clear hi149_3 hl149_3
                                replace p149 := eq_true p149
                                replace q149 := eq_true q149
                                have ea_ := Option.some.inj (hx148_3.symm.trans hx149_3)
                                injection ea_ with ea_ en_ ec_
                                subst ea_
                                subst ec_
                                clear en_
                                go_wp2
                                repeat (go_quiet (fail); try go_wp2)
                                go_roundg k3
                                case measure => have := HJ4.out; have := HJ17.out; have := HK3.out; omega
                                case rel => exact ⟨(wrap64 (x6_3 + 1)), (by first | rfl | (simp; done) | (simp [*]; done)), H', ⟨by have := HJ4.out; have := HJ17.out; have := HK3.out; omega⟩, ⟨by (with_reducible repeat (first | refine blk_drewN ?_ _ | refine blk_drew ?_ | refine blk_alloc ?_ _)); exact BK143.out⟩, ⟨by repeat (first | (with_reducible first | exact HB.out | apply below_alloc | apply pw_below_drewN | apply below_drew1 | refine below_set ?_ GE143.out) | exact HB.out)⟩⟩
                            · rw [if_neg c39] at H
                              have c39b0 : (((rd_T41 l0 x6_3).f0) == ((rd_T41 l0 a1).f0)) = false := beq_eq_false_iff_ne.mpr c39
                              have c39b1 : (((rd_T41 l0 x6_3).f0) != ((rd_T41 l0 a1).f0)) = true := bne_iff_ne.mpr c39
                              have H' := Aside0.mk H
                              clear H
                              have p148 : 0 ≤ (x6_3 : Int) := of_decide_eq_true (by first | (with_reducible assumption) | assumption)
                              have q148 : x6_3 < (l0.length : Int) := of_decide_eq_true (by first | (with_reducible assumption) | assumption)
                              obtain ⟨ad148, A148_3, c148_3, e148, hx148_0, hx148_1, hx148_2, hx148_3, hl148_3, hi148_3⟩ := at_T41 HR0.out x6_3 p148 q148
                              obtain rfl : ad142 = ad148 := (by injection e148)
                              replace hx148_0 := (HB.out.cell (World.block_lt_of_cell? w _ hx148_0)).trans hx148_0
                              replace hx148_1 := (HB.out.cell (World.block_lt_of_cell? w _ hx148_1)).trans hx148_1
                              replace hx148_2 := (HB.out.cell (World.block_lt_of_cell? w _ hx148_2)).trans hx148_2
                              replace hx148_3 := (HB.out.cell (World.block_lt_of_cell? w _ hx148_3)).trans hx148_3
                              have HR148_3 := Aside0.mk hi148_3
                              have HC148_3 := Aside0.mk hl148_3
                              clear hi148_3 hl148_3
                              replace p148 := eq_true p148
                              replace q148 := eq_true q148
                              have hcz43_0 : wr.cell? ⟨gb143, 0, none⟩ = some (.int .i64 ((rd_T41 l0 a1).f0)) := (blk_cell BK143.out 0).trans rfl
                              have hcz43_1 : wr.cell? ⟨gb143, 1, none⟩ = some (.string ((rd_T41 l0 a1).f1)) := (blk_cell BK143.out 1).trans rfl
                              have hcz43_2 : wr.cell? ⟨gb143, 2, none⟩ = some (.bool ((rd_T41 l0 a1).f2)) := (blk_cell BK143.out 2).trans rfl
                              have hcz43_3 : wr.cell? ⟨gb143, 3, none⟩ = some (.slice A142_3 ((rd_T41 l0 a1).f3).length c142_3) := (blk_cell BK143.out 3).trans rfl
                              have hfz43_0 := blk_frozen BK143.out 0
                              have hfz43_1 := blk_frozen BK143.out 1
                              have hfz43_2 := blk_frozen BK143.out 2
                              have hfz43_3 := blk_frozen BK143.out 3
                              go_wp2
                              repeat (go_quiet (fail); try go_wp2)
                              go_roundg k3
                              case measure => have := HJ4.out; have := HJ17.out; have := HK3.out; omega
                              case rel => exact ⟨(wrap64 (x6_3 + 1)), (by first | rfl | (simp; done) | (simp [*]; done)), H', ⟨by have := HJ4.out; have := HJ17.out; have := HK3.out; omega⟩, ⟨by (with_reducible repeat (first | refine blk_drewN ?_ _ | refine blk_drew ?_ | refine blk_alloc ?_ _)); exact BK143.out⟩, ⟨by repeat (first | (with_reducible first | exact HB.out | apply below_alloc | apply pw_below_drewN | apply below_drew1 | refine below_set ?_ GE143.out) | exact HB.out)⟩⟩
                          · rw [if_neg c38] at H
                            exact absurd H (by simp)
                        · rw [if_neg c37] at H
                          exact absurd H (by simp)
                      · rw [if_neg c36] at H
                        have c36b0 : decide (x6_3 < a1) = false := decide_eq_false c36
                        clear c36
                        obtain rfl := Option.some.inj H
                        go_wp2
                        repeat (go_quiet (fail); try go_wp2)
                        go_ret
                        exact ⟨by first | rfl | (simp [errW_none, errW_some] <;> rfl) | (simp [*, errW_none, errW_some] <;> rfl), by repeat (first | (with_reducible first | exact HB.out | apply below_alloc | apply pw_below_drewN | apply below_drew1 | refine below_set ?_ GE143.out) | exact HB.out)⟩
    · rw [if_neg c4] at H
      exact absurd H (by simp)
  · rw [if_neg c3] at H
    exact absurd H (by simp)


end Go.Proofs.Ytlomehhlhbpanaa.Prt
