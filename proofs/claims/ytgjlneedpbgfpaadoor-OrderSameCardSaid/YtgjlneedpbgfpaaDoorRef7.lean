import Derived.Test.YtgjlneedpbgfpaaDoorRef6
/- The walks of the document's answer for ucd (gessoref03): what a character may be. -/
namespace Go.Proofs.YtgjlneedpbgfpaaDoor
open Go.RowKit

theorem rsecond_any (c : Nat) (w : World) : Calls Tryd.prog 114 #[.int .u32 c] w fun e w' => e = .returned (.bool (second c)) ∧ Gr w w' := by
  cases h : jamo c with
  | true => exact rsecond_jamo c w h
  | false =>
    by_cases ho : 768 ≤ c ∧ c ≤ 71984
    · exact rsecond_loop c w h ho
    · exact rsecond_out c w h (by omega)

theorem quick_eq (c : Nat) : quick c = if (dfind c).isSome ∧ composes c = false then 1 else if second c then 2 else 0 := by
  unfold quick composes
  cases dfind c with
  | none => simp
  | some e => simp; cases e.2.2.2 <;> simp

set_option maxHeartbeats 1000000 in
theorem rquick_any (c : Nat) (hc : c < 4294967296) (w : World) : Calls Tryd.prog 100 #[.int .u32 c] w fun e w' => e = .returned (.int .i64 (quick c)) ∧ Gr w w' := by
  have HQ := hid (quick_eq c)
  cases hc1 : composes c <;> cases hs1 : second c
  all_goals
    have HC := hid hc1
    have HS := hid hs1
    have hcc := fun w' => rcomposes_any c hc w'
    have hss := fun w' => rsecond_any c w'
    rw [hc1] at hcc
    rw [hs1] at hss
    have HCC := hid hcc
    have HSS := hid hss
    clear hc1 hs1 hcc hss
    go_enter Tryd.func100, Tryd.ntmps100
    go_wp2_with fail
    refine (row_any c hc _).mono ?_
    rintro x w1 ⟨g1, ⟨hd, rfl⟩ | ⟨m, e, hm, hlt, hd, rfl⟩⟩
    · have HD := hid hd
      clear hd
      go_wp2_with (go_at_call 114; refine (HSS.out _).mono ?_; rintro x w2 ⟨rfl, g2⟩)
      go_ret
      refine ⟨?_, g1.trans g2⟩
      rw [HQ.out, HD.out, HC.out, HS.out]; rfl
    · have HD := hid hd
      clear hd hm
      go_wp2_with (first | (go_at_call 113; refine (HCC.out _).mono ?_; rintro x w2 ⟨rfl, g2⟩) | (go_at_call 114; refine (HSS.out _).mono ?_; rintro x w3 ⟨rfl, g3⟩))
      go_ret
      refine ⟨?_, by first | exact (g1.trans g2).trans g3 | exact g1.trans g2⟩
      rw [HQ.out, HD.out, HC.out]
      first | rfl | (rw [HS.out]; rfl)

set_option maxHeartbeats 1000000 in
theorem rstarts_any (c : Nat) (hc : c < 4294967296) (w : World) : Calls Tryd.prog 72 #[.int .u32 c] w fun x w' => x = .returned (.bool (starts c)) ∧ Gr w w' := by
  by_cases h0 : cls c = 0
  · have hb : ((cls c : Int) == 0) = true := by rw [h0]; rfl
    have hst : starts c = ((quick c : Int) == 0) := by
      unfold starts; rw [h0]
      rw [Bool.eq_iff_iff]; simp
    have HST := hid hst
    clear hst h0
    go_enter Tryd.func72, Tryd.ntmps72
    go_wp2_with (first | (go_at_call 37; refine (rclass_any c hc _).mono ?_; rintro x w1 ⟨rfl, g1⟩) | (go_at_call 100; refine (rquick_any c hc _).mono ?_; rintro x w2 ⟨rfl, g2⟩))
    go_ret
    exact ⟨by rw [HST.out]; rfl, g1.trans g2⟩
  · have hb : ((cls c : Int) == 0) = false := by rw [beq_eq_false_iff_ne]; omega
    have hst : starts c = false := by
      unfold starts; rw [show Nat.beq (cls c) 0 = false from by rw [← Bool.not_eq_true, Nat.beq_eq]; exact h0]; rfl
    have HST := hid hst
    clear hst h0
    go_enter Tryd.func72, Tryd.ntmps72
    go_wp2_with (first | (go_at_call 37; refine (rclass_any c hc _).mono ?_; rintro x w1 ⟨rfl, g1⟩) | (go_at_call 100; refine (rquick_any c hc _).mono ?_; rintro x w2 ⟨rfl, g2⟩))
    go_ret
    exact ⟨by rw [HST.out]; rfl, g1⟩
end Go.Proofs.YtgjlneedpbgfpaaDoor
