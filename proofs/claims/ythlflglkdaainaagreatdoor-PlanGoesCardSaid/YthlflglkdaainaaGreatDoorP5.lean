import Derived.Test.YthlflglkdaainaaGreatDoorP3
/- plan.Steps of any items. -/
set_option maxRecDepth 100000
namespace Go.Proofs.YthlflglkdaainaaGreatDoor.Tr
open Go.RowKit Go.Lib Go.Maps Go.Proofs.YthlflglkdaainaaGreatDoorW.PrintWords Go.Proofs.YthlflglkdaainaaGreatDoorW.PrintLast Go.Proofs.YthlflglkdaainaaGreatDoorW.PrintMore Go.Proofs.YthlflglkdaainaaGreatDoor.Prt

/-- What Steps tells. -/
noncomputable def stpT (L : List It) : List St := if checkN L = 0 then sortSt (stL L L.length) else []
theorem Steps_any (L : List It) (A : Option Addr) (c : Nat) (hc : L.length ≤ c) (w : World) (ht : Tz w) (hu : Ut w) (hC : Kd.C kIt w A L.length L) (hcap : CapR w A L.length) (hwf : WfL L) :
    Calls Tryz.prog 17 #[.slice A L.length c] w fun e w' => ∃ A3 c3, e = .returned (.tuple #[.slice A3 (stpT L).length c3, .int .i64 (checkN L)]) ∧ (stpT L).length ≤ c3 ∧ Kd.C kSt w' A3 (stpT L).length (stpT L) ∧ Below w.heap.size w w' := by
  by_cases h0 : checkN L = 0
  · unfold stpT
    rw [if_pos h0, h0]
    exact steps_ok L A c hc w ht hu hC hcap hwf h0
  · unfold stpT
    rw [if_neg h0]
    have hj : judT L = [] := if_neg h0
    have HJ : Aside0 (Calls Tryz.prog 26 #[.slice A L.length c] w fun e w' => ∃ A4 c4, e = .returned (.tuple #[.slice A4 0 c4, .int .i64 (checkN L)]) ∧ Below w.heap.size w w') := ⟨(Judge_any L A c w ht hu hC hcap hwf).mono fun e w' h => by
      obtain ⟨v, rfl, h1, h2⟩ := h
      rw [hj] at h1
      obtain ⟨A4, c4, rfl⟩ := Kd.R_slice h1
      exact ⟨A4, c4, rfl, h2⟩⟩
    have q1 : (checkN L != 0) = true := by rw [bne_iff_ne]; exact h0
    clear hC hcap hwf ht hu h0 hj
    generalize checkN L = y at HJ q1 ⊢
    go_enter Tryz.func17, Tryz.ntmps17
    go_wp2_with (go_at_call 26; with_reducible refine HJ.out.mono ?_; rintro e w2 ⟨A4, c4, rfl, hb2⟩)
    go_ret2
    exact ⟨none, 0, rfl, Nat.le_refl _, Kd.C_nil _ _, hb2⟩
end Go.Proofs.YthlflglkdaainaaGreatDoor.Tr
