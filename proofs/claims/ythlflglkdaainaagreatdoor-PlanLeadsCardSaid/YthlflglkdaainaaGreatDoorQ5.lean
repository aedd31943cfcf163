import Derived.Test.YthlflglkdaainaaGreatDoorQ4
import Derived.Test.YthlflglkdaainaaGreatDoorMissS
/- The walk of PlanLeads. -/
set_option maxRecDepth 100000
namespace Go.Proofs.YthlflglkdaainaaGreatDoor.Tr
open Go.RowKit Go.Lib Go.Maps Go.Proofs.YthlflglkdaainaaGreatDoorW.PrintWords Go.Proofs.YthlflglkdaainaaGreatDoorW.PrintLast Go.Proofs.YthlflglkdaainaaGreatDoorW.PrintMore Go.Proofs.YthlflglkdaainaaGreatDoor.Prt

theorem leads_same {L M : List It} (h0 : checkN L = 0) (hM : checkN M = 0) (ht : turnL M = M) (htt : turnL M = turnL L) : sameT M (sortL (turnL L)) = true := by
  have e : M = turnL L := ht.symm.trans htt
  have h14 := turn14 h0
  have s14 := sort_check h14
  have hs : sortT (turnL L) = sortL (turnL L) := if_neg h14
  have hs2 : sortT (sortL (turnL L)) = sortL (sortL (turnL L)) := if_neg s14
  have he : sortE (turnL L) = 0 := if_neg h14
  have he2 : sortE (sortL (turnL L)) = 0 := if_neg s14
  unfold sameT
  rw [e, hs, hs2, he, he2, sort_again h14, eqL_refl]
  rfl

set_option maxHeartbeats 16000000 in
theorem leads_ok (L : List It) (A : Option Addr) (c : Nat) (hc : L.length ≤ c) (w : World) (ht : Tz w) (hu : Ut w) (hC : Kd.C kIt w A L.length L) (hcap : CapR w A L.length) (hwf : WfL L) (hli : lightM 800 L = true) (h0 : checkN L = 0) :
    Calls Tryz.prog 4 #[.slice A L.length c] w fun e w' => e = .returned (.bool true) ∧ Below w.heap.size w w' := by
  have hu53 := Tryz.underlying53
  have hu67 := Tryz.underlying67
  have HL := LightM_any 800 (by decide) L A c hc w hC
  simp only [Int.cast_ofNat_Int] at HL
  rw [hli] at HL
  have HAw := Aside0.mk (fun W (B : Below w.heap.size w W) => awake17_any W (tz_below ht B) (hu.gr B))
  have HS := fun W (B : Below w.heap.size w W) => Steps_any L A c hc W (tz_below ht B) (hu.gr B) (Kd.C_below hC B) (CapR.below hcap B) hwf
  rw [h0] at HS
  have HT := fun W (B : Below w.heap.size w W) => target_ok L A c W (tz_below ht B) (hu.gr B) (Kd.C_below hC B) (CapR.below hcap B) hwf h0
  obtain ⟨M, a1, a2, a3, a4, a5, a6⟩ := run_take (stpT L).length h0 hwf (Nat.le_refl _)
  rw [List.take_length] at a1
  rw [List.drop_length] at a2
  have hall : allT L (stpT L) = (M, 0) := by unfold allT; rw [if_pos h0, a1]
  have hself := no_steps a4 a2
  obtain ⟨B, hB⟩ : ∃ B, sortL (turnL L) = B := ⟨_, rfl⟩
  have hsame : sameT M B = true := by rw [← hB]; exact leads_same h0 a4 hself a3
  have hcB : checkN B = 0 := by rw [← hB]; exact sort_res h0
  have hwB : WfL B := by rw [← hB]; exact sort_wf hwf h0
  have hsB : stpT B = [] := by rw [← hB]; exact steps_none (turn_sort h0)
  rw [hB] at HT
  have HAl := fun W As cs (B : Below w.heap.size w W) (q1 : (stpT L).length ≤ cs) (q2 : Kd.C kSt W As (stpT L).length (stpT L)) => All_any L A c hc (stpT L) As cs q1 W (tz_below ht B) (hu.gr B) (Kd.C_below hC B) hwf q2 (fun s hs => stp_wf h0 hwf hs)
  rw [hall] at HAl
  have HSB := fun W Ab cb (Bl : Below w.heap.size w W) (q0 : B.length ≤ cb) (q1 : Kd.C kIt W Ab B.length B) (q2 : CapR W Ab B.length) => Steps_any B Ab cb q0 W (tz_below ht Bl) (hu.gr Bl) q1 q2 hwB
  rw [hsB, hcB] at HSB
  have HSm := fun W Am cm Ab cb (q0 : M.length ≤ cm) (q1 : B.length ≤ cb) (q2 : Kd.C kIt W Am M.length M) (q3 : Kd.C kIt W Ab B.length B) => Same_any M B Am Ab cm cb q0 q1 W q2 q3 a5 hwB
  rw [hsame] at HSm
  have back : ∀ W (v : Value) base ok (X : List It), Kd.R kIt 53 W base ok v X → ∃ A4 c4, v = .slice A4 X.length c4 ∧ X.length ≤ c4 ∧ Kd.C kIt W A4 X.length X ∧ CapR W A4 X.length := fun W v base ok X h => by
    obtain ⟨A4, c4, rfl⟩ := Kd.R_slice h
    obtain ⟨_, h3, h4⟩ := Kd.R_reads' h
    exact ⟨A4, c4, rfl, h3, h4, cap_of_R h⟩
  have HT2 : Aside0 (∀ W, Below w.heap.size w W → Calls Tryz.prog 20 #[.slice A L.length c] W fun e w' => ∃ A4 c4, e = .returned (.tuple #[.slice A4 B.length c4, .int .i64 0]) ∧ B.length ≤ c4 ∧ Aside0 (Kd.C kIt w' A4 B.length B ∧ CapR w' A4 B.length) ∧ Below W.heap.size W w') := ⟨fun W Bl => (HT W Bl).mono fun e w' h => by
    obtain ⟨v, rfl, h1, h2⟩ := h
    obtain ⟨A4, c4, rfl, h3, h4⟩ := back _ _ _ _ _ h1
    exact ⟨A4, c4, rfl, h3, ⟨h4⟩, h2⟩⟩
  have HAl2 : Aside0 (∀ W As cs, Below w.heap.size w W → (stpT L).length ≤ cs → Kd.C kSt W As (stpT L).length (stpT L) → Calls Tryz.prog 19 #[.slice A L.length c, .slice As (stpT L).length cs] W fun e w' => ∃ A4 c4, e = .returned (.tuple #[.slice A4 M.length c4, .int .i64 0]) ∧ M.length ≤ c4 ∧ Aside0 (Kd.C kIt w' A4 M.length M ∧ CapR w' A4 M.length) ∧ Below W.heap.size W w') := ⟨fun W As cs Bl q1 q2 => (HAl W As cs Bl q1 q2).mono fun e w' h => by
    obtain ⟨v, rfl, h1, h2⟩ := h
    obtain ⟨A4, c4, rfl, h3, h4⟩ := back _ _ _ _ _ h1
    exact ⟨A4, c4, rfl, h3, ⟨h4⟩, h2⟩⟩
  have HL := Aside0.mk HL
  have HS := Aside0.mk HS
  have HSB := Aside0.mk HSB
  have HSm := Aside0.mk HSm
  clear hC hcap hwf ht hu hli HT HAl hB hsame hcB hwB hsB hall hself a1 a2 a3 a4 a5 a6 h0 back
  generalize stpT L = S at *
  go_enter Tryz.func4, Tryz.ntmps4
  go_wp2_with (first
    | (go_at_call 15; with_reducible refine HL.out.mono ?_; rintro e w1 ⟨rfl, hb1⟩)
    | (go_at_call 17; with_reducible refine (HS.out w1 hb1).mono ?_; rintro e w2 ⟨A3, c3, rfl, l3, r3, hb2⟩; have hb20 := below_then hb1 hb1.size hb2; have HA3 := Aside0.mk (HAl2.out w2 A3 c3 hb20 l3 r3))
    | (go_at_call 19; with_reducible refine HA3.out.mono ?_; rintro e w3 ⟨A4, c4, rfl, l4, r4, hb3⟩; have hb30 := below_then hb20 hb20.size hb3)
    | (go_at_call 20; with_reducible refine (HT2.out w3 hb30).mono ?_; rintro e w4 ⟨A5, c5, rfl, l5, r5, hb4⟩; have hb40 := below_then hb30 hb30.size hb4; have HS5 := Aside0.mk (HSB.out w4 A5 c5 hb40 l5 r5.out.1 r5.out.2))
    | (go_at_call 17; with_reducible refine HS5.out.mono ?_; rintro e w5 ⟨A6, c6, rfl, l6, r6, hb5⟩; have hb50 := below_then hb40 hb40.size hb5; have HM5 := Aside0.mk (HSm.out w5 A4 c4 A5 c5 l4 l5 (Kd.C_below r4.out.1 (below_then hb4 hb4.size hb5)) (Kd.C_below r5.out.1 hb5)))
    | (go_at_call 23; with_reducible refine HM5.out.mono ?_; rintro e w6 ⟨rfl, hb6⟩; have hb60 := below_then hb50 hb50.size hb6)
    | (go_at_call 16; with_reducible refine (HAw.out _ hb60).mono ?_; rintro e w7 ⟨rfl, hb7⟩))
  go_ret
  exact ⟨rfl, below_then hb60 hb60.size hb7⟩
set_option maxHeartbeats 8000000 in
theorem planLeads_walk (L : List It) (A : Option Addr) (c : Nat) (hc : L.length ≤ c) (w : World) (ht : Tz w) (hu : Ut w) (hC : Kd.C kIt w A L.length L) (hcap : CapR w A L.length) (hwf : WfL L) :
    Calls Tryz.prog 4 #[.slice A L.length c] w fun e w' => e = .returned (.bool true) ∧ Below w.heap.size w w' := by
  have HL := LightM_any 800 (by decide) L A c hc w hC
  simp only [Int.cast_ofNat_Int] at HL
  have HAw := fun W (B : Below w.heap.size w W) => awake17_any W (tz_below ht B) (hu.gr B)
  cases hli : lightM 800 L with
  | false =>
    rw [hli] at HL
    have HL := Aside0.mk HL
    have HAw := Aside0.mk HAw
    clear hC hcap hwf ht hu
    go_enter Tryz.func4, Tryz.ntmps4
    go_wp2_with (first
      | (go_at_call 15; with_reducible refine HL.out.mono ?_; rintro e w1 ⟨rfl, hb1⟩)
      | (go_at_call 16; with_reducible refine (HAw.out _ hb1).mono ?_; rintro e w2 ⟨rfl, hb2⟩))
    go_ret
    exact ⟨rfl, hb1.trans (hb2.mono hb1.size)⟩
  | true =>
    by_cases h0 : checkN L = 0
    · exact leads_ok L A c hc w ht hu hC hcap hwf hli h0
    · rw [hli] at HL
      have HS := fun W (B : Below w.heap.size w W) => Steps_no L A c hc W (tz_below ht B) (hu.gr B) (Kd.C_below hC B) (CapR.below hcap B) hwf h0
      have HK := fun W (B : Below w.heap.size w W) => check_any L A c W (Kd.C_below hC B) hwf
      have hne : (checkN L != 0) = true := by rw [bne_iff_ne]; exact h0
      have hee : (checkN L == checkN L) = true := beq_self_eq_true _
      generalize checkN L = y at HS HK hne hee
      have HL := Aside0.mk HL
      have HS := Aside0.mk HS
      have HK := Aside0.mk HK
      have HAw := Aside0.mk HAw
      clear hC hcap hwf ht hu hli h0
      go_enter Tryz.func4, Tryz.ntmps4
      go_wp2_with (first
        | (go_at_call 15; with_reducible refine HL.out.mono ?_; rintro e w1 ⟨rfl, hb1⟩)
        | (go_at_call 17; with_reducible refine (HS.out _ hb1).mono ?_; rintro e w2 ⟨A4, c4, rfl, hb2⟩; have hb20 := below_then hb1 hb1.size hb2)
        | (go_at_call 18; with_reducible refine (HK.out _ hb20).mono ?_; rintro e w3 ⟨rfl, hb3⟩; have hb30 := below_then hb20 hb20.size hb3)
        | (go_at_call 16; with_reducible refine (HAw.out _ hb30).mono ?_; rintro e w4 ⟨rfl, hb4⟩))
      go_ret
      exact ⟨rfl, below_then hb30 hb30.size hb4⟩
end Go.Proofs.YthlflglkdaainaaGreatDoor.Tr
