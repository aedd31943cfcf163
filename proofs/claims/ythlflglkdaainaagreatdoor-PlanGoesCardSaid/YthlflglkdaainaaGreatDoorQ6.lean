import Derived.Test.YthlflglkdaainaaGreatDoorQ4
/- The walk of PlanGoes. -/
set_option maxRecDepth 100000
namespace Go.Proofs.YthlflglkdaainaaGreatDoor.Tr
open Go.RowKit Go.Lib Go.Maps Go.Proofs.YthlflglkdaainaaGreatDoorW.PrintWords Go.Proofs.YthlflglkdaainaaGreatDoorW.PrintLast Go.Proofs.YthlflglkdaainaaGreatDoorW.PrintMore Go.Proofs.YthlflglkdaainaaGreatDoor.Prt

theorem seg_take {w : World} {b o : Nat} {X : List St} (h : Kd.C kSt w (some ⟨b, o, none⟩) X.length X) {k : Nat} (hk : k ≤ X.length) : Kd.C kSt w (some ⟨b, o, none⟩) (X.take k).length (X.take k) := by
  refine ⟨rfl, by have := h.2.1; rw [List.length_take]; omega, fun h0 => ?_⟩
  rw [List.length_take] at h0
  obtain ⟨ad, e, hc⟩ := h.2.2 (by omega)
  refine ⟨ad, e, fun j p hj => hc j p ?_⟩
  rw [List.getElem?_take] at hj
  split at hj
  · exact hj
  · cases hj
theorem seg_drop {w : World} {b o : Nat} {X : List St} (h : Kd.C kSt w (some ⟨b, o, none⟩) X.length X) {k : Nat} (hk : k ≤ X.length) : Kd.C kSt w (some ⟨b, o + k * 3, none⟩) (X.drop k).length (X.drop k) := by
  refine ⟨rfl, by have := h.2.1; rw [List.length_drop]; omega, fun h0 => ⟨_, rfl, fun j p hj => ?_⟩⟩
  rw [List.length_drop] at h0
  obtain ⟨ad, e, hc⟩ := h.2.2 (by omega)
  cases e
  obtain ⟨c, q1, q2, q3⟩ := hc (k + j) p (by rw [List.getElem?_drop] at hj; exact hj)
  refine ⟨c, q1, q2, fun i u hi => ?_⟩
  have := q3 i u hi
  change w.cell? ((⟨b, o, none⟩ : Addr).add ((k + j) * 3 + i)) = some u at this
  show w.cell? ((⟨b, o + k * 3, none⟩ : Addr).add (j * 3 + i)) = some u
  rw [add_P] at this ⊢
  rw [show o + k * 3 + (j * 3 + i) = o + ((k + j) * 3 + i) by omega]
  exact this
theorem seg_nil (w : World) (A : Option Addr) : Kd.C kSt w A ([] : List St).length [] := ⟨rfl, Nat.zero_le _, fun h => absurd h (by decide)⟩

set_option maxHeartbeats 16000000 in
theorem goes_ok (L : List It) (A : Option Addr) (c : Nat) (hc : L.length ≤ c) (n0 : Nat) (hn0 : n0 ≤ 255) (w : World) (ht : Tz w) (hu : Ut w) (hC : Kd.C kIt w A L.length L) (hcap : CapR w A L.length) (hwf : WfL L) (hli : lightM 600 L = true) (h0 : checkN L = 0) :
    Calls Tryz.prog 3 #[.slice A L.length c, .int .u8 n0] w fun e w' => e = .returned (.bool true) ∧ Below w.heap.size w w' := by
  have hu53 := Tryz.underlying53
  have hu67 := Tryz.underlying67
  have HL := LightM_any 600 (by decide) L A c hc w hC
  simp only [Int.cast_ofNat_Int] at HL
  rw [hli] at HL
  have HAw := Aside0.mk (fun W (B : Below w.heap.size w W) => awake17_any W (tz_below ht B) (hu.gr B))
  have HS := fun W (B : Below w.heap.size w W) => Steps_any L A c hc W (tz_below ht B) (hu.gr B) (Kd.C_below hC B) (CapR.below hcap B) hwf
  rw [h0] at HS
  have HT := fun W (B : Below w.heap.size w W) => target_ok L A c W (tz_below ht B) (hu.gr B) (Kd.C_below hC B) (CapR.below hcap B) hwf h0
  obtain ⟨kk, hkk⟩ : ∃ kk, kk = n0 % ((stpT L).length + 1) := ⟨_, rfl⟩
  have hkl : kk ≤ (stpT L).length := by rw [hkk]; have := Nat.mod_lt n0 (show 0 < (stpT L).length + 1 by omega); omega
  obtain ⟨M, a1, a2, a3, a4, a5, a6⟩ := run_take kk h0 hwf hkl
  have hall : allT L ((stpT L).take kk) = (M, 0) := by unfold allT; rw [if_pos h0, a1]
  have HSM := fun W Am cm (Bl : Below w.heap.size w W) (q0 : M.length ≤ cm) (q1 : Kd.C kIt W Am M.length M) (q2 : CapR W Am M.length) => Steps_any M Am cm q0 W (tz_below ht Bl) (hu.gr Bl) q1 q2 a5
  rw [a2, a4] at HSM
  have HTM := fun W Am cm (Bl : Below w.heap.size w W) (q1 : Kd.C kIt W Am M.length M) (q2 : CapR W Am M.length) => target_ok M Am cm W (tz_below ht Bl) (hu.gr Bl) q1 q2 a5 a4
  rw [a3] at HTM
  obtain ⟨B, hB⟩ : ∃ B, sortL (turnL L) = B := ⟨_, rfl⟩
  have hcB : checkN B = 0 := by rw [← hB]; exact sort_res h0
  have hwB : WfL B := by rw [← hB]; exact sort_wf hwf h0
  rw [hB] at HT HTM
  have hwB2 : WfB B := ⟨by have := (check_ok (show checkN B ≠ 14 by rw [hcB]; decide)).1; omega, fun x hx => (hwB x hx).2.2.2.1⟩
  have HEq := fun W A4 c4 A5 c5 (h1 : B.length ≤ c4) (h2 : B.length ≤ c5) (h3 : Kd.C kIt W A4 B.length B) (h4 : Kd.C kIt W A5 B.length B) => REqual_any hwB2 hwB2 A4 A5 c4 c5 h1 h2 W h3 h4
  rw [eqL_refl] at HEq
  have HAl := fun W As cs (Bl : Below w.heap.size w W) (q1 : ((stpT L).take kk).length ≤ cs) (q2 : Kd.C kSt W As ((stpT L).take kk).length ((stpT L).take kk)) => All_any L A c hc ((stpT L).take kk) As cs q1 W (tz_below ht Bl) (hu.gr Bl) (Kd.C_below hC Bl) hwf q2 (fun s hs => stp_wf h0 hwf (List.mem_of_mem_take hs))
  rw [hall] at HAl
  have htl : ((stpT L).take kk).length = kk := by rw [List.length_take]; omega
  rw [htl] at HAl
  have HSm := fun (W : World) (A1 A2 : Option Addr) (d1 d2 : Nat) (q1 : ((stpT L).drop kk).length ≤ d1) (q2 : ((stpT L).drop kk).length ≤ d2) (q3 : Kd.C kSt W A1 ((stpT L).drop kk).length ((stpT L).drop kk)) (q4 : Kd.C kSt W A2 ((stpT L).drop kk).length ((stpT L).drop kk)) => SameSteps_any ((stpT L).drop kk) ((stpT L).drop kk) true ⟨fun _ => rfl, fun _ => rfl⟩ (fun x hx => stp_small h0 (List.mem_of_mem_drop hx)) A1 A2 d1 d2 q1 q2 W q3 q4
  have hdl : ((stpT L).drop kk).length = (stpT L).length - kk := List.length_drop
  have back : ∀ W (v : Value) base ok (X : List It), Kd.R kIt 53 W base ok v X → ∃ A4 c4, v = .slice A4 X.length c4 ∧ X.length ≤ c4 ∧ Kd.C kIt W A4 X.length X ∧ CapR W A4 X.length := fun W v base ok X h => by
    obtain ⟨A4, c4, rfl⟩ := Kd.R_slice h
    obtain ⟨_, h3, h4⟩ := Kd.R_reads' h
    exact ⟨A4, c4, rfl, h3, h4, cap_of_R h⟩
  have HT2 : Aside0 (∀ W, Below w.heap.size w W → Calls Tryz.prog 20 #[.slice A L.length c] W fun e w' => ∃ A4 c4, e = .returned (.tuple #[.slice A4 B.length c4, .int .i64 0]) ∧ B.length ≤ c4 ∧ Aside0 (Kd.C kIt w' A4 B.length B) ∧ Below W.heap.size W w') := ⟨fun W Bl => (HT W Bl).mono fun e w' h => by
    obtain ⟨v, rfl, h1, h2⟩ := h
    obtain ⟨A4, c4, rfl, h3, h4, h5⟩ := back _ _ _ _ _ h1
    exact ⟨A4, c4, rfl, h3, ⟨h4⟩, h2⟩⟩
  have HTM2 : Aside0 (∀ W Am cm, Below w.heap.size w W → Kd.C kIt W Am M.length M → CapR W Am M.length → Calls Tryz.prog 20 #[.slice Am M.length cm] W fun e w' => ∃ A4 c4, e = .returned (.tuple #[.slice A4 B.length c4, .int .i64 0]) ∧ B.length ≤ c4 ∧ Aside0 (Kd.C kIt w' A4 B.length B) ∧ Below W.heap.size W w') := ⟨fun W Am cm Bl q1 q2 => (HTM W Am cm Bl q1 q2).mono fun e w' h => by
    obtain ⟨v, rfl, h1, h2⟩ := h
    obtain ⟨A4, c4, rfl, h3, h4, h5⟩ := back _ _ _ _ _ h1
    exact ⟨A4, c4, rfl, h3, ⟨h4⟩, h2⟩⟩
  have HAl2 : Aside0 (∀ W As cs, Below w.heap.size w W → kk ≤ cs → Kd.C kSt W As kk ((stpT L).take kk) → Calls Tryz.prog 19 #[.slice A L.length c, .slice As kk cs] W fun e w' => ∃ A4 c4, e = .returned (.tuple #[.slice A4 M.length c4, .int .i64 0]) ∧ M.length ≤ c4 ∧ Aside0 (Kd.C kIt w' A4 M.length M ∧ CapR w' A4 M.length) ∧ Below W.heap.size W w') := ⟨fun W As cs Bl q1 q2 => (HAl W As cs Bl q1 q2).mono fun e w' h => by
    obtain ⟨v, rfl, h1, h2⟩ := h
    obtain ⟨A4, c4, rfl, h3, h4⟩ := back _ _ _ _ _ h1
    exact ⟨A4, c4, rfl, h3, ⟨h4⟩, h2⟩⟩
  rw [hdl] at HSM HSm
  have HL := Aside0.mk HL
  have HS := Aside0.mk HS
  have HSM := Aside0.mk HSM
  have HEq := Aside0.mk HEq
  have HSm := Aside0.mk HSm
  have hl64 := (check_ok (show checkN L ≠ 14 by rw [h0]; decide)).1
  have hsl := stp_len (L := L)
  have hrem : Int.tmod (n0 : Int) (((stpT L).length : Int) + 1) = (kk : Int) := by
    rw [hkk, show (((stpT L).length : Int) + 1) = (((stpT L).length + 1 : Nat) : Int) by omega]
    exact (Int.ofNat_tmod _ _).symm
  have htl' := Aside0.mk htl
  clear hC hcap hwf ht hu hli HT HTM HAl hB hcB hwB hwB2 hall a1 a2 a3 a4 a5 a6 h0 back hkk htl
  generalize stpT L = S at *
  go_enter Tryz.func3, Tryz.ntmps3
  go_upto_region 6 with (first
    | (go_at_call 15; with_reducible refine HL.out.mono ?_; rintro e w1 ⟨rfl, hb1⟩)
    | (go_at_call 17; with_reducible refine (HS.out w1 hb1).mono ?_; rintro e w2 ⟨A3, c3, rfl, l3, r3, hb2⟩; have hb20 := below_then hb1 hb1.size hb2))
  go_upto_region 7 with (fail)
  have r3A := Aside0.mk r3
  have kz : (kk : Int) ≤ (c3 : Int) := by omega
  have kc : kk ≤ c3 := by omega
  have k0 : (0 : Int) ≤ (kk : Int) := by omega
  have kS : (kk : Int) ≤ (S.length : Int) := by omega
  have hd2 : S.length - kk ≤ c3 - kk := by omega
  by_cases hS : 0 < S.length
  · obtain ⟨b, o, hA3⟩ : ∃ b o, A3 = some ⟨b, o, none⟩ := by
      obtain ⟨ad, _, _, hA, x0, _⟩ := at_T67 r3 ((0 : Nat) : Int) (by omega) (by omega)
      obtain ⟨b, o, sp⟩ := ad
      have hs : sp = none := by simpa [Addr.add] using World.cell?_spot x0
      subst hs
      exact ⟨b, o, hA⟩
    subst hA3
    have htk := seg_take r3 hkl
    rw [htl'.out] at htk
    have HA3 := Aside0.mk (HAl2.out w2 (some ⟨b, o, none⟩) c3 hb20 kc htk)
    have hdr := seg_drop r3 hkl
    rw [hdl] at hdr
    by_cases hck : c3 = kk
    · have hck2 : kk = c3 := hck.symm
      subst hck2
      have he : S.length - kk = 0 := by omega
      have hnil : S.drop kk = [] := List.eq_nil_of_length_eq_zero (by omega)
      have SEG : Aside0 (∀ W, Below w2.heap.size w2 W → Kd.C kSt W (some ⟨b, o, none⟩) (S.length - kk) (S.drop kk)) := ⟨fun W _ => by rw [he, hnil]; exact seg_nil W _⟩
      have hd3 : 0 ≤ 0 := Nat.le_refl 0
      simp only [he] at HSM HSm SEG
      clear r3 htk hdr he hnil hrem hsl hl64
      go_wp2_with (first
        | (go_at_call 19; with_reducible refine HA3.out.mono ?_; rintro e w3 ⟨Am, cm, rfl, l4, r4, hb3⟩; have hb30 := below_then hb20 hb20.size hb3; have HS5 := Aside0.mk (HSM.out w3 Am cm hb30 l4 r4.out.1 r4.out.2))
        | (go_at_call 17; with_reducible refine HS5.out.mono ?_; rintro e w4 ⟨A5, c5, rfl, l5, r5, hb4⟩; have hb40 := below_then hb30 hb30.size hb4; have r5 := Aside0.mk r5)
        | (go_at_call 20; with_reducible refine (HT2.out w4 hb40).mono ?_; rintro e w5 ⟨A6, c6, rfl, l6, r6, hb5⟩; have hb50 := below_then hb40 hb40.size hb5; have hb35 := below_then hb4 hb4.size hb5; have HT6 := Aside0.mk (HTM2.out w5 Am cm hb50 (Kd.C_below r4.out.1 hb35) (CapR.below r4.out.2 hb35)))
        | (go_at_call 20; with_reducible refine HT6.out.mono ?_; rintro e w6 ⟨A7, c7, rfl, l7, r7, hb6⟩; have hb60 := below_then hb50 hb50.size hb6; have hb46 := below_then hb5 hb5.size hb6; have hb26 := below_then hb3 hb3.size (below_then hb4 hb4.size hb46); have HE6 := Aside0.mk (HEq.out w6 A6 c6 A7 c7 l6 l7 (Kd.C_below r6.out hb6) r7.out); have HM6 := Aside0.mk (HSm.out w6 A5 (some ⟨b, o, none⟩) c5 0 l5 hd3 (Kd.C_below r5.out hb46) (SEG.out w6 hb26)))
        | (go_at_call 21; with_reducible refine HM6.out.mono ?_; rintro e w7 ⟨rfl, m7, rfl⟩; have hb67 := pw_below_drewN (Below.refl w6.heap.size w6) m7; have hb70 := below_then hb60 hb60.size hb67; have HE7 := Aside0.mk (HEq.out (w6.drewN m7) A6 c6 A7 c7 l6 l7 (Kd.C_below r6.out (below_then hb6 hb6.size hb67)) (Kd.C_below r7.out hb67)))
        | (go_at_call 22; with_reducible refine HE7.out.mono ?_; rintro e w8 ⟨rfl, hd8⟩; have hb80 := below_then hb70 hb70.size hd8.below)
        | (go_at_call 16; with_reducible refine (HAw.out _ hb80).mono ?_; rintro e w9 ⟨rfl, hb9⟩))
      go_ret
      exact ⟨rfl, below_then hb80 hb80.size hb9⟩
    · have SEG : Aside0 (∀ W, Below w2.heap.size w2 W → Kd.C kSt W (some ⟨b, o + kk * 3, none⟩) (S.length - kk) (S.drop kk)) := ⟨fun W B => Kd.C_below hdr B⟩
      clear r3 htk hdr hrem hsl hl64
      go_wp2_with (first
        | (go_at_call 19; with_reducible refine HA3.out.mono ?_; rintro e w3 ⟨Am, cm, rfl, l4, r4, hb3⟩; have hb30 := below_then hb20 hb20.size hb3; have HS5 := Aside0.mk (HSM.out w3 Am cm hb30 l4 r4.out.1 r4.out.2))
        | (go_at_call 17; with_reducible refine HS5.out.mono ?_; rintro e w4 ⟨A5, c5, rfl, l5, r5, hb4⟩; have hb40 := below_then hb30 hb30.size hb4; have r5 := Aside0.mk r5)
        | (go_at_call 20; with_reducible refine (HT2.out w4 hb40).mono ?_; rintro e w5 ⟨A6, c6, rfl, l6, r6, hb5⟩; have hb50 := below_then hb40 hb40.size hb5; have hb35 := below_then hb4 hb4.size hb5; have HT6 := Aside0.mk (HTM2.out w5 Am cm hb50 (Kd.C_below r4.out.1 hb35) (CapR.below r4.out.2 hb35)))
        | (go_at_call 20; with_reducible refine HT6.out.mono ?_; rintro e w6 ⟨A7, c7, rfl, l7, r7, hb6⟩; have hb60 := below_then hb50 hb50.size hb6; have hb46 := below_then hb5 hb5.size hb6; have hb26 := below_then hb3 hb3.size (below_then hb4 hb4.size hb46); have HE6 := Aside0.mk (HEq.out w6 A6 c6 A7 c7 l6 l7 (Kd.C_below r6.out hb6) r7.out); have HM6 := Aside0.mk (HSm.out w6 A5 (some ⟨b, o + kk * 3, none⟩) c5 (c3 - kk) l5 hd2 (Kd.C_below r5.out hb46) (SEG.out w6 hb26)))
        | (go_at_call 21; with_reducible refine HM6.out.mono ?_; rintro e w7 ⟨rfl, m7, rfl⟩; have hb67 := pw_below_drewN (Below.refl w6.heap.size w6) m7; have hb70 := below_then hb60 hb60.size hb67; have HE7 := Aside0.mk (HEq.out (w6.drewN m7) A6 c6 A7 c7 l6 l7 (Kd.C_below r6.out (below_then hb6 hb6.size hb67)) (Kd.C_below r7.out hb67)))
        | (go_at_call 22; with_reducible refine HE7.out.mono ?_; rintro e w8 ⟨rfl, hd8⟩; have hb80 := below_then hb70 hb70.size hd8.below)
        | (go_at_call 16; with_reducible refine (HAw.out _ hb80).mono ?_; rintro e w9 ⟨rfl, hb9⟩))
      go_ret
      exact ⟨rfl, below_then hb80 hb80.size hb9⟩
  · obtain rfl : S = [] := List.eq_nil_of_length_eq_zero (by omega)
    obtain rfl : kk = 0 := by simpa using hkl
    simp only [List.length_nil, List.take_nil, List.drop_nil, Nat.sub_zero, Nat.zero_sub] at HSM HSm HAl2 ⊢
    have hc0 : ((0 : Nat) : Int) = 0 := rfl
    clear hrem hsl hl64 kz kc k0 kS hd2 hdl htl' r3A r3 hkl hS
    cases A3 with
    | none =>
      have HA3 := Aside0.mk (HAl2.out w2 none c3 hb20 (Nat.zero_le _) (seg_nil w2 none))
      have SEG : Aside0 (∀ W, Below w2.heap.size w2 W → Kd.C kSt W none 0 []) := ⟨fun W _ => seg_nil W none⟩
      go_wp2_with (first
        | (go_at_call 19; with_reducible refine HA3.out.mono ?_; rintro e w3 ⟨Am, cm, rfl, l4, r4, hb3⟩; have hb30 := below_then hb20 hb20.size hb3; have HS5 := Aside0.mk (HSM.out w3 Am cm hb30 l4 r4.out.1 r4.out.2))
        | (go_at_call 17; with_reducible refine HS5.out.mono ?_; rintro e w4 ⟨A5, c5, rfl, l5, r5, hb4⟩; have hb40 := below_then hb30 hb30.size hb4; have r5 := Aside0.mk r5)
        | (go_at_call 20; with_reducible refine (HT2.out w4 hb40).mono ?_; rintro e w5 ⟨A6, c6, rfl, l6, r6, hb5⟩; have hb50 := below_then hb40 hb40.size hb5; have hb35 := below_then hb4 hb4.size hb5; have HT6 := Aside0.mk (HTM2.out w5 Am cm hb50 (Kd.C_below r4.out.1 hb35) (CapR.below r4.out.2 hb35)))
        | (go_at_call 20; with_reducible refine HT6.out.mono ?_; rintro e w6 ⟨A7, c7, rfl, l7, r7, hb6⟩; have hb60 := below_then hb50 hb50.size hb6; have hb46 := below_then hb5 hb5.size hb6; have hb26 := below_then hb3 hb3.size (below_then hb4 hb4.size hb46); have HE6 := Aside0.mk (HEq.out w6 A6 c6 A7 c7 l6 l7 (Kd.C_below r6.out hb6) r7.out); have HM6 := Aside0.mk (HSm.out w6 A5 none c5 c3 l5 (Nat.zero_le _) (Kd.C_below r5.out hb46) (SEG.out w6 hb26)))
        | (go_at_call 21; with_reducible refine HM6.out.mono ?_; rintro e w7 ⟨rfl, m7, rfl⟩; have hb67 := pw_below_drewN (Below.refl w6.heap.size w6) m7; have hb70 := below_then hb60 hb60.size hb67; have HE7 := Aside0.mk (HEq.out (w6.drewN m7) A6 c6 A7 c7 l6 l7 (Kd.C_below r6.out (below_then hb6 hb6.size hb67)) (Kd.C_below r7.out hb67)))
        | (go_at_call 22; with_reducible refine HE7.out.mono ?_; rintro e w8 ⟨rfl, hd8⟩; have hb80 := below_then hb70 hb70.size hd8.below)
        | (go_at_call 16; with_reducible refine (HAw.out _ hb80).mono ?_; rintro e w9 ⟨rfl, hb9⟩))
      go_ret
      exact ⟨rfl, below_then hb80 hb80.size hb9⟩
    | some ad =>
      have HA3 := Aside0.mk (HAl2.out w2 (some ad) c3 hb20 (Nat.zero_le _) (seg_nil w2 (some ad)))
      have SEG : Aside0 (∀ W, Below w2.heap.size w2 W → Kd.C kSt W (some ad) 0 []) := ⟨fun W _ => seg_nil W (some ad)⟩
      go_wp2_with (first
        | (go_at_call 19; with_reducible refine HA3.out.mono ?_; rintro e w3 ⟨Am, cm, rfl, l4, r4, hb3⟩; have hb30 := below_then hb20 hb20.size hb3; have HS5 := Aside0.mk (HSM.out w3 Am cm hb30 l4 r4.out.1 r4.out.2))
        | (go_at_call 17; with_reducible refine HS5.out.mono ?_; rintro e w4 ⟨A5, c5, rfl, l5, r5, hb4⟩; have hb40 := below_then hb30 hb30.size hb4; have r5 := Aside0.mk r5)
        | (go_at_call 20; with_reducible refine (HT2.out w4 hb40).mono ?_; rintro e w5 ⟨A6, c6, rfl, l6, r6, hb5⟩; have hb50 := below_then hb40 hb40.size hb5; have hb35 := below_then hb4 hb4.size hb5; have HT6 := Aside0.mk (HTM2.out w5 Am cm hb50 (Kd.C_below r4.out.1 hb35) (CapR.below r4.out.2 hb35)))
        | (go_at_call 20; with_reducible refine HT6.out.mono ?_; rintro e w6 ⟨A7, c7, rfl, l7, r7, hb6⟩; have hb60 := below_then hb50 hb50.size hb6; have hb46 := below_then hb5 hb5.size hb6; have hb26 := below_then hb3 hb3.size (below_then hb4 hb4.size hb46); have HE6 := Aside0.mk (HEq.out w6 A6 c6 A7 c7 l6 l7 (Kd.C_below r6.out hb6) r7.out); have HM6 := Aside0.mk (HSm.out w6 A5 (some ad) c5 c3 l5 (Nat.zero_le _) (Kd.C_below r5.out hb46) (SEG.out w6 hb26)))
        | (go_at_call 21; with_reducible refine HM6.out.mono ?_; rintro e w7 ⟨rfl, m7, rfl⟩; have hb67 := pw_below_drewN (Below.refl w6.heap.size w6) m7; have hb70 := below_then hb60 hb60.size hb67; have HE7 := Aside0.mk (HEq.out (w6.drewN m7) A6 c6 A7 c7 l6 l7 (Kd.C_below r6.out (below_then hb6 hb6.size hb67)) (Kd.C_below r7.out hb67)))
        | (go_at_call 22; with_reducible refine HE7.out.mono ?_; rintro e w8 ⟨rfl, hd8⟩; have hb80 := below_then hb70 hb70.size hd8.below)
        | (go_at_call 16; with_reducible refine (HAw.out _ hb80).mono ?_; rintro e w9 ⟨rfl, hb9⟩))
      go_ret
      exact ⟨rfl, below_then hb80 hb80.size hb9⟩
theorem wf_u8 {i : Int} (h : (Lit.int .u8 i).wf = true) : 0 ≤ i ∧ i ≤ 255 := by
  simp [Lit.wf, IntKind.min, IntKind.max, IntKind.signed, IntKind.bits] at h
  omega
set_option maxHeartbeats 8000000 in
theorem planGoes_walk (L : List It) (A : Option Addr) (c : Nat) (hc : L.length ≤ c) (i : Int) (hi : (Lit.int .u8 i).wf = true) (w : World) (ht : Tz w) (hu : Ut w) (hC : Kd.C kIt w A L.length L) (hcap : CapR w A L.length) (hwf : WfL L) :
    Calls Tryz.prog 3 #[.slice A L.length c, .int .u8 i] w fun e w' => e = .returned (.bool true) ∧ Below w.heap.size w w' := by
  obtain ⟨i0, i1⟩ := wf_u8 hi
  have HL := LightM_any 600 (by decide) L A c hc w hC
  simp only [Int.cast_ofNat_Int] at HL
  have HAw := fun W (B : Below w.heap.size w W) => awake17_any W (tz_below ht B) (hu.gr B)
  cases hli : lightM 600 L with
  | false =>
    rw [hli] at HL
    have HL := Aside0.mk HL
    have HAw := Aside0.mk HAw
    clear hC hcap hwf ht hu hi i0 i1
    go_enter Tryz.func3, Tryz.ntmps3
    go_wp2_with (first
      | (go_at_call 15; with_reducible refine HL.out.mono ?_; rintro e w1 ⟨rfl, hb1⟩)
      | (go_at_call 16; with_reducible refine (HAw.out _ hb1).mono ?_; rintro e w2 ⟨rfl, hb2⟩))
    go_ret
    exact ⟨rfl, hb1.trans (hb2.mono hb1.size)⟩
  | true =>
    by_cases h0 : checkN L = 0
    · obtain ⟨n0, rfl⟩ : ∃ n0 : Nat, i = n0 := ⟨i.toNat, by omega⟩
      exact goes_ok L A c hc n0 (by omega) w ht hu hC hcap hwf hli h0
    · rw [hli] at HL
      have HS := fun W (B : Below w.heap.size w W) => Steps_no L A c hc W (tz_below ht B) (hu.gr B) (Kd.C_below hC B) (CapR.below hcap B) hwf h0
      have HK := fun W (B : Below w.heap.size w W) => check_any L A c W (Kd.C_below hC B) hwf
      have hne : (checkN L != 0) = true := by rw [bne_iff_ne]; exact h0
      have hee : (checkN L == checkN L) = true := beq_self_eq_true _
      generalize checkN L = y at HS HK hne hee
      have HL := Aside0.mk HL
      have HS := Aside0.mk HS
      have HK := Aside0.mk HK
      have HAw := Aside0.mk HAw
      clear hC hcap hwf ht hu hli h0 hi i0 i1
      go_enter Tryz.func3, Tryz.ntmps3
      go_wp2_with (first
        | (go_at_call 15; with_reducible refine HL.out.mono ?_; rintro e w1 ⟨rfl, hb1⟩)
        | (go_at_call 17; with_reducible refine (HS.out _ hb1).mono ?_; rintro e w2 ⟨A4, c4, rfl, hb2⟩; have hb20 := below_then hb1 hb1.size hb2)
        | (go_at_call 18; with_reducible refine (HK.out _ hb20).mono ?_; rintro e w3 ⟨rfl, hb3⟩; have hb30 := below_then hb20 hb20.size hb3)
        | (go_at_call 16; with_reducible refine (HAw.out _ hb30).mono ?_; rintro e w4 ⟨rfl, hb4⟩))
      go_ret
      exact ⟨rfl, below_then hb30 hb30.size hb4⟩
end Go.Proofs.YthlflglkdaainaaGreatDoor.Tr
