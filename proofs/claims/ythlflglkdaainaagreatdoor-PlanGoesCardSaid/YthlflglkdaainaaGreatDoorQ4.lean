import Derived.Test.YthlflglkdaainaaGreatDoorQ3
/- The walk of PlanOnce. -/
set_option maxRecDepth 100000
namespace Go.Proofs.YthlflglkdaainaaGreatDoor.Tr
open Go.RowKit Go.Lib Go.Maps Go.Proofs.YthlflglkdaainaaGreatDoorW.PrintWords Go.Proofs.YthlflglkdaainaaGreatDoorW.PrintLast Go.Proofs.YthlflglkdaainaaGreatDoorW.PrintMore Go.Proofs.YthlflglkdaainaaGreatDoor.Prt

theorem stp_facts {L : List It} (h0 : checkN L = 0) {x : St} (hx : x ∈ stpT L) : ∃ k : Nat, k < L.length ∧ x.f1 = pathN L k ∧ (x.f0 = false → x.f2 = ⟨#[]⟩) ∧ (x.f2 = ⟨#[]⟩ ∨ x.f2 = (jNm L (itA L k)).1) := by
  unfold stpT at hx
  rw [if_pos h0] at hx
  obtain ⟨k, hk, h | h⟩ := st_mem ((sortSt_perm _).subset hx)
  · have e := (stD_mem h).1
    subst e
    exact ⟨k, hk, rfl, fun _ => rfl, .inl rfl⟩
  · have e := (stN_mem h).1
    subst e
    exact ⟨k, hk, rfl, (fun h => by cases h), .inr rfl⟩
theorem stp_wf {L : List It} (h0 : checkN L = 0) (hwf : WfL L) {x : St} (hx : x ∈ stpT L) : x.f2.size ≤ maxLen := by
  obtain ⟨k, hk, _, _, e | e⟩ := stp_facts h0 hx
  · rw [e]; decide
  · have hq := turn_wf hwf h0 _ (it_mem' (L := turnL L) (j := k) (by rw [turn_len]; exact hk))
    rw [turn_at hk] at hq
    rw [e]
    exact hq.2.2.1
theorem stp_small {L : List It} (h0 : checkN L = 0) {x : St} (hx : x ∈ stpT L) : x.f1.length ≤ 100000 := by
  obtain ⟨k, hk, e, _⟩ := stp_facts h0 hx
  have hl := (check_ok (show checkN L ≠ 14 by rw [h0]; decide)).1
  rw [e]
  have := path_len L k
  omega
theorem stp_find {L : List It} (h0 : checkN L = 0) {x : St} (hx : x ∈ stpT L) : 0 ≤ findT L x.f1 := by
  obtain ⟨k, hk, e, _⟩ := stp_facts h0 hx
  rw [e, find_path (by rw [h0]; decide) hk]
  omega
theorem stp_ne {L : List It} (h0 : checkN L = 0) {i k : Nat} (hi : i < (stpT L).length) (hk : k < i) : (stpT L)[i] ≠ (stpT L)[k]'(by omega) := by
  have hs : (stpT L).Pairwise (fun x y => ordS x y < 0) := by
    unfold stpT
    rw [if_pos h0]
    exact sortSt_sorted (st_nodup (by rw [h0]; decide))
  have := List.pairwise_iff_getElem.1 hs k i (by omega) hi hk
  intro e
  rw [e] at this
  exact ordS_irr _ this
theorem stp_len {L : List It} : (stpT L).length ≤ 2 * L.length := by
  unfold stpT
  split
  · show (List.mergeSort _ _).length ≤ _
    rw [List.length_mergeSort]
    exact stL_len L L.length
  · simp
theorem add_P (b o n : Nat) : (⟨b, o, none⟩ : Addr).add n = ⟨b, o + n, none⟩ := by
  unfold Addr.add
  by_cases h : n = 0
  · subst h; rfl
  · rw [if_neg h]
theorem seg_C {w : World} {b o : Nat} {X : List St} (h : Kd.C kSt w (some ⟨b, o, none⟩) X.length X) {i : Nat} (hi : i < X.length) : Kd.C kSt w (some ⟨b, o + i * 3, none⟩) 1 [X[i]] := by
  refine ⟨rfl, by decide, fun _ => ⟨_, rfl, fun j p hj => ?_⟩⟩
  match j, hj with
  | 0, hj =>
    cases hj
    obtain ⟨ad, c, e, hcl, hK, hc⟩ := Kd.C_get h z67 (i : Int) (by omega) (by omega)
    cases e
    rw [Int.toNat_natCast] at hK hc
    have ex : X.getD i z67 = X[i] := by rw [List.getD_eq_getElem?_getD, List.getElem?_eq_getElem hi]; rfl
    rw [ex] at hK
    refine ⟨c, hcl, hK, fun j u hj => ?_⟩
    have hc' : w.cell? ((⟨b, o, none⟩ : Addr).add (i * 3 + j)) = some u := hc j u hj
    rw [← hc']
    congr 1
    show (⟨b, o + i * 3, none⟩ : Addr).add (0 * 3 + j) = _
    rw [Nat.zero_mul, Nat.zero_add]
    unfold Addr.add
    by_cases h1 : j = 0
    · subst h1
      by_cases h2 : i * 3 = 0 <;> simp [h2]
    · rw [if_neg h1, if_neg (by omega)]
      show (⟨b, o + i * 3 + j, none⟩ : Addr) = ⟨b, o + (i * 3 + j), none⟩
      rw [Nat.add_assoc]
  | j + 1, hj => simp at hj

set_option maxHeartbeats 16000000 in
theorem once_ok (L : List It) (A : Option Addr) (c : Nat) (hc : L.length ≤ c) (w : World) (ht : Tz w) (hu : Ut w) (hC : Kd.C kIt w A L.length L) (hcap : CapR w A L.length) (hwf : WfL L) (hli : lightM 600 L = true) (h0 : checkN L = 0) :
    Calls Tryz.prog 14 #[.slice A L.length c] w fun e w' => e = .returned (.bool true) ∧ Below w.heap.size w w' := by
  have hu53 := Tryz.underlying53
  have hu67 := Tryz.underlying67
  have HL := LightM_any 600 (by decide) L A c hc w hC
  simp only [Int.cast_ofNat_Int] at HL
  rw [hli] at HL
  have HAw := Aside0.mk (fun W (B : Below w.heap.size w W) => awake17_any W (tz_below ht B) (hu.gr B))
  have HS := fun W (B : Below w.heap.size w W) => Steps_any L A c hc W (tz_below ht B) (hu.gr B) (Kd.C_below hC B) (CapR.below hcap B) hwf
  rw [h0] at HS
  have HF := Aside0.mk (fun (W : World) (B : Below w.heap.size w W) (path : List ByteArray) (Ap : Option Addr) (cp : Nat) (q1 : path.length ≤ cp) (q2 : Kd.C Kd.string W Ap path.length path) => Find_any L A c hc path Ap cp q1 W (Kd.C_below hC B) hwf q2)
  have HA := Aside0.mk (fun (W : World) (B : Below w.heap.size w W) (s : St) (Ap : Option Addr) (cp : Nat) (q1 : s.f1.length ≤ cp) (q2 : Kd.C Kd.string W Ap s.f1.length s.f1) (q3 : s.f2.size ≤ maxLen) => Apply_any L A c hc s Ap cp q1 W (tz_below ht B) (hu.gr B) (Kd.C_below hC B) (CapR.below hcap B) hwf q2 q3)
  have HS2 := Aside0.mk (fun (W : World) (B : Below w.heap.size w W) (M : List It) (Am : Option Addr) (cm : Nat) (q0 : M.length ≤ cm) (q1 : Kd.C kIt W Am M.length M) (q2 : CapR W Am M.length) (q3 : WfL M) => Steps_any M Am cm q0 W (tz_below ht B) (hu.gr B) q1 q2 q3)
  obtain ⟨S, hS⟩ : ∃ S, stpT L = S := ⟨_, rfl⟩
  have hN : Aside0 (∀ (i k : Nat) (hi : i < S.length) (hk : k < i), S[i] ≠ S[k]'(Nat.lt_trans hk hi)) := ⟨by subst hS; exact fun i k hi hk => stp_ne h0 hi hk⟩
  have hFa := Aside0.mk (fun x (hx : x ∈ stpT L) => stp_find h0 hx)
  have hFb := Aside0.mk (fun x (hx : x ∈ stpT L) => stp_facts h0 hx)
  have hsm := Aside0.mk (fun x (hx : x ∈ stpT L) => stp_small h0 hx)
  have hsw := Aside0.mk (fun x (hx : x ∈ stpT L) => stp_wf h0 hwf hx)
  have hO := Aside0.mk (fun s r (hs : stpT L = s :: r) => by
    obtain ⟨M, e1, hM, e2⟩ := one_step h0 hwf hs
    exact (⟨M, e1, e2, half_check hM h0, half_wf hM h0 hwf⟩ : ∃ M, applyT L s = (M, 0) ∧ stpT M = r ∧ checkN M = 0 ∧ WfL M))
  have hsl := stp_len (L := L)
  have hl64 := (check_ok (show checkN L ≠ 14 by rw [h0]; decide)).1
  have HL := Aside0.mk HL
  have HS := Aside0.mk HS
  clear hC hcap hwf ht hu hli
  rw [hS] at HS hFa hFb hsm hsw hO hsl
  clear hS
  go_enter Tryz.func14, Tryz.ntmps14
  go_wp2_with (first
    | (go_at_call 15; with_reducible refine HL.out.mono ?_; rintro e w1 ⟨rfl, hb1⟩)
    | (go_at_call 17; with_reducible refine (HS.out _ hb1).mono ?_; rintro e w2 ⟨A3, c3, rfl, l3, r3, hb2⟩; have hb20 := below_then hb1 hb1.size hb2))
  have R3 := Aside0.mk r3
  clear HL HS
  have h63 := r3.2.1
  have hform : 0 < S.length → ∃ b o, A3 = some ⟨b, o, none⟩ := fun hp => by
    obtain ⟨ad, _, _, hA, x0, _⟩ := at_T67 r3 ((0 : Nat) : Int) (by omega) (by omega)
    obtain ⟨b, o, sp⟩ := ad
    have hs : sp = none := by simpa [Addr.add] using World.cell?_spot x0
    subst hs
    exact ⟨b, o, hA⟩
  clear r3
  go_loopg [5] S.length (fun gg v5 wr => ∃ i : Nat, i ≤ S.length ∧ S.length - i ≤ gg ∧ v5 = .int .i64 i ∧ Aside0 (Below w2.heap.size w2 wr))
  case atStart => exact ⟨0, Nat.zero_le _, by omega, rfl, ⟨Below.refl _ _⟩⟩
  case round =>
    obtain ⟨i, hi, hg, rfl, HB⟩ := hrel
    by_cases hlt : i < S.length
    · have hltz : (i : Int) < (S.length : Int) := by omega
      obtain ⟨b, o, hA3⟩ := hform (by omega)
      subst hA3
      clear hform
      go_wp2
      obtain ⟨wo, hwo⟩ : ∃ wo, wo = wr := ⟨wr, rfl⟩
      go_loopg [6] i (fun gg v6 wr => ∃ k : Nat, k ≤ i ∧ i - k ≤ gg ∧ v6 = .int .i64 k ∧ Aside0 (Below w2.heap.size w2 wr))
      case atStart => exact ⟨0, Nat.zero_le _, by omega, rfl, HB⟩
      case round =>
        obtain ⟨k, hk, hgk, rfl, HB⟩ := hrel
        by_cases hlk : k < i
        · have hlkz : (k : Int) < (i : Int) := by omega
          have hbw := below_then hb20 hb20.size HB.out
          have hsame := SameSteps_any [S[i]] [S[k]'(Nat.lt_trans hlk hlt)] false ⟨(fun h => by cases h), fun h => absurd (List.cons.inj h).1 (hN.out i k hlt hlk)⟩ (fun x hx => by rw [List.mem_singleton.1 hx]; exact hsm.out _ (List.getElem_mem hlt)) (some ⟨b, o + i * 3, none⟩) (some ⟨b, o + k * 3, none⟩) (c3 - i) (c3 - k) (by show 1 ≤ _; omega) (by show 1 ≤ _; omega) wr.drew (seg_C (Kd.C_below R3.out (Below.drew HB.out)) hlt) (seg_C (Kd.C_below R3.out (Below.drew HB.out)) (Nat.lt_trans hlk hlt))
          have HSm := Aside0.mk hsame
          clear hsame
          go_upto_region 12 with (fail)
          refine wp_region_noPanic (wp_region_held_drew (S := fun W => ∃ m, W = wr.drewN m) (by kernel_rfl) ⟨1, rfl⟩ (fun hHeld => ?_))
          have wi : IntKind.i64.wrap ((i : Int) + 1) = (i : Int) + 1 := wrapI (by omega) (by omega)
          have wk : IntKind.i64.wrap ((k : Int) + 1) = (k : Int) + 1 := wrapI (by omega) (by omega)
          have ti : ((i : Int) + 1).toNat = i + 1 := by omega
          have tk : ((k : Int) + 1).toNat = k + 1 := by omega
          have ci : ¬ c3 = i := by omega
          have ck : ¬ c3 = k := by omega
          have bi : (i : Int) + 1 ≤ (c3 : Int) := by omega
          have bk : (k : Int) + 1 ≤ (c3 : Int) := by omega
          have pi0 : (0 : Int) ≤ (i : Int) + 1 := by omega
          have pk0 : (0 : Int) ≤ (k : Int) + 1 := by omega
          have si : i + 1 - i = 1 := by omega
          have sk : k + 1 - k = 1 := by omega
          refine wpAnyH_range (fuel := 1) (lo := 0) (n := 10) (by kernel_rfl) (by decide) hHeld ?_
          repeat (first
            | (refine seqR_skip rfl ?_; try simp only [Act.put, List.setIfInBounds_toArray, List.set_cons_zero, List.set_cons_succ])
            | (apply seqR_take
               · exact rfl
               · (intro w hSw; obtain ⟨m, rfl⟩ := hSw; go_simp; exact rfl)
               try simp only [Act.put, List.setIfInBounds_toArray, List.set_cons_zero, List.set_cons_succ]))
          try refine seqR_end ?_
          refine wpAnyH_ready (fuel := 0) (rs := [10]) (by kernel_rfl) (by simp) ?_
          refine AllReadyH.cons rfl (fun K hK => ?_) AllReadyH.nil
          go_simp
          go_at_call 21
          refine HSm.out.mono ?_
          rintro e w5 ⟨rfl, m5, rfl⟩
          refine hK.out _ _ ⟨1 + m5, by first | rfl | simp⟩ (fun hHeld5 => ?_)
          clear hK K
          try simp only [Act.put, List.setIfInBounds_toArray, List.set_cons_zero, List.set_cons_succ]
          refine wpAnyH_done (by kernel_rfl) ?_ _
          refine NoPanic.normal ?_
          go_wp2
          go_roundg (i - (k + 1))
          case measure => omega
          case rel => exact ⟨k + 1, by omega, by omega, by go_num, ⟨pw_below_drewN HB.out _⟩⟩
        · obtain rfl : i = k := by omega
          have hsi : S[i] ∈ S := List.getElem_mem hlt
          obtain ⟨ad, Ax, cx, hA, x0, x1, x2, x3, x4⟩ := at_T67 (Kd.C_below R3.out HB.out) (i : Int) (by omega) hltz
          cases hA
          rw [Int.toNat_natCast, add_P] at x0 x1 x2
          rw [st_rd hlt] at x0 x1 x2 x3 x4
          have hbw := below_then hb20 hb20.size HB.out
          have HFi := Aside0.mk (HF.out wr hbw S[i].f1 Ax cx x3 x4)
          have hy := hFa.out _ hsi
          obtain ⟨_, _, _, hto, _⟩ := hFb.out _ hsi
          have hto := Aside0.mk hto
          have XX : Aside0 (∀ W, Below wr.heap.size wr W → W.cell? ⟨b, o + i * 3, none⟩ = some (.bool S[i].f0) ∧ W.cell? ⟨b, o + i * 3 + 2, none⟩ = some (.string S[i].f2)) := ⟨fun W B => ⟨(B.cell (World.block_lt_of_cell? wr _ x0)).trans x0, (B.cell (World.block_lt_of_cell? wr _ x2)).trans x2⟩⟩
          clear x3 x4 hsi hN hFa hFb hsm hsw hO HF
          generalize S[i] = x at *
          generalize findT L x.f1 = y at HFi hy
          obtain ⟨xa, xp, xt⟩ := x
          have hyn : ¬ y < 0 := by omega
          cases xa with
          | true =>
            clear hto
            go_wp2_with (go_at_call 37; with_reducible refine HFi.out.mono ?_; rintro e w4 ⟨rfl, hb4⟩; obtain ⟨z0, z2⟩ := XX.out w4 hb4)
            go_roundg (S.length - (i + 1))
            case measure => omega
            case rel => exact ⟨i + 1, by omega, by omega, by go_num, ⟨below_then HB.out HB.out.size hb4⟩⟩
          | false =>
            obtain rfl : xt = ⟨#[]⟩ := hto.out rfl
            clear hto
            go_wp2_with (go_at_call 37; with_reducible refine HFi.out.mono ?_; rintro e w4 ⟨rfl, hb4⟩; obtain ⟨z0, z2⟩ := XX.out w4 hb4)
            go_roundg (S.length - (i + 1))
            case measure => omega
            case rel => exact ⟨i + 1, by omega, by omega, by go_num, ⟨below_then HB.out HB.out.size hb4⟩⟩
    · obtain rfl : i = S.length := by omega
      have hbw := below_then hb20 hb20.size HB.out
      clear hN hFa hFb hsm HF
      cases S with
      | nil =>
        have hbw := Aside0.mk hbw
        clear hO hsw HA HS2 R3 HB hform
        go_wp2_with (go_at_call 16; with_reducible refine (HAw.out _ hbw.out).mono ?_; rintro e w4 ⟨rfl, hb4⟩)
        go_ret
        exact ⟨rfl, below_then hbw.out hbw.out.size hb4⟩
      | cons s r =>
        obtain ⟨M, e1, e2, e3, e4⟩ := hO.out s r rfl
        have hr : (s :: r).length = r.length + 1 := rfl
        obtain ⟨ad, Ax, cx, hA, x0, x1, x2, x3, x4⟩ := at_T67 (Kd.C_below R3.out HB.out) ((0 : Nat) : Int) (by omega) (by rw [hr]; omega)
        obtain ⟨b, o, hA3⟩ := hform (by rw [hr]; omega)
        subst hA3
        cases hA
        rw [Int.toNat_natCast, add_P, Nat.zero_mul] at x0 x1 x2
        change (wr.cell? ⟨b, o, none⟩ = some (.bool s.f0)) at x0
        change (wr.cell? ⟨b, o + 1, none⟩ = some (.slice Ax s.f1.length cx)) at x1
        change (wr.cell? ⟨b, o + 2, none⟩ = some (.string s.f2)) at x2
        change (s.f1.length ≤ cx) at x3
        change (Kd.string.C wr Ax s.f1.length s.f1) at x4
        have HA1 := HA.out wr hbw s Ax cx x3 x4 (hsw.out s List.mem_cons_self)
        rw [e1] at HA1
        have HA2 : Aside0 (Calls Tryz.prog 35 #[.slice A L.length c, .agg #[.bool s.f0, .slice Ax s.f1.length cx, .string s.f2]] wr fun e w' => ∃ Am cm, e = .returned (.tuple #[.slice Am M.length cm, .int .i64 0]) ∧ M.length ≤ cm ∧ Aside0 (Kd.C kIt w' Am M.length M ∧ CapR w' Am M.length) ∧ Below wr.heap.size wr w') := ⟨HA1.mono fun e w' h => by
          obtain ⟨v, rfl, q1, q2⟩ := h
          obtain ⟨Am, cm, rfl⟩ := Kd.R_slice q1
          obtain ⟨_, q3, q4⟩ := Kd.R_reads' q1
          exact ⟨Am, _, rfl, q3, ⟨q4, cap_of_R q1⟩, q2⟩⟩
        have HS3 := Aside0.mk (fun W B Am cm q0 q1 q2 => HS2.out W B M Am cm q0 q1 q2 e4)
        rw [e2, e3] at HS3
        have hbw := Aside0.mk hbw
        have wsub : IntKind.i64.wrap (((r.length + 1 : Nat) : Int) - 1) = (r.length : Int) := by
          rw [show (((r.length + 1 : Nat) : Int) - 1) = (r.length : Int) by omega]
          exact wrapI (by omega) (by rw [hr] at h63; omega)
        have wsub2 : IntKind.i64.wrap ((r.length : Int) + 1 - 1) = (r.length : Int) := by
          rw [show ((r.length : Int) + 1 - 1) = (r.length : Int) by omega]
          exact wrapI (by omega) (by rw [hr] at h63; omega)
        have wmul : IntKind.i64.wrap (2 * (L.length : Int)) = 2 * (L.length : Int) := wrapI (by omega) (by omega)
        have hle : ((r.length : Int) + 1) ≤ 2 * (L.length : Int) := by rw [hr] at hsl; omega
        have hle2 : (((r.length + 1 : Nat) : Int)) ≤ 2 * (L.length : Int) := by omega
        clear hO hsw HA HS2 R3 HB hform e1 e2 e3 e4 HA1 x3 x4 hsl
        go_wp2_with (first
          | (go_at_call 35; with_reducible refine HA2.out.mono ?_; rintro e w4 ⟨Am, cm, rfl, l4, r4, hb4⟩; have hb40 := below_then hbw.out hbw.out.size hb4; have HS4 := HS3.out w4 hb40 Am cm l4 r4.out.1 r4.out.2)
          | (go_at_call 17; with_reducible refine HS4.mono ?_; rintro e w5 ⟨A5, c5, rfl, l5, r5, hb5⟩; have hb50 := below_then hb40 hb40.size hb5)
          | (go_at_call 16; with_reducible refine (HAw.out _ hb50).mono ?_; rintro e w6 ⟨rfl, hb6⟩))
        go_ret
        exact ⟨rfl, below_then hb50 hb50.size hb6⟩
/-- No tree: no steps. -/
theorem Steps_no (L : List It) (A : Option Addr) (c : Nat) (hc : L.length ≤ c) (w : World) (ht : Tz w) (hu : Ut w) (hC : Kd.C kIt w A L.length L) (hcap : CapR w A L.length) (hwf : WfL L) (h0 : checkN L ≠ 0) :
    Calls Tryz.prog 17 #[.slice A L.length c] w fun e w' => ∃ A3 c3, e = .returned (.tuple #[.slice A3 0 c3, .int .i64 (checkN L)]) ∧ Below w.heap.size w w' := by
  have h := Steps_any L A c hc w ht hu hC hcap hwf
  have he : stpT L = [] := if_neg h0
  rw [he] at h
  refine h.mono fun e w' h => ?_
  obtain ⟨A3, c3, rfl, _, _, hb⟩ := h
  exact ⟨A3, c3, rfl, hb⟩
set_option maxHeartbeats 8000000 in
theorem planOnce_walk (L : List It) (A : Option Addr) (c : Nat) (hc : L.length ≤ c) (w : World) (ht : Tz w) (hu : Ut w) (hC : Kd.C kIt w A L.length L) (hcap : CapR w A L.length) (hwf : WfL L) :
    Calls Tryz.prog 14 #[.slice A L.length c] w fun e w' => e = .returned (.bool true) ∧ Below w.heap.size w w' := by
  have HL := LightM_any 600 (by decide) L A c hc w hC
  simp only [Int.cast_ofNat_Int] at HL
  have HAw := fun W (B : Below w.heap.size w W) => awake17_any W (tz_below ht B) (hu.gr B)
  cases hli : lightM 600 L with
  | false =>
    rw [hli] at HL
    have HL := Aside0.mk HL
    have HAw := Aside0.mk HAw
    clear hC hcap hwf ht hu
    go_enter Tryz.func14, Tryz.ntmps14
    go_wp2_with (first
      | (go_at_call 15; with_reducible refine HL.out.mono ?_; rintro e w1 ⟨rfl, hb1⟩)
      | (go_at_call 16; with_reducible refine (HAw.out _ hb1).mono ?_; rintro e w2 ⟨rfl, hb2⟩))
    go_ret
    exact ⟨rfl, hb1.trans (hb2.mono hb1.size)⟩
  | true =>
    by_cases h0 : checkN L = 0
    · exact once_ok L A c hc w ht hu hC hcap hwf hli h0
    · rw [hli] at HL
      have HS := fun W (B : Below w.heap.size w W) => Steps_no L A c hc W (tz_below ht B) (hu.gr B) (Kd.C_below hC B) (CapR.below hcap B) hwf h0
      have hne : (checkN L != 0) = true := by rw [bne_iff_ne]; exact h0
      generalize checkN L = y at HS hne
      have HL := Aside0.mk HL
      have HS := Aside0.mk HS
      have HAw := Aside0.mk HAw
      clear hC hcap hwf ht hu hli h0
      go_enter Tryz.func14, Tryz.ntmps14
      go_wp2_with (first
        | (go_at_call 15; with_reducible refine HL.out.mono ?_; rintro e w1 ⟨rfl, hb1⟩)
        | (go_at_call 17; with_reducible refine (HS.out _ hb1).mono ?_; rintro e w2 ⟨A4, c4, rfl, hb2⟩; have hb20 := below_then hb1 hb1.size hb2)
        | (go_at_call 16; with_reducible refine (HAw.out _ hb20).mono ?_; rintro e w4 ⟨rfl, hb4⟩))
      go_ret
      exact ⟨rfl, below_then hb20 hb20.size hb4⟩
end Go.Proofs.YthlflglkdaainaaGreatDoor.Tr
