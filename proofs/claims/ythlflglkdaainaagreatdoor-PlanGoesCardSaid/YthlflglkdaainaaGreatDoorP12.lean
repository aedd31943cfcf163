import Derived.Test.YthlflglkdaainaaGreatDoorP11
/- gessoref17.SameSteps. -/
set_option maxRecDepth 100000
namespace Go.Proofs.YthlflglkdaainaaGreatDoor.Tr
open Go.RowKit Go.Lib Go.Maps Go.Proofs.YthlflglkdaainaaGreatDoorW.PrintWords Go.Proofs.YthlflglkdaainaaGreatDoorW.PrintLast Go.Proofs.YthlflglkdaainaaGreatDoorW.PrintMore Go.Proofs.YthlflglkdaainaaGreatDoor.Prt

theorem same11_st (a b : List ByteArray) (hb : a.length ≤ 100000) (A B : Option Addr) (c d : Nat) (hc : a.length ≤ c) (hd : b.length ≤ d) (w : World) (hA : Kd.C Kd.string w A a.length a) (hB : Kd.C Kd.string w B b.length b) :
    Calls Tryz.prog 52 #[.slice A a.length c, .slice B b.length d] w fun e w' => e = .returned (.bool (decide (a = b))) ∧ Drawn0 w w' := by
  obtain ⟨k, hk⟩ := (Same11_ev a b hb).rounds
  exact gessoref11_Same.calls k A c a B d b _ w hA hc hB hd hk
theorem st_rd {X : List St} {i : Nat} (hi : i < X.length) : rd_T67 X (i : Int) = X[i] := by
  unfold rd_T67
  rw [Int.toNat_natCast, List.getD_eq_getElem?_getD, List.getElem?_eq_getElem hi]; rfl
theorem st_ext {x y : St} (h0 : x.f0 = y.f0) (h1 : x.f1 = y.f1) (h2 : x.f2 = y.f2) : x = y := by
  cases x; cases y; simp at h0 h1 h2; subst h0; subst h1; subst h2; rfl

set_option maxHeartbeats 8000000 in
theorem SameSteps_any (X Y : List St) (r : Bool) (hr : r = true ↔ X = Y) (hX : ∀ x ∈ X, x.f1.length ≤ 100000) (A B : Option Addr) (c d : Nat) (hc : X.length ≤ c) (hd : Y.length ≤ d) (w : World) (hA : Kd.C kSt w A X.length X) (hB : Kd.C kSt w B Y.length Y) :
    Calls Tryz.prog 21 #[.slice A X.length c, .slice B Y.length d] w fun e w' => e = .returned (.bool r) ∧ ∃ m, w' = w.drewN m := by
  have hu67 := Tryz.underlying67
  by_cases hl : X.length = Y.length
  · have hlb : ((X.length : Int) != (Y.length : Int)) = false := by rw [hl]; simp
    have HA := Aside0.mk hA
    have HB := Aside0.mk hB
    have HX := Aside0.mk hX
    have h63 := hA.2.1
    have hll := Aside0.mk hl
    have HR := Aside0.mk hr
    clear hA hB hX hr
    have hlz : (X.length : Int) = (Y.length : Int) := by omega
    clear hl
    go_enter Tryz.func21, Tryz.ntmps21
    go_wp2
    go_loopg [5] X.length (fun gg v5 wr => ∃ k : Nat, k ≤ X.length ∧ X.length - k ≤ gg ∧ v5 = .int .i64 k ∧ Aside0 (∃ m, wr = w.drewN m) ∧ Aside0 (X.take k = Y.take k))
    case atStart => exact ⟨0, Nat.zero_le _, by omega, rfl, ⟨0, rfl⟩, ⟨rfl⟩⟩
    case round =>
      obtain ⟨k, hk, hg, rfl, HM, HT⟩ := hrel
      by_cases hlt : k < X.length
      · have hltz : (k : Int) < (X.length : Int) := by omega
        have hlt2 : k < Y.length := by have := hll.out; omega
        have hltz2 : (k : Int) < (Y.length : Int) := by omega
        obtain ⟨m, hm⟩ := HM.out
        have hbw : Below w.heap.size w wr := by rw [hm]; exact pw_below_drewN (Below.refl _ _) m
        replace hm := Aside0.mk hm
        obtain ⟨ad, A3, c3, rfl, x0, x1, x2, x3, x4⟩ := at_T67 (Kd.C_below HA.out hbw) (k : Int) (by omega) hltz
        obtain ⟨ae, A4, c4, rfl, y0, y1, y2, y3, y4⟩ := at_T67 (Kd.C_below HB.out hbw) (k : Int) (by omega) hltz2
        rw [Int.toNat_natCast] at x0 x1 x2 y0 y1 y2
        rw [st_rd hlt] at x0 x1 x2 x3 x4
        rw [st_rd hlt2] at y0 y1 y2 y3 y4
        have hpx := HX.out _ (List.getElem_mem hlt)
        have hnext : X[k] = Y[k] → X.take (k + 1) = Y.take (k + 1) := fun e => by
          rw [List.take_succ_eq_append_getElem hlt, List.take_succ_eq_append_getElem hlt2, HT.out, e]
        have hoff : X[k] ≠ Y[k] → r = false := fun e => by
          rw [← Bool.not_eq_true, HR.out]
          intro e2
          subst e2
          exact e rfl
        replace hnext := Aside0.mk hnext
        have hoff := Aside0.mk hoff
        have hm2 : ∃ m2, wr.drew = w.drewN m2 := ⟨m + 1, by rw [hm.out]; first | rfl | simp⟩
        have hbW : Below wr.heap.size wr wr.drew := Below.drew (Below.refl _ _)
        have HS := fun (c3' : Nat) => same11_st X[k].f1 Y[k].f1 hpx A3 A4 c3 c4 x3 y3 wr.drew (Kd.C_below x4 hbW) (Kd.C_below y4 hbW)
        replace HS := Aside0.mk (HS 0)
        clear x3 x4 y3 y4 hpx HA HB HX HT HM
        generalize X[k] = x at *
        generalize Y[k] = y at *
        obtain ⟨xa, xp, xt⟩ := x
        obtain ⟨ya, yp, yt⟩ := y
        go_upto_region 6 with (fail)
        by_cases h0 : xa = ya
        · subst h0
          by_cases h2 : (xt.toList == yt.toList) = true
          · have e2 : xt = yt := str_inj (by simpa using h2)
            subst e2
            have h2n : (xt.toList == xt.toList) = true := h2
            clear h2
            obtain ⟨q, hq⟩ : ∃ q : Bool, q = decide (xp = yp) := ⟨_, rfl⟩
            change Aside0 (Calls _ _ _ _ fun e w' => e = .returned (.bool (decide (xp = yp))) ∧ _) at HS
            rw [← hq] at HS
            have hql := Aside0.mk hq
            clear hq
            refine wp_region_noPanic (wp_region_held_drew (S := fun W => ∃ m, W = wr.drewN m) (by kernel_rfl) ⟨1, rfl⟩ (fun hHeld => ?_))
            refine wpAnyH_range (fuel := 3) (lo := 0) (n := 35) (by kernel_rfl) (by decide) hHeld ?_
            repeat (first
              | (refine seqR_skip rfl ?_; try simp only [Act.put, List.setIfInBounds_toArray, List.set_cons_zero, List.set_cons_succ])
              | (apply seqR_take
                 · exact rfl
                 · (intro w hSw; obtain ⟨m, rfl⟩ := hSw; go_simp; exact rfl)
                 try simp only [Act.put, List.setIfInBounds_toArray, List.set_cons_zero, List.set_cons_succ]))
            try refine seqR_end ?_
            refine wpAnyH_ready (fuel := 2) (rs := [35]) (by kernel_rfl) (by simp) ?_
            refine AllReadyH.cons rfl (fun K hK => ?_) AllReadyH.nil
            go_simp
            go_at_call 52
            refine HS.out.mono ?_
            rintro e w5 ⟨rfl, m5, rfl⟩
            refine hK.out _ _ ⟨1 + m5, by first | rfl | simp⟩ (fun hHeld5 => ?_)
            clear hK K
            try simp only [Act.put, List.setIfInBounds_toArray, List.set_cons_zero, List.set_cons_succ]
            refine wpAnyH_range (fuel := 0) (lo := 36) (n := 2) (by kernel_rfl) (by decide) hHeld5 ?_
            repeat (first
              | (refine seqR_skip rfl ?_; try simp only [Act.put, List.setIfInBounds_toArray, List.set_cons_zero, List.set_cons_succ])
              | (apply seqR_take
                 · exact rfl
                 · (intro w hSw; obtain ⟨m, rfl⟩ := hSw; go_simp; exact rfl)
                 try simp only [Act.put, List.setIfInBounds_toArray, List.set_cons_zero, List.set_cons_succ]))
            try refine seqR_end ?_
            refine wpAnyH_done (by kernel_rfl) ?_ _
            refine NoPanic.normal ?_
            have hm3 : ∃ m3, wr.drewN (1 + m5) = w.drewN m3 := ⟨m + (1 + m5), by rw [hm.out]; simp [World.drewN, Nat.add_assoc]⟩
            cases q with
            | true =>
              go_wp2
              go_roundg (X.length - (k + 1))
              case measure => omega
              case rel => exact ⟨k + 1, by omega, by omega, by go_num, ⟨hm3⟩, ⟨hnext.out (by rw [of_decide_eq_true hql.out.symm])⟩⟩
            | false =>
              obtain rfl : r = false := hoff.out (fun e => by
                have := congrArg S67.f1 e
                exact absurd this (of_decide_eq_false hql.out.symm))
              go_wp2
              go_ret
              exact ⟨rfl, hm3⟩
          · obtain rfl : r = false := hoff.out (fun e => by
              have := congrArg S67.f2 e
              exact h2 (by simpa using congrArg ByteArray.toList this))
            rw [Bool.not_eq_true] at h2
            refine wp_region_seq (by kernel_rfl) (by kernel_rfl) ?_
            repeat (first
              | (refine seqW_skip rfl ?_; try simp only [Act.put, List.setIfInBounds_toArray, List.set_cons_zero, List.set_cons_succ])
              | (apply seqW_take
                 · exact rfl
                 · (intro w hSw; obtain ⟨m, rfl⟩ := hSw; go_simp; exact rfl)
                 try simp only [Act.put, List.setIfInBounds_toArray, List.set_cons_zero, List.set_cons_succ]))
            try refine seqW_end ?_
            try refine seqW_end ?_
            go_wp2
            go_ret
            exact ⟨rfl, hm2⟩
        · obtain rfl : r = false := hoff.out (fun e => h0 (congrArg S67.f0 e))
          have hx : ya = !xa := by cases xa <;> cases ya <;> simp at h0 ⊢
          subst hx
          clear h0
          cases xa
          all_goals
            refine wp_region_seq (by kernel_rfl) (by kernel_rfl) ?_
            repeat (first
              | (refine seqW_skip rfl ?_; try simp only [Act.put, List.setIfInBounds_toArray, List.set_cons_zero, List.set_cons_succ])
              | (apply seqW_take
                 · exact rfl
                 · (intro w hSw; obtain ⟨m, rfl⟩ := hSw; go_simp; exact rfl)
                 try simp only [Act.put, List.setIfInBounds_toArray, List.set_cons_zero, List.set_cons_succ]))
            try refine seqW_end ?_
            try refine seqW_end ?_
            go_wp2
            go_ret
            exact ⟨rfl, hm2⟩
      · obtain rfl : k = X.length := by omega
        have he : X = Y := by
          have := HT.out
          rw [List.take_length, hll.out, List.take_length] at this
          exact this
        have hm := HM.out
        obtain rfl : r = true := HR.out.2 he
        clear he HR
        go_wp2
        go_ret
        exact ⟨rfl, hm⟩
  · have hlb : ((X.length : Int) != (Y.length : Int)) = true := by rw [bne_iff_ne]; omega
    obtain rfl : r = false := by
      rw [← Bool.not_eq_true, hr]
      intro e
      exact hl (by rw [e])
    clear hA hB hX hr hl
    go_enter Tryz.func21, Tryz.ntmps21
    go_wp2
    go_ret
    exact ⟨rfl, 0, rfl⟩
end Go.Proofs.YthlflglkdaainaaGreatDoor.Tr
