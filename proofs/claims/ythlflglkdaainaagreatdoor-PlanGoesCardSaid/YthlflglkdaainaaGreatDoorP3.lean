import Derived.Test.YthlflglkdaainaaGreatDoorP2
import Derived.Test.YthlflglkdaainaaGreatDoorP4
import Derived.Test.YthlflglkdaainaaGreatDoorStep
import Derived.Test.YthlflglkdaainaaGreatDoorPY
import Derived.Test.YthlflglkdaainaaGreatDoorMiss
/- The walk of plan.Steps. -/
set_option maxRecDepth 100000
namespace Go.Proofs.YthlflglkdaainaaGreatDoor.Tr
open Go.RowKit Go.Lib Go.Maps Go.Proofs.YthlflglkdaainaaGreatDoorW.PrintWords Go.Proofs.YthlflglkdaainaaGreatDoorW.PrintLast Go.Proofs.YthlflglkdaainaaGreatDoorW.PrintMore Go.Proofs.YthlflglkdaainaaGreatDoor.Prt

/-- The steps of one item: its data, its name. -/
noncomputable def stD (L : List It) (k : Nat) : List St := if (itA L k).f2 then [] else if (jDt (itA L k)).1 = (itA L k).f3 then [] else [⟨false, pathN L k, ⟨#[]⟩⟩]
noncomputable def stN (L : List It) (k : Nat) : List St := if (jNm L (itA L k)).1.toList == (itA L k).f1.toList then [] else [⟨true, pathN L k, (jNm L (itA L k)).1⟩]
noncomputable def stL (L : List It) (k : Nat) : List St := (List.range k).flatMap fun i => stD L i ++ stN L i
theorem stD_b (L : List It) (k : Nat) : stD L k = if (!(itA L (k : Int)).f2 && !decide ((jDt (itA L (k : Int))).1 = (itA L (k : Int)).f3)) = true then [⟨false, pathN L k, ⟨#[]⟩⟩] else [] := by
  unfold stD
  cases (itA L (k : Int)).f2 <;> by_cases h : (jDt (itA L (k : Int))).1 = (itA L (k : Int)).f3 <;> simp [h]
theorem stL_snoc (L : List It) (k : Nat) : stL L (k + 1) = (stL L k ++ stD L k) ++ stN L k := by
  unfold stL
  rw [List.range_succ, List.flatMap_append, List.flatMap_singleton, List.append_assoc]
theorem stD_len (L : List It) (k : Nat) : (stD L k).length ≤ 1 := by unfold stD; split <;> (try split) <;> simp
theorem stN_len (L : List It) (k : Nat) : (stN L k).length ≤ 1 := by unfold stN; split <;> simp
theorem stL_len (L : List It) : ∀ k, (stL L k).length ≤ 2 * k
  | 0 => by simp [stL]
  | k + 1 => by
    rw [stL_snoc, List.length_append, List.length_append]
    have := stL_len L k
    have := stD_len L k
    have := stN_len L k
    omega
theorem st_inj {L : List It} (h14 : checkN L ≠ 14) : StInj (stL L L.length) := by
  obtain ⟨_, hd, _⟩ := check_ok h14
  refine inj_of_nodup (nodup_paths (p := fun i => pathN L i) (fun i => ?_) (fun i s hs => ?_) _ List.nodup_range (fun i hi j hj h => path_inj hd L.length i j (by have := List.mem_range.1 hi; omega) (List.mem_range.1 hi) (List.mem_range.1 hj) h))
  · unfold stD stN
    split <;> (try split) <;> (try split) <;> simp [keyS]
  · unfold stD stN at hs
    split at hs <;> (try split at hs) <;> (try split at hs) <;> simp at hs <;> (try (rcases hs with rfl | rfl)) <;> (try subst hs) <;> rfl
theorem infoSt : (Tryz.prog.info? 67).map (fun i => (i.zero, i.size, i.bytes)) = some (some (.agg #[.bool false, .slice none 0 0, .string ⟨#[]⟩]), 3, 48) := by kernel_rfl
/-- What holds in the loop. -/
structure Ps (W0 : World) (v : Value) (X : List St) (wr : World) : Prop where
  below : Below W0.heap.size W0 wr
  out : Kd.R kSt 67 wr W0.heap.size (fun _ => True) v X
theorem ps_on {W0 wr w1 : World} {v : Value} {X : List St} (h : Ps W0 v X wr) (hb : Below wr.heap.size wr w1) : Ps W0 v X w1 := ⟨h.below.trans (hb.mono h.below.size), Kd.R_below h.out hb⟩
set_option maxHeartbeats 16000000 in
theorem steps_ok (L : List It) (A : Option Addr) (c : Nat) (hc : L.length ≤ c) (w : World) (ht : Tz w) (hu : Ut w) (hC : Kd.C kIt w A L.length L) (hcap : CapR w A L.length) (hwf : WfL L) (h0 : checkN L = 0) :
    Calls Tryz.prog 17 #[.slice A L.length c] w fun e w' => ∃ A3 c3, e = .returned (.tuple #[.slice A3 (sortSt (stL L L.length)).length c3, .int .i64 0]) ∧ (sortSt (stL L L.length)).length ≤ c3 ∧ Kd.C kSt w' A3 (sortSt (stL L L.length)).length (sortSt (stL L L.length)) ∧ Below w.heap.size w w' := by
  have hu53 := Tryz.underlying53
  have hu67 := Tryz.underlying67
  have hu48 := Tryz.underlying48
  have HC := Aside0.mk hC
  have h14 : checkN L ≠ 14 := by rw [h0]; decide
  have hl64 := (check_ok h14).1
  have HJ : Aside0 (∀ W, Below w.heap.size w W → Calls Tryz.prog 26 #[.slice A L.length c] W fun e w' => ∃ A4 c4, e = .returned (.tuple #[.slice A4 L.length c4, .int .i64 0]) ∧ Aside0 (Kd.C kVd w' A4 L.length (vdL L)) ∧ Below W.heap.size W w') := ⟨fun W B => (judge_any L A c W (tz_below ht B) (hu.gr B) (Kd.C_below hC B) (CapR.below hcap B) hwf h0).mono fun e w' h => by
    obtain ⟨v, rfl, h1, h2⟩ := h
    obtain ⟨A4, c4, rfl⟩ := Kd.R_slice h1
    have h3 := (Kd.R_reads' h1).2.2
    rw [vdL_len] at h3 ⊢
    exact ⟨A4, c4, rfl, ⟨h3⟩, h2⟩⟩
  have HP : Aside0 (∀ W (i : Nat), i < L.length → Below w.heap.size w W → Calls Tryz.prog 41 #[.slice A L.length c, .int .i64 i] W fun e w' => ∃ Ap np cp, e = .returned (.slice Ap np cp) ∧ Kd.R Kd.string 9 w' W.heap.size (fun _ => True) (.slice Ap np cp) (pathN L i) ∧ Below W.heap.size W w') := ⟨fun W i hi B => by
    have h := Path_any L (i : Int) A c hc W (Kd.C_below hC B) hwf
    rw [tPath_in h14 hi] at h
    refine h.mono fun e w' h => ?_
    obtain ⟨v, rfl, h1, h2⟩ := h
    obtain ⟨Ap, cp, rfl⟩ := Kd.R_slice h1
    exact ⟨Ap, _, cp, rfl, h1, h2⟩⟩
  clear hC hcap hwf ht hu
  go_enter Tryz.func17, Tryz.ntmps17
  go_wp2_with (go_at_call 26; with_reducible refine (HJ.out _ (Below.refl _ _)).mono ?_; rintro e W0 ⟨A4, c4, rfl, hr4, hb0⟩)
  clear HJ
  go_loopg [6, 19] L.length (fun gg v6 v19 wr => ∃ k : Nat, k ≤ L.length ∧ L.length - k ≤ gg ∧ v19 = .int .i64 k ∧ Aside0 (Ps W0 v6 (stL L k) wr))
  case atStart => exact ⟨0, Nat.zero_le _, by omega, rfl, ⟨⟨Below.refl _ _, Kd.R_nil _ _ _ _ _⟩⟩⟩
  case round =>
    obtain ⟨k, hk, hg, rfl, HI⟩ := hrel
    by_cases hlt : k < L.length
    · have hltz : (k : Int) < (L.length : Int) := by omega
      have hbw := hb0.trans (HI.out.below.mono hb0.size)
      obtain ⟨adx, X3, cx, ex, x0, x1, x2, x3, xl, xg⟩ := at_T53 (Kd.C_below HC.out hbw) (k : Int) (by omega) hltz
      obtain ⟨ada, P2, cp, ea, a0, a1, a2, a3, al, ag⟩ := at_T49 (Kd.C_below hr4.out HI.out.below) (k : Int) (by omega) hltz
      rw [Int.toNat_natCast] at x0 x1 x2 x3
      rw [Int.toNat_natCast, rd49 hlt] at a0 a1 a2 a3
      rw [rd49 hlt] at ag al
      obtain ⟨ad9, P9, c9, ea9, b0, _⟩ := at_T49 hr4.out (k : Int) (by omega) hltz
      rw [Int.toNat_natCast, rd49 hlt] at b0
      have e9 := ea.symm.trans ea9
      cases e9
      change (W0.cell? _ = some (.string (jNm L (itA L (k : Int))).1)) at b0
      have A0 := Aside0.mk (fun W (B : Below W0.heap.size W0 W) => (B.cell (World.block_lt_of_cell? W0 _ b0)).trans b0)
      clear b0 ea9
      subst ex ea
      change (wr.cell? _ = some (.string (jNm L (itA L (k : Int))).1)) at a0
      change (wr.cell? _ = some (.slice P2 (jDt (itA L (k : Int))).1.length cp)) at a2
      change (Kd.C (Kd.int .u8) wr P2 (jDt (itA L (k : Int))).1.length (jDt (itA L (k : Int))).1) at ag
      have hsn := Aside0.mk (stL_snoc L k)
      have hln := stL_len L k
      have hld := stD_len L k
      have hB1 := below_alloc (Below.refl wr.heap.size wr) (Obj.cells #[.int .i64 (itA L (k : Int)).f0, .string (itA L (k : Int)).f1, .bool (itA L (k : Int)).f2, .slice X3 (itA L (k : Int)).f3.length cx] 53)
      have hg1 : wr.heap.size < (wr.alloc (Obj.cells #[.int .i64 (itA L (k : Int)).f0, .string (itA L (k : Int)).f1, .bool (itA L (k : Int)).f2, .slice X3 (itA L (k : Int)).f3.length cx] 53)).heap.size := by rw [World.size_alloc]; exact Nat.lt_succ_self _
      have hnew : ∀ j : Nat, (wr.alloc (Obj.cells #[.int .i64 (itA L (k : Int)).f0, .string (itA L (k : Int)).f1, .bool (itA L (k : Int)).f2, .slice X3 (itA L (k : Int)).f3.length cx] 53)).cell? ⟨wr.heap.size, j, none⟩ = (#[.int .i64 (itA L (k : Int)).f0, .string (itA L (k : Int)).f1, .bool (itA L (k : Int)).f2, .slice X3 (itA L (k : Int)).f3.length cx] : Array Value)[j]? := fun j => World.cell?_alloc_new wr _ _ j
      go_upto_region 8 with (fail)
      obtain ⟨W1, hW1⟩ : ∃ x, x = wr.alloc (Obj.cells #[.int .i64 (itA L (k : Int)).f0, .string (itA L (k : Int)).f1, .bool (itA L (k : Int)).f2, .slice X3 (itA L (k : Int)).f3.length cx] 53) := ⟨_, rfl⟩
      rw [← hW1] at hB1 hg1 hnew ⊢
      clear hW1
      replace a0 := (hB1.cell (World.block_lt_of_cell? wr _ a0)).trans a0
      replace a2 := (hB1.cell (World.block_lt_of_cell? wr _ a2)).trans a2
      have n1 := hnew 1
      have n2 := hnew 2
      have n3 := hnew 3
      have HI1 := Aside0.mk (ps_on HI.out hB1)
      have HLt := Aside0.mk (Kd.R_lt HI.out.out)
      have N1 : Aside0 (∀ W, Below W1.heap.size W1 W → W.cell? ⟨wr.heap.size, 1, none⟩ = some (.string (itA L (k : Int)).f1) ∧ wr.heap.size < W.heap.size) := ⟨fun W B => ⟨(B.cell (p := ⟨wr.heap.size, 1, none⟩) hg1).trans n1, Nat.lt_of_lt_of_le hg1 B.size⟩⟩
      have HEq : Aside0 (Calls Tryz.prog 40 #[.slice P2 (jDt (itA L (k : Int))).1.length cp, .slice X3 (itA L (k : Int)).f3.length cx] W1.drew fun e w' => e = .returned (.bool (decide ((jDt (itA L (k : Int))).1 = (itA L (k : Int)).f3))) ∧ ∃ m, w' = W1.drew.drewN m) := ⟨(eqb_any _ _ P2 X3 cp cx _ (Kd.C_below ag (Below.drew hB1)) (Kd.C_below xg (Below.drew hB1))).mono fun e w' h => ⟨h.1, h.2.out⟩⟩
      clear hnew HI ag xg al xl x0 x1 x2 x3 a1 a3
      generalize (jDt (itA L (k : Int))).1.length = nd at a2 HEq
      obtain ⟨bD, hbD⟩ : ∃ b : Bool, b = (!(itA L (k : Int)).f2 && !decide ((jDt (itA L (k : Int))).1 = (itA L (k : Int)).f3)) := ⟨_, rfl⟩
      replace hbD := Aside0.mk hbD
      go_cut [37] from 24 to 37 (fun v37 wc => v37 = .bool bD ∧ Aside0 (Below W1.heap.size W1 wc))
      case first =>
        by_cases hd : (itA L (k : Int)).f2 = true
        · rw [hd] at n2
          have hf : Aside0 (bD = false) := ⟨by rw [hbD.out, hd]; rfl⟩
          clear hd
          refine wp_region_seq (by kernel_rfl) (by kernel_rfl) ?_
          repeat (first
            | (refine seqW_skip rfl ?_; try simp only [Act.put, List.setIfInBounds_toArray, List.set_cons_zero, List.set_cons_succ])
            | (apply seqW_take
               · exact rfl
               · (intro w hSw; obtain ⟨m, rfl⟩ := hSw; go_simp; exact rfl)
               try simp only [Act.put, List.setIfInBounds_toArray, List.set_cons_zero, List.set_cons_succ]))
          try refine seqW_end ?_
          try refine seqW_end ?_
          go_wp2
          go_meet
          case rel => exact ⟨by rw [hf.out], ⟨Below.drew (Below.refl _ _)⟩⟩
        · rw [Bool.eq_false_iff.2 hd] at n2
          obtain ⟨r, hr⟩ : ∃ r, r = decide ((jDt (itA L (k : Int))).1 = (itA L (k : Int)).f3) := ⟨_, rfl⟩
          rw [← hr] at HEq
          have hf : Aside0 (bD = !r) := ⟨by rw [hbD.out, Bool.eq_false_iff.2 hd, hr]; rfl⟩
          clear hd hr
          cases r
          all_goals
            refine wp_region_noPanic (wp_region_held_drew (S := fun W => ∃ m, W = W1.drewN m) (by kernel_rfl) ⟨1, rfl⟩ (fun hHeld => ?_))
            refine wpAnyH_range (fuel := 3) (lo := 0) (n := 11) (by kernel_rfl) (by decide) hHeld ?_
            repeat (first
              | (refine seqR_skip rfl ?_; try simp only [Act.put, List.setIfInBounds_toArray, List.set_cons_zero, List.set_cons_succ])
              | (apply seqR_take
                 · exact rfl
                 · (intro w hSw; obtain ⟨m, rfl⟩ := hSw; go_simp; exact rfl)
                 try simp only [Act.put, List.setIfInBounds_toArray, List.set_cons_zero, List.set_cons_succ]))
            try refine seqR_end ?_
            refine wpAnyH_ready (fuel := 2) (rs := [11]) (by kernel_rfl) (by simp) ?_
            refine AllReadyH.cons rfl (fun K hK => ?_) AllReadyH.nil
            go_simp
            go_at_call 40
            refine HEq.out.mono ?_
            rintro e w5 ⟨rfl, m5, rfl⟩
            refine hK.out _ _ ⟨1 + m5, by first | rfl | simp⟩ (fun hHeld5 => ?_)
            clear hK K
            try simp only [Act.put, List.setIfInBounds_toArray, List.set_cons_zero, List.set_cons_succ]
            refine wpAnyH_range (fuel := 0) (lo := 12) (n := 2) (by kernel_rfl) (by decide) hHeld5 ?_
            repeat (first
              | (refine seqR_skip rfl ?_; try simp only [Act.put, List.setIfInBounds_toArray, List.set_cons_zero, List.set_cons_succ])
              | (apply seqR_take
                 · exact rfl
                 · (intro w hSw; obtain ⟨m, rfl⟩ := hSw; go_simp; exact rfl)
                 try simp only [Act.put, List.setIfInBounds_toArray, List.set_cons_zero, List.set_cons_succ]))
            try refine seqR_end ?_
            refine wpAnyH_done (by kernel_rfl) ?_ _
            refine NoPanic.normal ?_
            go_wp2
            go_meet
            exact ⟨by rw [hf.out]; rfl, ⟨pw_below_drewN (Below.drew (Below.refl _ _)) _⟩⟩
      case rest =>
        obtain ⟨rfl, HXb⟩ := hcut
        have HX := Aside0.mk (ps_on HI1.out HXb.out)
        have NX := Aside0.mk (N1.out wc HXb.out)
        have hbq := hb0.trans (HX.out.below.mono hb0.size)
        have hsb := Aside0.mk ((stD_b L k).trans (by rw [← hbD.out]))
        clear a0 a2 n1 n2 n3 HEq hbD HI1 N1 HXb hB1 hg1
        rcases Bool.eq_false_or_eq_true bD with h | h
        case' inr =>
          subst h
          have hsd : Aside0 (stD L k = []) := ⟨hsb.out⟩
          go_upto_region 10 with (fail)
          have HY : Aside0 (Ps W0 u6 (stL L k ++ stD L k) wc) := ⟨by rw [hsd.out, List.append_nil]; exact HX.out⟩
          have NY := NX
          obtain ⟨Wy, hWy⟩ : ∃ x, x = wc := ⟨_, rfl⟩
          obtain ⟨uy, huy⟩ : ∃ x, x = u6 := ⟨_, rfl⟩
          rw [← hWy, ← huy] at HY ⊢
          rw [← hWy] at NY
          clear hWy huy HX NX hsb hsd
        case' inl =>
          subst h
          have hsd : Aside0 (stD L k = [⟨false, pathN L k, ⟨#[]⟩⟩]) := ⟨hsb.out⟩
          go_upto_region 10 with (first
            | (go_at_call 41; with_reducible refine (HP.out _ k hlt hbq).mono ?_; rintro e w7 ⟨Ap, np, cp', rfl, hr7, hb7⟩; have H7 := ps_on HX.out hb7)
            | ((with_reducible refine gate_builtin (b := .append) (xs := #[.tmp 38, .tmp 43]) rfl ?_); at_builtin; refine Kd.R_append kSt (w0 := W0) (W := w7) W0.heap.size rfl (.tmp 38) (.tmp 43) 25 67 (.agg #[.bool false, .slice none 0 0, .string ⟨#[]⟩]) 48 rfl Tryz.underlying25 infoSt rfl (by decide) (by omega) u6 (stL L k) ⟨false, pathN L k, ⟨#[]⟩⟩ [.bool false, .slice Ap np cp', .string ⟨#[]⟩] (fun _ => True) (fun x => wc.heap.size ≤ x) rfl rfl ?hp ?hokp (fun _ _ => trivial) H7.out H7.below H7.below.size ?hl ?_; (case hp => exact k67_mkM _ _ _ ⟨false, pathN L k, ⟨#[]⟩⟩ (Kd.R_lower (Kd.R_mono (Kd.R_bound hr7) (fun x hx => hx.2.1)) HX.out.below.size)); (case hokp => (intro x hx; exact ⟨trivial, fun e => by have := Kd.R_lt HX.out.out x e.symm; omega⟩)); (case hl => omega); intro v12 w12 ho12 hb12 hg12 hat12))
          have HY : Aside0 (Ps W0 v12 (stL L k ++ stD L k) w12) := ⟨⟨hb12, by rw [hsd.out]; exact ho12⟩⟩
          have NY : Aside0 (w12.cell? ⟨wr.heap.size, 1, none⟩ = some (.string (itA L (k : Int)).f1) ∧ wr.heap.size < w12.heap.size) := ⟨by
            have hne : some wr.heap.size ≠ u6.ownBlock := fun e => Nat.lt_irrefl _ (HLt.out _ e.symm)
            have h1 := hg12.block wr.heap.size (Nat.lt_of_lt_of_le NX.out.2 hb7.size) hne
            have h2 := (hb7.cell (p := ⟨wr.heap.size, 1, none⟩) NX.out.2).trans NX.out.1
            simp only [World.cell?, h1] at h2 ⊢
            exact h2, by have := NX.out.2; have := hb7.size; have := hg12.size; omega⟩
          obtain ⟨Wy, hWy⟩ : ∃ x, x = w12 := ⟨_, rfl⟩
          obtain ⟨uy, huy⟩ : ∃ x, x = v12 := ⟨_, rfl⟩
          rw [← hWy, ← huy] at HY ⊢
          rw [← hWy] at NY
          clear hWy huy HX NX hsb hsd hb12 ho12 hg12 hat12 hb7 hr7 H7
        all_goals
          have hbz := hb0.trans (HY.out.below.mono hb0.size)
          have hlx : (stL L k ++ stD L k).length ≤ 2 * k + 1 := by rw [List.length_append]; omega
          have z0 := A0.out Wy HY.out.below
          have y1 := NY.out.1
          by_cases hn : ((jNm L (itA L (k : Int))).1.toList == (itA L (k : Int)).f1.toList) = true
          · have HZ : Aside0 (Ps W0 uy (stL L (k + 1)) Wy.drew) := ⟨by
              rw [hsn.out, show stN L k = [] from if_pos hn, List.append_nil]
              exact ps_on HY.out (Below.drew (Below.refl _ _))⟩
            refine wp_region_seq (by kernel_rfl) (by kernel_rfl) ?_
            repeat (first
              | (refine seqW_skip rfl ?_; try simp only [Act.put, List.setIfInBounds_toArray, List.set_cons_zero, List.set_cons_succ])
              | (apply seqW_take
                 · exact rfl
                 · (intro w hSw; obtain ⟨m, rfl⟩ := hSw; go_simp; exact rfl)
                 try simp only [Act.put, List.setIfInBounds_toArray, List.set_cons_zero, List.set_cons_succ]))
            try refine seqW_end ?_
            try refine seqW_end ?_
            go_wp2
            go_roundg (L.length - (k + 1))
            case measure => omega
            case rel => exact ⟨k + 1, by omega, by omega, by go_num, HZ⟩
          · have hsN : Aside0 (stN L k = [⟨true, pathN L k, (jNm L (itA L (k : Int))).1⟩]) := ⟨if_neg hn⟩
            replace hn : ((jNm L (itA L (k : Int))).1.toList == (itA L (k : Int)).f1.toList) = false := by simpa using hn
            refine wp_region_seq (by kernel_rfl) (by kernel_rfl) ?_
            repeat (first
              | (refine seqW_skip rfl ?_; try simp only [Act.put, List.setIfInBounds_toArray, List.set_cons_zero, List.set_cons_succ])
              | (apply seqW_take
                 · exact rfl
                 · (intro w hSw; obtain ⟨m, rfl⟩ := hSw; go_simp; exact rfl)
                 try simp only [Act.put, List.setIfInBounds_toArray, List.set_cons_zero, List.set_cons_succ]))
            try refine seqW_end ?_
            try refine seqW_end ?_
            go_upto_region 11 with (fail)
            clear y1 NY hn
            generalize (jNm L (itA L (k : Int))).1 = nm at A0 z0 hsN
            have z1 : Wy.drew.drew.cell? (ada.add (k * 4)) = some (.string nm) := z0
            have hbd : Below w.heap.size w Wy.drew.drew := Below.drew (Below.drew hbz)
            have HX := Aside0.mk (ps_on HY.out (Below.drew (Below.drew (Below.refl Wy.heap.size Wy))))
            refine wp_region_noPanic (wp_region_held_drew (S := fun W => W.cell? (ada.add (k * 4)) = some (.string nm)) (by kernel_rfl) z1 (fun hHeld => ?_))
            refine wpAnyH_range (fuel := 10) (lo := 0) (n := 3) (by kernel_rfl) (by decide) hHeld ?_
            repeat (first
              | (refine seqR_skip rfl ?_; try simp only [Act.put, List.setIfInBounds_toArray, List.set_cons_zero, List.set_cons_succ])
              | (apply seqR_take
                 · exact rfl
                 · (intro w hSw; go_simp; exact rfl)
                 try simp only [Act.put, List.setIfInBounds_toArray, List.set_cons_zero, List.set_cons_succ]))
            try refine seqR_end ?_
            refine wpAnyH_range (fuel := 5) (lo := 4) (n := 5) (by kernel_rfl) (by decide) hHeld ?_
            repeat (first
              | (refine seqR_skip rfl ?_; try simp only [Act.put, List.setIfInBounds_toArray, List.set_cons_zero, List.set_cons_succ])
              | (apply seqR_take
                 · exact rfl
                 · (intro w hSw; go_simp; exact rfl)
                 try simp only [Act.put, List.setIfInBounds_toArray, List.set_cons_zero, List.set_cons_succ]))
            try refine seqR_end ?_
            refine wpAnyH_ready (fuel := 4) (rs := [3]) (by kernel_rfl) (by simp) ?_
            refine AllReadyH.cons rfl (fun K hK => ?_) AllReadyH.nil
            go_simp
            go_at_call 41
            refine (HP.out _ k hlt hbd).mono ?_
            rintro e w7 ⟨Ap, np, cp', rfl, hr7, hb7⟩
            have H7 := ps_on HX.out hb7
            refine hK.out _ _ (A0.out w7 H7.below) (fun hHeld7 => ?_)
            clear hK K
            try simp only [Act.put, List.setIfInBounds_toArray, List.set_cons_zero, List.set_cons_succ]
            refine wpAnyH_range (fuel := 3) (lo := 9) (n := 1) (by kernel_rfl) (by decide) hHeld7 ?_
            repeat (first
              | (refine seqR_skip rfl ?_; try simp only [Act.put, List.setIfInBounds_toArray, List.set_cons_zero, List.set_cons_succ])
              | (apply seqR_take
                 · exact rfl
                 · (intro w hSw; go_simp; exact rfl)
                 try simp only [Act.put, List.setIfInBounds_toArray, List.set_cons_zero, List.set_cons_succ]))
            try refine seqR_end ?_
            refine wpAnyH_ready (fuel := 2) (rs := [10]) (by kernel_rfl) (by simp) ?_
            refine AllReadyH.cons rfl (fun K hK => ?_) AllReadyH.nil
            go_simp
            refine hK.out _ _ (A0.out _ (below_alloc H7.below _)) (fun hHeld8 => ?_)
            clear hK K
            try simp only [Act.put, List.setIfInBounds_toArray, List.set_cons_zero, List.set_cons_succ]
            refine wpAnyH_ready (fuel := 1) (rs := [11]) (by kernel_rfl) (by simp) ?_
            refine AllReadyH.cons rfl (fun K hK => ?_) AllReadyH.nil
            refine step_of_list rfl ?_
            refine Kd.R_append kSt (w0 := W0) (W := w7) W0.heap.size rfl (.tmp 53) (.tmp 63) 25 67 (.agg #[.bool false, .slice none 0 0, .string ⟨#[]⟩]) 48 rfl Tryz.underlying25 infoSt rfl (by decide) (by omega) uy (stL L k ++ stD L k) ⟨true, pathN L k, nm⟩ [.bool true, .slice Ap np cp', .string nm] (fun _ => True) (fun x => Wy.heap.size ≤ x) rfl rfl (k67_mkM _ _ _ ⟨true, pathN L k, nm⟩ (Kd.R_lower (Kd.R_mono (Kd.R_bound hr7) (fun x hx => hx.2.1)) HX.out.below.size)) (fun x hx => ⟨trivial, fun e => absurd (Kd.R_lt HX.out.out x e.symm) (Nat.not_lt.2 hx)⟩) (fun _ _ => trivial) H7.out H7.below H7.below.size (by omega) ?_
            intro v12 w12 ho12 hb12 hg12 hat12
            show K _ _
            refine hK.out _ _ (A0.out w12 hb12) (fun hHeld12 => ?_)
            clear hK K
            try simp only [Act.put, List.setIfInBounds_toArray, List.set_cons_zero, List.set_cons_succ]
            refine wpAnyH_range (fuel := 0) (lo := 12) (n := 1) (by kernel_rfl) (by decide) hHeld12 ?_
            repeat (first
              | (refine seqR_skip rfl ?_; try simp only [Act.put, List.setIfInBounds_toArray, List.set_cons_zero, List.set_cons_succ])
              | (apply seqR_take
                 · exact rfl
                 · (intro w hSw; go_simp; exact rfl)
                 try simp only [Act.put, List.setIfInBounds_toArray, List.set_cons_zero, List.set_cons_succ]))
            try refine seqR_end ?_
            refine wpAnyH_done (by kernel_rfl) ?_ _
            refine NoPanic.normal ?_
            go_wp2
            go_roundg (L.length - (k + 1))
            case measure => omega
            case rel => exact ⟨k + 1, by omega, by omega, by go_num, ⟨⟨hb12, by rw [hsn.out, hsN.out]; exact ho12⟩⟩⟩
    · obtain rfl : k = L.length := by omega
      have hll := stL_len L L.length
      have hinj := st_inj h14
      have hb := HI.out.below
      have hR := HI.out.out
      clear HI hr4 HP
      obtain ⟨X, hXe⟩ : ∃ X, X = stL L L.length := ⟨_, rfl⟩
      rw [← hXe] at hll hinj hR
      replace hXe := Aside0.mk hXe
      have hsl : (sortSt X).length = X.length := List.length_mergeSort _
      obtain ⟨Ar, cr, er⟩ := Kd.R_slice hR
      subst er
      by_cases hX : 0 < X.length
      · obtain ⟨g, cap, e1, hg0, _⟩ := Kd.R_form hR hX
        cases e1
        have HS := Aside0.mk (sortSteps_any wr W0.heap.size g cr (fun _ => True) X hX (by omega) hinj (Kd.R_N hR))
        clear hinj hR hX
        go_wp2_with (go_at_call 42; with_reducible refine HS.out.mono ?_; rintro e w2 ⟨rfl, hn2, hg2⟩)
        go_ret2
        obtain ⟨_, t1, t2⟩ := Kd.N_reads' hn2
        rw [← hXe.out, hsl]
        have hb2 : Below W0.heap.size W0 w2 := Below.grown hb hg2 hb.size (fun x hx => by have e : g = x := Option.some.inj hx; omega)
        rw [hsl] at t2
        exact ⟨_, _, rfl, t1, t2, hb0.trans (hb2.mono hb0.size)⟩
      · obtain rfl : X = [] := List.eq_nil_of_length_eq_zero (by omega)
        have HS := fun (p : Option Addr) (cap : Nat) (fv : Value) (W : World) => AnyF.slices_SortFunc_none lSortS p cap fv W
        have HS2 : Aside0 (Calls Tryz.prog 42 #[.slice Ar 0 cr, .func (.func 43) #[] #[]] wr fun e w' => e = .returned (.tuple #[]) ∧ w' = wr) := ⟨HS Ar cr _ wr⟩
        have hC0 := Aside0.mk (Kd.R_reads' hR).2.2
        clear HS hinj hR hX
        go_wp2_with (go_at_call 42; with_reducible refine HS2.out.mono ?_; rintro e w2 ⟨rfl, rfl⟩)
        go_ret2
        rw [← hXe.out, show sortSt [] = [] from by simp [sortSt]]
        exact ⟨Ar, cr, rfl, Nat.zero_le _, hC0.out, hb0.trans (hb.mono hb0.size)⟩
end Go.Proofs.YthlflglkdaainaaGreatDoor.Tr
