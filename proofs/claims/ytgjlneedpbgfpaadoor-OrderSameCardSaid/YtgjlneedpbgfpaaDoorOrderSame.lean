/- The law OrderSame: put into order the same numbers are there, as often; those that are no marks stay where they are, and those of one class in their order. No condition; the listed tables of the library are tied to the program's text. -/
import Derived.Test.YtgjlneedpbgfpaaDoorGOrd
import Derived.Test.YtgjlneedpbgfpaaDoorLaid
import Derived.Test.YtgjlneedpbgfpaaDoorCards
import Derived.Test.YtgjlneedpbgfpaaDoorTie
import Derived.SevenTiedAt
import Derived.Deep.RegionWith
import Derived.Deep.RegionHeld3
import Derived.Deep.DeepCutAuto
import Derived.Deep.LoopGhost
import Derived.Maps.AppendAt
import Derived.BigQuiet
namespace Go.Proofs.YtgjlneedpbgfpaaDoor.orderSame
open Go.ChangeShapes Go.WideShapes Go.ChangeAt Go.RowKit Go.WideMaps Go.WideElems

theorem place (l : List Nat) : ∀ i, i < l.length → (cls (l.getD i 0) = 0 ∨ cls ((ordL l).getD i 0) = 0) → (ordL l).getD i 0 = l.getD i 0 := by
  refine run_induct (P := fun l => ∀ i, i < l.length → (cls (l.getD i 0) = 0 ∨ cls ((ordL l).getD i 0) = 0) → (ordL l).getD i 0 = l.getD i 0) (fun A h i hi hc => ?_) (fun A s B h hs ih i hi hc => ?_) l
  · exfalso
    rw [ordL_run h] at hc
    rcases hc with hc | hc
    · rw [List.getD, List.getElem?_eq_getElem hi] at hc; exact h _ (List.getElem_mem _) hc
    · have hi' : i < (srt A).length := by rw [srt_length]; exact hi
      rw [List.getD, List.getElem?_eq_getElem hi'] at hc; exact marks_srt h _ (List.getElem_mem _) hc
  · rw [ordL_starter hs, ordL_run h] at hc ⊢
    have hl : (srt A).length = A.length := srt_length A
    rcases Nat.lt_trichotomy i A.length with h1 | h1 | h1
    · exfalso
      have hi' : i < (srt A).length := by omega
      simp only [List.getD] at hc
      rw [List.getElem?_append_left h1, List.getElem?_append_left hi', List.getElem?_eq_getElem h1, List.getElem?_eq_getElem hi'] at hc
      rcases hc with hc | hc
      · exact h _ (List.getElem_mem _) hc
      · exact marks_srt h _ (List.getElem_mem _) hc
    · subst h1
      simp only [List.getD]
      rw [List.getElem?_append_right (Nat.le_refl _), List.getElem?_append_right (by omega), hl, Nat.sub_self]; rfl
    · obtain ⟨j, rfl⟩ : ∃ j, i = A.length + 1 + j := ⟨i - A.length - 1, by omega⟩
      have e1 : ∀ X : List Nat, X.length = A.length → ∀ Y : List Nat, (X ++ s :: Y).getD (A.length + 1 + j) 0 = Y.getD j 0 := fun X hX Y => by
        simp only [List.getD]
        rw [List.getElem?_append_right (by omega), hX, show A.length + 1 + j - A.length = j + 1 by omega, List.getElem?_cons_succ]
      rw [e1 A rfl, e1 _ hl] at hc ⊢
      exact ih j (by simp at hi; omega) hc
theorem fk_take {e : Nat} {l : List Nat} {k : Nat} (hk : k < l.length) : fk e (l.take (k + 1)) = fk e (l.take k) ++ (if cls (l.getD k 0) = e then [l.getD k 0] else []) := by
  rw [List.take_succ_eq_append_getElem hk, fk_append, List.getD, List.getElem?_eq_getElem hk, fk_cons, fk_nil]; rfl
/-- Two rows of the call's own that do not share a block. -/
structure XY (base : Nat) (X Y : List Nat) (vx vy : Value) (W : World) : Prop where
  x : W.ownsRow base 22 1 vx X.length (u32s X)
  y : W.ownsRow base 22 1 vy Y.length (u32s Y)
  ne : vx.ownBlock = none ∨ vx.ownBlock ≠ vy.ownBlock
variable {base : Nat} {X Y : List Nat} {vx vy : Value} {W W' : World}
theorem XY.ne' (h : XY base X Y vx vy W) : vy.ownBlock = none ∨ vy.ownBlock ≠ vx.ownBlock := by
  rcases h.ne with e | e
  · cases h2 : vy.ownBlock with
    | none => exact .inl rfl
    | some k => right; rw [e]; simp
  · exact .inr (Ne.symm e)
theorem XY.gr (h : XY base X Y vx vy W) (g : Gr W W') : XY base X Y vx vy W' := ⟨ownsRow_gr h.x g, ownsRow_gr h.y g, h.ne⟩
theorem XY.addX {o : Obj} {x : Nat} {vx' : Value} {n : Nat} {xs : List Value} (h : XY base X Y vx vy W) (hr : W'.ownsRow base 22 1 vx' n xs) (hg : (W.alloc o).grownBy W' vx.ownBlock) (ha : vx'.ownBlock = vx.ownBlock ∨ vx'.ownBlock = some (W.alloc o).heap.size) (hn : n = (X ++ [x]).length) (hx : xs = u32s (X ++ [x])) : XY base (X ++ [x]) Y vx' vy W' := by
  subst hn hx
  refine ⟨hr, (ownsRow_gr h.y (Gr.alloc _ o)).kept hg h.ne', ?_⟩
  rcases ha with e | e
  · rw [e]; exact h.ne
  · right; rw [e]; intro h2; have := (h.y.lt _ h2.symm).2; simp at this; omega
theorem XY.addY {o : Obj} {y : Nat} {vy' : Value} {n : Nat} {xs : List Value} (h : XY base X Y vx vy W) (hr : W'.ownsRow base 22 1 vy' n xs) (hg : (W.alloc o).grownBy W' vy.ownBlock) (ha : vy'.ownBlock = vy.ownBlock ∨ vy'.ownBlock = some (W.alloc o).heap.size) (hn : n = (Y ++ [y]).length) (hx : xs = u32s (Y ++ [y])) : XY base X (Y ++ [y]) vx vy' W' := by
  subst hn hx
  refine ⟨(ownsRow_gr h.x (Gr.alloc _ o)).kept hg h.ne, hr, ?_⟩
  rcases ha with e | e
  · rw [e]; exact h.ne
  · rcases h.ne with e2 | _
    · exact .inl e2
    · right; rw [e]; intro h2; have := (h.x.lt _ h2).2; simp at this; omega
theorem zero_of {p : Nat} (h : p ≠ 0) : ¬ (p : Int) = 0 ∧ ((p : Int) == 0) = false := by
  have : ¬ (p : Int) = 0 := by omega
  exact ⟨this, by rw [beq_eq_false_iff_ne]; exact this⟩

set_option maxRecDepth 20000 in
set_option maxHeartbeats 8000000 in
theorem walk (v0 : Value) (L0 : List Nat) (w : World) (s0 : Sl w v0 L0) (b0 : ∀ x ∈ L0, x < 4294967296) (ht : Tz w) :
    Calls Tryd.prog 10 #[v0] w fun e w' => e = .returned (.bool true) ∧ Gr w w' := by
  have S0 := hid s0
  obtain ⟨ao, ca, rfl, h0, hA⟩ := s0
  have HA := hid hA
  clear h0 hA
  have HB := hid b0
  clear b0
  by_cases hbig : L0.length ≤ 300
  · have hl1 : (L0.length : Int) ≤ 300 := by omega
    have hd : decide ((300 : Int) < L0.length) = false := decide_eq_false (by omega)
    have HO := Order_any (.slice ao L0.length ca) L0 w ht S0.out HB.out (by omega)
    have HCA := fun W (t : Tz W) (s : Sl W (.slice ao L0.length ca) L0) => Classes_any _ L0 W t s HB.out (by omega)
    have hDl := ordL_length L0
    have HCB := fun W v (t : Tz W) (s : Sl W v (ordL L0)) => Classes_any v (ordL L0) W t s (fun x hx => HB.out x (ordL_mem.1 hx)) (by omega)
    have HPL := hid (place L0)
    have HFK := hid (fun k => ordL_fk k L0)
    obtain ⟨D, hD⟩ : ∃ D, ordL L0 = D := ⟨_, rfl⟩
    rw [hD] at HO HCB hDl HPL HFK
    obtain ⟨n, hn⟩ : ∃ n, L0.length = n := ⟨_, rfl⟩
    have hm1 : (L0.map cls).length = n := by rw [List.length_map]; exact hn
    have hm2 : (D.map cls).length = n := by rw [List.length_map]; omega
    have HN := hid hn
    have HDN : Hid (D.length = n) := by show _ = _; omega
    have HM1 := hid hm1
    have HM2 := hid hm2
    have HO := hid HO
    have HCA := hid HCA
    have HCB := hid HCB
    rw [hn] at S0 HA hl1 hd HO HCA hbig
    clear hD hm1 hm2 hDl
    rw [HN.out]
    clear hn
    obtain ⟨i0, hi, hz0, hz1, hz2⟩ := info_parts info_u32
    go_enter Tryd.func10, Tryd.ntmps10
    go_wp2_with (first
      | (go_at_call 34; refine HO.out.mono ?_; clear HO; rintro e w1 ⟨v1, rfl, hv1, g1⟩; rw [HDN.out] at hv1; obtain ⟨ad, cd, rfl⟩ := row_shape hv1; have HV1 := hid hv1; clear hv1)
      | (go_at_call 36; ((with_reducible refine (HCA.out w1 (ht.gr g1) (S0.out.gr g1)).mono ?_); clear HCA; rintro e w2 ⟨v2, rfl, hv2, g2⟩; rw [HM1.out] at hv2; obtain ⟨aa, cA, rfl⟩ := row_shape hv2; have HV2 := hid hv2; clear hv2))
      | (go_at_call 36; ((with_reducible refine (HCB.out w2 (.slice ad n cd) (ht.gr (g1.trans g2)) (by have := ownsRow_gr HV1.out g2; rw [← HDN.out] at this ⊢; exact Sl.of_row this)).mono ?_); clear HCB; rintro e w3 ⟨v3, rfl, hv3, g3⟩; rw [HM2.out] at hv3; obtain ⟨ab, cB, rfl⟩ := row_shape hv3; have HV3 := hid hv3; clear hv3)))
    have G3 := (g1.trans g2).trans g3
    have HD1 := hid (ownsRow_gr (ownsRow_gr HV1.out g2) g3)
    have HA2 := hid (ownsRow_gr HV2.out g3)
    have HS3 := hid (S0.out.gr G3)
    clear HA S0 HV1 HV2 g1 g2 g3
    go_loopw [6] (fun vi wr => ∃ i : Nat, i ≤ n ∧ vi = .int .i64 i ∧ Gr w3 wr) (fun vi _ => n - (intOf vi).toNat)
    case atStart => exact ⟨0, Nat.zero_le _, rfl, Gr.refl _⟩
    case round =>
      obtain ⟨i, hin, rfl, hgi⟩ := hrel
      by_cases hlt : i < n
      · obtain ⟨gd, dd, e1, _, _⟩ := row_form HD1.out (by omega)
        injection e1 with e1 e2 e3
        subst e1 e3
        obtain ⟨ga, da, e1, _, _⟩ := row_form HA2.out (by omega)
        injection e1 with e1 e2 e3
        subst e1 e3
        obtain ⟨gb, db, e1, _, _⟩ := row_form HV3.out (by omega)
        injection e1 with e1 e2 e3
        subst e1 e3
        have hDr := HD1.out
        have hAr := HA2.out
        have hBr := HV3.out
        have HDc : Hid (∀ k, k < n → w3.cell? ⟨gd, k, none⟩ = some (.int .u32 ((D.getD k 0 : Nat) : Int))) := fun k hk => row_cell (l := D) (by rw [HDN.out]; exact hDr) k (by rw [HDN.out]; exact hk)
        have HAc : Hid (∀ k, k < n → w3.cell? ⟨ga, k, none⟩ = some (.int .i64 ((cls (L0.getD k 0) : Nat) : Int))) := fun k hk => by
          have := int_cell (l := L0.map cls) (by rw [HM1.out]; exact hAr) k (by rw [HM1.out]; exact hk)
          rw [this]
          rw [List.getD, List.getD, List.getElem?_map, List.getElem?_eq_getElem (by rw [HN.out]; exact hk)]; rfl
        have HBc : Hid (∀ k, k < n → w3.cell? ⟨gb, k, none⟩ = some (.int .i64 ((cls (D.getD k 0) : Nat) : Int))) := fun k hk => by
          have := int_cell (l := D.map cls) (by rw [HM2.out]; exact hBr) k (by rw [HM2.out]; exact hk)
          rw [this]
          rw [List.getD, List.getD, List.getElem?_map, List.getElem?_eq_getElem (by rw [HDN.out]; exact hk)]; rfl
        obtain ⟨gl, ol, hao, HLc⟩ : ∃ gl ol, ao = some ⟨gl, ol, none⟩ ∧ Hid (∀ k, k < n → w3.cell? ⟨gl, ol + k, none⟩ = some (.int .u32 ((L0.getD k 0 : Nat) : Int))) := by
          obtain ⟨a', c', e1, _, hh⟩ := HS3.out
          injection e1 with e1 e2 e3
          subst e1
          obtain ⟨g', o', e4, _⟩ := hh i (by rw [HN.out]; exact hlt)
          refine ⟨g', o', e4, fun k hk => ?_⟩
          obtain ⟨g'', o'', e5, h5⟩ := hh k (by rw [HN.out]; exact hk)
          rw [e4] at e5
          injection e5 with e5; injection e5 with e5 e6
          subst e5 e6
          exact h5
        subst hao
        clear hDr hAr hBr HS3 HD1 HA2 HV3
        have hc1 := hgi.cell (HAc.out i hlt)
        have hc2 := hgi.cell (HBc.out i hlt)
        have hc3 := hgi.cell (HDc.out i hlt)
        have hc4 := hgi.cell (HLc.out i hlt)
        have hce := HAc.out i hlt
        have hpl := HPL.out i (by rw [HN.out]; exact hlt)
        generalize L0.getD i 0 = xi at hc1 hc4 hce hpl
        generalize D.getD i 0 = yi at hc2 hc3 hpl
        obtain ⟨e, he⟩ : ∃ e, cls xi = e := ⟨_, rfl⟩
        obtain ⟨f, hf⟩ : ∃ f, cls yi = f := ⟨_, rfl⟩
        rw [he] at hc1 hce hpl
        rw [hf] at hc2 hpl
        have HP := hid hpl
        clear hpl he hf
        have hltz : (i : Int) < (n : Int) := by omega
        go_upto_region 12 with fail
        go_cut [65] from 37 to 107 (fun s wx => s = .bool false ∧ Gr w3 wx)
        case first => as_aux_lemma =>
          have hgd := hgi.trans (Gr.drewN wr 1)
          by_cases he0 : e = 0
          · have hxy : yi = xi := HP.out (.inl he0)
            have z : (e : Int) = 0 := by omega
            rw [z] at hc1
            rw [hxy] at hc3
            clear hce z he0 hxy HP hc2
            go_quiet (fail)
            all_goals go_wp2_with fail
            all_goals go_meet
            case rel => exact ⟨rfl, hgi.trans (Gr.drewN _ _)⟩
          · obtain ⟨z1, z2⟩ := zero_of he0
            by_cases hf0 : f = 0
            · have hxy : yi = xi := HP.out (.inr hf0)
              have z : (f : Int) = 0 := by omega
              rw [z] at hc2
              rw [hxy] at hc3
              clear hce z he0 hf0 hxy HP
              go_quiet (fail)
              all_goals go_wp2_with fail
              all_goals go_meet
              case rel => exact ⟨rfl, hgi.trans (Gr.drewN _ _)⟩
            · obtain ⟨z3, z4⟩ := zero_of hf0
              clear hce he0 hf0 HP
              go_quiet (fail)
              all_goals go_wp2_with fail
              all_goals go_meet
              case rel => exact ⟨rfl, hgi.trans (Gr.drewN _ _)⟩
        case rest =>
          obtain ⟨rfl, hgc⟩ := hcut
          clear hc1 hc2 hc3 hc4 HP
          go_wp2_with fail
          go_loopw [7, 8, 9] (fun vx vy vk wq => ∃ k : Nat, k ≤ n ∧ vk = .int .i64 k ∧ Hid (XY w3.heap.size (fk e (L0.take k)) (fk e (D.take k)) vx vy wq) ∧ Gr w3 wq) (fun _ _ vk _ => n - (intOf vk).toNat)
          case atStart => exact ⟨0, Nat.zero_le _, rfl, ⟨World.ownsRow_nil _ _ _ _, World.ownsRow_nil _ _ _ _, .inl rfl⟩, hgc⟩
          case round =>
            obtain ⟨k, hkn, rfl, HXY, hgk⟩ := hrel
            have HXL0 : (fk e (L0.take k)).length ≤ 300 := by
              have h1 : (fk e (L0.take k)).length ≤ (L0.take k).length := List.length_filter_le _ _
              rw [List.length_take] at h1; omega
            have HYL0 : (fk e (D.take k)).length ≤ 300 := by
              have h1 : (fk e (D.take k)).length ≤ (D.take k).length := List.length_filter_le _ _
              rw [List.length_take] at h1; omega
            by_cases hklt : k < n
            · have hkz : (k : Int) < (n : Int) := by omega
              have hcp := HAc.out k hklt
              have hcq := HBc.out k hklt
              obtain ⟨x, hx⟩ : ∃ x, L0.getD k 0 = x := ⟨_, rfl⟩
              obtain ⟨y, hy⟩ : ∃ y, D.getD k 0 = y := ⟨_, rfl⟩
              rw [hx] at hcp
              rw [hy] at hcq
              obtain ⟨p, hp⟩ : ∃ p, cls x = p := ⟨_, rfl⟩
              obtain ⟨q, hq⟩ : ∃ q, cls y = q := ⟨_, rfl⟩
              rw [hp] at hcp
              rw [hq] at hcq
              obtain ⟨X, hX⟩ : ∃ X, fk e (L0.take k) = X := ⟨_, rfl⟩
              obtain ⟨Y, hY⟩ : ∃ Y, fk e (D.take k) = Y := ⟨_, rfl⟩
              rw [hX, hY] at HXY
              rw [hX] at HXL0
              rw [hY] at HYL0
              have HXL := hid HXL0
              have HYL := hid HYL0
              have HX := hid hX
              have HY := hid hY
              have Hx := hid hx
              have Hy := hid hy
              have Hp := hid hp
              have Hq := hid hq
              clear HXL0 HYL0 hX hY hx hy hp hq
              go_upto_region 18 with fail
              go_cut [80] from 66 to 103 (fun s wx => s = .bool ((p : Int) == (e : Int)) ∧ Hid (XY w3.heap.size X Y u7 u8 wx) ∧ Gr w3 wx)
              case first =>
                have z1 := hgk.cell hcp
                have z2 := hgk.cell hce
                have z3 := hgk.trans (Gr.drewN wr 1)
                have z4 := hid (HXY.out.gr (Gr.drewN wr 1))
                go_region_held3 (fun W => W.cell? ⟨ga, k, none⟩ = some (.int .i64 (p : Int)) ∧ W.cell? ⟨ga, i, none⟩ = some (.int .i64 (e : Int))) (exact ⟨z1, z2⟩) (first | fail)
                all_goals go_wp2_with fail
                all_goals go_meet
                case rel => exact ⟨rfl, z4, z3⟩
              case rest =>
                obtain ⟨rfl, HXa, gXa⟩ := hcut
                clear HXY hgk
                have hcl := gXa.cell (HLc.out k hklt)
                rw [Hx.out] at hcl
                by_cases hpe : p = e
                · have HX1 : Hid (fk e (L0.take (k + 1)) = X ++ [x]) := by show _ = _; rw [fk_take (by rw [HN.out]; exact hklt), HX.out, Hx.out, Hp.out, if_pos hpe]
                  have b0 : ((p : Int) == (e : Int)) = true := by rw [hpe]; simp
                  clear hpe
                  go_upto_region 20 with (first | (at_builtin; refine wpList_append_own_at _ rfl (.tmp 81) _ 27 rfl w3.heap.size 22 i0 (.int .u32 0) 1 4 Tryd.underlying27 hi hz0 hz1 hz2 rfl (by decide) _ _ _ rfl (ownsRow_gr HXa.out.x (Gr.alloc _ _)) ⟨_, 0, none⟩ 1 1 [.int .u32 (x : Int)] rfl rfl (cell_one_new _ _ _) (by simp [Value.oneCell']) (by have := HXL.out; unfold maxLen; omega) (by have := HXL.out; omega) (by have := gXa.size; simp; omega) ?_; intro vx' w5 hown' hgrow _ hat; have gX := gr_added gXa HXa.out.x hgrow; have HXb := hid (HXa.out.addX (x := x) hown' hgrow hat (by simp) (by unfold u32s; rw [List.map_append]; rfl)); clear hown' hgrow hat))
                  have gB := gX
                  have HB1 := HXb
                  go_cut [96] from 66 to 103 (fun s wx => s = .bool ((q : Int) == (e : Int)) ∧ Hid (XY w3.heap.size (X ++ [x]) Y vx' u8 wx) ∧ Gr w3 wx)
                  case first =>
                    have z1 := gB.cell hcq
                    have z2 := gB.cell hce
                    have z3 := gB.trans (Gr.drewN _ 1)
                    have z4 := hid (HB1.out.gr (Gr.drewN _ 1))
                    go_region_held3 (fun W => W.cell? ⟨gb, k, none⟩ = some (.int .i64 (q : Int)) ∧ W.cell? ⟨ga, i, none⟩ = some (.int .i64 (e : Int))) (exact ⟨z1, z2⟩) (first | fail)
                    all_goals go_wp2_with fail
                    all_goals go_meet
                    case rel => exact ⟨rfl, z4, z3⟩
                  case rest =>
                    obtain ⟨rfl, HXc, gXc⟩ := hcut
                    have hcd := gXc.cell (HDc.out k hklt)
                    rw [Hy.out] at hcd
                    by_cases hqe : q = e
                    · have HY1 : Hid (fk e (D.take (k + 1)) = Y ++ [y]) := by show _ = _; rw [fk_take (by rw [HDN.out]; exact hklt), HY.out, Hy.out, Hq.out, if_pos hqe]
                      have b1 : ((q : Int) == (e : Int)) = true := by rw [hqe]; simp
                      clear hqe
                      go_wp2_with (first | (at_builtin; refine wpList_append_own_at _ rfl (.tmp 97) _ 27 rfl w3.heap.size 22 i0 (.int .u32 0) 1 4 Tryd.underlying27 hi hz0 hz1 hz2 rfl (by decide) _ _ _ rfl (ownsRow_gr HXc.out.y (Gr.alloc _ _)) ⟨_, 0, none⟩ 1 1 [.int .u32 (y : Int)] rfl rfl (cell_one_new _ _ _) (by simp [Value.oneCell']) (by have := HYL.out; unfold maxLen; omega) (by have := HYL.out; omega) (by have := gXc.size; simp; omega) ?_; intro vy' w6 hown' hgrow _ hat; have gY := gr_added gXc HXc.out.y hgrow; have HXd := hid (HXc.out.addY (y := y) hown' hgrow hat (by simp) (by unfold u32s; rw [List.map_append]; rfl)); clear hown' hgrow hat))
                      go_roundw
                      case rel => exact ⟨k + 1, hklt, by go_num, (by rw [HX1.out, HY1.out]; exact HXd), gY⟩
                      case measure => simp [intOf]; omega
                    · have HY1 : Hid (fk e (D.take (k + 1)) = Y) := by show _ = _; rw [fk_take (by rw [HDN.out]; exact hklt), HY.out, Hy.out, Hq.out, if_neg hqe, List.append_nil]
                      have b1 : ((q : Int) == (e : Int)) = false := by rw [beq_eq_false_iff_ne]; omega
                      clear hqe
                      go_wp2_with fail
                      go_roundw
                      case rel => exact ⟨k + 1, hklt, by go_num, (by rw [HX1.out, HY1.out]; exact HXc), gXc⟩
                      case measure => simp [intOf]; omega
                · have HX1 : Hid (fk e (L0.take (k + 1)) = X) := by show _ = _; rw [fk_take (by rw [HN.out]; exact hklt), HX.out, Hx.out, Hp.out, if_neg hpe, List.append_nil]
                  have b0 : ((p : Int) == (e : Int)) = false := by rw [beq_eq_false_iff_ne]; omega
                  clear hpe
                  go_upto_region 20 with fail
                  have gB := gXa
                  have HB1 := HXa
                  go_cut [96] from 66 to 103 (fun s wx => s = .bool ((q : Int) == (e : Int)) ∧ Hid (XY w3.heap.size X Y u7 u8 wx) ∧ Gr w3 wx)
                  case first =>
                    have z1 := gB.cell hcq
                    have z2 := gB.cell hce
                    have z3 := gB.trans (Gr.drewN _ 1)
                    have z4 := hid (HB1.out.gr (Gr.drewN _ 1))
                    go_region_held3 (fun W => W.cell? ⟨gb, k, none⟩ = some (.int .i64 (q : Int)) ∧ W.cell? ⟨ga, i, none⟩ = some (.int .i64 (e : Int))) (exact ⟨z1, z2⟩) (first | fail)
                    all_goals go_wp2_with fail
                    all_goals go_meet
                    case rel => exact ⟨rfl, z4, z3⟩
                  case rest =>
                    obtain ⟨rfl, HXc, gXc⟩ := hcut
                    have hcd := gXc.cell (HDc.out k hklt)
                    rw [Hy.out] at hcd
                    by_cases hqe : q = e
                    · have HY1 : Hid (fk e (D.take (k + 1)) = Y ++ [y]) := by show _ = _; rw [fk_take (by rw [HDN.out]; exact hklt), HY.out, Hy.out, Hq.out, if_pos hqe]
                      have b1 : ((q : Int) == (e : Int)) = true := by rw [hqe]; simp
                      clear hqe
                      go_wp2_with (first | (at_builtin; refine wpList_append_own_at _ rfl (.tmp 97) _ 27 rfl w3.heap.size 22 i0 (.int .u32 0) 1 4 Tryd.underlying27 hi hz0 hz1 hz2 rfl (by decide) _ _ _ rfl (ownsRow_gr HXc.out.y (Gr.alloc _ _)) ⟨_, 0, none⟩ 1 1 [.int .u32 (y : Int)] rfl rfl (cell_one_new _ _ _) (by simp [Value.oneCell']) (by have := HYL.out; unfold maxLen; omega) (by have := HYL.out; omega) (by have := gXc.size; simp; omega) ?_; intro vy' w6 hown' hgrow _ hat; have gY := gr_added gXc HXc.out.y hgrow; have HXd := hid (HXc.out.addY (y := y) hown' hgrow hat (by simp) (by unfold u32s; rw [List.map_append]; rfl)); clear hown' hgrow hat))
                      go_roundw
                      case rel => exact ⟨k + 1, hklt, by go_num, (by rw [HX1.out, HY1.out]; exact HXd), gY⟩
                      case measure => simp [intOf]; omega
                    · have HY1 : Hid (fk e (D.take (k + 1)) = Y) := by show _ = _; rw [fk_take (by rw [HDN.out]; exact hklt), HY.out, Hy.out, Hq.out, if_neg hqe, List.append_nil]
                      have b1 : ((q : Int) == (e : Int)) = false := by rw [beq_eq_false_iff_ne]; omega
                      clear hqe
                      go_wp2_with fail
                      go_roundw
                      case rel => exact ⟨k + 1, hklt, by go_num, (by rw [HX1.out, HY1.out]; exact HXc), gXc⟩
                      case measure => simp [intOf]; omega
            · have hkn' : k = n := by omega
              subst hkn'
              have hkz : ¬ (k : Int) < k := by omega
              have HXF : fk e (D.take k) = fk e (L0.take k) := by
                rw [List.take_of_length_le (by rw [HDN.out]; exact Nat.le_refl _), List.take_of_length_le (by rw [HN.out]; exact Nat.le_refl _)]; exact HFK.out e
              rw [HXF] at HXY
              generalize fk e (L0.take k) = X at HXY HXL0
              clear HXF HYL0
              have HSA := hid (same_any u7 u8 X X wr (Sl.of_row HXY.out.x) (Sl.of_row HXY.out.y) (by omega))
              go_wp2_with (go_at_call 27; refine HSA.out.mono ?_; rintro e' w7 ⟨rfl, g7⟩)
              go_roundw
              case rel => exact ⟨i + 1, hlt, by go_num, hgk.trans g7⟩
              case measure => simp [intOf]; omega
      · have hltz : ¬ (i : Int) < (n : Int) := by omega
        go_wp2_with (go_at_call 33; refine (awake6_any _ (ht.gr (G3.trans hgi))).mono ?_; rintro e w4 ⟨rfl, g4⟩)
        go_ret
        exact ⟨rfl, (G3.trans hgi).trans g4⟩
  · have hl1 : (300 : Int) < L0.length := by omega
    clear S0 HA HB
    go_enter Tryd.func10, Tryd.ntmps10
    go_wp2_with (go_at_call 33; refine (awake6_any _ ht).mono ?_; rintro e w1 ⟨rfl, g1⟩)
    go_ret
    exact ⟨rfl, g1⟩

theorem laidOut : laidOutB Tryd.prog = true := by kernel_rfl

set_option maxRecDepth 100000 in
theorem lifted (os : Os) (started : os.Started) (H : Type) (enc : TypeId × Value → H) :
    ReturnsInHanded {} Tryd.checked os 10 .any (fun w args => (Rows.orderSameSpec.pre enc Tryd.prog Tryd.f10 [] false w args ∧ laidMetH Tryd.prog laid3 w) ∧ sizedMet enc Tryd.prog Tryd.f10 (OpenSpec.ofChange Rows.orderSameSpec) false w args)
      (Rows.orderSameSpec.post enc Tryd.prog Tryd.f10 false true false false) := by
  refine returnsInHanded_of_change_and (C := Tryd.checked) (X := fun w _ => laidMetH Tryd.prog laid3 w) (fun _ _ _ hh h => h.of_heap hh) own started (by kernel_rfl) Tryd.func10
    (ChangeSpec.witness_shaped (enc := enc) (C := Tryd.checked) (os := os) (X := fun w _ => laidMetH Tryd.prog laid3 w) false (World.doorLaid Tryd.prog 400 os) #[.slice none 0 0] 8 rfl (World.shaped_of_RefB (by kernel_rfl) (by kernel_rfl)) (by kernel_rfl) (by kernel_rfl) (by kernel_rfl) (door_met os _)) ?_
  intro W base args ds gs before hval0 hW _ _ hL _
  have hval : ∀ (j : Nat) t v, Tryd.f10.params[j]? = some t → args[j]? = some v → Value.okWide Tryd.prog W .any base t v := hval0
  have hW' := hW
  obtain ⟨p, q, hA0, hV, rfl, hfz, hnd⟩ := hW
  have hA : DataW.TrodAll enc Tryd.prog W 0 (fun _ => true) true Tryd.f10.params.toList args.toList ds p := hA0
  rw [Tryd.params10] at hA hval
  obtain ⟨v0, vs0, d0, ds0, p0, q0, hargs, rfl, rfl, h0, r0⟩ := trodAll_cons hA
  obtain ⟨rfl, rfl, rfl⟩ := trodAll_nil r0
  obtain rfl : args = #[v0] := by cases args; simp_all
  obtain ⟨rfl, rfl⟩ := trodVars_none hV
  obtain ⟨a0, len0, cap0, rfl⟩ := okWide_slice Tryd.underlying27 (hval 0 27 v0 rfl rfl)
  have k0 := h0
  have lt0 : ∀ x ∈ p0, x.block < W.heap.size := by obtain ⟨m, hm⟩ := k0; exact DataW.trod_lt m _ _ _ hm
  obtain ⟨z0, w0⟩ : ∃ zs, IsRow .u32 W a0 len0 cap0 zs := by
    obtain ⟨fuel, hf⟩ := h0
    rcases open_ints Tryd.underlying27 Tryd.underlying22 (by kernel_rfl) hf with ⟨hcs, _⟩ | ⟨x, l, c, zs, hcs, _, hl, hm, hz, _, hcell, hwz⟩
    · simp [Value.cells] at hcs
      obtain ⟨rfl, rfl, rfl⟩ := hcs
      exact ⟨[], .inl ⟨rfl, rfl, rfl, rfl⟩⟩
    · simp [Value.cells] at hcs
      obtain ⟨rfl, rfl, rfl⟩ := hcs
      exact ⟨zs, .inr ⟨_, rfl, hl, hm, by simpa using hz, hcell, hwz⟩⟩
  obtain ⟨L0, s0, _, b0⟩ := sl_of_row w0
  clear hA0 hval0
  refine (walk _ L0 W s0 b0 (of_laid hL)).mono fun e W' ⟨he, hg⟩ => ?_
  subst he
  have bel : Below W.heap.size W W' := hg
  exact ⟨_, rfl, _, _, _, [], _, [], hW', trodAll_mk1 (shut_bool Tryd.underlying4 _), (trodAll_cons_mk (Below.trod laidOut (by kernel_rfl) (of_decide_eq_true (by kernel_rfl)) k0 bel lt0) trodAll_mk0), rfl, bel.frame _, fun h => by cases h⟩

theorem over : Rows.OrderSameSaid :=
  OpenClaim.holds_of_wide 10 Tryd.f10 rfl rfl rfl rfl rfl rfl rfl ⟨rfl, rfl, rfl, rfl, rfl⟩ rfl rfl rfl rfl rfl (by kernel_rfl) Tryd.func10 (by kernel_rfl)
    (of_decide_eq_true (by kernel_rfl)) (by unfold Func.isWrapper; rw [if_neg (of_decide_eq_false (by kernel_rfl))]; exact ⟨rfl, rfl⟩)
    (fun os started H enc _ => lifted os started H enc)

theorem proved : Rows.OrderSameCardSaid :=
  Claim7.holds_tied_plain_at .later [] [.data, .data, .data] true Rows.orderSameCard.stood.harness false
    over (fun _ h => by cases h) (by kernel_rfl) (fun _ h => by cases h) orderSame_row_tie rfl ⟨rfl, rfl⟩ (by kernel_rfl) rfl
    (fun f fn hf hfn => by
      obtain rfl : f = 10 := Option.some.inj ((show Tryd.prog.funcNamed "gesso/gessolaw06.OrderSame" = some 10 by kernel_rfl).symm.trans hf) |>.symm
      obtain rfl : fn = Tryd.f10 := (Option.some.inj (Tryd.func10.symm.trans hfn)).symm
      exact ⟨by kernel_rfl, fun j t ht => by
        rw [Tryd.params10] at ht
        have hm : t ∈ [27] := by simpa using Array.mem_of_getElem? ht
        have hall : ([27].all fun u => !Tryd.prog.wantsStandIn u) = true := by kernel_rfl
        exact (show Tryd.prog.wantsStandIn t = false by simpa using List.all_eq_true.1 hall t hm)⟩)
    (by kernel_rfl)
#print axioms proved
end Go.Proofs.YtgjlneedpbgfpaaDoor.orderSame
