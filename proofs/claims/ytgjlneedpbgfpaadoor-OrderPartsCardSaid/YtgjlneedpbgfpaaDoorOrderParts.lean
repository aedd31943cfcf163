/- The law OrderParts: where a number that is no mark begins the second of two lists both can be put into order alone. No condition; the listed tables of the library are tied to the program's text. -/
import Derived.Test.YtgjlneedpbgfpaaDoorGOrd
import Derived.Test.YtgjlneedpbgfpaaDoorLaid
import Derived.Test.YtgjlneedpbgfpaaDoorCards
import Derived.Test.YtgjlneedpbgfpaaDoorTie
import Derived.SevenTiedAt
import Derived.Deep.RegionWith
namespace Go.Proofs.YtgjlneedpbgfpaaDoor.orderParts
open Go.ChangeShapes Go.WideShapes Go.ChangeAt Go.RowKit Go.WideMaps Go.WideElems

set_option maxRecDepth 20000 in
set_option maxHeartbeats 4000000 in
theorem walk (v0 : Value) (A : List Nat) (v1 : Value) (B : List Nat) (w : World) (s0 : Sl w v0 A) (b0 : ∀ x ∈ A, x < 4294967296) (s1 : Sl w v1 B) (b1 : ∀ x ∈ B, x < 4294967296) (ht : Tz w) :
    Calls Tryd.prog 11 #[v0, v1] w fun e w' => e = .returned (.bool true) ∧ Gr w w' := by
  have S0 := hid s0
  have S1 := hid s1
  obtain ⟨ao, ca, rfl, h0, hA⟩ := s0
  obtain ⟨bo, cb, rfl, h1, hB⟩ := s1
  clear h0 hA h1 hB
  have HA := hid b0
  have HB := hid b1
  clear b0 b1
  by_cases hb1 : A.length ≤ 500
  · have hl1 : (A.length : Int) ≤ 500 := by omega
    have hd1 : decide ((500 : Int) < A.length) = false := decide_eq_false (by omega)
    by_cases hb2 : B.length ≤ 500
    · have hl2 : (B.length : Int) ≤ 500 := by omega
      have hd2 : decide ((500 : Int) < B.length) = false := decide_eq_false (by omega)
      have HCL := hid (Classes_any (.slice bo B.length cb) B w ht S1.out HB.out (by omega))
      have HM : Hid ((B.map cls).length = B.length) := by show _ = _; rw [List.length_map]
      by_cases hz : B.length = 0
      · have hz1 : ¬ (0 : Int) < B.length := by omega
        have hz2 : decide ((0 : Int) < B.length) = false := decide_eq_false hz1
        have hj : ordL (A ++ B) = ordL A ++ ordL B := by
          rw [List.eq_nil_of_length_eq_zero hz, List.append_nil, show ordL [] = [] from by unfold ordL; rw [ordG_n]; exact List.eq_nil_of_length_eq_zero (srt_length []), List.append_nil]
        clear hz
        have hlA := ordL_length A
        have hlB := ordL_length B
        have HLA := fun W v (t : Tz W) (s : Sl W v A) => Order_any v A W t s HA.out (by omega)
        have HLB := fun W v (t : Tz W) (s : Sl W v B) => Order_any v B W t s HB.out (by omega)
        have HAB : ∀ x ∈ A ++ B, x < 4294967296 := fun x hx => by
          rw [List.mem_append] at hx
          exact hx.elim (HA.out x) (HB.out x)
        have HLX := fun W v (t : Tz W) (s : Sl W v (A ++ B)) => Order_any v (A ++ B) W t s HAB (by simp; omega)
        rw [hj] at HLX
        obtain ⟨M, hM⟩ : ∃ M, ordL A = M := ⟨_, rfl⟩
        obtain ⟨K, hK⟩ : ∃ K, ordL B = K := ⟨_, rfl⟩
        rw [hM] at HLA HLX hlA
        rw [hK] at HLB HLX hlB
        have HLA' := hid HLA
        have HLB' := hid HLB
        have HLX' := hid HLX
        clear hM hK HAB HLA HLB HLX hj
        go_enter Tryd.func11, Tryd.ntmps11
        go_wp2_with (first
          | (go_at_call 36; refine HCL.out.mono ?_; rintro e w0 ⟨vk, rfl, hvk, g0⟩; rw [HM.out] at hvk; obtain ⟨bk, ck, rfl⟩ := row_shape hvk; clear hvk; have T0 := ht.gr g0; have S00 := hid (S0.out.gr g0); have S10 := hid (S1.out.gr g0))
          | (at_builtin; (with_reducible show wpList _ _ _ _ _ (World.alloc _ _)); refine wpList_copy_sl rfl (.tmp 42) _ rfl A rfl _ rfl S00.out (by omega) ?_; intro vi wi hvi gi; have HVI := hid hvi; clear hvi)
          | (at_builtin; refine wpList_append_sl rfl (.tmp 44) _ rfl w0.heap.size vi A B rfl HVI.out _ rfl (S10.out.gr gi) (by omega) gi.size ?_; intro vj wj hvj hgj; have gj := gr_add2 gi HVI.out hgj; have HVJ := hid hvj; clear hvj hgj)
          | (go_at_call 34; ((with_reducible refine (HLX'.out wj vj (T0.gr gj) (Sl.of_row HVJ.out)).mono ?_); rintro e w1 ⟨vm, rfl, hvm, g1⟩; have HVM := hid hvm; clear hvm))
          | (go_at_call 34; ((with_reducible refine (HLA'.out (w1.alloc (.cells #[] 22)) _ (T0.gr ((gj.trans g1).trans (Gr.alloc _ _))) (S00.out.gr ((gj.trans g1).trans (Gr.alloc _ _)))).mono ?_); rintro e w2 ⟨va, rfl, hva, g2⟩; have HVA := hid hva; clear hva))
          | (at_builtin; refine wpList_append_sl rfl (.tmp 49) _ rfl w1.heap.size _ [] M rfl (ownsRow_gr (own_empty w1) g2) _ rfl (Sl.of_row HVA.out) (by simp; omega) (by have := g2.size; simp at this; omega) ?_; intro vk wk hvk hgk; have gk := gr_add2 ((Gr.alloc w1 _).trans g2) (ownsRow_gr (own_empty w1) g2) hgk; have HVK := hid hvk; clear hvk hgk)
          | (go_at_call 34; ((with_reducible refine (HLB'.out wk _ (T0.gr ((gj.trans g1).trans gk)) (S10.out.gr ((gj.trans g1).trans gk))).mono ?_); rintro e w3 ⟨vb, rfl, hvb, g3⟩; have HVB := hid hvb; clear hvb))
          | (at_builtin; refine wpList_append_sl rfl (.tmp 52) _ rfl w1.heap.size vk ([] ++ M) K rfl (ownsRow_gr HVK.out g3) _ rfl (Sl.of_row HVB.out) (by simp; omega) (by have := (gk.trans g3).size; omega) ?_; intro vl wl hvl hgl; have gl := gr_add2 (gk.trans g3) (ownsRow_gr HVK.out g3) hgl; have HVL := hid hvl; clear hvl hgl)
          | (go_at_call 27; refine (same_any vm vl (M ++ K) (M ++ K) wl ((Sl.of_row HVM.out).gr gl) (Sl.of_row HVL.out) (by simp; omega)).mono ?_; rintro e w4 ⟨rfl, g4⟩)
          | (go_at_call 33; refine (awake6_any _ (T0.gr (((gj.trans g1).trans gl).trans g4))).mono ?_; rintro e w5 ⟨rfl, g5⟩))
        go_ret
        exact ⟨rfl, g0.trans <| (((gj.trans g1).trans gl).trans g4).trans g5⟩
      · have hz1 : (0 : Int) < B.length := by omega
        have hz2 : decide ((0 : Int) < B.length) = true := decide_eq_true hz1
        have HPB : Hid (0 < B.length) := by show _ < _; omega
        obtain ⟨s, t, hBs⟩ : ∃ s t, B = s :: t := by cases B with | nil => exact absurd rfl hz | cons s t => exact ⟨s, t, rfl⟩
        by_cases h0 : cls s = 0
        · have HC0 : Hid ((B.map cls).getD 0 0 = 0) := by show _ = _; rw [hBs]; exact h0
          have hj : ordL (A ++ B) = ordL A ++ ordL B := by rw [hBs, ordL_starter h0, ordL_cons h0]
          clear hBs h0 hz
          have hlA := ordL_length A
          have hlB := ordL_length B
          have HLA := fun W v (t : Tz W) (s : Sl W v A) => Order_any v A W t s HA.out (by omega)
          have HLB := fun W v (t : Tz W) (s : Sl W v B) => Order_any v B W t s HB.out (by omega)
          have HAB : ∀ x ∈ A ++ B, x < 4294967296 := fun x hx => by
            rw [List.mem_append] at hx
            exact hx.elim (HA.out x) (HB.out x)
          have HLX := fun W v (t : Tz W) (s : Sl W v (A ++ B)) => Order_any v (A ++ B) W t s HAB (by simp; omega)
          rw [hj] at HLX
          obtain ⟨M, hM⟩ : ∃ M, ordL A = M := ⟨_, rfl⟩
          obtain ⟨K, hK⟩ : ∃ K, ordL B = K := ⟨_, rfl⟩
          rw [hM] at HLA HLX hlA
          rw [hK] at HLB HLX hlB
          have HLA' := hid HLA
          have HLB' := hid HLB
          have HLX' := hid HLX
          clear hM hK HAB HLA HLB HLX hj
          go_enter Tryd.func11, Tryd.ntmps11
          go_wp2_with (first
            | (go_at_call 36; refine HCL.out.mono ?_; rintro e w0 ⟨vk, rfl, hvk, g0⟩; rw [HM.out] at hvk; obtain ⟨gk, ck, rfl, hk1, hk2⟩ := row_form hvk HPB.out; have hck := int_cell (l := B.map cls) (by rw [HM.out]; exact hvk) 0 (by rw [HM.out]; exact HPB.out); rw [HC0.out] at hck; clear hvk hk1 hk2; have T0 := ht.gr g0; have S00 := hid (S0.out.gr g0); have S10 := hid (S1.out.gr g0))
            | (at_builtin; (with_reducible show wpList _ _ _ _ _ (World.alloc _ _)); refine wpList_copy_sl rfl (.tmp 42) _ rfl A rfl _ rfl S00.out (by omega) ?_; intro vi wi hvi gi; have HVI := hid hvi; clear hvi)
            | (at_builtin; refine wpList_append_sl rfl (.tmp 44) _ rfl w0.heap.size vi A B rfl HVI.out _ rfl (S10.out.gr gi) (by omega) gi.size ?_; intro vj wj hvj hgj; have gj := gr_add2 gi HVI.out hgj; have HVJ := hid hvj; clear hvj hgj)
            | (go_at_call 34; ((with_reducible refine (HLX'.out wj vj (T0.gr gj) (Sl.of_row HVJ.out)).mono ?_); rintro e w1 ⟨vm, rfl, hvm, g1⟩; have HVM := hid hvm; clear hvm))
            | (go_at_call 34; ((with_reducible refine (HLA'.out (w1.alloc (.cells #[] 22)) _ (T0.gr ((gj.trans g1).trans (Gr.alloc _ _))) (S00.out.gr ((gj.trans g1).trans (Gr.alloc _ _)))).mono ?_); rintro e w2 ⟨va, rfl, hva, g2⟩; have HVA := hid hva; clear hva))
            | (at_builtin; refine wpList_append_sl rfl (.tmp 49) _ rfl w1.heap.size _ [] M rfl (ownsRow_gr (own_empty w1) g2) _ rfl (Sl.of_row HVA.out) (by simp; omega) (by have := g2.size; simp at this; omega) ?_; intro vk wk hvk hgk; have gk := gr_add2 ((Gr.alloc w1 _).trans g2) (ownsRow_gr (own_empty w1) g2) hgk; have HVK := hid hvk; clear hvk hgk)
            | (go_at_call 34; ((with_reducible refine (HLB'.out wk _ (T0.gr ((gj.trans g1).trans gk)) (S10.out.gr ((gj.trans g1).trans gk))).mono ?_); rintro e w3 ⟨vb, rfl, hvb, g3⟩; have HVB := hid hvb; clear hvb))
            | (at_builtin; refine wpList_append_sl rfl (.tmp 52) _ rfl w1.heap.size vk ([] ++ M) K rfl (ownsRow_gr HVK.out g3) _ rfl (Sl.of_row HVB.out) (by simp; omega) (by have := (gk.trans g3).size; omega) ?_; intro vl wl hvl hgl; have gl := gr_add2 (gk.trans g3) (ownsRow_gr HVK.out g3) hgl; have HVL := hid hvl; clear hvl hgl)
            | (go_at_call 27; refine (same_any vm vl (M ++ K) (M ++ K) wl ((Sl.of_row HVM.out).gr gl) (Sl.of_row HVL.out) (by simp; omega)).mono ?_; rintro e w4 ⟨rfl, g4⟩)
            | (go_at_call 33; refine (awake6_any _ (T0.gr (((gj.trans g1).trans gl).trans g4))).mono ?_; rintro e w5 ⟨rfl, g5⟩))
          go_ret
          exact ⟨rfl, g0.trans <| (((gj.trans g1).trans gl).trans g4).trans g5⟩
        · obtain ⟨c, hc⟩ : ∃ c, cls s = c := ⟨_, rfl⟩
          have HC0 : Hid ((B.map cls).getD 0 0 = c) := by show _ = _; rw [hBs]; exact hc
          have hc1 : ¬ (c : Int) = 0 := by omega
          have hc2 : ((c : Int) != 0) = true := by rw [bne_iff_ne]; exact hc1
          clear hBs h0 hc hz HA HB S0
          go_enter Tryd.func11, Tryd.ntmps11
          go_wp2_with (first
            | (go_at_call 36; refine HCL.out.mono ?_; rintro e w0 ⟨vk, rfl, hvk, g0⟩; rw [HM.out] at hvk; obtain ⟨gk, ck, rfl, hk1, hk2⟩ := row_form hvk HPB.out; have hck := int_cell (l := B.map cls) (by rw [HM.out]; exact hvk) 0 (by rw [HM.out]; exact HPB.out); rw [HC0.out] at hck; clear hvk hk1 hk2)
            | (go_at_call 33; refine (awake6_any _ (ht.gr g0)).mono ?_; rintro e w1 ⟨rfl, g1⟩))
          go_ret
          exact ⟨rfl, g0.trans g1⟩
    · have hl2 : (500 : Int) < B.length := by omega
      have hd2 : decide ((500 : Int) < B.length) = true := decide_eq_true (by omega)
      clear S0 S1 HA HB
      go_enter Tryd.func11, Tryd.ntmps11
      go_wp2_with (go_at_call 33; refine (awake6_any _ ht).mono ?_; rintro e w1 ⟨rfl, g1⟩)
      go_ret
      exact ⟨rfl, g1⟩
  · have hl1 : (500 : Int) < A.length := by omega
    have hd1 : decide ((500 : Int) < A.length) = true := decide_eq_true (by omega)
    clear S0 S1 HA HB
    go_enter Tryd.func11, Tryd.ntmps11
    go_wp2_with (go_at_call 33; refine (awake6_any _ ht).mono ?_; rintro e w1 ⟨rfl, g1⟩)
    go_ret
    exact ⟨rfl, g1⟩

theorem laidOut : laidOutB Tryd.prog = true := by kernel_rfl

set_option maxRecDepth 100000 in
theorem lifted (os : Os) (started : os.Started) (H : Type) (enc : TypeId × Value → H) :
    ReturnsInHanded {} Tryd.checked os 11 .any (fun w args => (Rows.orderPartsSpec.pre enc Tryd.prog Tryd.f11 [] false w args ∧ laidMetH Tryd.prog laid3 w) ∧ sizedMet enc Tryd.prog Tryd.f11 (OpenSpec.ofChange Rows.orderPartsSpec) false w args)
      (Rows.orderPartsSpec.post enc Tryd.prog Tryd.f11 false true false false) := by
  refine returnsInHanded_of_change_and (C := Tryd.checked) (X := fun w _ => laidMetH Tryd.prog laid3 w) (fun _ _ _ hh h => h.of_heap hh) own started (by kernel_rfl) Tryd.func11
    (ChangeSpec.witness_shaped (enc := enc) (C := Tryd.checked) (os := os) (X := fun w _ => laidMetH Tryd.prog laid3 w) false (World.doorLaid Tryd.prog 400 os) #[.slice none 0 0, .slice none 0 0] 8 rfl (World.shaped_of_RefB (by kernel_rfl) (by kernel_rfl)) (by kernel_rfl) (by kernel_rfl) (by kernel_rfl) (door_met os _)) ?_
  intro W base args ds gs before hval0 hW _ _ hL _
  have hval : ∀ (j : Nat) t v, Tryd.f11.params[j]? = some t → args[j]? = some v → Value.okWide Tryd.prog W .any base t v := hval0
  have hW' := hW
  obtain ⟨p, q, hA0, hV, rfl, hfz, hnd⟩ := hW
  have hA : DataW.TrodAll enc Tryd.prog W 0 (fun _ => true) true Tryd.f11.params.toList args.toList ds p := hA0
  rw [Tryd.params11] at hA hval
  obtain ⟨v0, vs0, d0, ds0, p0, q0, hargs, rfl, rfl, h0, r0⟩ := trodAll_cons hA
  obtain ⟨v1, vs1, d1, ds1, p1, q1, rfl, rfl, rfl, h1, r1⟩ := trodAll_cons r0
  obtain ⟨rfl, rfl, rfl⟩ := trodAll_nil r1
  obtain rfl : args = #[v0, v1] := by cases args; simp_all
  obtain ⟨rfl, rfl⟩ := trodVars_none hV
  obtain ⟨a0, len0, cap0, rfl⟩ := okWide_slice Tryd.underlying27 (hval 0 27 v0 rfl rfl)
  have k0 := h0
  have lt0 : ∀ x ∈ p0, x.block < W.heap.size := by obtain ⟨m, hm⟩ := k0; exact DataW.trod_lt m _ _ _ hm
  obtain ⟨z0, w0⟩ : ∃ zs, IsRow .u32 W a0 len0 cap0 zs := by
    obtain ⟨fuel, hf⟩ := h0
    rcases open_ints Tryd.underlying27 Tryd.underlying22 (by kernel_rfl) hf with ⟨hcs, _⟩ | ⟨x, l, c, zs, hcs, _, hl, hm, hz, _, hcell, hwz⟩
    · simp [Value.cells] at hcs
      obtain ⟨rfl, rfl, rfl⟩ := hcs
      exact ⟨[], .inl ⟨rfl, rfl, rfl, rfl⟩⟩
    · simp [Value.cells] at hcs
      obtain ⟨rfl, rfl, rfl⟩ := hcs
      exact ⟨zs, .inr ⟨_, rfl, hl, hm, by simpa using hz, hcell, hwz⟩⟩
  obtain ⟨L0, s0, _, b0⟩ := sl_of_row w0
  obtain ⟨a1, len1, cap1, rfl⟩ := okWide_slice Tryd.underlying27 (hval 1 27 v1 rfl rfl)
  have k1 := h1
  have lt1 : ∀ x ∈ p1, x.block < W.heap.size := by obtain ⟨m, hm⟩ := k1; exact DataW.trod_lt m _ _ _ hm
  obtain ⟨z1, w1⟩ : ∃ zs, IsRow .u32 W a1 len1 cap1 zs := by
    obtain ⟨fuel, hf⟩ := h1
    rcases open_ints Tryd.underlying27 Tryd.underlying22 (by kernel_rfl) hf with ⟨hcs, _⟩ | ⟨x, l, c, zs, hcs, _, hl, hm, hz, _, hcell, hwz⟩
    · simp [Value.cells] at hcs
      obtain ⟨rfl, rfl, rfl⟩ := hcs
      exact ⟨[], .inl ⟨rfl, rfl, rfl, rfl⟩⟩
    · simp [Value.cells] at hcs
      obtain ⟨rfl, rfl, rfl⟩ := hcs
      exact ⟨zs, .inr ⟨_, rfl, hl, hm, by simpa using hz, hcell, hwz⟩⟩
  obtain ⟨L1, s1, _, b1⟩ := sl_of_row w1
  clear hA0 hval0
  refine (walk _ L0 _ L1 W s0 b0 s1 b1 (of_laid hL)).mono fun e W' ⟨he, hg⟩ => ?_
  subst he
  have bel : Below W.heap.size W W' := hg
  exact ⟨_, rfl, _, _, _, [], _, [], hW', trodAll_mk1 (shut_bool Tryd.underlying4 _), (trodAll_cons_mk (Below.trod laidOut (by kernel_rfl) (of_decide_eq_true (by kernel_rfl)) k0 bel lt0) (trodAll_cons_mk (Below.trod laidOut (by kernel_rfl) (of_decide_eq_true (by kernel_rfl)) k1 bel lt1) trodAll_mk0)), rfl, bel.frame _, fun h => by cases h⟩

theorem over : Rows.OrderPartsSaid :=
  OpenClaim.holds_of_wide 11 Tryd.f11 rfl rfl rfl rfl rfl rfl rfl ⟨rfl, rfl, rfl, rfl, rfl⟩ rfl rfl rfl rfl rfl (by kernel_rfl) Tryd.func11 (by kernel_rfl)
    (of_decide_eq_true (by kernel_rfl)) (by unfold Func.isWrapper; rw [if_neg (of_decide_eq_false (by kernel_rfl))]; exact ⟨rfl, rfl⟩)
    (fun os started H enc _ => lifted os started H enc)

theorem proved : Rows.OrderPartsCardSaid :=
  Claim7.holds_tied_plain_at .later [] [.data, .data, .data] true Rows.orderPartsCard.stood.harness false
    over (fun _ h => by cases h) (by kernel_rfl) (fun _ h => by cases h) orderParts_row_tie rfl ⟨rfl, rfl⟩ (by kernel_rfl) rfl
    (fun f fn hf hfn => by
      obtain rfl : f = 11 := Option.some.inj ((show Tryd.prog.funcNamed "gesso/gessolaw06.OrderParts" = some 11 by kernel_rfl).symm.trans hf) |>.symm
      obtain rfl : fn = Tryd.f11 := (Option.some.inj (Tryd.func11.symm.trans hfn)).symm
      exact ⟨by kernel_rfl, fun j t ht => by
        rw [Tryd.params11] at ht
        have hm : t ∈ [27, 27] := by simpa using Array.mem_of_getElem? ht
        have hall : ([27, 27].all fun u => !Tryd.prog.wantsStandIn u) = true := by kernel_rfl
        exact (show Tryd.prog.wantsStandIn t = false by simpa using List.all_eq_true.1 hall t hm)⟩)
    (by kernel_rfl)
#print axioms proved
end Go.Proofs.YtgjlneedpbgfpaaDoor.orderParts
