/- The law NormParts: what is cut where a number starts has the composed form of both parts, one behind the other. No condition; the listed tables of the library are tied to the program's text. -/
import Derived.Test.YtdakagahofalkaaDoorKM
import Derived.Test.YtdakagahofalkaaDoorCards
import Derived.Test.YtdakagahofalkaaDoorTie
import Derived.SevenTiedAt
import Derived.Deep.RegionWith
import Derived.Lay
import Derived.Deep.RegionHeld3
import Derived.Deep.DeepCutAuto
import Derived.Deep.LoopGhost
import Derived.Maps.AppendAt
import Derived.BigQuiet
namespace Go.Proofs.YtdakagahofalkaaDoor.normParts
open Go.ChangeShapes Go.WideShapes Go.ChangeAt Go.RowKit Go.WideMaps Go.WideElems

set_option maxRecDepth 20000 in
set_option maxHeartbeats 4000000 in
theorem walk (v0 : Value) (L0 : List Nat) (w : World) (c0 : SlC w v0 L0) (s0 : Sl w v0 L0) (b0 : ∀ x ∈ L0, x < 4294967296) (ht : Tz w) (hu : Ut w) :
    Calls Tryd.prog 4 #[v0] w fun e w' => e = .returned (.bool true) ∧ Gr w w' := by
  have S0 := hid s0
  obtain ⟨ao, ca, rfl, h0, hA⟩ := s0
  have hcap : L0.length ≤ ca := by obtain ⟨_, _, e, h, _⟩ := c0; injection e with e1 e2 e3; omega
  have hcm : ca ≤ maxLen := by obtain ⟨_, _, e, _, h, _⟩ := c0; injection e with e1 e2 e3; omega
  clear hA c0
  have HB := hid b0
  clear b0
  by_cases hbig : L0.length ≤ 300
  · have hl1 : (L0.length : Int) ≤ 300 := by omega
    have hd : decide ((300 : Int) < L0.length) = false := decide_eq_false (by omega)
    have H1 := Safe_any _ L0 w ht S0.out HB.out (by omega)
    obtain ⟨k, hk⟩ : ∃ k, safeL L0 = k := ⟨_, rfl⟩
    rw [hk] at H1
    obtain ⟨hp, hkl⟩ := safe_parts hk
    obtain ⟨n, hn⟩ : ∃ n, L0.length = n := ⟨_, rfl⟩
    have hcutA := fun W => cutHi_run ao n ca k (by omega) h0 W
    have hcutB := fun W => cutLo_run ao n ca k (by omega) W
    have hcutA' := fun W => (atRun (.slice ao n ca) none (some (.int .i64 (k : Int))) none W).trans (hcutA W)
    have hcutB' := fun W => (atRun (.slice ao n ca) (some (.int .i64 (k : Int))) none none W).trans (hcutB W)
    have SA := hid (S0.out.hi hkl)
    have SB := hid (S0.out.lo hcap hkl)
    rw [hn] at hcap SB hkl hl1 hd hbig
    have lA : (L0.take k).length ≤ 300 := by rw [List.length_take]; omega
    have lB : (L0.drop k).length ≤ 300 := by rw [List.length_drop]; omega
    have bA : ∀ x ∈ L0.take k, x < 4294967296 := fun x hx => HB.out x (List.mem_of_mem_take hx)
    have bB : ∀ x ∈ L0.drop k, x < 4294967296 := fun x hx => HB.out x (List.mem_of_mem_drop hx)
    have nA := (nf_len (L0.take k)).2
    have nB := (nf_len (L0.drop k)).2
    have H4 := fun M (h : nfc L0 = M) => nfc_c HB.out (by omega) h
    generalize L0.take k = TA at SA lA bA nA hp
    generalize L0.drop k = TB at SB lB bB nB hp
    obtain ⟨MA, hMA⟩ : ∃ MA, nfc TA = MA := ⟨_, rfl⟩
    obtain ⟨MB, hMB⟩ : ∃ MB, nfc TB = MB := ⟨_, rfl⟩
    have H2 := nfc_c bA (by omega) hMA
    have H3 := nfc_c bB (by omega) hMB
    rw [hMA, hMB] at hp
    rw [hMA] at nA
    rw [hMB] at nB
    have H4 := H4 _ hp
    have E4 := same_c (A := MA ++ MB) (B := MA ++ MB) (by rw [List.length_append]; omega) (show decide (MA ++ MB = MA ++ MB) = true by simp)
    obtain ⟨av, hav⟩ : ∃ av, cutB ao ca k = av := ⟨_, rfl⟩
    obtain ⟨nb, hnb⟩ : ∃ nb, n - k = nb := ⟨_, rfl⟩
    obtain ⟨cb, hcb⟩ : ∃ cb, ca - k = cb := ⟨_, rfl⟩
    rw [hav, hnb, hcb] at hcutB hcutB' SB
    have H1 := hid H1
    have HNA := hid nA
    have HNB := hid nB
    have HLA := hid lA
    have HLB := hid lB
    have hk0 : ¬ (k : Int) < 0 := by omega
    have hk1 : ¬ (n : Int) < (k : Int) := by omega
    have hk2 : decide ((n : Int) < (k : Int)) = false := decide_eq_false hk1
    have hk3 : decide ((k : Int) < 0) = false := decide_eq_false hk0
    rw [hn]
    rw [hn] at S0 H1
    clear hk hp hkl bA bB hMA hMB hav hnb hcb nA nB lA lB hcap hcm h0 hn
    go_enter Tryd.func4, Tryd.ntmps4
    go_upto_region 6 with (go_at_call 11; refine H1.out.mono ?_; clear H1; rintro e w1 ⟨rfl, g1⟩)
    go_region_held3 (fun W => Gr w W) (first | exact g1 | exact g1.trans (Gr.drew _) | exact Gr.trans (by assumption) (Gr.alloc _ _) | exact Gr.trans (by assumption) ((Gr.alloc _ _).trans (Gr.drew _)) | assumption)
      (first
        | (go_at_call 14; (with_reducible refine (H2.out _ _ (ht.gr (by assumption)) (SA.out.gr (by assumption))).mono ?_); rintro e w2 ⟨v2, rfl, hv2, g2'⟩; have g2 := Gr.trans (by assumption) g2'; have R2 := hid (Sl.of_row hv2); clear hv2 H2)
        | (refine step_append_sl rfl _ _ rfl w1.heap.size (.slice (some ⟨w1.heap.size, 0, none⟩) 0 0) [] MA (by first | rfl | simp [Act.eval]) (ownsRow_gr (own_empty w1) ((Gr.drew _).trans g2')) v2 (by first | rfl | simp [Act.eval]) R2.out (by have := HNA.out; have := HLA.out; simp; omega) (Nat.le_trans (Gr.alloc w1 _).size ((Gr.drew _).trans g2').size) ?_; intro v3 w3 h3 k3; have g3' := gr_add2 (wo := w1) (((Gr.alloc w1 _).trans (Gr.drew _)).trans g2') (ownsRow_gr (own_empty w1) ((Gr.drew _).trans g2')) k3; have g3 := g1.trans g3'; have R3 := hid h3; clear h3 k3)
        | (refine step_append_sl rfl _ _ rfl w2.heap.size (.slice (some ⟨w2.heap.size, 0, none⟩) 0 0) [] MA (by first | rfl | simp [Act.eval]) (own_empty w2) v2 (by first | rfl | simp [Act.eval]) (R2.out.gr (Gr.alloc _ _)) (by have := HNA.out; have := HLA.out; simp; omega) (Gr.alloc w2 _).size ?_; intro v3 w3 h3 k3; have g3' := gr_add2 (wo := w2) (Gr.alloc w2 _) (own_empty w2) k3; have g3 := g2.trans g3'; have R3 := hid h3; clear h3 k3)
        | (go_at_call 14; (with_reducible refine (H3.out _ _ (ht.gr g3) (SB.out.gr g3)).mono ?_); rintro e w4 ⟨v4, rfl, hv4, g4'⟩; have g4 := Gr.trans g3 g4'; have R4 := hid (Sl.of_row hv4); clear hv4 H3)
        | (refine step_append_sl rfl _ _ rfl _ v3 MA MB (by first | rfl | simp [Act.eval]) (ownsRow_gr R3.out g4') v4 (by first | rfl | simp [Act.eval]) R4.out (by have := HNA.out; have := HLA.out; have := HNB.out; have := HLB.out; omega) (Nat.le_trans g3'.size g4'.size) ?_; intro v5 w5 h5 k5; have g5' := gr_add2 (g3'.trans g4') (ownsRow_gr R3.out g4') k5; have g5 : Gr w w5 := (by first | exact g1.trans g5' | exact g2.trans g5'); have HX := hid (Sl.of_row h5); clear h5 k5 g5'))
    all_goals
      go_wp2_with (first
        | (go_at_call 14; refine (H4.out w5 _ (ht.gr g5) (S0.out.gr g5)).mono ?_; rintro e w6 ⟨v6, rfl, hv6, g6⟩; have R6 := hid (Sl.of_row hv6); clear hv6 H4)
        | (go_at_call 15; refine (E4.out w6 v6 v5 R6.out (HX.out.gr g6)).mono ?_; rintro e w7 ⟨rfl, g7⟩; have G7 := (g5.trans g6).trans g7)
        | (go_at_call 13; refine (awake8_any _ (ht.gr G7) (hu.gr G7)).mono ?_; rintro e w8 ⟨rfl, g8⟩))
      go_ret
      exact ⟨rfl, G7.trans g8⟩
  · have hl1 : (300 : Int) < L0.length := by omega
    clear S0 HB
    go_enter Tryd.func4, Tryd.ntmps4
    go_wp2_with (go_at_call 13; refine (awake8_any _ ht hu).mono ?_; rintro e w1 ⟨rfl, g1⟩)
    go_ret
    exact ⟨rfl, g1⟩

theorem laidOut : laidOutB Tryd.prog = true := by kernel_rfl

set_option maxRecDepth 100000 in
theorem lifted (os : Os) (started : os.Started) (H : Type) (enc : TypeId × Value → H) :
    ReturnsInHanded {} Tryd.checked os 4 .any (fun w args => (Rows.normPartsSpec.pre enc Tryd.prog Tryd.f4 [] false w args ∧ laidMetH Tryd.prog laid5 w) ∧ sizedMet enc Tryd.prog Tryd.f4 (OpenSpec.ofChange Rows.normPartsSpec) false w args)
      (Rows.normPartsSpec.post enc Tryd.prog Tryd.f4 false true false false) := by
  refine returnsInHanded_of_change_and (C := Tryd.checked) (X := fun w _ => laidMetH Tryd.prog laid5 w) (fun _ _ _ hh h => h.of_heap hh) own started (by kernel_rfl) Tryd.func4
    (ChangeSpec.witness_shaped (enc := enc) (C := Tryd.checked) (os := os) (X := fun w _ => laidMetH Tryd.prog laid5 w) false (World.laidAll Tryd.prog os laid5) #[.slice none 0 0] 8 (World.laidAll_os _ _ _) (World.shaped_of_ZipB (by kernel_rfl) (by kernel_rfl)) (by kernel_rfl) (by kernel_rfl) (by kernel_rfl) (met5 os _)) ?_
  intro W base args ds gs before hval0 hW _ _ hL _
  have hval : ∀ (j : Nat) t v, Tryd.f4.params[j]? = some t → args[j]? = some v → Value.okWide Tryd.prog W .any base t v := hval0
  have hW' := hW
  obtain ⟨p, q, hA0, hV, rfl, hfz, hnd⟩ := hW
  have hA : DataW.TrodAll enc Tryd.prog W 0 (fun _ => true) true Tryd.f4.params.toList args.toList ds p := hA0
  rw [Tryd.params4] at hA hval
  obtain ⟨v0, vs0, d0, ds0, p0, q0, hargs, rfl, rfl, h0, r0⟩ := trodAll_cons hA
  obtain ⟨rfl, rfl, rfl⟩ := trodAll_nil r0
  obtain rfl : args = #[v0] := by cases args; simp_all
  obtain ⟨rfl, rfl⟩ := trodVars_none hV
  obtain ⟨a0, len0, cap0, rfl⟩ := okWide_slice Tryd.underlying22 (hval 0 22 v0 rfl rfl)
  have k0 := h0
  have lt0 : ∀ x ∈ p0, x.block < W.heap.size := by obtain ⟨m, hm⟩ := k0; exact DataW.trod_lt m _ _ _ hm
  obtain ⟨z0, w0⟩ : ∃ zs, IsRow .u32 W a0 len0 cap0 zs := by
    obtain ⟨fuel, hf⟩ := h0
    rcases open_ints Tryd.underlying22 Tryd.underlying34 (by kernel_rfl) hf with ⟨hcs, _⟩ | ⟨x, l, c, zs, hcs, _, hl, hm, hz, _, hcell, hwz⟩
    · simp [Value.cells] at hcs
      obtain ⟨rfl, rfl, rfl⟩ := hcs
      exact ⟨[], .inl ⟨rfl, rfl, rfl, rfl⟩⟩
    · simp [Value.cells] at hcs
      obtain ⟨rfl, rfl, rfl⟩ := hcs
      exact ⟨zs, .inr ⟨_, rfl, hl, hm, by simpa using hz, hcell, hwz⟩⟩
  obtain ⟨L0, c0, s0, _, b0⟩ := slc_of_row w0
  clear hA0 hval0
  refine (walk _ L0 W c0 s0 b0 (of_laid5 hL).1 (of_laid5 hL).2).mono fun e W' ⟨he, hg⟩ => ?_
  subst he
  have bel : Below W.heap.size W W' := hg
  exact ⟨_, rfl, _, _, _, [], _, [], hW', trodAll_mk1 (shut_bool Tryd.underlying4 _), (trodAll_cons_mk (Below.trod laidOut (by kernel_rfl) (of_decide_eq_true (by kernel_rfl)) k0 bel lt0) trodAll_mk0), rfl, bel.frame _, fun h => by cases h⟩

theorem over : Rows.NormPartsSaid :=
  OpenClaim.holds_of_wide 4 Tryd.f4 rfl rfl rfl rfl rfl rfl rfl ⟨rfl, rfl, rfl, rfl, rfl⟩ rfl rfl rfl rfl rfl (by kernel_rfl) Tryd.func4 (by kernel_rfl)
    (of_decide_eq_true (by kernel_rfl)) (by unfold Func.isWrapper; rw [if_neg (of_decide_eq_false (by kernel_rfl))]; exact ⟨rfl, rfl⟩)
    (fun os started H enc _ => lifted os started H enc)

theorem proved : Rows.NormPartsCardSaid :=
  Claim7.holds_tied_plain_at .later [] [.data, .data, .data, .data, .pinned] true Rows.normPartsCard.stood.harness false
    over (fun _ h => by cases h) (by kernel_rfl) (fun _ h => by cases h) normParts_row_tie rfl ⟨rfl, rfl⟩ (by kernel_rfl) rfl
    (fun f fn hf hfn => by
      obtain rfl : f = 4 := Option.some.inj ((show Tryd.prog.funcNamed "gesso/gessolaw08.NormParts" = some 4 by kernel_rfl).symm.trans hf) |>.symm
      obtain rfl : fn = Tryd.f4 := (Option.some.inj (Tryd.func4.symm.trans hfn)).symm
      exact ⟨by kernel_rfl, fun j t ht => by
        rw [Tryd.params4] at ht
        have hm : t ∈ [22] := by simpa using Array.mem_of_getElem? ht
        have hall : ([22].all fun u => !Tryd.prog.wantsStandIn u) = true := by kernel_rfl
        exact (show Tryd.prog.wantsStandIn t = false by simpa using List.all_eq_true.1 hall t hm)⟩)
    (by kernel_rfl)
#print axioms proved
end Go.Proofs.YtdakagahofalkaaDoor.normParts
