/- The law NormEqual: two lists have one composed form just if they stand for the same. No condition; the listed tables of the library are tied to the program's text. -/
import Derived.Test.YtdakagahofalkaaDoorKN
import Derived.Test.YtdakagahofalkaaDoorCards
import Derived.Test.YtdakagahofalkaaDoorTie
import Derived.SevenTiedAt
import Derived.Deep.RegionWith
import Derived.Lay
import Derived.Deep.RegionHeld3
import Derived.Deep.DeepCutAuto
import Derived.Deep.LoopGhost
import Derived.Maps.AppendAt
import Derived.BigQuiet
namespace Go.Proofs.YtdakagahofalkaaDoor.normEqual
open Go.ChangeShapes Go.WideShapes Go.ChangeAt Go.RowKit Go.WideMaps Go.WideElems

set_option maxRecDepth 20000 in
set_option maxHeartbeats 4000000 in
theorem walk (v0 : Value) (L0 : List Nat) (v1 : Value) (L1 : List Nat) (w : World) (s0 : Sl w v0 L0) (b0 : ∀ x ∈ L0, x < 4294967296) (s1 : Sl w v1 L1) (b1 : ∀ x ∈ L1, x < 4294967296) (ht : Tz w) (hu : Ut w) :
    Calls Tryd.prog 9 #[v0, v1] w fun e w' => e = .returned (.bool true) ∧ Gr w w' := by
  have S0 := hid s0
  have S1 := hid s1
  obtain ⟨ao, ca, rfl, h0, hA⟩ := s0
  obtain ⟨bo, cb, rfl, h1, hB⟩ := s1
  clear h0 hA h1 hB
  have B0 := hid b0
  have B1 := hid b1
  clear b0 b1
  by_cases hbig : L0.length ≤ 200
  · have hl1 : (L0.length : Int) ≤ 200 := by omega
    have hd : decide ((200 : Int) < L0.length) = false := decide_eq_false (by omega)
    by_cases hbig2 : L1.length ≤ 200
    · have hl2 : (L1.length : Int) ≤ 200 := by omega
      have hd2 : decide ((200 : Int) < L1.length) = false := decide_eq_false (by omega)
      obtain ⟨r, hr⟩ : ∃ r, decide (nfd L0 = nfd L1) = r := ⟨_, rfl⟩
      obtain ⟨C0, hC0⟩ : ∃ C0, nfc L0 = C0 := ⟨_, rfl⟩
      obtain ⟨C1, hC1⟩ : ∃ C1, nfc L1 = C1 := ⟨_, rfl⟩
      have hr2 : decide (C0 = C1) = r := by rw [← hC0, ← hC1, nfd_eq_nfc, hr]
      have H1 := nfc_c B0.out (by omega) hC0
      have H2 := nfc_c B1.out (by omega) hC1
      have H3 := same_c (A := C0) (B := C1) (by have := nf_len L0; rw [hC0] at this; omega) hr2
      have H4 := nsame_c B0.out B1.out (by omega) (by omega) hr
      have H5 := nsame_c B0.out B0.out (by omega) (by omega) (show decide (nfd L0 = nfd L0) = true by simp)
      clear hr hr2 hC0 hC1
      go_enter Tryd.func9, Tryd.ntmps9
      go_wp2_with (first
        | (go_at_call 14; ((with_reducible refine (H1.out w _ ht S0.out).mono ?_); rintro e w1 ⟨v1, rfl, hv1, g1⟩; have V1 := hid (Sl.of_row hv1); clear hv1 H1))
        | (go_at_call 14; ((with_reducible refine (H2.out w1 _ (ht.gr g1) (S1.out.gr g1)).mono ?_); rintro e w2 ⟨v2, rfl, hv2, g2⟩; have G2 := g1.trans g2; have V2 := hid (Sl.of_row hv2); clear hv2 H2))
        | (go_at_call 15; refine (H3.out w2 _ _ (V1.out.gr g2) V2.out).mono ?_; clear H3; rintro e w3 ⟨rfl, g3⟩; have G3 := G2.trans g3)
        | (go_at_call 24; ((with_reducible refine (H4.out w3 _ _ (ht.gr G3) (S0.out.gr G3) (S1.out.gr G3)).mono ?_); clear H4; rintro e w4 ⟨rfl, g4⟩; have G4 := G3.trans g4))
        | (go_at_call 24; ((with_reducible refine (H5.out w4 _ _ (ht.gr G4) (S0.out.gr G4) (S0.out.gr G4)).mono ?_); clear H5; rintro e w5 ⟨rfl, g5⟩; have G5 := G4.trans g5))
        | (go_at_call 13; refine (awake8_any _ (ht.gr G5) (hu.gr G5)).mono ?_; rintro e w6 ⟨rfl, g6⟩))
      go_ret
      exact ⟨rfl, G5.trans g6⟩
    · have hl2 : (200 : Int) < L1.length := by omega
      clear S0 S1 B0 B1
      go_enter Tryd.func9, Tryd.ntmps9
      go_wp2_with (go_at_call 13; refine (awake8_any _ ht hu).mono ?_; rintro e w1 ⟨rfl, g1⟩)
      go_ret
      exact ⟨rfl, g1⟩
  · have hl1 : (200 : Int) < L0.length := by omega
    clear S0 S1 B0 B1
    go_enter Tryd.func9, Tryd.ntmps9
    go_wp2_with (go_at_call 13; refine (awake8_any _ ht hu).mono ?_; rintro e w1 ⟨rfl, g1⟩)
    go_ret
    exact ⟨rfl, g1⟩

theorem laidOut : laidOutB Tryd.prog = true := by kernel_rfl

set_option maxRecDepth 100000 in
theorem lifted (os : Os) (started : os.Started) (H : Type) (enc : TypeId × Value → H) :
    ReturnsInHanded {} Tryd.checked os 9 .any (fun w args => (Rows.normEqualSpec.pre enc Tryd.prog Tryd.f9 [] false w args ∧ laidMetH Tryd.prog laid5 w) ∧ sizedMet enc Tryd.prog Tryd.f9 (OpenSpec.ofChange Rows.normEqualSpec) false w args)
      (Rows.normEqualSpec.post enc Tryd.prog Tryd.f9 false true false false) := by
  refine returnsInHanded_of_change_and (C := Tryd.checked) (X := fun w _ => laidMetH Tryd.prog laid5 w) (fun _ _ _ hh h => h.of_heap hh) own started (by kernel_rfl) Tryd.func9
    (ChangeSpec.witness_shaped (enc := enc) (C := Tryd.checked) (os := os) (X := fun w _ => laidMetH Tryd.prog laid5 w) false (World.laidAll Tryd.prog os laid5) #[.slice none 0 0, .slice none 0 0] 8 (World.laidAll_os _ _ _) (World.shaped_of_ZipB (by kernel_rfl) (by kernel_rfl)) (by kernel_rfl) (by kernel_rfl) (by kernel_rfl) (met5 os _)) ?_
  intro W base args ds gs before hval0 hW _ _ hL _
  have hval : ∀ (j : Nat) t v, Tryd.f9.params[j]? = some t → args[j]? = some v → Value.okWide Tryd.prog W .any base t v := hval0
  have hW' := hW
  obtain ⟨p, q, hA0, hV, rfl, hfz, hnd⟩ := hW
  have hA : DataW.TrodAll enc Tryd.prog W 0 (fun _ => true) true Tryd.f9.params.toList args.toList ds p := hA0
  rw [Tryd.params9] at hA hval
  obtain ⟨v0, vs0, d0, ds0, p0, q0, hargs, rfl, rfl, h0, r0⟩ := trodAll_cons hA
  obtain ⟨v1, vs1, d1, ds1, p1, q1, rfl, rfl, rfl, h1, r1⟩ := trodAll_cons r0
  obtain ⟨rfl, rfl, rfl⟩ := trodAll_nil r1
  obtain rfl : args = #[v0, v1] := by cases args; simp_all
  obtain ⟨rfl, rfl⟩ := trodVars_none hV
  obtain ⟨a0, len0, cap0, rfl⟩ := okWide_slice Tryd.underlying22 (hval 0 22 v0 rfl rfl)
  have k0 := h0
  have lt0 : ∀ x ∈ p0, x.block < W.heap.size := by obtain ⟨m, hm⟩ := k0; exact DataW.trod_lt m _ _ _ hm
  obtain ⟨z0, w0⟩ : ∃ zs, IsRow .u32 W a0 len0 cap0 zs := by
    obtain ⟨fuel, hf⟩ := h0
    rcases open_ints Tryd.underlying22 Tryd.underlying34 (by kernel_rfl) hf with ⟨hcs, _⟩ | ⟨x, l, c, zs, hcs, _, hl, hm, hz, _, hcell, hwz⟩
    · simp [Value.cells] at hcs
      obtain ⟨rfl, rfl, rfl⟩ := hcs
      exact ⟨[], .inl ⟨rfl, rfl, rfl, rfl⟩⟩
    · simp [Value.cells] at hcs
      obtain ⟨rfl, rfl, rfl⟩ := hcs
      exact ⟨zs, .inr ⟨_, rfl, hl, hm, by simpa using hz, hcell, hwz⟩⟩
  obtain ⟨L0, s0, _, b0⟩ := sl_of_row w0
  obtain ⟨a1, len1, cap1, rfl⟩ := okWide_slice Tryd.underlying22 (hval 1 22 v1 rfl rfl)
  have k1 := h1
  have lt1 : ∀ x ∈ p1, x.block < W.heap.size := by obtain ⟨m, hm⟩ := k1; exact DataW.trod_lt m _ _ _ hm
  obtain ⟨z1, w1⟩ : ∃ zs, IsRow .u32 W a1 len1 cap1 zs := by
    obtain ⟨fuel, hf⟩ := h1
    rcases open_ints Tryd.underlying22 Tryd.underlying34 (by kernel_rfl) hf with ⟨hcs, _⟩ | ⟨x, l, c, zs, hcs, _, hl, hm, hz, _, hcell, hwz⟩
    · simp [Value.cells] at hcs
      obtain ⟨rfl, rfl, rfl⟩ := hcs
      exact ⟨[], .inl ⟨rfl, rfl, rfl, rfl⟩⟩
    · simp [Value.cells] at hcs
      obtain ⟨rfl, rfl, rfl⟩ := hcs
      exact ⟨zs, .inr ⟨_, rfl, hl, hm, by simpa using hz, hcell, hwz⟩⟩
  obtain ⟨L1, s1, _, b1⟩ := sl_of_row w1
  clear hA0 hval0
  refine (walk _ L0 _ L1 W s0 b0 s1 b1 (of_laid5 hL).1 (of_laid5 hL).2).mono fun e W' ⟨he, hg⟩ => ?_
  subst he
  have bel : Below W.heap.size W W' := hg
  exact ⟨_, rfl, _, _, _, [], _, [], hW', trodAll_mk1 (shut_bool Tryd.underlying4 _), (trodAll_cons_mk (Below.trod laidOut (by kernel_rfl) (of_decide_eq_true (by kernel_rfl)) k0 bel lt0) (trodAll_cons_mk (Below.trod laidOut (by kernel_rfl) (of_decide_eq_true (by kernel_rfl)) k1 bel lt1) trodAll_mk0)), rfl, bel.frame _, fun h => by cases h⟩

theorem over : Rows.NormEqualSaid :=
  OpenClaim.holds_of_wide 9 Tryd.f9 rfl rfl rfl rfl rfl rfl rfl ⟨rfl, rfl, rfl, rfl, rfl⟩ rfl rfl rfl rfl rfl (by kernel_rfl) Tryd.func9 (by kernel_rfl)
    (of_decide_eq_true (by kernel_rfl)) (by unfold Func.isWrapper; rw [if_neg (of_decide_eq_false (by kernel_rfl))]; exact ⟨rfl, rfl⟩)
    (fun os started H enc _ => lifted os started H enc)

theorem proved : Rows.NormEqualCardSaid :=
  Claim7.holds_tied_plain_at .later [] [.data, .data, .data, .data, .pinned] true Rows.normEqualCard.stood.harness false
    over (fun _ h => by cases h) (by kernel_rfl) (fun _ h => by cases h) normEqual_row_tie rfl ⟨rfl, rfl⟩ (by kernel_rfl) rfl
    (fun f fn hf hfn => by
      obtain rfl : f = 9 := Option.some.inj ((show Tryd.prog.funcNamed "gesso/gessolaw08.NormEqual" = some 9 by kernel_rfl).symm.trans hf) |>.symm
      obtain rfl : fn = Tryd.f9 := (Option.some.inj (Tryd.func9.symm.trans hfn)).symm
      exact ⟨by kernel_rfl, fun j t ht => by
        rw [Tryd.params9] at ht
        have hm : t ∈ [22, 22] := by simpa using Array.mem_of_getElem? ht
        have hall : ([22, 22].all fun u => !Tryd.prog.wantsStandIn u) = true := by kernel_rfl
        exact (show Tryd.prog.wantsStandIn t = false by simpa using List.all_eq_true.1 hall t hm)⟩)
    (by kernel_rfl)
#print axioms proved
end Go.Proofs.YtdakagahofalkaaDoor.normEqual
