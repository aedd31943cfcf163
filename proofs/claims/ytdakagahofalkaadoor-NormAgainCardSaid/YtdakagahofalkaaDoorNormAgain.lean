/- The law NormAgain: each form stays when it is formed again. No condition; the listed tables of the library are tied to the program's text. -/
import Derived.Test.YtdakagahofalkaaDoorKN
import Derived.Test.YtdakagahofalkaaDoorCards
import Derived.Test.YtdakagahofalkaaDoorTie
import Derived.SevenTiedAt
import Derived.Deep.RegionWith
import Derived.Lay
import Derived.Deep.RegionHeld3
import Derived.Deep.DeepCutAuto
import Derived.Deep.LoopGhost
import Derived.Maps.AppendAt
import Derived.BigQuiet
namespace Go.Proofs.YtdakagahofalkaaDoor.normAgain
open Go.ChangeShapes Go.WideShapes Go.ChangeAt Go.RowKit Go.WideMaps Go.WideElems

set_option maxRecDepth 20000 in
set_option maxHeartbeats 4000000 in
theorem walk (v0 : Value) (L0 : List Nat) (w : World) (s0 : Sl w v0 L0) (b0 : ∀ x ∈ L0, x < 4294967296) (ht : Tz w) (hu : Ut w) :
    Calls Tryd.prog 10 #[v0] w fun e w' => e = .returned (.bool true) ∧ Gr w w' := by
  have S0 := hid s0
  obtain ⟨ao, ca, rfl, h0, hA⟩ := s0
  clear h0 hA
  have HB := hid b0
  clear b0
  by_cases hbig : L0.length ≤ 300
  · have hl1 : (L0.length : Int) ≤ 300 := by omega
    have hd : decide ((300 : Int) < L0.length) = false := decide_eq_false (by omega)
    obtain ⟨bD, bC⟩ := nf_small HB.out
    obtain ⟨lD, lC⟩ := nf_len L0
    have c1 := nfc_nfc L0
    have c2 := nfc_nfd L0
    have c3 := nfd_nfc L0
    have c4 := nfd_nfd L0
    obtain ⟨C, hC⟩ : ∃ C, nfc L0 = C := ⟨_, rfl⟩
    obtain ⟨D, hD⟩ : ∃ D, nfd L0 = D := ⟨_, rfl⟩
    rw [hC] at c1 c2 c3 bC lC
    rw [hD] at c2 c3 c4 bD lD
    have H1 := nfc_c HB.out (by omega) hC
    have H2 := nfd_c HB.out (by omega) hD
    have H3 := nfc_c bC (by omega) c1
    have H4 := nfc_c bD (by omega) c2
    have H5 := nfd_c bC (by omega) c3
    have H6 := nfd_c bD (by omega) c4
    have EC := same_c (A := C) (B := C) (by omega) (show decide (C = C) = true by simp)
    have ED := same_c (A := D) (B := D) (by omega) (show decide (D = D) = true by simp)
    have HI := nis_c bC (by omega) (show decide (nfc C = C) = true by rw [c1]; simp)
    have N1 := nsame_c bC HB.out (by omega) (by omega) (show decide (nfd C = nfd L0) = true by rw [c3, hD]; simp)
    have N2 := nsame_c bD HB.out (by omega) (by omega) (show decide (nfd D = nfd L0) = true by rw [c4, hD]; simp)
    clear c1 c2 c3 c4 hC hD bC bD lC lD
    go_enter Tryd.func10, Tryd.ntmps10
    go_wp2_with (first
      | (go_at_call 14; ((with_reducible refine (H1.out w _ ht S0.out).mono ?_); rintro e w1 ⟨v1, rfl, hv1, g1⟩; have V1 := hid (Sl.of_row hv1); clear hv1 H1))
      | (go_at_call 19; ((with_reducible refine (H2.out w1 _ (ht.gr g1) (S0.out.gr g1)).mono ?_); rintro e w2 ⟨v2, rfl, hv2, g2⟩; have G2 := g1.trans g2; have V2 := hid (Sl.of_row hv2); have V1b := hid (V1.out.gr g2); clear hv2 H2 V1))
      | (go_at_call 14; ((with_reducible refine (H3.out w2 v1 (ht.gr G2) V1b.out).mono ?_); rintro e w3 ⟨v3, rfl, hv3, g3⟩; have V3 := hid (Sl.of_row hv3); clear hv3 H3))
      | (go_at_call 15; ((with_reducible refine (EC.out w3 v3 v1 V3.out (V1b.out.gr g3)).mono ?_); rintro e w4 ⟨rfl, g4⟩; have K4 := g3.trans g4))
      | (go_at_call 14; ((with_reducible refine (H4.out w4 v2 (ht.gr (G2.trans K4)) (V2.out.gr K4)).mono ?_); rintro e w5 ⟨v5, rfl, hv5, g5⟩; have V5 := hid (Sl.of_row hv5); have K5 := K4.trans g5; clear hv5 H4))
      | (go_at_call 15; ((with_reducible refine (EC.out w5 v5 v1 V5.out (V1b.out.gr K5)).mono ?_); rintro e w6 ⟨rfl, g6⟩; have K6 := K5.trans g6))
      | (go_at_call 19; ((with_reducible refine (H5.out w6 v1 (ht.gr (G2.trans K6)) (V1b.out.gr K6)).mono ?_); rintro e w7 ⟨v7, rfl, hv7, g7⟩; have V7 := hid (Sl.of_row hv7); have K7 := K6.trans g7; clear hv7 H5))
      | (go_at_call 15; ((with_reducible refine (ED.out w7 v7 v2 V7.out (V2.out.gr K7)).mono ?_); rintro e w8 ⟨rfl, g8⟩; have K8 := K7.trans g8))
      | (go_at_call 19; ((with_reducible refine (H6.out w8 v2 (ht.gr (G2.trans K8)) (V2.out.gr K8)).mono ?_); rintro e w9 ⟨v9, rfl, hv9, g9⟩; have V9 := hid (Sl.of_row hv9); have K9 := K8.trans g9; clear hv9 H6))
      | (go_at_call 15; ((with_reducible refine (ED.out w9 v9 v2 V9.out (V2.out.gr K9)).mono ?_); rintro e w10 ⟨rfl, g10⟩; have K10 := K9.trans g10))
      | (go_at_call 22; refine (HI.out w10 v1 (ht.gr (G2.trans K10)) (V1b.out.gr K10)).mono ?_; rintro e w11 ⟨rfl, g11⟩; have K11 := K10.trans g11)
      | (go_at_call 24; ((with_reducible refine (N1.out w11 v1 _ (ht.gr (G2.trans K11)) (V1b.out.gr K11) (S0.out.gr (G2.trans K11))).mono ?_); rintro e w12 ⟨rfl, g12⟩; have K12 := K11.trans g12))
      | (go_at_call 24; ((with_reducible refine (N2.out w12 v2 _ (ht.gr (G2.trans K12)) (V2.out.gr K12) (S0.out.gr (G2.trans K12))).mono ?_); rintro e w13 ⟨rfl, g13⟩; have K13 := K12.trans g13))
      | (go_at_call 13; refine (awake8_any _ (ht.gr (G2.trans K13)) (hu.gr (G2.trans K13))).mono ?_; rintro e w14 ⟨rfl, g14⟩))
    go_ret
    exact ⟨rfl, (G2.trans K13).trans g14⟩
  · have hl1 : (300 : Int) < L0.length := by omega
    clear S0 HB
    go_enter Tryd.func10, Tryd.ntmps10
    go_wp2_with (go_at_call 13; refine (awake8_any _ ht hu).mono ?_; rintro e w1 ⟨rfl, g1⟩)
    go_ret
    exact ⟨rfl, g1⟩

theorem laidOut : laidOutB Tryd.prog = true := by kernel_rfl

set_option maxRecDepth 100000 in
theorem lifted (os : Os) (started : os.Started) (H : Type) (enc : TypeId × Value → H) :
    ReturnsInHanded {} Tryd.checked os 10 .any (fun w args => (Rows.normAgainSpec.pre enc Tryd.prog Tryd.f10 [] false w args ∧ laidMetH Tryd.prog laid5 w) ∧ sizedMet enc Tryd.prog Tryd.f10 (OpenSpec.ofChange Rows.normAgainSpec) false w args)
      (Rows.normAgainSpec.post enc Tryd.prog Tryd.f10 false true false false) := by
  refine returnsInHanded_of_change_and (C := Tryd.checked) (X := fun w _ => laidMetH Tryd.prog laid5 w) (fun _ _ _ hh h => h.of_heap hh) own started (by kernel_rfl) Tryd.func10
    (ChangeSpec.witness_shaped (enc := enc) (C := Tryd.checked) (os := os) (X := fun w _ => laidMetH Tryd.prog laid5 w) false (World.laidAll Tryd.prog os laid5) #[.slice none 0 0] 8 (World.laidAll_os _ _ _) (World.shaped_of_ZipB (by kernel_rfl) (by kernel_rfl)) (by kernel_rfl) (by kernel_rfl) (by kernel_rfl) (met5 os _)) ?_
  intro W base args ds gs before hval0 hW _ _ hL _
  have hval : ∀ (j : Nat) t v, Tryd.f10.params[j]? = some t → args[j]? = some v → Value.okWide Tryd.prog W .any base t v := hval0
  have hW' := hW
  obtain ⟨p, q, hA0, hV, rfl, hfz, hnd⟩ := hW
  have hA : DataW.TrodAll enc Tryd.prog W 0 (fun _ => true) true Tryd.f10.params.toList args.toList ds p := hA0
  rw [Tryd.params10] at hA hval
  obtain ⟨v0, vs0, d0, ds0, p0, q0, hargs, rfl, rfl, h0, r0⟩ := trodAll_cons hA
  obtain ⟨rfl, rfl, rfl⟩ := trodAll_nil r0
  obtain rfl : args = #[v0] := by cases args; simp_all
  obtain ⟨rfl, rfl⟩ := trodVars_none hV
  obtain ⟨a0, len0, cap0, rfl⟩ := okWide_slice Tryd.underlying22 (hval 0 22 v0 rfl rfl)
  have k0 := h0
  have lt0 : ∀ x ∈ p0, x.block < W.heap.size := by obtain ⟨m, hm⟩ := k0; exact DataW.trod_lt m _ _ _ hm
  obtain ⟨z0, w0⟩ : ∃ zs, IsRow .u32 W a0 len0 cap0 zs := by
    obtain ⟨fuel, hf⟩ := h0
    rcases open_ints Tryd.underlying22 Tryd.underlying34 (by kernel_rfl) hf with ⟨hcs, _⟩ | ⟨x, l, c, zs, hcs, _, hl, hm, hz, _, hcell, hwz⟩
    · simp [Value.cells] at hcs
      obtain ⟨rfl, rfl, rfl⟩ := hcs
      exact ⟨[], .inl ⟨rfl, rfl, rfl, rfl⟩⟩
    · simp [Value.cells] at hcs
      obtain ⟨rfl, rfl, rfl⟩ := hcs
      exact ⟨zs, .inr ⟨_, rfl, hl, hm, by simpa using hz, hcell, hwz⟩⟩
  obtain ⟨L0, s0, _, b0⟩ := sl_of_row w0
  clear hA0 hval0
  refine (walk _ L0 W s0 b0 (of_laid5 hL).1 (of_laid5 hL).2).mono fun e W' ⟨he, hg⟩ => ?_
  subst he
  have bel : Below W.heap.size W W' := hg
  exact ⟨_, rfl, _, _, _, [], _, [], hW', trodAll_mk1 (shut_bool Tryd.underlying4 _), (trodAll_cons_mk (Below.trod laidOut (by kernel_rfl) (of_decide_eq_true (by kernel_rfl)) k0 bel lt0) trodAll_mk0), rfl, bel.frame _, fun h => by cases h⟩

theorem over : Rows.NormAgainSaid :=
  OpenClaim.holds_of_wide 10 Tryd.f10 rfl rfl rfl rfl rfl rfl rfl ⟨rfl, rfl, rfl, rfl, rfl⟩ rfl rfl rfl rfl rfl (by kernel_rfl) Tryd.func10 (by kernel_rfl)
    (of_decide_eq_true (by kernel_rfl)) (by unfold Func.isWrapper; rw [if_neg (of_decide_eq_false (by kernel_rfl))]; exact ⟨rfl, rfl⟩)
    (fun os started H enc _ => lifted os started H enc)

theorem proved : Rows.NormAgainCardSaid :=
  Claim7.holds_tied_plain_at .later [] [.data, .data, .data, .data, .pinned] true Rows.normAgainCard.stood.harness false
    over (fun _ h => by cases h) (by kernel_rfl) (fun _ h => by cases h) normAgain_row_tie rfl ⟨rfl, rfl⟩ (by kernel_rfl) rfl
    (fun f fn hf hfn => by
      obtain rfl : f = 10 := Option.some.inj ((show Tryd.prog.funcNamed "gesso/gessolaw08.NormAgain" = some 10 by kernel_rfl).symm.trans hf) |>.symm
      obtain rfl : fn = Tryd.f10 := (Option.some.inj (Tryd.func10.symm.trans hfn)).symm
      exact ⟨by kernel_rfl, fun j t ht => by
        rw [Tryd.params10] at ht
        have hm : t ∈ [22] := by simpa using Array.mem_of_getElem? ht
        have hall : ([22].all fun u => !Tryd.prog.wantsStandIn u) = true := by kernel_rfl
        exact (show Tryd.prog.wantsStandIn t = false by simpa using List.all_eq_true.1 hall t hm)⟩)
    (by kernel_rfl)
#print axioms proved
end Go.Proofs.YtdakagahofalkaaDoor.normAgain
