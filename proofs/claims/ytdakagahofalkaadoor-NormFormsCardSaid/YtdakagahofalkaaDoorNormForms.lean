/- The law NormForms: any list has the forms that the document says; it stays as it is. No condition; the listed tables of the library are tied to the program's text. -/
import Derived.Test.YtdakagahofalkaaDoorKN
import Derived.Test.YtdakagahofalkaaDoorCards
import Derived.Test.YtdakagahofalkaaDoorTie
import Derived.SevenTiedAt
import Derived.Deep.RegionWith
import Derived.Lay
import Derived.Deep.RegionHeld3
import Derived.Deep.DeepCutAuto
import Derived.Deep.LoopGhost
import Derived.Maps.AppendAt
import Derived.BigQuiet
namespace Go.Proofs.YtdakagahofalkaaDoor.normForms
open Go.ChangeShapes Go.WideShapes Go.ChangeAt Go.RowKit Go.WideMaps Go.WideElems

set_option maxRecDepth 20000 in
set_option maxHeartbeats 4000000 in
theorem walk (v0 : Value) (L0 : List Nat) (w : World) (s0 : Sl w v0 L0) (b0 : ∀ x ∈ L0, x < 4294967296) (ht : Tz w) (hu : Ut w) :
    Calls Tryd.prog 7 #[v0] w fun e w' => e = .returned (.bool true) ∧ Gr w w' := by
  have S0 := hid s0
  obtain ⟨ao, ca, rfl, h0, hA⟩ := s0
  clear h0 hA
  have HB := hid b0
  clear b0
  by_cases hbig : L0.length ≤ 500
  · have hl1 : (L0.length : Int) ≤ 500 := by omega
    have hd : decide ((500 : Int) < L0.length) = false := decide_eq_false (by omega)
    obtain ⟨lD, lC⟩ := nf_len L0
    have R1 := fun W v (s : Sl W v L0) => rNFC_any v L0 W s HB.out (by omega)
    have R2 := fun W v (s : Sl W v L0) => rNFD_any v L0 W s HB.out (by omega)
    obtain ⟨r, hr⟩ : ∃ r, decide (nfc L0 = L0) = r := ⟨_, rfl⟩
    have HI := nis_c HB.out (by omega) hr
    have RI := fun W v (s : Sl W v L0) => rnis_any v L0 W s HB.out (by omega)
    rw [hr] at RI
    obtain ⟨C, hC⟩ : ∃ C, nfc L0 = C := ⟨_, rfl⟩
    obtain ⟨D, hD⟩ : ∃ D, nfd L0 = D := ⟨_, rfl⟩
    rw [hC] at lC R1
    rw [hD] at lD R2
    have H1 := nfc_c HB.out (by omega) hC
    have H2 := nfd_c HB.out (by omega) hD
    have EC := same_c (A := C) (B := C) (by omega) (show decide (C = C) = true by simp)
    have ED := same_c (A := D) (B := D) (by omega) (show decide (D = D) = true by simp)
    have EL := same_c (A := L0) (B := L0) (by omega) (show decide (L0 = L0) = true by simp)
    have R1 := hid R1
    have R2 := hid R2
    have RI := hid RI
    have hc2 : (C.length : Int) ≤ 2000 := by omega
    have hd2 : (D.length : Int) ≤ 2000 := by omega
    clear hC hD hr lC lD
    go_enter Tryd.func7, Tryd.ntmps7
    go_wp2_with (first
      | (at_builtin; refine wpList_copy_sl rfl _ _ rfl L0 rfl _ rfl S0.out (by omega) ?_; intro vi wi hvi gi; have HVI := hid (Sl.of_row hvi); clear hvi)
      | (go_at_call 14; refine (H1.out wi vi (ht.gr gi) HVI.out).mono ?_; clear H1; rintro e w1 ⟨v1, rfl, hv1, g1⟩; have hv1s := Sl.of_row hv1; have HR1 := hid hv1; have HV1 := hid hv1s; obtain ⟨co, cc, rfl, hc0, hCx⟩ := hv1s; clear hv1 hc0 hCx)
      | (go_at_call 19; refine (H2.out w1 vi (ht.gr (gi.trans g1)) (HVI.out.gr g1)).mono ?_; clear H2; rintro e w2 ⟨v2, rfl, hv2, g2⟩; have hv2s := Sl.of_row hv2; have HR2 := hid hv2; have HV2 := hid hv2s; obtain ⟨bo, cb, rfl, hb0, hBx⟩ := hv2s; have K2 := g1.trans g2; clear hv2 hb0 hBx)
      | (go_at_call 20; refine (R1.out w2 _ (S0.out.gr (gi.trans K2))).mono ?_; clear R1; rintro e w3 ⟨v3, rfl, hv3, g3⟩; have HV3 := hid (Sl.of_row hv3); clear hv3)
      | (go_at_call 15; ((with_reducible refine (EC.out w3 _ v3 ((HV1.out.gr g2).gr g3) HV3.out).mono ?_); clear EC; rintro e w4 ⟨rfl, g4⟩; have J4 := g3.trans g4; have K4 := K2.trans J4))
      | (go_at_call 21; refine (R2.out w4 _ (S0.out.gr (gi.trans K4))).mono ?_; clear R2; rintro e w5 ⟨v5, rfl, hv5, g5⟩; have HV5 := hid (Sl.of_row hv5); have J5 := J4.trans g5; clear hv5)
      | (go_at_call 15; ((with_reducible refine (ED.out w5 _ v5 (HV2.out.gr J5) HV5.out).mono ?_); clear ED; rintro e w6 ⟨rfl, g6⟩; have J6 := J5.trans g6; have K6 := K2.trans J6))
      | (go_at_call 22; refine (HI.out w6 vi (ht.gr (gi.trans K6)) (HVI.out.gr K6)).mono ?_; clear HI; rintro e w7 ⟨rfl, g7⟩; have J7 := J6.trans g7; have K7 := K2.trans J7)
      | (go_at_call 23; refine (RI.out w7 _ (S0.out.gr (gi.trans K7))).mono ?_; clear RI; rintro e w8 ⟨rfl, g8⟩; have J8 := J7.trans g8; have K8 := K2.trans J8))
    have HOC : Hid (w8.ownsRow wi.heap.size 34 1 (.slice co C.length cc) C.length ((C.map (fun n : Nat => (n : Int))).map (Value.int .u32))) := by
      have := ownsRow_gr (ownsRow_gr HR1.out g2) J8
      show World.ownsRow _ _ _ _ _ _ _
      rw [← u32s_ints]; exact this
    have HOD : Hid (w8.ownsRow w1.heap.size 34 1 (.slice bo D.length cb) D.length ((D.map (fun n : Nat => (n : Int))).map (Value.int .u32))) := by
      have := ownsRow_gr HR2.out J8
      show World.ownsRow _ _ _ _ _ _ _
      rw [← u32s_ints]; exact this
    have hcb : Hid (∀ g, co = some ⟨g, 0, none⟩ → 0 < C.length → g < w1.heap.size) := fun g hg _ => (HR1.out.lt g (by rw [hg]; rfl)).2
    clear HR1 HR2 HV1 HV2 HV3 HV5 J4 J5 J6 J7 K4 K6 K7 g3 g4 g5 g6 g7 g8 J8
    go_wp2_with fail
    go_loopw [7] (fun vk wr => ∃ (k : Nat) (zs : List Int), k ≤ C.length ∧ vk = .int .i64 k ∧ zs.length = C.length ∧ Hid (wr.ownsRow wi.heap.size 34 1 (.slice co C.length cc) C.length (zs.map (Value.int .u32))) ∧ Hid (wr.ownsRow w1.heap.size 34 1 (.slice bo D.length cb) D.length ((D.map (fun n : Nat => (n : Int))).map (Value.int .u32))) ∧ Gr wi wr) (fun vk _ => C.length - (intOf vk).toNat)
    case atStart => exact ⟨0, _, Nat.zero_le _, rfl, by simp, HOC, HOD, K8⟩
    case round =>
      obtain ⟨k, zs, hk, rfl, hzs, HO, HOd, hgk⟩ := hrel
      clear HOC HOD K8
      have HZ := hid hzs
      clear hzs
      by_cases hkn : k < C.length
      · obtain ⟨g, cap, e, hg1, hg2⟩ := row_form HO.out (by omega)
        injection e with e1 e2 e3
        subst e1 e3
        have hgl := hcb.out g rfl (by omega)
        have hcell := HO.out.cellAt k (by omega)
        have hfr := HO.out.frozenAt k
        rw [List.getElem?_map, List.getElem?_eq_getElem (by rw [HZ.out]; exact hkn), Option.map_some] at hcell
        generalize zs[k]'(by rw [HZ.out]; exact hkn) = z at hcell
        have hlt : (k : Int) < C.length := by omega
        go_wp2
        go_roundw
        case rel =>
          have hst : ∀ y, (wr.setCell ⟨g, k, none⟩ (.int .u32 y)).ownsRow wi.heap.size 34 1 (.slice (some ⟨g, 0, none⟩) C.length cc) C.length ((zs.set k y).map (Value.int .u32)) := fun y => by
            rw [List.map_set]; exact (HO.out.stored k _).1
          exact ⟨k + 1, _, hkn, by simp, by rw [List.length_set]; exact HZ.out, hst _, hid (row_beside HOd.out ⟨g, k, none⟩ hgl _), hgk.setCell hg1 _⟩
        case measure => simp [intOf]; omega
      · clear HO HZ hcb
        have hkC : ¬ (k : Int) < C.length := by omega
        go_wp2_with fail
        obtain ⟨wo, rfl⟩ : ∃ wo, wo = wr := ⟨wr, rfl⟩
        go_loopw [8] (fun vk wr => ∃ (k : Nat) (zs : List Int), k ≤ D.length ∧ vk = .int .i64 k ∧ zs.length = D.length ∧ Hid (wr.ownsRow w1.heap.size 34 1 (.slice bo D.length cb) D.length (zs.map (Value.int .u32))) ∧ Gr wi wr) (fun vk _ => D.length - (intOf vk).toNat)
        case atStart => exact ⟨0, _, Nat.zero_le _, rfl, by simp, HOd, hgk⟩
        case round =>
          clear HOd hgk hkC hk hkn
          obtain ⟨j, zs, hj, rfl, hzs, HO, hgj⟩ := hrel
          have HZ := hid hzs
          clear hzs
          by_cases hjn : j < D.length
          · obtain ⟨g, cap, e, hg1, hg2⟩ := row_form HO.out (by omega)
            injection e with e1 e2 e3
            subst e1 e3
            have hg1' : wi.heap.size ≤ g := Nat.le_trans g1.size hg1
            have hcell := HO.out.cellAt j (by omega)
            have hfr := HO.out.frozenAt j
            rw [List.getElem?_map, List.getElem?_eq_getElem (by rw [HZ.out]; exact hjn), Option.map_some] at hcell
            generalize zs[j]'(by rw [HZ.out]; exact hjn) = z at hcell
            have hlt : (j : Int) < D.length := by omega
            go_wp2
            go_roundw
            case rel =>
              have hst : ∀ y, (wr.setCell ⟨g, j, none⟩ (.int .u32 y)).ownsRow w1.heap.size 34 1 (.slice (some ⟨g, 0, none⟩) D.length cb) D.length ((zs.set j y).map (Value.int .u32)) := fun y => by
                rw [List.map_set]; exact (HO.out.stored j _).1
              exact ⟨j + 1, _, hjn, by simp, by rw [List.length_set]; exact HZ.out, hst _, hgj.setCell hg1' _⟩
            case measure => simp [intOf]; omega
          · have hjC : ¬ (j : Int) < D.length := by omega
            clear HO HZ
            go_wp2_with (first
              | (go_at_call 15; refine (EL.out wr vi _ (HVI.out.gr hgj) (S0.out.gr (gi.trans hgj))).mono ?_; rintro e w9 ⟨rfl, g9⟩)
              | (go_at_call 13; refine (awake8_any _ (ht.gr ((gi.trans hgj).trans g9)) (hu.gr ((gi.trans hgj).trans g9))).mono ?_; rintro e w10 ⟨rfl, g10⟩))
            go_ret
            exact ⟨rfl, ((gi.trans hgj).trans g9).trans g10⟩
  · have hl1 : (500 : Int) < L0.length := by omega
    clear S0 HB
    go_enter Tryd.func7, Tryd.ntmps7
    go_wp2_with (go_at_call 13; refine (awake8_any _ ht hu).mono ?_; rintro e w1 ⟨rfl, g1⟩)
    go_ret
    exact ⟨rfl, g1⟩

theorem laidOut : laidOutB Tryd.prog = true := by kernel_rfl

set_option maxRecDepth 100000 in
theorem lifted (os : Os) (started : os.Started) (H : Type) (enc : TypeId × Value → H) :
    ReturnsInHanded {} Tryd.checked os 7 .any (fun w args => (Rows.normFormsSpec.pre enc Tryd.prog Tryd.f7 [] false w args ∧ laidMetH Tryd.prog laid5 w) ∧ sizedMet enc Tryd.prog Tryd.f7 (OpenSpec.ofChange Rows.normFormsSpec) false w args)
      (Rows.normFormsSpec.post enc Tryd.prog Tryd.f7 false true false false) := by
  refine returnsInHanded_of_change_and (C := Tryd.checked) (X := fun w _ => laidMetH Tryd.prog laid5 w) (fun _ _ _ hh h => h.of_heap hh) own started (by kernel_rfl) Tryd.func7
    (ChangeSpec.witness_shaped (enc := enc) (C := Tryd.checked) (os := os) (X := fun w _ => laidMetH Tryd.prog laid5 w) false (World.laidAll Tryd.prog os laid5) #[.slice none 0 0] 8 (World.laidAll_os _ _ _) (World.shaped_of_ZipB (by kernel_rfl) (by kernel_rfl)) (by kernel_rfl) (by kernel_rfl) (by kernel_rfl) (met5 os _)) ?_
  intro W base args ds gs before hval0 hW _ _ hL _
  have hval : ∀ (j : Nat) t v, Tryd.f7.params[j]? = some t → args[j]? = some v → Value.okWide Tryd.prog W .any base t v := hval0
  have hW' := hW
  obtain ⟨p, q, hA0, hV, rfl, hfz, hnd⟩ := hW
  have hA : DataW.TrodAll enc Tryd.prog W 0 (fun _ => true) true Tryd.f7.params.toList args.toList ds p := hA0
  rw [Tryd.params7] at hA hval
  obtain ⟨v0, vs0, d0, ds0, p0, q0, hargs, rfl, rfl, h0, r0⟩ := trodAll_cons hA
  obtain ⟨rfl, rfl, rfl⟩ := trodAll_nil r0
  obtain rfl : args = #[v0] := by cases args; simp_all
  obtain ⟨rfl, rfl⟩ := trodVars_none hV
  obtain ⟨a0, len0, cap0, rfl⟩ := okWide_slice Tryd.underlying22 (hval 0 22 v0 rfl rfl)
  have k0 := h0
  have lt0 : ∀ x ∈ p0, x.block < W.heap.size := by obtain ⟨m, hm⟩ := k0; exact DataW.trod_lt m _ _ _ hm
  obtain ⟨z0, w0⟩ : ∃ zs, IsRow .u32 W a0 len0 cap0 zs := by
    obtain ⟨fuel, hf⟩ := h0
    rcases open_ints Tryd.underlying22 Tryd.underlying34 (by kernel_rfl) hf with ⟨hcs, _⟩ | ⟨x, l, c, zs, hcs, _, hl, hm, hz, _, hcell, hwz⟩
    · simp [Value.cells] at hcs
      obtain ⟨rfl, rfl, rfl⟩ := hcs
      exact ⟨[], .inl ⟨rfl, rfl, rfl, rfl⟩⟩
    · simp [Value.cells] at hcs
      obtain ⟨rfl, rfl, rfl⟩ := hcs
      exact ⟨zs, .inr ⟨_, rfl, hl, hm, by simpa using hz, hcell, hwz⟩⟩
  obtain ⟨L0, s0, _, b0⟩ := sl_of_row w0
  clear hA0 hval0
  refine (walk _ L0 W s0 b0 (of_laid5 hL).1 (of_laid5 hL).2).mono fun e W' ⟨he, hg⟩ => ?_
  subst he
  have bel : Below W.heap.size W W' := hg
  exact ⟨_, rfl, _, _, _, [], _, [], hW', trodAll_mk1 (shut_bool Tryd.underlying4 _), (trodAll_cons_mk (Below.trod laidOut (by kernel_rfl) (of_decide_eq_true (by kernel_rfl)) k0 bel lt0) trodAll_mk0), rfl, bel.frame _, fun h => by cases h⟩

theorem over : Rows.NormFormsSaid :=
  OpenClaim.holds_of_wide 7 Tryd.f7 rfl rfl rfl rfl rfl rfl rfl ⟨rfl, rfl, rfl, rfl, rfl⟩ rfl rfl rfl rfl rfl (by kernel_rfl) Tryd.func7 (by kernel_rfl)
    (of_decide_eq_true (by kernel_rfl)) (by unfold Func.isWrapper; rw [if_neg (of_decide_eq_false (by kernel_rfl))]; exact ⟨rfl, rfl⟩)
    (fun os started H enc _ => lifted os started H enc)

theorem proved : Rows.NormFormsCardSaid :=
  Claim7.holds_tied_plain_at .later [] [.data, .data, .data, .data, .pinned] true Rows.normFormsCard.stood.harness false
    over (fun _ h => by cases h) (by kernel_rfl) (fun _ h => by cases h) normForms_row_tie rfl ⟨rfl, rfl⟩ (by kernel_rfl) rfl
    (fun f fn hf hfn => by
      obtain rfl : f = 7 := Option.some.inj ((show Tryd.prog.funcNamed "gesso/gessolaw08.NormForms" = some 7 by kernel_rfl).symm.trans hf) |>.symm
      obtain rfl : fn = Tryd.f7 := (Option.some.inj (Tryd.func7.symm.trans hfn)).symm
      exact ⟨by kernel_rfl, fun j t ht => by
        rw [Tryd.params7] at ht
        have hm : t ∈ [22] := by simpa using Array.mem_of_getElem? ht
        have hall : ([22].all fun u => !Tryd.prog.wantsStandIn u) = true := by kernel_rfl
        exact (show Tryd.prog.wantsStandIn t = false by simpa using List.all_eq_true.1 hall t hm)⟩)
    (by kernel_rfl)
#print axioms proved
end Go.Proofs.YtdakagahofalkaaDoor.normForms
