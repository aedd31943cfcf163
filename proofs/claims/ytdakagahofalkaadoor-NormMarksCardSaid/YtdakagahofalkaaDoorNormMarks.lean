/- The law NormMarks: two marks of unlike classes may change places without changing either form. No condition; the listed tables of the library are tied to the program's text. -/
import Derived.Test.YtdakagahofalkaaDoorKM
import Derived.Test.YtdakagahofalkaaDoorCards
import Derived.Test.YtdakagahofalkaaDoorTie
import Derived.SevenTiedAt
import Derived.Deep.RegionWith
import Derived.Lay
import Derived.Deep.RegionHeld3
import Derived.Deep.DeepCutAuto
import Derived.Deep.LoopGhost
import Derived.Maps.AppendAt
import Derived.BigQuiet
namespace Go.Proofs.YtdakagahofalkaaDoor.normMarks
open Go.ChangeShapes Go.WideShapes Go.ChangeAt Go.RowKit Go.WideMaps Go.WideElems

set_option maxRecDepth 20000 in
set_option maxHeartbeats 4000000 in
theorem walk (v0 : Value) (L0 : List Nat) (a1 : Int) (w : World) (s0 : Sl w v0 L0) (b0 : ∀ x ∈ L0, x < 4294967296) (w1 : (Lit.int .u8 a1).wf = true) (ht : Tz w) (hu : Ut w) :
    Calls Tryd.prog 6 #[v0, .int .u8 a1] w fun e w' => e = .returned (.bool true) ∧ Gr w w' := by
  have S0 := hid s0
  obtain ⟨ao, ca, rfl, h0, hA⟩ := s0
  clear h0
  have HA := hid hA
  have HB := hid b0
  clear b0 hA
  have hb1 := bounds_u8 w1
  clear w1
  obtain ⟨n, hn⟩ : ∃ n, L0.length = n := ⟨_, rfl⟩
  have HN := hid hn
  rw [hn] at HA ⊢
  have S0 : Hid (Sl w (.slice ao n ca) L0) := by have := S0.out; rw [hn] at this; exact this
  clear hn
  by_cases hbig : n ≤ 200
  · by_cases hsm : 2 ≤ n
    · have hl1 : (n : Int) ≤ 200 := by omega
      have hl2 : (2 : Int) ≤ n := by omega
      have hd : decide ((200 : Int) < n) = false := decide_eq_false (by omega)
      have hd2 : decide ((n : Int) < 2) = false := decide_eq_false (by omega)
      obtain ⟨m, rfl⟩ : ∃ m, n = m + 2 := ⟨n - 2, by omega⟩
      obtain ⟨N, hN⟩ : ∃ N : Nat, m + 2 = N := ⟨_, rfl⟩
      obtain ⟨D, hD⟩ : ∃ D : Nat, m + 1 = D := ⟨_, rfl⟩
      have hnm : (N : Int) - 1 = (D : Int) := by omega
      have hne : ¬ (D : Int) = 0 := by omega
      obtain ⟨k, hk⟩ : ∃ k : Nat, a1.tmod (D : Int) = (k : Int) := ⟨(a1.tmod (D : Int)).toNat, by rw [Int.toNat_of_nonneg (Int.tmod_nonneg _ hb1.1)]⟩
      have hkD : (k : Int) < D := by rw [← hk]; exact Int.tmod_lt_of_pos _ (by omega)
      have hkN : k + 1 < N := by omega
      rw [hN] at HA HN S0 hbig hsm hl1 hl2 hd hd2 ⊢
      clear hN hD
      obtain ⟨g, off, rfl, hca⟩ := HA.out k (by omega)
      obtain ⟨g', off', e, hcb⟩ := HA.out (k + 1) (by omega)
      cases e
      have ga : L0.getD k 0 < 4294967296 := by
        rw [List.getD, List.getElem?_eq_getElem (by rw [HN.out]; omega)]; exact HB.out _ (List.getElem_mem _)
      have gb : L0.getD (k + 1) 0 < 4294967296 := by
        rw [List.getD, List.getElem?_eq_getElem (by rw [HN.out]; omega)]; exact HB.out _ (List.getElem_mem _)
      have HSW := fun ha hb hab da db => swap_forms (L := L0) (k := k) (by rw [HN.out]; exact hkN) ha hb hab da db
      have HLs : Hid (∀ (x y : Nat), ((L0.set k x).set (k + 1) y).length = N) := fun x y => by rw [List.length_set, List.length_set]; exact HN.out
      have HBs : Hid (∀ (x y : Nat), x < 4294967296 → y < 4294967296 → ∀ z ∈ (L0.set k x).set (k + 1) y, z < 4294967296) := fun x y hx hy z hz => by
        rcases List.mem_or_eq_of_mem_set hz with hz | rfl
        · rcases List.mem_or_eq_of_mem_set hz with hz | rfl
          · exact HB.out z hz
          · exact hx
        · exact hy
      obtain ⟨a, hea⟩ : ∃ a, L0.getD k 0 = a := ⟨_, rfl⟩
      obtain ⟨b, heb⟩ : ∃ b, L0.getD (k + 1) 0 = b := ⟨_, rfl⟩
      rw [hea] at hca ga HSW
      rw [heb] at hcb gb HSW
      have HEA : Hid ((u32s L0)[k]? = some (.int .u32 (a : Int))) := by
        show _ = _
        rw [← hea, List.getD, u32s, List.getElem?_map, List.getElem?_eq_getElem (by rw [HN.out]; omega)]; rfl
      have HEB : Hid ((u32s L0)[k + 1]? = some (.int .u32 (b : Int))) := by
        show _ = _
        rw [← heb, List.getD, u32s, List.getElem?_map, List.getElem?_eq_getElem (by rw [HN.out]; omega)]; rfl
      clear hea heb
      have CA := fun W (t : Gr w W) => class_any a ga W (ht.gr t)
      have CB := fun W (t : Gr w W) => class_any b gb W (ht.gr t)
      have DA := fun W (t : Gr w W) => decomp_any a ga W (ht.gr t)
      have DB := fun W (t : Gr w W) => decomp_any b gb W (ht.gr t)
      obtain ⟨p, hp⟩ : ∃ p, cls a = p := ⟨_, rfl⟩
      obtain ⟨q, hq⟩ : ∃ q, cls b = q := ⟨_, rfl⟩
      rw [hp] at CA HSW
      rw [hq] at CB HSW
      have DA := hid DA
      have DB := hid DB
      have CA := hid CA
      have CB := hid CB
      have hk0 : (0 : Int) ≤ (k : Int) := by omega
      have hk1 : (k : Int) < N := by omega
      have hk2 : (k : Int) + 1 < N := by omega
      have hk3 : (0 : Int) ≤ (k : Int) + 1 := by omega
      have hk4 : ((k : Int) + 1).toNat = k + 1 := by omega
      have hk5 : IntKind.i64.wrap ((k : Int) + 1) = (k : Int) + 1 := by rw [IntKind.wrap_i64]; omega
      have hkw : wrap64 ((k : Int) + 1) = (k : Int) + 1 := by unfold wrap64; omega
      have hw1 : IntKind.i64.wrap a1 = a1 := by rw [IntKind.wrap_i64]; omega
      have HSW := hid HSW
      have HGA := hid ga
      have HGB := hid gb
      have HKN := hid hkN
      have HBg := hid hbig
      clear hp hq HA ga gb hbig hsm hkD hkN
      go_enter Tryd.func6, Tryd.ntmps6
      go_upto_region 4 with fail
      go_region_held3 (fun W => W.cell? ⟨g, off + k, none⟩ = some (.int .u32 (a : Int)) ∧ W.cell? ⟨g, off + (k + 1), none⟩ = some (.int .u32 (b : Int)) ∧ Gr w W)
        (first | exact ⟨hca, hcb, Gr.refl _⟩ | exact ⟨hca, hcb, Gr.drew _⟩ | exact ⟨g3.cell hca, g3.cell hcb, g3⟩ | exact ⟨g2.cell hca, g2.cell hcb, g2⟩)
        (first
          | (go_at_call 17; (with_reducible refine (CA.out _ (by first | exact Gr.refl _ | exact Gr.drew _)).mono ?_); rintro e w2 ⟨rfl, g2'⟩; have g2 : Gr w w2 := (by first | exact g2' | exact (Gr.drew _).trans g2'))
          | (go_at_call 17; (with_reducible refine (CB.out _ g2).mono ?_); rintro e w3 ⟨rfl, g3'⟩; have g3 := g2.trans g3'))
      have HCA := hid hca
      have HCB := hid hcb
      clear CA CB hca hcb g2' g3'
      have T3 := ht.gr g3
      have U3 := hu.gr g3
      by_cases hp0 : p = 0
      · have hp0z : (p : Int) = 0 := by omega
        clear hp0 HSW
        go_wp2_with (go_at_call 13; refine (awake8_any _ T3 U3).mono ?_; rintro e w4 ⟨rfl, g4⟩)
        go_ret
        exact ⟨rfl, g3.trans g4⟩
      · have hp0z : ¬ (p : Int) = 0 := by omega
        by_cases hq0 : q = 0
        · have hq0z : (q : Int) = 0 := by omega
          clear hq0 HSW
          go_wp2_with (go_at_call 13; refine (awake8_any _ T3 U3).mono ?_; rintro e w4 ⟨rfl, g4⟩)
          go_ret
          exact ⟨rfl, g3.trans g4⟩
        · have hq0z : ¬ (q : Int) = 0 := by omega
          by_cases hpq : p = q
          · subst hpq
            clear HSW hq0
            go_wp2_with (go_at_call 13; refine (awake8_any _ T3 U3).mono ?_; rintro e w4 ⟨rfl, g4⟩)
            go_ret
            exact ⟨rfl, g3.trans g4⟩
          · have hpqz : ¬ (p : Int) = (q : Int) := by omega
            have HSW := hid (HSW.out hp0 hq0 hpq)
            have S3 := hid (S0.out.gr g3)
            have hp0b : ((p : Int) == 0) = false := by rw [← Bool.not_eq_true, beq_iff_eq]; exact hp0z
            have hq0b : ((q : Int) == 0) = false := by rw [← Bool.not_eq_true, beq_iff_eq]; exact hq0z
            have hpqb : ((p : Int) == (q : Int)) = false := by rw [← Bool.not_eq_true, beq_iff_eq]; exact hpqz
            clear hp0 hq0
            go_upto_region 8 with (at_builtin; refine wpList_copy_sl rfl _ _ rfl L0 rfl _ rfl S3.out (by rw [HN.out]; have := HBg.out; omega) ?_; intro vi wi hvi gi; have HVI := hid hvi; clear hvi)
            have hvN : wi.ownsRow w3.heap.size 34 1 vi N (u32s L0) := by have := HVI.out; rw [HN.out] at this; exact this
            obtain ⟨gm, cm, rfl, hg1, hg2⟩ := row_form hvN (by have := HKN.out; omega)
            have cka := hvN.cellAt k (by have := HKN.out; omega)
            have ckb := hvN.cellAt (k + 1) (by have := HKN.out; omega)
            have fka := hvN.frozenAt k
            have fkb := hvN.frozenAt (k + 1)
            rw [HEA.out] at cka
            rw [HEB.out] at ckb
            have HR := hid hvN
            clear hvN HVI hpq
            go_region
            obtain ⟨W9, hW9⟩ : ∃ W9, ((wi.setCell ⟨gm, k, none⟩ (.int .u32 (b : Int))).setCell ⟨gm, k + 1, none⟩ (.int .u32 (a : Int))).drew = W9 := ⟨_, rfl⟩
            have g9 : Gr w3 W9 := by
              rw [← hW9]
              exact ((gi.setCell (p := ⟨gm, k, none⟩) hg1 _).setCell (p := ⟨gm, k + 1, none⟩) hg1 _).trans (Gr.drew _)
            have R9 : Hid (Sl W9 (.slice (some ⟨gm, 0, none⟩) N cm) ((L0.set k b).set (k + 1) a)) := by
              have h1 := (HR.out.stored k (.int .u32 (b : Int))).1
              have h2 := (h1.stored (k + 1) (.int .u32 (a : Int))).1
              have h3 := ownsRow_gr h2 (Gr.drew _)
              rw [hW9, u32s_set', u32s_set'] at h3
              have := HLs.out b a
              have h4 : W9.ownsRow w3.heap.size 34 1 (.slice (some ⟨gm, 0, none⟩) N cm) ((L0.set k b).set (k + 1) a).length (u32s ((L0.set k b).set (k + 1) a)) := by rw [this]; exact h3
              exact Sl.of_row h4
            rw [hW9]
            have G9 := g3.trans g9
            have hca9 := G9.cell HCA.out
            have hcb9 := G9.cell HCB.out
            have HLM := hid (HLs.out b a)
            have HBM := hid (HBs.out b a HGB.out HGA.out)
            clear hW9 HR cka ckb fka fkb hg1 hg2 HCA HCB HLs HBs HEA HEB
            obtain ⟨M, hM⟩ : ∃ M, (L0.set k b).set (k + 1) a = M := ⟨_, rfl⟩
            rw [hM] at HLM HBM R9 HSW
            clear hM
            cases hda : dfind a with
            | some ea =>
              have D1 : Hid (Calls Tryd.prog 18 #[.int .u32 (a : Int)] W9 fun e w' => e = .returned (.tuple #[.int .u32 ea.2.1, .int .u32 ea.2.2.1, .bool true]) ∧ Gr W9 w') := by
                have := DA.out W9 G9; unfold dval at this; rw [hda] at this; exact this
              obtain ⟨xb, yb, zb, hdv⟩ : ∃ (x y : Nat) (z : Bool), dval b = .tuple #[.int .u32 (x : Int), .int .u32 (y : Int), .bool z] := by
                unfold dval
                cases dfind b with
                | some e => exact ⟨_, _, _, rfl⟩
                | none => exact ⟨0, 0, false, rfl⟩
              have D2 := fun W (t : Gr w W) => DB.out W t
              rw [hdv] at D2
              have D2 := hid D2
              clear DA DB hda hdv HSW
              go_wp2_with (first
                | (go_at_call 18; (with_reducible refine D1.out.mono ?_); rintro e w10 ⟨rfl, g10⟩; have G10 := G9.trans g10; have hcb10 := g10.cell hcb9)
                | (go_at_call 18; (with_reducible refine (D2.out w10 G10).mono ?_); rintro e w11 ⟨rfl, g11⟩; have G11 := G10.trans g11)
                | (go_at_call 13; refine (awake8_any _ (ht.gr G11) (hu.gr G11)).mono ?_; rintro e w12 ⟨rfl, g12⟩))
              all_goals (go_ret; exact ⟨rfl, G11.trans g12⟩)
            | none =>
              have D1 : Hid (Calls Tryd.prog 18 #[.int .u32 (a : Int)] W9 fun e w' => e = .returned (.tuple #[.int .u32 0, .int .u32 0, .bool false]) ∧ Gr W9 w') := by
                have := DA.out W9 G9; unfold dval at this; rw [hda] at this; exact this
              cases hdb : dfind b with
              | some eb =>
                have D2 : Hid (∀ W, Gr w W → Calls Tryd.prog 18 #[.int .u32 (b : Int)] W fun e w' => e = .returned (.tuple #[.int .u32 eb.2.1, .int .u32 eb.2.2.1, .bool true]) ∧ Gr W w') := fun W t => by
                  have := DB.out W t; unfold dval at this; rw [hdb] at this; exact this
                clear DA DB hda hdb HSW
                go_wp2_with (first
                  | (go_at_call 18; (with_reducible refine D1.out.mono ?_); rintro e w10 ⟨rfl, g10⟩; have G10 := G9.trans g10; have hcb10 := g10.cell hcb9)
                  | (go_at_call 18; (with_reducible refine (D2.out w10 G10).mono ?_); rintro e w11 ⟨rfl, g11⟩; have G11 := G10.trans g11)
                  | (go_at_call 13; refine (awake8_any _ (ht.gr G11) (hu.gr G11)).mono ?_; rintro e w12 ⟨rfl, g12⟩))
                go_ret
                exact ⟨rfl, G11.trans g12⟩
              | none =>
                have D2 : Hid (∀ W, Gr w W → Calls Tryd.prog 18 #[.int .u32 (b : Int)] W fun e w' => e = .returned (.tuple #[.int .u32 0, .int .u32 0, .bool false]) ∧ Gr W w') := fun W t => by
                  have := DB.out W t; unfold dval at this; rw [hdb] at this; exact this
                obtain ⟨hs1, hs2⟩ := HSW.out hda hdb
                have hlN : L0.length ≤ 200 := by rw [HN.out]; exact HBg.out
                have hlM : M.length ≤ 200 := by rw [HLM.out]; exact HBg.out
                obtain ⟨lD, lC⟩ := nf_len L0
                obtain ⟨C, hC⟩ : ∃ C, nfc L0 = C := ⟨_, rfl⟩
                obtain ⟨D', hD⟩ : ∃ D', nfd L0 = D' := ⟨_, rfl⟩
                rw [hD] at hs1 lD
                rw [hC] at hs2 lC
                have F1 := nfd_c HB.out (by omega) hD
                have F2 := nfd_c HBM.out (by omega) hs1
                have F3 := nfc_c HB.out (by omega) hC
                have F4 := nfc_c HBM.out (by omega) hs2
                have ED := same_c (A := D') (B := D') (by omega) (show decide (D' = D') = true by simp)
                have EC := same_c (A := C) (B := C) (by omega) (show decide (C = C) = true by simp)
                clear DA DB hda hdb HSW hs1 hs2 hC hD lC lD hlN hlM
                go_wp2_with (first
                  | (go_at_call 18; (with_reducible refine D1.out.mono ?_); rintro e w10 ⟨rfl, g10⟩; have G10 := G9.trans g10; have hcb10 := g10.cell hcb9)
                  | (go_at_call 18; (with_reducible refine (D2.out w10 G10).mono ?_); rintro e w11 ⟨rfl, g11⟩; have G11 := G10.trans g11; have J11 := g10.trans g11)
                  | (go_at_call 19; ((with_reducible refine (F1.out w11 _ (ht.gr G11) (S0.out.gr G11)).mono ?_); rintro e w12 ⟨v12, rfl, hv12, g12⟩; have V12 := hid (Sl.of_row hv12); have G12 := G11.trans g12; have J12 := J11.trans g12; clear hv12 F1))
                  | (go_at_call 19; ((with_reducible refine (F2.out w12 _ (ht.gr G12) (R9.out.gr J12)).mono ?_); rintro e w13 ⟨v13, rfl, hv13, g13⟩; have V13 := hid (Sl.of_row hv13); have G13 := G12.trans g13; have J13 := J12.trans g13; clear hv13 F2))
                  | (go_at_call 15; ((with_reducible refine (ED.out w13 v12 v13 (V12.out.gr g13) V13.out).mono ?_); rintro e w14 ⟨rfl, g14⟩; have G14 := G13.trans g14; have J14 := J13.trans g14))
                  | (go_at_call 14; ((with_reducible refine (F3.out w14 _ (ht.gr G14) (S0.out.gr G14)).mono ?_); rintro e w15 ⟨v15, rfl, hv15, g15⟩; have V15 := hid (Sl.of_row hv15); have G15 := G14.trans g15; have J15 := J14.trans g15; clear hv15 F3))
                  | (go_at_call 14; ((with_reducible refine (F4.out w15 _ (ht.gr G15) (R9.out.gr J15)).mono ?_); rintro e w16 ⟨v16, rfl, hv16, g16⟩; have V16 := hid (Sl.of_row hv16); have G16 := G15.trans g16; clear hv16 F4))
                  | (go_at_call 15; ((with_reducible refine (EC.out w16 v15 v16 (V15.out.gr g16) V16.out).mono ?_); rintro e w17 ⟨rfl, g17⟩; have G17 := G16.trans g17))
                  | (go_at_call 13; refine (awake8_any _ (ht.gr G17) (hu.gr G17)).mono ?_; rintro e w18 ⟨rfl, g18⟩))
                go_ret
                exact ⟨rfl, G17.trans g18⟩
    · have hl1 : ¬ (200 : Int) < n := by omega
      have hd : decide ((200 : Int) < n) = false := decide_eq_false hl1
      have hl2 : (n : Int) < 2 := by omega
      clear S0 HB HA HN hb1 hbig hsm
      go_enter Tryd.func6, Tryd.ntmps6
      go_wp2_with (go_at_call 13; refine (awake8_any _ ht hu).mono ?_; rintro e w1 ⟨rfl, g1⟩)
      go_ret
      exact ⟨rfl, g1⟩
  · have hl1 : (200 : Int) < n := by omega
    clear S0 HB HA HN hb1 hbig
    go_enter Tryd.func6, Tryd.ntmps6
    go_wp2_with (go_at_call 13; refine (awake8_any _ ht hu).mono ?_; rintro e w1 ⟨rfl, g1⟩)
    go_ret
    exact ⟨rfl, g1⟩

theorem laidOut : laidOutB Tryd.prog = true := by kernel_rfl

set_option maxRecDepth 100000 in
theorem lifted (os : Os) (started : os.Started) (H : Type) (enc : TypeId × Value → H) :
    ReturnsInHanded {} Tryd.checked os 6 .any (fun w args => (Rows.normMarksSpec.pre enc Tryd.prog Tryd.f6 [] false w args ∧ laidMetH Tryd.prog laid5 w) ∧ sizedMet enc Tryd.prog Tryd.f6 (OpenSpec.ofChange Rows.normMarksSpec) false w args)
      (Rows.normMarksSpec.post enc Tryd.prog Tryd.f6 false true false false) := by
  refine returnsInHanded_of_change_and (C := Tryd.checked) (X := fun w _ => laidMetH Tryd.prog laid5 w) (fun _ _ _ hh h => h.of_heap hh) own started (by kernel_rfl) Tryd.func6
    (ChangeSpec.witness_shaped (enc := enc) (C := Tryd.checked) (os := os) (X := fun w _ => laidMetH Tryd.prog laid5 w) false (World.laidAll Tryd.prog os laid5) #[.slice none 0 0, .int .u8 0] 8 (World.laidAll_os _ _ _) (World.shaped_of_ZipB (by kernel_rfl) (by kernel_rfl)) (by kernel_rfl) (by kernel_rfl) (by kernel_rfl) (met5 os _)) ?_
  intro W base args ds gs before hval0 hW _ _ hL _
  have hval : ∀ (j : Nat) t v, Tryd.f6.params[j]? = some t → args[j]? = some v → Value.okWide Tryd.prog W .any base t v := hval0
  have hW' := hW
  obtain ⟨p, q, hA0, hV, rfl, hfz, hnd⟩ := hW
  have hA : DataW.TrodAll enc Tryd.prog W 0 (fun _ => true) true Tryd.f6.params.toList args.toList ds p := hA0
  rw [Tryd.params6] at hA hval
  obtain ⟨v0, vs0, d0, ds0, p0, q0, hargs, rfl, rfl, h0, r0⟩ := trodAll_cons hA
  obtain ⟨v1, vs1, d1, ds1, p1, q1, rfl, rfl, rfl, h1, r1⟩ := trodAll_cons r0
  obtain ⟨rfl, rfl, rfl⟩ := trodAll_nil r1
  obtain rfl : args = #[v0, v1] := by cases args; simp_all
  obtain ⟨rfl, rfl⟩ := trodVars_none hV
  obtain ⟨a0, len0, cap0, rfl⟩ := okWide_slice Tryd.underlying22 (hval 0 22 v0 rfl rfl)
  have k0 := h0
  have lt0 : ∀ x ∈ p0, x.block < W.heap.size := by obtain ⟨m, hm⟩ := k0; exact DataW.trod_lt m _ _ _ hm
  obtain ⟨z0, w0⟩ : ∃ zs, IsRow .u32 W a0 len0 cap0 zs := by
    obtain ⟨fuel, hf⟩ := h0
    rcases open_ints Tryd.underlying22 Tryd.underlying34 (by kernel_rfl) hf with ⟨hcs, _⟩ | ⟨x, l, c, zs, hcs, _, hl, hm, hz, _, hcell, hwz⟩
    · simp [Value.cells] at hcs
      obtain ⟨rfl, rfl, rfl⟩ := hcs
      exact ⟨[], .inl ⟨rfl, rfl, rfl, rfl⟩⟩
    · simp [Value.cells] at hcs
      obtain ⟨rfl, rfl, rfl⟩ := hcs
      exact ⟨zs, .inr ⟨_, rfl, hl, hm, by simpa using hz, hcell, hwz⟩⟩
  obtain ⟨L0, s0, _, b0⟩ := sl_of_row w0
  obtain ⟨a1, rfl, rfl, rfl, w1⟩ := open_int Tryd.underlying5 (hval 1 5 v1 rfl rfl) h1
  clear hA0 hval0
  refine (walk _ L0 a1 W s0 b0 w1 (of_laid5 hL).1 (of_laid5 hL).2).mono fun e W' ⟨he, hg⟩ => ?_
  subst he
  have bel : Below W.heap.size W W' := hg
  exact ⟨_, rfl, _, _, _, [], _, [], hW', trodAll_mk1 (shut_bool Tryd.underlying4 _), (trodAll_cons_mk (Below.trod laidOut (by kernel_rfl) (of_decide_eq_true (by kernel_rfl)) k0 bel lt0) (trodAll_cons_mk (shut_int Tryd.underlying5 w1) trodAll_mk0)), rfl, bel.frame _, fun h => by cases h⟩

theorem over : Rows.NormMarksSaid :=
  OpenClaim.holds_of_wide 6 Tryd.f6 rfl rfl rfl rfl rfl rfl rfl ⟨rfl, rfl, rfl, rfl, rfl⟩ rfl rfl rfl rfl rfl (by kernel_rfl) Tryd.func6 (by kernel_rfl)
    (of_decide_eq_true (by kernel_rfl)) (by unfold Func.isWrapper; rw [if_neg (of_decide_eq_false (by kernel_rfl))]; exact ⟨rfl, rfl⟩)
    (fun os started H enc _ => lifted os started H enc)

theorem proved : Rows.NormMarksCardSaid :=
  Claim7.holds_tied_plain_at .later [] [.data, .data, .data, .data, .pinned] true Rows.normMarksCard.stood.harness false
    over (fun _ h => by cases h) (by kernel_rfl) (fun _ h => by cases h) normMarks_row_tie rfl ⟨rfl, rfl⟩ (by kernel_rfl) rfl
    (fun f fn hf hfn => by
      obtain rfl : f = 6 := Option.some.inj ((show Tryd.prog.funcNamed "gesso/gessolaw08.NormMarks" = some 6 by kernel_rfl).symm.trans hf) |>.symm
      obtain rfl : fn = Tryd.f6 := (Option.some.inj (Tryd.func6.symm.trans hfn)).symm
      exact ⟨by kernel_rfl, fun j t ht => by
        rw [Tryd.params6] at ht
        have hm : t ∈ [22, 5] := by simpa using Array.mem_of_getElem? ht
        have hall : ([22, 5].all fun u => !Tryd.prog.wantsStandIn u) = true := by kernel_rfl
        exact (show Tryd.prog.wantsStandIn t = false by simpa using List.all_eq_true.1 hall t hm)⟩)
    (by kernel_rfl)
#print axioms proved
end Go.Proofs.YtdakagahofalkaaDoor.normMarks
