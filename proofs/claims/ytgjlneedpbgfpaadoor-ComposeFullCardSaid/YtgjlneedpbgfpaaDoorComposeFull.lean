/- The law ComposeFull: a full decomposition is composed to the character just if that is composed again or is whole. No condition; the listed tables of the library are tied to the program's text. -/
import Derived.Test.YtgjlneedpbgfpaaDoorGComp
import Derived.Test.YtgjlneedpbgfpaaDoorLaid
import Derived.Test.YtgjlneedpbgfpaaDoorCards
import Derived.Test.YtgjlneedpbgfpaaDoorTie
import Derived.SevenTiedAt
import Derived.Deep.RegionWith
namespace Go.Proofs.YtgjlneedpbgfpaaDoor.composeFull
open Go.ChangeShapes Go.WideShapes Go.ChangeAt Go.RowKit Go.WideMaps Go.WideElems

set_option maxRecDepth 20000 in
set_option maxHeartbeats 4000000 in
theorem walk (c : Int) (hw : (Lit.int .u32 c).wf = true) (w : World) (ht : Tz w) :
    Calls Tryd.prog 6 #[.int .u32 c] w fun e w' => e = .returned (.bool true) ∧ Gr w w' := by
  obtain ⟨hc0, hc1⟩ := bounds_u32 hw
  obtain ⟨c, rfl⟩ : ∃ n : Nat, c = n := ⟨c.toNat, by omega⟩
  have hcb : c < 4294967296 := by omega
  have HF := hid (Full_any c hcb w ht)
  have hl := full_len c
  have HC := fun W v (t : Tz W) (s : Sl W v (full c)) => Compose_any v (full c) W t s (fun x hx => (full_whole hcb x hx).2) (by omega)
  have hcl := comp_length (full c)
  have HP := hid (fun W (t : Tz W) => composes_any c hcb W t)
  have HW := hid (fun W (t : Tz W) => whole_any c hcb W t)
  have hq := full_same c
  obtain ⟨M, hM⟩ : ∃ M, full c = M := ⟨_, rfl⟩
  rw [hM] at HF HC hl hcl hq
  obtain ⟨K, hK⟩ : ∃ K, comp M = K := ⟨_, rfl⟩
  rw [hK] at HC hcl hq
  have HC' := hid HC
  have hKl : K.length ≤ 1000 := by omega
  have HQ := hid hq
  have hone : ∀ W : World, (W.alloc (.cells #[.int .u32 (c : Int)] 22)).ownsRow W.heap.size 22 1 (.slice (some ⟨W.heap.size, 0, none⟩) 1 1) [c].length (u32s [c]) := fun W => World.ownsRow_lit W #[.int .u32 (c : Int)] 1 (Nat.le_refl _) (by unfold maxLen; omega) rfl
  have HONE := hid hone
  clear HC hM hK hq hcl hl hw hc0 hone
  obtain ⟨p, hp⟩ : ∃ p, composes c = p := ⟨_, rfl⟩
  obtain ⟨r, hr⟩ : ∃ r, whole c = r := ⟨_, rfl⟩
  rw [hp] at HP HQ
  rw [hr] at HW HQ
  cases p with
  | true =>
    clear HW hr
    have HE : Hid (decide (K = [c]) = true) := by show _ = _; rw [HQ.out]; rfl
    clear HQ
    go_enter Tryd.func6, Tryd.ntmps6
    go_wp2_with (first
      | (go_at_call 30; refine HF.out.mono ?_; clear HF; rintro e w1 ⟨v, rfl, hv, g1⟩; have HV := hid (Sl.of_row hv); clear hv)
      | (go_at_call 26; refine (HC'.out w1 v (ht.gr g1) HV.out).mono ?_; rintro e w2 ⟨v2, rfl, hv2, g2'⟩; have g2 := g1.trans g2'; have HV2 := hid (Sl.of_row hv2); clear hv2)
      | (go_at_call 31; refine (HP.out w2 (ht.gr g2)).mono ?_; rintro e w3 ⟨rfl, g3'⟩; have g3 := g2.trans g3'; have HV3 := hid (HV2.out.gr g3'))
      | (go_at_call 32; refine (HW.out w3 (ht.gr g3)).mono ?_; rintro e w4 ⟨rfl, g4'⟩; have g4 := g3.trans g4'; have HV4 := hid (HV3.out.gr g4'))
      | (go_at_call 27; refine (same_any v2 _ K [c] (w3.alloc (.cells #[.int .u32 (c : Int)] 22)) (HV3.out.gr (Gr.alloc _ _)) (Sl.of_row (HONE.out w3)) (by omega)).mono ?_; rintro e w5 ⟨rfl, g5'⟩; rw [HE.out]; have g5 := (g3.trans (Gr.alloc _ _)).trans g5')
      | (go_at_call 25; refine (awake7_any _ (ht.gr g5)).mono ?_; rintro e w6 ⟨rfl, g6⟩))
    go_ret
    exact ⟨rfl, g5.trans g6⟩
  | false =>
    cases r with
    | true =>
      have HE : Hid (decide (K = [c]) = true) := by show _ = _; rw [HQ.out]; rfl
      clear HQ
      go_enter Tryd.func6, Tryd.ntmps6
      go_wp2_with (first
        | (go_at_call 30; refine HF.out.mono ?_; clear HF; rintro e w1 ⟨v, rfl, hv, g1⟩; have HV := hid (Sl.of_row hv); clear hv)
        | (go_at_call 26; refine (HC'.out w1 v (ht.gr g1) HV.out).mono ?_; rintro e w2 ⟨v2, rfl, hv2, g2'⟩; have g2 := g1.trans g2'; have HV2 := hid (Sl.of_row hv2); clear hv2)
        | (go_at_call 31; refine (HP.out w2 (ht.gr g2)).mono ?_; rintro e w3 ⟨rfl, g3'⟩; have g3 := g2.trans g3'; have HV3 := hid (HV2.out.gr g3'))
        | (go_at_call 32; refine (HW.out w3 (ht.gr g3)).mono ?_; rintro e w4 ⟨rfl, g4'⟩; have g4 := g3.trans g4'; have HV4 := hid (HV3.out.gr g4'))
        | (go_at_call 27; refine (same_any v2 _ K [c] (w4.alloc (.cells #[.int .u32 (c : Int)] 22)) (HV4.out.gr (Gr.alloc _ _)) (Sl.of_row (HONE.out w4)) (by omega)).mono ?_; rintro e w5 ⟨rfl, g5'⟩; rw [HE.out]; have g5 := (g4.trans (Gr.alloc _ _)).trans g5')
        | (go_at_call 25; refine (awake7_any _ (ht.gr g5)).mono ?_; rintro e w6 ⟨rfl, g6⟩))
      go_ret
      exact ⟨rfl, g5.trans g6⟩
    | false =>
      by_cases h1 : 44032 ≤ c
      · have z1 : (44032 : Int) ≤ c := by omega
        have y1 : decide ((44032 : Int) ≤ c) = true := decide_eq_true z1
        by_cases h2 : c ≤ 55203
        · have z2 : (c : Int) ≤ 55203 := by omega
          have y2 : decide ((c : Int) ≤ 55203) = true := decide_eq_true z2
          have hx : (Nat.ble 44032 c && Nat.ble c 55203) = true := by rw [Bool.and_eq_true, Nat.ble_eq, Nat.ble_eq]; exact ⟨h1, h2⟩
          have HE : Hid (decide (K = [c]) = true) := by show _ = _; rw [HQ.out]; simp [isH, hx]
          clear HQ
          go_enter Tryd.func6, Tryd.ntmps6
          go_wp2_with (first
            | (go_at_call 30; refine HF.out.mono ?_; clear HF; rintro e w1 ⟨v, rfl, hv, g1⟩; have HV := hid (Sl.of_row hv); clear hv)
            | (go_at_call 26; refine (HC'.out w1 v (ht.gr g1) HV.out).mono ?_; rintro e w2 ⟨v2, rfl, hv2, g2'⟩; have g2 := g1.trans g2'; have HV2 := hid (Sl.of_row hv2); clear hv2)
            | (go_at_call 31; refine (HP.out w2 (ht.gr g2)).mono ?_; rintro e w3 ⟨rfl, g3'⟩; have g3 := g2.trans g3'; have HV3 := hid (HV2.out.gr g3'))
            | (go_at_call 32; refine (HW.out w3 (ht.gr g3)).mono ?_; rintro e w4 ⟨rfl, g4'⟩; have g4 := g3.trans g4'; have HV4 := hid (HV3.out.gr g4'))
            | (go_at_call 27; refine (same_any v2 _ K [c] (w4.alloc (.cells #[.int .u32 (c : Int)] 22)) (HV4.out.gr (Gr.alloc _ _)) (Sl.of_row (HONE.out w4)) (by omega)).mono ?_; rintro e w5 ⟨rfl, g5'⟩; rw [HE.out]; have g5 := (g4.trans (Gr.alloc _ _)).trans g5')
            | (go_at_call 25; refine (awake7_any _ (ht.gr g5)).mono ?_; rintro e w6 ⟨rfl, g6⟩))
          go_ret
          exact ⟨rfl, g5.trans g6⟩
        · have z2 : ¬ (c : Int) ≤ 55203 := by omega
          have y2 : decide ((c : Int) ≤ 55203) = false := decide_eq_false z2
          have hx : (Nat.ble 44032 c && Nat.ble c 55203) = false := by rw [← Bool.not_eq_true, Bool.and_eq_true, Nat.ble_eq, Nat.ble_eq]; exact fun h => h2 h.2
          have HE : Hid (decide (K = [c]) = false) := by show _ = _; rw [HQ.out]; simp [isH, hx]
          clear HQ
          go_enter Tryd.func6, Tryd.ntmps6
          go_wp2_with (first
            | (go_at_call 30; refine HF.out.mono ?_; clear HF; rintro e w1 ⟨v, rfl, hv, g1⟩; have HV := hid (Sl.of_row hv); clear hv)
            | (go_at_call 26; refine (HC'.out w1 v (ht.gr g1) HV.out).mono ?_; rintro e w2 ⟨v2, rfl, hv2, g2'⟩; have g2 := g1.trans g2'; have HV2 := hid (Sl.of_row hv2); clear hv2)
            | (go_at_call 31; refine (HP.out w2 (ht.gr g2)).mono ?_; rintro e w3 ⟨rfl, g3'⟩; have g3 := g2.trans g3'; have HV3 := hid (HV2.out.gr g3'))
            | (go_at_call 32; refine (HW.out w3 (ht.gr g3)).mono ?_; rintro e w4 ⟨rfl, g4'⟩; have g4 := g3.trans g4'; have HV4 := hid (HV3.out.gr g4'))
            | (go_at_call 27; refine (same_any v2 _ K [c] (w4.alloc (.cells #[.int .u32 (c : Int)] 22)) (HV4.out.gr (Gr.alloc _ _)) (Sl.of_row (HONE.out w4)) (by omega)).mono ?_; rintro e w5 ⟨rfl, g5'⟩; rw [HE.out]; have g5 := (g4.trans (Gr.alloc _ _)).trans g5')
            | (go_at_call 25; refine (awake7_any _ (ht.gr g5)).mono ?_; rintro e w6 ⟨rfl, g6⟩))
          go_ret
          exact ⟨rfl, g5.trans g6⟩
      · have z1 : ¬ (44032 : Int) ≤ c := by omega
        have y1 : decide ((44032 : Int) ≤ c) = false := decide_eq_false z1
        have hx : (Nat.ble 44032 c && Nat.ble c 55203) = false := by rw [← Bool.not_eq_true, Bool.and_eq_true, Nat.ble_eq, Nat.ble_eq]; exact fun h => h1 h.1
        have HE : Hid (decide (K = [c]) = false) := by show _ = _; rw [HQ.out]; simp [isH, hx]
        clear HQ
        go_enter Tryd.func6, Tryd.ntmps6
        go_wp2_with (first
          | (go_at_call 30; refine HF.out.mono ?_; clear HF; rintro e w1 ⟨v, rfl, hv, g1⟩; have HV := hid (Sl.of_row hv); clear hv)
          | (go_at_call 26; refine (HC'.out w1 v (ht.gr g1) HV.out).mono ?_; rintro e w2 ⟨v2, rfl, hv2, g2'⟩; have g2 := g1.trans g2'; have HV2 := hid (Sl.of_row hv2); clear hv2)
          | (go_at_call 31; refine (HP.out w2 (ht.gr g2)).mono ?_; rintro e w3 ⟨rfl, g3'⟩; have g3 := g2.trans g3'; have HV3 := hid (HV2.out.gr g3'))
          | (go_at_call 32; refine (HW.out w3 (ht.gr g3)).mono ?_; rintro e w4 ⟨rfl, g4'⟩; have g4 := g3.trans g4'; have HV4 := hid (HV3.out.gr g4'))
          | (go_at_call 27; refine (same_any v2 _ K [c] (w4.alloc (.cells #[.int .u32 (c : Int)] 22)) (HV4.out.gr (Gr.alloc _ _)) (Sl.of_row (HONE.out w4)) (by omega)).mono ?_; rintro e w5 ⟨rfl, g5'⟩; rw [HE.out]; have g5 := (g4.trans (Gr.alloc _ _)).trans g5')
          | (go_at_call 25; refine (awake7_any _ (ht.gr g5)).mono ?_; rintro e w6 ⟨rfl, g6⟩))
        go_ret
        exact ⟨rfl, g5.trans g6⟩

set_option maxRecDepth 100000 in
theorem lifted (os : Os) (started : os.Started) (H : Type) (enc : TypeId × Value → H) :
    ReturnsInHanded {} Tryd.checked os 6 .any (fun w args => (Rows.composeFullSpec.pre enc Tryd.prog Tryd.f6 [] false w args ∧ laidMetH Tryd.prog laid3 w) ∧ sizedMet enc Tryd.prog Tryd.f6 (OpenSpec.ofChange Rows.composeFullSpec) false w args)
      (Rows.composeFullSpec.post enc Tryd.prog Tryd.f6 false true false false) := by
  refine returnsInHanded_of_change_and (C := Tryd.checked) (X := fun w _ => laidMetH Tryd.prog laid3 w) (fun _ _ _ hh h => h.of_heap hh) own started (by kernel_rfl) Tryd.func6
    (ChangeSpec.witness_shaped (enc := enc) (C := Tryd.checked) (os := os) (X := fun w _ => laidMetH Tryd.prog laid3 w) false (World.doorLaid Tryd.prog 400 os) #[.int .u32 0] 8 rfl (World.shaped_of_RefB (by kernel_rfl) (by kernel_rfl)) (by kernel_rfl) (by kernel_rfl) (by kernel_rfl) (door_met os _)) ?_
  intro W base args ds gs before hval0 hW _ _ hL _
  have hval : ∀ (j : Nat) t v, Tryd.f6.params[j]? = some t → args[j]? = some v → Value.okWide Tryd.prog W .any base t v := hval0
  have hW' := hW
  obtain ⟨p, q, hA0, hV, rfl, hfz, hnd⟩ := hW
  have hA : DataW.TrodAll enc Tryd.prog W 0 (fun _ => true) true Tryd.f6.params.toList args.toList ds p := hA0
  rw [Tryd.params6] at hA hval
  obtain ⟨v0, vs0, d0, ds0, p0, q0, hargs, rfl, rfl, h0, r0⟩ := trodAll_cons hA
  obtain ⟨rfl, rfl, rfl⟩ := trodAll_nil r0
  obtain rfl : args = #[v0] := by cases args; simp_all
  obtain ⟨rfl, rfl⟩ := trodVars_none hV
  obtain ⟨a0, rfl, rfl, rfl, w0⟩ := open_int Tryd.underlying22 (hval 0 22 v0 rfl rfl) h0
  clear hA0 hval0
  simp only [List.append_nil] at hW'
  refine (walk a0 w0 W (of_laid hL)).mono fun e W' ⟨he, hg⟩ => ?_
  subst he
  have bel : Below W.heap.size W W' := hg
  exact ⟨_, rfl, _, _, _, [], [], [], hW', trodAll_mk1 (shut_bool Tryd.underlying4 _), (trodAll_cons_mk (shut_int Tryd.underlying22 w0) trodAll_mk0), rfl, bel.frame _, fun h => by cases h⟩

theorem over : Rows.ComposeFullSaid :=
  OpenClaim.holds_of_wide 6 Tryd.f6 rfl rfl rfl rfl rfl rfl rfl ⟨rfl, rfl, rfl, rfl, rfl⟩ rfl rfl rfl rfl rfl (by kernel_rfl) Tryd.func6 (by kernel_rfl)
    (of_decide_eq_true (by kernel_rfl)) (by unfold Func.isWrapper; rw [if_neg (of_decide_eq_false (by kernel_rfl))]; exact ⟨rfl, rfl⟩)
    (fun os started H enc _ => lifted os started H enc)

theorem proved : Rows.ComposeFullCardSaid :=
  Claim7.holds_tied_plain_at .later [] [.data, .data, .data] true Rows.composeFullCard.stood.harness false
    over (fun _ h => by cases h) (by kernel_rfl) (fun _ h => by cases h) composeFull_row_tie rfl ⟨rfl, rfl⟩ (by kernel_rfl) rfl
    (fun f fn hf hfn => by
      obtain rfl : f = 6 := Option.some.inj ((show Tryd.prog.funcNamed "gesso/gessolaw07.ComposeFull" = some 6 by kernel_rfl).symm.trans hf) |>.symm
      obtain rfl : fn = Tryd.f6 := (Option.some.inj (Tryd.func6.symm.trans hfn)).symm
      exact ⟨by kernel_rfl, fun j t ht => by
        rw [Tryd.params6] at ht
        have hm : t ∈ [22] := by simpa using Array.mem_of_getElem? ht
        have hall : ([22].all fun u => !Tryd.prog.wantsStandIn u) = true := by kernel_rfl
        exact (show Tryd.prog.wantsStandIn t = false by simpa using List.all_eq_true.1 hall t hm)⟩)
    (by kernel_rfl)
#print axioms proved
end Go.Proofs.YtgjlneedpbgfpaaDoor.composeFull
