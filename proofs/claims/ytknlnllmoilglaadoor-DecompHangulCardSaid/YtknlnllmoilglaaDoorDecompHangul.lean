/- The law DecompHangul: a syllable is taken apart to letters of which it is put together again. No condition; the listed tables of the library are tied to the program's text. -/
import Derived.Test.YtknlnllmoilglaaDoorJoin
import Derived.Test.YtknlnllmoilglaaDoorLaid
import Derived.Test.YtknlnllmoilglaaDoorCards
import Derived.Test.YtknlnllmoilglaaDoorTie
import Derived.SevenTiedAt
import Derived.Deep.RegionWith
namespace Go.Proofs.YtknlnllmoilglaaDoor.decompHangul
open Go.ChangeShapes Go.WideShapes Go.ChangeAt Go.RowKit Go.WideMaps Go.WideElems

set_option maxRecDepth 20000 in
set_option maxHeartbeats 4000000 in
theorem walk (a0 : Int) (w0 : (Lit.int .u16 a0).wf = true) (w : World) (ht : Tz w) :
    Calls Tryd.prog 14 #[.int .u16 a0] w fun e w' => e = .returned (.bool true) ∧ Gr w w' := by
  have hb := bounds_u16 w0
  obtain ⟨k, hk⟩ : ∃ k : Nat, a0 % 11172 = k := ⟨(a0 % 11172).toNat, by omega⟩
  have hk1 : k ≤ 11171 := by omega
  have ha : IntKind.u32.wrap a0 = a0 := by rw [IntKind.wrap_u32]; omega
  have hm : a0.tmod 11172 = k := by rw [Int.tmod_eq_emod_of_nonneg (by omega)]; exact hk
  obtain ⟨c, hc⟩ : ∃ c : Nat, c = 44032 + k := ⟨_, rfl⟩
  have hw : IntKind.u32.wrap (44032 + (k : Int)) = c := by rw [IntKind.wrap_u32]; omega
  have hh : isH c = true := (isH_iff c).2 (by omega)
  have h1 := fun w' (g : Gr w w') => Full_any c (by omega) w' (ht.gr g)
  rw [full_h hh] at h1
  have eL : hL c = 4352 + k / 28 / 21 := by unfold hL; omega
  have eV : hV c = 4449 + k / 28 % 21 := by unfold hV; omega
  have J1 := hid (fun w => join_two k hk1 w)
  by_cases h0 : k % 28 = 0
  · have eT : hT c = 0 := by unfold hT; rw [if_pos (by omega)]
    unfold hsp at h1
    rw [eL, eV, eT, if_pos rfl] at h1
    generalize 4352 + k / 28 / 21 = a at h1 J1
    generalize 4449 + k / 28 % 21 = b at h1 J1
    have H1 := hid h1
    have hx : 44032 + k / 28 * 28 = c := by omega
    rw [hx] at J1
    clear h1 hb w0 hk hc hh eL eV eT hx
    go_enter Tryd.func14, Tryd.ntmps14
    go_wp2_with (first
      | (go_at_call 15; refine (H1.out _ (Gr.refl _)).mono ?_; clear H1; rintro e w1 ⟨v1, rfl, hv1, g1⟩; obtain ⟨g, cap, rfl, c0, c1⟩ := row2 hv1; clear hv1))
    go_region_with (go_at_call 37; refine (J1.out _).mono ?_; rintro e w2 ⟨rfl, g2'⟩; have g2 : Gr w1 w2 := (Gr.drew w1).trans g2')
    all_goals go_wp2_with (first
      | (go_at_call 19; refine (awake5_any _ (ht.gr (g1.trans g2))).mono ?_; rintro e w5 ⟨rfl, g5⟩))
    all_goals go_ret
    all_goals exact ⟨rfl, (g1.trans g2).trans g5⟩
  · have eT : hT c = 4519 + k % 28 := by unfold hT; rw [if_neg (by omega)]; omega
    have J2 := hid (fun w => join_all k hk1 h0 w)
    unfold hsp at h1
    rw [eL, eV, eT, if_neg (by omega)] at h1
    generalize 4352 + k / 28 / 21 = a at h1 J1
    generalize 4449 + k / 28 % 21 = b at h1 J1
    generalize 4519 + k % 28 = t at h1 J2
    generalize 44032 + k / 28 * 28 = d at J1 J2
    have H1 := hid h1
    rw [← hc] at J2
    clear h1 hb w0 hk hc hh eL eV eT
    go_enter Tryd.func14, Tryd.ntmps14
    go_wp2_with (first
      | (go_at_call 15; refine (H1.out _ (Gr.refl _)).mono ?_; clear H1; rintro e w1 ⟨v1, rfl, hv1, g1⟩; obtain ⟨g, cap, rfl, c0, c1, c2⟩ := row3 hv1; clear hv1))
    go_region_with (go_at_call 37; refine (J1.out _).mono ?_; rintro e w2 ⟨rfl, g2'⟩; have g2 : Gr w1 w2 := (Gr.drew w1).trans g2'; have c2 := g2.cell c2)
    all_goals clear J1
    all_goals go_wp2_with (first
      | (go_at_call 37; refine (J2.out _).mono ?_; rintro e w3 ⟨rfl, g3⟩)
      | (go_at_call 19; refine (awake5_any _ (ht.gr ((g1.trans g2).trans g3))).mono ?_; rintro e w5 ⟨rfl, g5⟩))
    all_goals go_ret
    all_goals exact ⟨rfl, ((g1.trans g2).trans g3).trans g5⟩

set_option maxRecDepth 100000 in
theorem lifted (os : Os) (started : os.Started) (H : Type) (enc : TypeId × Value → H) :
    ReturnsInHanded {} Tryd.checked os 14 .any (fun w args => (Rows.decompHangulSpec.pre enc Tryd.prog Tryd.f14 [] false w args ∧ laidMetH Tryd.prog laid3 w) ∧ sizedMet enc Tryd.prog Tryd.f14 (OpenSpec.ofChange Rows.decompHangulSpec) false w args)
      (Rows.decompHangulSpec.post enc Tryd.prog Tryd.f14 false true false false) := by
  refine returnsInHanded_of_change_and (C := Tryd.checked) (X := fun w _ => laidMetH Tryd.prog laid3 w) (fun _ _ _ hh h => h.of_heap hh) own started (by kernel_rfl) Tryd.func14
    (ChangeSpec.witness_shaped (enc := enc) (C := Tryd.checked) (os := os) (X := fun w _ => laidMetH Tryd.prog laid3 w) false (World.doorLaid Tryd.prog 400 os) #[.int .u16 0] 8 rfl (World.shaped_of_RefB (by kernel_rfl) (by kernel_rfl)) (by kernel_rfl) (by kernel_rfl) (by kernel_rfl) (door_met os _)) ?_
  intro W base args ds gs before hval0 hW _ _ hL _
  have hval : ∀ (j : Nat) t v, Tryd.f14.params[j]? = some t → args[j]? = some v → Value.okWide Tryd.prog W .any base t v := hval0
  have hW' := hW
  obtain ⟨p, q, hA0, hV, rfl, hfz, hnd⟩ := hW
  have hA : DataW.TrodAll enc Tryd.prog W 0 (fun _ => true) true Tryd.f14.params.toList args.toList ds p := hA0
  rw [Tryd.params14] at hA hval
  obtain ⟨v0, vs0, d0, ds0, p0, q0, hargs, rfl, rfl, h0, r0⟩ := trodAll_cons hA
  obtain ⟨rfl, rfl, rfl⟩ := trodAll_nil r0
  obtain rfl : args = #[v0] := by cases args; simp_all
  obtain ⟨rfl, rfl⟩ := trodVars_none hV
  obtain ⟨a0, rfl, rfl, rfl, w0⟩ := open_int Tryd.underlying39 (hval 0 39 v0 rfl rfl) h0
  clear hA0 hval0
  simp only [List.append_nil] at hW'
  refine (walk a0 w0 W (of_laid hL)).mono fun e W' ⟨he, hg⟩ => ?_
  subst he
  have bel : Below W.heap.size W W' := hg
  exact ⟨_, rfl, _, _, _, [], [], [], hW', trodAll_mk1 (shut_bool Tryd.underlying4 _), (trodAll_cons_mk (shut_int Tryd.underlying39 w0) trodAll_mk0), rfl, bel.frame _, fun h => by cases h⟩

theorem over : Rows.DecompHangulSaid :=
  OpenClaim.holds_of_wide 14 Tryd.f14 rfl rfl rfl rfl rfl rfl rfl ⟨rfl, rfl, rfl, rfl, rfl⟩ rfl rfl rfl rfl rfl (by kernel_rfl) Tryd.func14 (by kernel_rfl)
    (of_decide_eq_true (by kernel_rfl)) (by unfold Func.isWrapper; rw [if_neg (of_decide_eq_false (by kernel_rfl))]; exact ⟨rfl, rfl⟩)
    (fun os started H enc _ => lifted os started H enc)

theorem proved : Rows.DecompHangulCardSaid :=
  Claim7.holds_tied_plain_at .later [] [.data, .data, .data] true Rows.decompHangulCard.stood.harness false
    over (fun _ h => by cases h) (by kernel_rfl) (fun _ h => by cases h) decompHangul_row_tie rfl ⟨rfl, rfl⟩ (by kernel_rfl) rfl
    (fun f fn hf hfn => by
      obtain rfl : f = 14 := Option.some.inj ((show Tryd.prog.funcNamed "gesso/gessolaw05.DecompHangul" = some 14 by kernel_rfl).symm.trans hf) |>.symm
      obtain rfl : fn = Tryd.f14 := (Option.some.inj (Tryd.func14.symm.trans hfn)).symm
      exact ⟨by kernel_rfl, fun j t ht => by
        rw [Tryd.params14] at ht
        have hm : t ∈ [39] := by simpa using Array.mem_of_getElem? ht
        have hall : ([39].all fun u => !Tryd.prog.wantsStandIn u) = true := by kernel_rfl
        exact (show Tryd.prog.wantsStandIn t = false by simpa using List.all_eq_true.1 hall t hm)⟩)
    (by kernel_rfl)
#print axioms proved
end Go.Proofs.YtknlnllmoilglaaDoor.decompHangul
