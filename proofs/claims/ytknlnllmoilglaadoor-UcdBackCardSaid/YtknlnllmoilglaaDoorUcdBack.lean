/- The law UcdBack: a pair is composed to what is decomposed to it, and that is said to be composed; what is said so is composed of its two. No condition; the listed tables of the library are tied to the program's text. -/
import Derived.Test.YtknlnllmoilglaaDoorAwake3
import Derived.Test.YtknlnllmoilglaaDoorTree
import Derived.Test.YtknlnllmoilglaaDoorLaid
import Derived.Test.YtknlnllmoilglaaDoorCards
import Derived.Test.YtknlnllmoilglaaDoorTie
import Derived.SevenTiedAt
namespace Go.Proofs.YtknlnllmoilglaaDoor.ucdBack
open Go.ChangeShapes Go.WideShapes Go.ChangeAt Go.RowKit Go.WideMaps Go.WideElems

theorem second_of {a b : Nat} {e} (h : pfind a b = some e) : second b = true := by
  obtain ⟨h1, _, h3⟩ := pfind_some h
  unfold second
  rw [Bool.or_eq_true, List.any_eq_true]
  exact .inr ⟨e, h1, Nat.beq_eq.mpr h3⟩

/-- What the second half comes to: the calls, and the numbers that they tell. -/
def Half (c d e : Nat) (is : Bool) (y : Nat) (fine co : Bool) : Prop :=
  dval c = .tuple #[.int .u32 d, .int .u32 e, .bool is] ∧ pval d e = .tuple #[.int .u32 y, .bool fine] ∧ composes c = co ∧ d < 1048576 ∧ e < 1048576 ∧ (co = false ∨ (co = true ∧ is = true ∧ fine = true ∧ y = c ∧ 0 < e))
theorem half (c : Nat) : ∃ d e is y fine co, Half c d e is y fine co := by
  have hp : ∀ a b, ∃ (x : Nat) (y : Bool), pval a b = .tuple #[.int .u32 x, .bool y] := fun a b => by
    unfold pval
    cases pfind a b with
    | none => exact ⟨0, false, rfl⟩
    | some e => exact ⟨e.2.2, true, rfl⟩
  cases hd : dfind c with
  | none =>
    obtain ⟨y, fine, hy⟩ := hp 0 0
    exact ⟨0, 0, false, y, fine, false, by unfold dval; rw [hd]; rfl, hy, by unfold composes; rw [hd], by omega, by omega, .inl rfl⟩
  | some e =>
    have hb := D_bd2 e (dfind_some hd).1
    cases hf : e.2.2.2 with
    | false =>
      obtain ⟨y, fine, hy⟩ := hp e.2.1 e.2.2.1
      exact ⟨e.2.1, e.2.2.1, true, y, fine, false, by unfold dval; rw [hd], hy, by unfold composes; rw [hd]; exact hf, hb.1, hb.2, .inl rfl⟩
    | true =>
      obtain ⟨⟨x, hx, hxc⟩, k2, _⟩ := dec_pair hd hf
      exact ⟨e.2.1, e.2.2.1, true, c, true, true, by unfold dval; rw [hd], by unfold pval; rw [hx, ← hxc], by unfold composes; rw [hd]; exact hf, hb.1, hb.2, .inr ⟨rfl, rfl, rfl, rfl, k2⟩⟩

set_option maxHeartbeats 4000000 in
theorem walk (a0 a1 a2 : Int) (w0 : (Lit.int .u32 a0).wf = true) (w1 : (Lit.int .u32 a1).wf = true) (w2 : (Lit.int .u32 a2).wf = true) (w : World) (ht : Tz w) :
    Calls Tryd.prog 9 #[.int .u32 a0, .int .u32 a1, .int .u32 a2] w fun e w' => e = .returned (.bool true) ∧ Gr w w' := by
  have hb := bounds_u32 w0
  have hb1 := bounds_u32 w1
  have hb2 := bounds_u32 w2
  obtain ⟨a, rfl⟩ : ∃ c : Nat, a0 = c := ⟨a0.toNat, by omega⟩
  obtain ⟨b, rfl⟩ : ∃ c : Nat, a1 = c := ⟨a1.toNat, by omega⟩
  obtain ⟨c, rfl⟩ : ∃ c : Nat, a2 = c := ⟨a2.toNat, by omega⟩
  have ha : a < 4294967296 := by omega
  have hb' : b < 4294967296 := by omega
  have hc : c < 4294967296 := by omega
  clear hb w0 hb1 w1 hb2 w2
  obtain ⟨d, e, is, y, fine, co, h1, h2, h3, h4, h5, h6⟩ := half c
  have hd := fun w' (g : Gr w w') => decomp_any c hc w' (ht.gr g)
  have hp := fun w' (g : Gr w w') => pair_any d e (by omega) (by omega) w' (ht.gr g)
  have hco := fun w' (g : Gr w w') => composes_any c hc w' (ht.gr g)
  rw [h1] at hd
  rw [h2] at hp
  rw [h3] at hco
  have HD := hid hd
  have HP := hid hp
  have HC := hid hco
  have HA := hid (fun w' (g : Gr w w') => awake3_any w' (ht.gr g))
  clear hd hp hco h1 h2 h3
  cases hq : pfind a b with
  | none =>
    have HQ := hid (fun w' (g : Gr w w') => pair_no a b ha hb' w' (ht.gr g) hq)
    clear hq
    rcases h6 with rfl | ⟨rfl, rfl, rfl, rfl, h6⟩
    · go_enter Tryd.func9, Tryd.ntmps9
      go_wp2_with fail
      refine (HQ.out _ (Gr.refl _)).mono ?_
      rintro x w1 ⟨rfl, g1⟩
      go_wp2_with fail
      refine (HD.out _ g1).mono ?_
      rintro x w2 ⟨rfl, g2⟩
      replace g2 := g1.trans g2
      go_wp2_with fail
      refine (HP.out _ g2).mono ?_
      rintro x w3 ⟨rfl, g3⟩
      replace g3 := g2.trans g3
      go_wp2_with fail
      refine (HC.out _ g3).mono ?_
      rintro x w4 ⟨rfl, g4⟩
      replace g4 := g3.trans g4
      go_wp2_with fail
      refine (HA.out _ g4).mono ?_
      rintro x w5 ⟨rfl, g5⟩
      go_wp2
      go_ret
      exact ⟨rfl, g4.trans g5⟩
    · have hb0 : ((e : Int) != 0) = true := by rw [bne_iff_ne]; omega
      go_enter Tryd.func9, Tryd.ntmps9
      go_wp2_with fail
      refine (HQ.out _ (Gr.refl _)).mono ?_
      rintro x w1 ⟨rfl, g1⟩
      go_wp2_with fail
      refine (HD.out _ g1).mono ?_
      rintro x w2 ⟨rfl, g2⟩
      replace g2 := g1.trans g2
      go_wp2_with fail
      refine (HP.out _ g2).mono ?_
      rintro x w3 ⟨rfl, g3⟩
      replace g3 := g2.trans g3
      go_wp2_with fail
      refine (HC.out _ g3).mono ?_
      rintro x w4 ⟨rfl, g4⟩
      replace g4 := g3.trans g4
      go_wp2_with fail
      refine (HA.out _ g4).mono ?_
      rintro x w5 ⟨rfl, g5⟩
      go_wp2
      go_ret
      exact ⟨rfl, g4.trans g5⟩
  | some en =>
    have hdx := pair_dec hq
    have hx := P_bd2 en (pfind_some hq).1
    have HQ := hid (fun w' (g : Gr w w') => pair_yes a b ha hb' w' (ht.gr g) en hq)
    have HX := hid (fun w' (g : Gr w w') => decomp_yes en.2.2 (by omega) w' (ht.gr g) _ hdx)
    have HY := hid (fun w' (g : Gr w w') => composes_yes en.2.2 (by omega) w' (ht.gr g) _ hdx)
    have hz := fun w' (g : Gr w w') => second_any b hb' w' (ht.gr g)
    rw [second_of hq] at hz
    have HZ := hid hz
    clear hq hdx hz
    generalize en.2.2 = xx at HQ HX HY hx
    rcases h6 with rfl | ⟨rfl, rfl, rfl, rfl, h6⟩
    · go_enter Tryd.func9, Tryd.ntmps9
      go_wp2_with fail
      refine (HQ.out _ (Gr.refl _)).mono ?_
      rintro x w1 ⟨rfl, g1⟩
      go_wp2_with fail
      refine (HX.out _ g1).mono ?_
      rintro x w1a ⟨rfl, g1a⟩
      replace g1a := g1.trans g1a
      go_wp2_with fail
      refine (HY.out _ g1a).mono ?_
      rintro x w1b ⟨rfl, g1b⟩
      replace g1b := g1a.trans g1b
      go_wp2_with fail
      refine (HZ.out _ g1b).mono ?_
      rintro x w1c ⟨rfl, g1c⟩
      replace g1c := g1b.trans g1c
      go_wp2_with fail
      refine (HD.out _ g1c).mono ?_
      rintro x w2 ⟨rfl, g2⟩
      replace g2 := g1c.trans g2
      go_wp2_with fail
      refine (HP.out _ g2).mono ?_
      rintro x w3 ⟨rfl, g3⟩
      replace g3 := g2.trans g3
      go_wp2_with fail
      refine (HC.out _ g3).mono ?_
      rintro x w4 ⟨rfl, g4⟩
      replace g4 := g3.trans g4
      go_wp2_with fail
      refine (HA.out _ g4).mono ?_
      rintro x w5 ⟨rfl, g5⟩
      go_wp2
      go_ret
      exact ⟨rfl, g4.trans g5⟩
    · have hb0 : ((e : Int) != 0) = true := by rw [bne_iff_ne]; omega
      go_enter Tryd.func9, Tryd.ntmps9
      go_wp2_with fail
      refine (HQ.out _ (Gr.refl _)).mono ?_
      rintro x w1 ⟨rfl, g1⟩
      go_wp2_with fail
      refine (HX.out _ g1).mono ?_
      rintro x w1a ⟨rfl, g1a⟩
      replace g1a := g1.trans g1a
      go_wp2_with fail
      refine (HY.out _ g1a).mono ?_
      rintro x w1b ⟨rfl, g1b⟩
      replace g1b := g1a.trans g1b
      go_wp2_with fail
      refine (HZ.out _ g1b).mono ?_
      rintro x w1c ⟨rfl, g1c⟩
      replace g1c := g1b.trans g1c
      go_wp2_with fail
      refine (HD.out _ g1c).mono ?_
      rintro x w2 ⟨rfl, g2⟩
      replace g2 := g1c.trans g2
      go_wp2_with fail
      refine (HP.out _ g2).mono ?_
      rintro x w3 ⟨rfl, g3⟩
      replace g3 := g2.trans g3
      go_wp2_with fail
      refine (HC.out _ g3).mono ?_
      rintro x w4 ⟨rfl, g4⟩
      replace g4 := g3.trans g4
      go_wp2_with fail
      refine (HA.out _ g4).mono ?_
      rintro x w5 ⟨rfl, g5⟩
      go_wp2
      go_ret
      exact ⟨rfl, g4.trans g5⟩

set_option maxRecDepth 100000 in
theorem lifted (os : Os) (started : os.Started) (H : Type) (enc : TypeId × Value → H) :
    ReturnsInHanded {} Tryd.checked os 9 .any (fun w args => (Rows.ucdBackSpec.pre enc Tryd.prog Tryd.f9 [] false w args ∧ laidMetH Tryd.prog laid3 w) ∧ sizedMet enc Tryd.prog Tryd.f9 (OpenSpec.ofChange Rows.ucdBackSpec) false w args)
      (Rows.ucdBackSpec.post enc Tryd.prog Tryd.f9 false true false false) := by
  refine returnsInHanded_of_change_and (C := Tryd.checked) (X := fun w _ => laidMetH Tryd.prog laid3 w) (fun _ _ _ hh h => h.of_heap hh) own started (by kernel_rfl) Tryd.func9
    (ChangeSpec.witness_shaped (enc := enc) (C := Tryd.checked) (os := os) (X := fun w _ => laidMetH Tryd.prog laid3 w) false (World.doorLaid Tryd.prog 400 os) #[.int .u32 0, .int .u32 0, .int .u32 0] 8 rfl (World.shaped_of_RefB (by kernel_rfl) (by kernel_rfl)) (by kernel_rfl) (by kernel_rfl) (by kernel_rfl) (door_met os _)) ?_
  intro W base args ds gs before hval0 hW _ _ hL _
  have hval : ∀ (j : Nat) t v, Tryd.f9.params[j]? = some t → args[j]? = some v → Value.okWide Tryd.prog W .any base t v := hval0
  have hW' := hW
  obtain ⟨p, q, hA0, hV, rfl, hfz, hnd⟩ := hW
  have hA : DataW.TrodAll enc Tryd.prog W 0 (fun _ => true) true Tryd.f9.params.toList args.toList ds p := hA0
  rw [Tryd.params9] at hA hval
  obtain ⟨v0, vs0, d0, ds0, p0, q0, hargs, rfl, rfl, h0, r0⟩ := trodAll_cons hA
  obtain ⟨v1, vs1, d1, ds1, p1, q1, rfl, rfl, rfl, h1, r1⟩ := trodAll_cons r0
  obtain ⟨v2, vs2, d2, ds2, p2, q2, rfl, rfl, rfl, h2, r2⟩ := trodAll_cons r1
  obtain ⟨rfl, rfl, rfl⟩ := trodAll_nil r2
  obtain rfl : args = #[v0, v1, v2] := by cases args; simp_all
  obtain ⟨rfl, rfl⟩ := trodVars_none hV
  obtain ⟨a0, rfl, rfl, rfl, w0⟩ := open_int Tryd.underlying22 (hval 0 22 v0 rfl rfl) h0
  obtain ⟨a1, rfl, rfl, rfl, w1⟩ := open_int Tryd.underlying22 (hval 1 22 v1 rfl rfl) h1
  obtain ⟨a2, rfl, rfl, rfl, w2⟩ := open_int Tryd.underlying22 (hval 2 22 v2 rfl rfl) h2
  clear hA0 hval0
  simp only [List.append_nil] at hW'
  refine (walk a0 a1 a2 w0 w1 w2 W (of_laid hL)).mono fun e W' ⟨he, hg⟩ => ?_
  subst he
  have bel : Below W.heap.size W W' := hg
  exact ⟨_, rfl, _, _, _, [], [], [], hW', trodAll_mk1 (shut_bool Tryd.underlying4 _), (trodAll_cons_mk (shut_int Tryd.underlying22 w0) (trodAll_cons_mk (shut_int Tryd.underlying22 w1) (trodAll_cons_mk (shut_int Tryd.underlying22 w2) trodAll_mk0))), rfl, bel.frame _, fun h => by cases h⟩

theorem over : Rows.UcdBackSaid :=
  OpenClaim.holds_of_wide 9 Tryd.f9 rfl rfl rfl rfl rfl rfl rfl ⟨rfl, rfl, rfl, rfl, rfl⟩ rfl rfl rfl rfl rfl (by kernel_rfl) Tryd.func9 (by kernel_rfl)
    (of_decide_eq_true (by kernel_rfl)) (by unfold Func.isWrapper; rw [if_neg (of_decide_eq_false (by kernel_rfl))]; exact ⟨rfl, rfl⟩)
    (fun os started H enc _ => lifted os started H enc)

theorem proved : Rows.UcdBackCardSaid :=
  Claim7.holds_tied_plain_at .later [] [.data, .data, .data] true Rows.ucdBackCard.stood.harness false
    over (fun _ h => by cases h) (by kernel_rfl) (fun _ h => by cases h) ucdBack_row_tie rfl ⟨rfl, rfl⟩ (by kernel_rfl) rfl
    (fun f fn hf hfn => by
      obtain rfl : f = 9 := Option.some.inj ((show Tryd.prog.funcNamed "gesso/gessolaw03.UcdBack" = some 9 by kernel_rfl).symm.trans hf) |>.symm
      obtain rfl : fn = Tryd.f9 := (Option.some.inj (Tryd.func9.symm.trans hfn)).symm
      exact ⟨by kernel_rfl, fun j t ht => by
        rw [Tryd.params9] at ht
        have hm : t ∈ [22, 22, 22] := by simpa using Array.mem_of_getElem? ht
        have hall : ([22, 22, 22].all fun u => !Tryd.prog.wantsStandIn u) = true := by kernel_rfl
        exact (show Tryd.prog.wantsStandIn t = false by simpa using List.all_eq_true.1 hall t hm)⟩)
    (by kernel_rfl)
#print axioms proved
end Go.Proofs.YtknlnllmoilglaaDoor.ucdBack
