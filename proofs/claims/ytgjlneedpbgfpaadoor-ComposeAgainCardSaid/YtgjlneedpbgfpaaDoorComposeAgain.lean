/- The law ComposeAgain: what was composed stays as it is. No condition; the listed tables of the library are tied to the program's text. -/
import Derived.Test.YtgjlneedpbgfpaaDoorGComp
import Derived.Test.YtgjlneedpbgfpaaDoorLaid
import Derived.Test.YtgjlneedpbgfpaaDoorCards
import Derived.Test.YtgjlneedpbgfpaaDoorTie
import Derived.SevenTiedAt
import Derived.Deep.RegionWith
namespace Go.Proofs.YtgjlneedpbgfpaaDoor.composeAgain
open Go.ChangeShapes Go.WideShapes Go.ChangeAt Go.RowKit Go.WideMaps Go.WideElems

set_option maxRecDepth 20000 in
set_option maxHeartbeats 4000000 in
theorem walk (v0 : Value) (L0 : List Nat) (w : World) (s0 : Sl w v0 L0) (b0 : ∀ x ∈ L0, x < 4294967296) (ht : Tz w) :
    Calls Tryd.prog 14 #[v0] w fun e w' => e = .returned (.bool true) ∧ Gr w w' := by
  have S0 := hid s0
  obtain ⟨ao, ca, rfl, h0, hA⟩ := s0
  clear h0 hA
  have HB := hid b0
  clear b0
  by_cases hbig : L0.length ≤ 500
  · have hl1 : (L0.length : Int) ≤ 500 := by omega
    have hd : decide ((500 : Int) < L0.length) = false := decide_eq_false (by omega)
    obtain ⟨A, D, C, E, n⟩ := NF.of HB.out
    have lA := n.lA
    have lD := n.lD
    have lC := n.lC
    have lE := n.lE
    have HL1 := fun W v (t : Tz W) (s : Sl W v L0) => List_any v L0 W t s HB.out (by omega)
    have HO1 := fun W v (t : Tz W) (s : Sl W v A) => Order_any v A W t s n.sA (by omega)
    have HC1 := fun W v (t : Tz W) (s : Sl W v D) => Compose_any v D W t s n.sD (by omega)
    have HC2 := fun W v (t : Tz W) (s : Sl W v C) => Compose_any v C W t s n.sC (by omega)
    have HL2 := fun W v (t : Tz W) (s : Sl W v C) => List_any v C W t s n.sC (by omega)
    have HO2 := fun W v (t : Tz W) (s : Sl W v E) => Order_any v E W t s n.sE (by omega)
    rw [n.full] at HL1
    rw [n.ord] at HO1
    rw [n.comp] at HC1
    rw [n.again] at HC2
    rw [n.full2] at HL2
    rw [n.ord2] at HO2
    have HL1 := hid HL1
    have HO1 := hid HO1
    have HC1 := hid HC1
    have HC2 := hid HC2
    have HL2 := hid HL2
    have HO2 := hid HO2
    have hle : (C.length : Int) ≤ D.length := by omega
    have hcd : decide ((C.length : Int) ≤ D.length) = true := decide_eq_true hle
    have HD := hid (show D.length ≤ 2000 by omega)
    have HCl := hid (show C.length ≤ 2000 by omega)
    clear n lA lD lC lE
    go_enter Tryd.func14, Tryd.ntmps14
    go_wp2_with (first
      | (go_at_call 40; ((with_reducible refine (HL1.out w _ ht S0.out).mono ?_); rintro e w1 ⟨v1, rfl, hv1, g1⟩; have HV1 := hid (Sl.of_row hv1); clear hv1 HL1))
      | (go_at_call 34; ((with_reducible refine (HO1.out w1 v1 (ht.gr g1) HV1.out).mono ?_); rintro e w2 ⟨v2, rfl, hv2, g2'⟩; have g2 := g1.trans g2'; have HV2 := hid (Sl.of_row hv2); clear hv2 HO1))
      | (go_at_call 26; ((with_reducible refine (HC1.out w2 v2 (ht.gr g2) HV2.out).mono ?_); rintro e w3 ⟨v3, rfl, hv3, g3'⟩; have g3 := g2.trans g3'; have HV3 := hid (Sl.of_row hv3); clear hv3))
      | (go_at_call 26; ((with_reducible refine (HC2.out w3 v3 (ht.gr g3) HV3.out).mono ?_); rintro e w4 ⟨v4, rfl, hv4, g4'⟩; have g4 := g3.trans g4'; have HV4 := hid (Sl.of_row hv4); clear hv4 HC2))
      | (go_at_call 27; ((with_reducible refine (same_any v4 v3 C C w4 HV4.out (HV3.out.gr g4') (by have := HCl.out; omega)).mono ?_); rintro e w5 ⟨rfl, g5'⟩; have g5 := g4.trans g5'; have HV35 := hid ((HV3.out.gr g4').gr g5')))
      | (go_at_call 40; ((with_reducible refine (HL2.out w5 v3 (ht.gr g5) HV35.out).mono ?_); rintro e w6 ⟨v6, rfl, hv6, g6'⟩; have g6 := g5.trans g6'; have HV6 := hid (Sl.of_row hv6); clear hv6 HL2))
      | (go_at_call 34; ((with_reducible refine (HO2.out w6 v6 (ht.gr g6) HV6.out).mono ?_); rintro e w7 ⟨v7, rfl, hv7, g7'⟩; have g7 := g6.trans g7'; have HV7 := hid (Sl.of_row hv7); clear hv7 HO2))
      | (go_at_call 26; ((with_reducible refine (HC1.out w7 v7 (ht.gr g7) HV7.out).mono ?_); rintro e w8 ⟨v8, rfl, hv8, g8'⟩; have g8 := g7.trans g8'; have HV8 := hid (Sl.of_row hv8); clear hv8))
      | (go_at_call 27; ((with_reducible refine (same_any v8 v3 C C w8 HV8.out (((HV35.out.gr g6').gr g7').gr g8') (by have := HCl.out; omega)).mono ?_); rintro e w9 ⟨rfl, g9'⟩; have g9 := g8.trans g9'))
      | (go_at_call 25; refine (awake7_any _ (ht.gr g9)).mono ?_; rintro e w10 ⟨rfl, g10⟩))
    go_ret
    exact ⟨rfl, g9.trans g10⟩
  · have hl1 : (500 : Int) < L0.length := by omega
    clear S0 HB
    go_enter Tryd.func14, Tryd.ntmps14
    go_wp2_with (go_at_call 25; refine (awake7_any _ ht).mono ?_; rintro e w1 ⟨rfl, g1⟩)
    go_ret
    exact ⟨rfl, g1⟩

theorem laidOut : laidOutB Tryd.prog = true := by kernel_rfl

set_option maxRecDepth 100000 in
theorem lifted (os : Os) (started : os.Started) (H : Type) (enc : TypeId × Value → H) :
    ReturnsInHanded {} Tryd.checked os 14 .any (fun w args => (Rows.composeAgainSpec.pre enc Tryd.prog Tryd.f14 [] false w args ∧ laidMetH Tryd.prog laid3 w) ∧ sizedMet enc Tryd.prog Tryd.f14 (OpenSpec.ofChange Rows.composeAgainSpec) false w args)
      (Rows.composeAgainSpec.post enc Tryd.prog Tryd.f14 false true false false) := by
  refine returnsInHanded_of_change_and (C := Tryd.checked) (X := fun w _ => laidMetH Tryd.prog laid3 w) (fun _ _ _ hh h => h.of_heap hh) own started (by kernel_rfl) Tryd.func14
    (ChangeSpec.witness_shaped (enc := enc) (C := Tryd.checked) (os := os) (X := fun w _ => laidMetH Tryd.prog laid3 w) false (World.doorLaid Tryd.prog 400 os) #[.slice none 0 0] 8 rfl (World.shaped_of_RefB (by kernel_rfl) (by kernel_rfl)) (by kernel_rfl) (by kernel_rfl) (by kernel_rfl) (door_met os _)) ?_
  intro W base args ds gs before hval0 hW _ _ hL _
  have hval : ∀ (j : Nat) t v, Tryd.f14.params[j]? = some t → args[j]? = some v → Value.okWide Tryd.prog W .any base t v := hval0
  have hW' := hW
  obtain ⟨p, q, hA0, hV, rfl, hfz, hnd⟩ := hW
  have hA : DataW.TrodAll enc Tryd.prog W 0 (fun _ => true) true Tryd.f14.params.toList args.toList ds p := hA0
  rw [Tryd.params14] at hA hval
  obtain ⟨v0, vs0, d0, ds0, p0, q0, hargs, rfl, rfl, h0, r0⟩ := trodAll_cons hA
  obtain ⟨rfl, rfl, rfl⟩ := trodAll_nil r0
  obtain rfl : args = #[v0] := by cases args; simp_all
  obtain ⟨rfl, rfl⟩ := trodVars_none hV
  obtain ⟨a0, len0, cap0, rfl⟩ := okWide_slice Tryd.underlying27 (hval 0 27 v0 rfl rfl)
  have k0 := h0
  have lt0 : ∀ x ∈ p0, x.block < W.heap.size := by obtain ⟨m, hm⟩ := k0; exact DataW.trod_lt m _ _ _ hm
  obtain ⟨z0, w0⟩ : ∃ zs, IsRow .u32 W a0 len0 cap0 zs := by
    obtain ⟨fuel, hf⟩ := h0
    rcases open_ints Tryd.underlying27 Tryd.underlying22 (by kernel_rfl) hf with ⟨hcs, _⟩ | ⟨x, l, c, zs, hcs, _, hl, hm, hz, _, hcell, hwz⟩
    · simp [Value.cells] at hcs
      obtain ⟨rfl, rfl, rfl⟩ := hcs
      exact ⟨[], .inl ⟨rfl, rfl, rfl, rfl⟩⟩
    · simp [Value.cells] at hcs
      obtain ⟨rfl, rfl, rfl⟩ := hcs
      exact ⟨zs, .inr ⟨_, rfl, hl, hm, by simpa using hz, hcell, hwz⟩⟩
  obtain ⟨L0, s0, _, b0⟩ := sl_of_row w0
  clear hA0 hval0
  refine (walk _ L0 W s0 b0 (of_laid hL)).mono fun e W' ⟨he, hg⟩ => ?_
  subst he
  have bel : Below W.heap.size W W' := hg
  exact ⟨_, rfl, _, _, _, [], _, [], hW', trodAll_mk1 (shut_bool Tryd.underlying4 _), (trodAll_cons_mk (Below.trod laidOut (by kernel_rfl) (of_decide_eq_true (by kernel_rfl)) k0 bel lt0) trodAll_mk0), rfl, bel.frame _, fun h => by cases h⟩

theorem over : Rows.ComposeAgainSaid :=
  OpenClaim.holds_of_wide 14 Tryd.f14 rfl rfl rfl rfl rfl rfl rfl ⟨rfl, rfl, rfl, rfl, rfl⟩ rfl rfl rfl rfl rfl (by kernel_rfl) Tryd.func14 (by kernel_rfl)
    (of_decide_eq_true (by kernel_rfl)) (by unfold Func.isWrapper; rw [if_neg (of_decide_eq_false (by kernel_rfl))]; exact ⟨rfl, rfl⟩)
    (fun os started H enc _ => lifted os started H enc)

theorem proved : Rows.ComposeAgainCardSaid :=
  Claim7.holds_tied_plain_at .later [] [.data, .data, .data] true Rows.composeAgainCard.stood.harness false
    over (fun _ h => by cases h) (by kernel_rfl) (fun _ h => by cases h) composeAgain_row_tie rfl ⟨rfl, rfl⟩ (by kernel_rfl) rfl
    (fun f fn hf hfn => by
      obtain rfl : f = 14 := Option.some.inj ((show Tryd.prog.funcNamed "gesso/gessolaw07.ComposeAgain" = some 14 by kernel_rfl).symm.trans hf) |>.symm
      obtain rfl : fn = Tryd.f14 := (Option.some.inj (Tryd.func14.symm.trans hfn)).symm
      exact ⟨by kernel_rfl, fun j t ht => by
        rw [Tryd.params14] at ht
        have hm : t ∈ [27] := by simpa using Array.mem_of_getElem? ht
        have hall : ([27].all fun u => !Tryd.prog.wantsStandIn u) = true := by kernel_rfl
        exact (show Tryd.prog.wantsStandIn t = false by simpa using List.all_eq_true.1 hall t hm)⟩)
    (by kernel_rfl)
#print axioms proved
end Go.Proofs.YtgjlneedpbgfpaaDoor.composeAgain
