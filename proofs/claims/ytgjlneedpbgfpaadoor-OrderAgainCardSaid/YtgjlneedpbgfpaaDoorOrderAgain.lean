/- The law OrderAgain: what was put into order is in order, and stays so. No condition; the listed tables of the library are tied to the program's text. -/
import Derived.Test.YtgjlneedpbgfpaaDoorAwake6
import Derived.Test.YtgjlneedpbgfpaaDoorLaid
import Derived.Test.YtgjlneedpbgfpaaDoorCards
import Derived.Test.YtgjlneedpbgfpaaDoorTie
import Derived.SevenTiedAt
import Derived.Deep.RegionWith
namespace Go.Proofs.YtgjlneedpbgfpaaDoor.orderAgain
open Go.ChangeShapes Go.WideShapes Go.ChangeAt Go.RowKit Go.WideMaps Go.WideElems

set_option maxRecDepth 20000 in
set_option maxHeartbeats 4000000 in
theorem walk (v0 : Value) (L0 : List Nat) (w : World) (s0 : Sl w v0 L0) (b0 : ∀ x ∈ L0, x < 4294967296) (ht : Tz w) :
    Calls Tryd.prog 9 #[v0] w fun e w' => e = .returned (.bool true) ∧ Gr w w' := by
  have S0 := hid s0
  obtain ⟨ao, ca, rfl, h0, hA⟩ := s0
  clear h0 hA
  have HB := hid b0
  clear b0
  by_cases hbig : L0.length ≤ 1000
  · have hl1 : (L0.length : Int) ≤ 1000 := by omega
    have hlen := ordL_length L0
    have hd : decide ((1000 : Int) < L0.length) = false := decide_eq_false (by omega)
    have HL := fun W v (t : Tz W) (s : Sl W v L0) => Order_any v L0 W t s HB.out (by omega)
    have HI0 := fun W v (t : Tz W) (s : Sl W v L0) => Is_any v L0 W t s HB.out (by omega)
    have hmb : ∀ x ∈ ordL L0, x < 4294967296 := fun x hx => HB.out x (ordL_mem.1 hx)
    have HO2 := fun W v (t : Tz W) (s : Sl W v (ordL L0)) => Order_any v (ordL L0) W t s hmb (by omega)
    have HI2 := fun W v (t : Tz W) (s : Sl W v (ordL L0)) => Is_any v (ordL L0) W t s hmb (by omega)
    rw [ordL_idem] at HO2
    rw [inOrd_ordL] at HI2
    have hML : inOrd cls 0 L0 = true → ordL L0 = L0 := ordL_of
    obtain ⟨M, hM⟩ : ∃ M, ordL L0 = M := ⟨_, rfl⟩
    rw [hM] at HL HO2 HI2 hlen hML
    have HL' := hid HL
    have HO2' := hid HO2
    have HI2' := hid HI2
    clear hM hmb HL HO2 HI2
    cases hr : inOrd cls 0 L0 with
    | true =>
      have hme := hML hr
      rw [hr] at HI0
      subst hme
      have HI0' := hid HI0
      clear HI0 hML hr hlen
      go_enter Tryd.func9, Tryd.ntmps9
      go_wp2_with (first
        | (go_at_call 34; ((with_reducible refine (HL'.out w _ ht S0.out).mono ?_); rintro e w1 ⟨vm, rfl, hvm, g1⟩; have HV := hid (Sl.of_row hvm); clear hvm HL'))
        | (go_at_call 38; ((with_reducible refine (HI2'.out w1 vm (ht.gr g1) HV.out).mono ?_); rintro e w2 ⟨rfl, g2'⟩; have g2 := g1.trans g2'; clear HI2'))
        | (go_at_call 34; ((with_reducible refine (HO2'.out w2 vm (ht.gr g2) (HV.out.gr g2')).mono ?_); rintro e w3 ⟨vn, rfl, hvn, g3'⟩; have g3 := g2.trans g3'; have HVN := hid (Sl.of_row hvn); have HV3 := hid ((HV.out.gr g2').gr g3'); clear hvn HO2'))
        | (go_at_call 27; ((with_reducible refine (same_any vn vm M M w3 HVN.out HV3.out (by omega)).mono ?_); rintro e w4 ⟨rfl, g4'⟩; have g4 := g3.trans g4'; have HV4 := hid (HV3.out.gr g4'); clear HVN))
        | (go_at_call 38; ((with_reducible refine (HI0'.out w4 _ (ht.gr g4) (S0.out.gr g4)).mono ?_); rintro e w5 ⟨rfl, g5'⟩; have g5 := g4.trans g5'; have HV5 := hid (HV4.out.gr g5'); clear HI0'))
        | (go_at_call 27; ((with_reducible refine (same_any vm _ M M w5 HV5.out (S0.out.gr g5) (by omega)).mono ?_); rintro e w6 ⟨rfl, g6'⟩; have g6 := g5.trans g6'))
        | (go_at_call 33; refine (awake6_any _ (ht.gr g6)).mono ?_; rintro e w7 ⟨rfl, g7⟩))
      go_ret
      exact ⟨rfl, g6.trans g7⟩
    | false =>
      rw [hr] at HI0
      have HI0' := hid HI0
      have hml : M.length ≤ 1000 := by omega
      clear HI0 hML hr hlen
      go_enter Tryd.func9, Tryd.ntmps9
      go_wp2_with (first
        | (go_at_call 34; ((with_reducible refine (HL'.out w _ ht S0.out).mono ?_); rintro e w1 ⟨vm, rfl, hvm, g1⟩; have HV := hid (Sl.of_row hvm); clear hvm HL'))
        | (go_at_call 38; ((with_reducible refine (HI2'.out w1 vm (ht.gr g1) HV.out).mono ?_); rintro e w2 ⟨rfl, g2'⟩; have g2 := g1.trans g2'; clear HI2'))
        | (go_at_call 34; ((with_reducible refine (HO2'.out w2 vm (ht.gr g2) (HV.out.gr g2')).mono ?_); rintro e w3 ⟨vn, rfl, hvn, g3'⟩; have g3 := g2.trans g3'; have HVN := hid (Sl.of_row hvn); have HV3 := hid ((HV.out.gr g2').gr g3'); clear hvn HO2'))
        | (go_at_call 27; ((with_reducible refine (same_any vn vm M M w3 HVN.out HV3.out (by omega)).mono ?_); rintro e w4 ⟨rfl, g4'⟩; have g4 := g3.trans g4'; clear HVN))
        | (go_at_call 38; ((with_reducible refine (HI0'.out w4 _ (ht.gr g4) (S0.out.gr g4)).mono ?_); rintro e w5 ⟨rfl, g5'⟩; have g5 := g4.trans g5'; clear HI0'))
        | (go_at_call 33; refine (awake6_any _ (ht.gr g5)).mono ?_; rintro e w7 ⟨rfl, g7⟩))
      go_ret
      exact ⟨rfl, g5.trans g7⟩
  · have hl1 : (1000 : Int) < L0.length := by omega
    clear S0 HB
    go_enter Tryd.func9, Tryd.ntmps9
    go_wp2_with (go_at_call 33; refine (awake6_any _ ht).mono ?_; rintro e w1 ⟨rfl, g1⟩)
    go_ret
    exact ⟨rfl, g1⟩

theorem laidOut : laidOutB Tryd.prog = true := by kernel_rfl

set_option maxRecDepth 100000 in
theorem lifted (os : Os) (started : os.Started) (H : Type) (enc : TypeId × Value → H) :
    ReturnsInHanded {} Tryd.checked os 9 .any (fun w args => (Rows.orderAgainSpec.pre enc Tryd.prog Tryd.f9 [] false w args ∧ laidMetH Tryd.prog laid3 w) ∧ sizedMet enc Tryd.prog Tryd.f9 (OpenSpec.ofChange Rows.orderAgainSpec) false w args)
      (Rows.orderAgainSpec.post enc Tryd.prog Tryd.f9 false true false false) := by
  refine returnsInHanded_of_change_and (C := Tryd.checked) (X := fun w _ => laidMetH Tryd.prog laid3 w) (fun _ _ _ hh h => h.of_heap hh) own started (by kernel_rfl) Tryd.func9
    (ChangeSpec.witness_shaped (enc := enc) (C := Tryd.checked) (os := os) (X := fun w _ => laidMetH Tryd.prog laid3 w) false (World.doorLaid Tryd.prog 400 os) #[.slice none 0 0] 8 rfl (World.shaped_of_RefB (by kernel_rfl) (by kernel_rfl)) (by kernel_rfl) (by kernel_rfl) (by kernel_rfl) (door_met os _)) ?_
  intro W base args ds gs before hval0 hW _ _ hL _
  have hval : ∀ (j : Nat) t v, Tryd.f9.params[j]? = some t → args[j]? = some v → Value.okWide Tryd.prog W .any base t v := hval0
  have hW' := hW
  obtain ⟨p, q, hA0, hV, rfl, hfz, hnd⟩ := hW
  have hA : DataW.TrodAll enc Tryd.prog W 0 (fun _ => true) true Tryd.f9.params.toList args.toList ds p := hA0
  rw [Tryd.params9] at hA hval
  obtain ⟨v0, vs0, d0, ds0, p0, q0, hargs, rfl, rfl, h0, r0⟩ := trodAll_cons hA
  obtain ⟨rfl, rfl, rfl⟩ := trodAll_nil r0
  obtain rfl : args = #[v0] := by cases args; simp_all
  obtain ⟨rfl, rfl⟩ := trodVars_none hV
  obtain ⟨a0, len0, cap0, rfl⟩ := okWide_slice Tryd.underlying27 (hval 0 27 v0 rfl rfl)
  have k0 := h0
  have lt0 : ∀ x ∈ p0, x.block < W.heap.size := by obtain ⟨m, hm⟩ := k0; exact DataW.trod_lt m _ _ _ hm
  obtain ⟨z0, w0⟩ : ∃ zs, IsRow .u32 W a0 len0 cap0 zs := by
    obtain ⟨fuel, hf⟩ := h0
    rcases open_ints Tryd.underlying27 Tryd.underlying22 (by kernel_rfl) hf with ⟨hcs, _⟩ | ⟨x, l, c, zs, hcs, _, hl, hm, hz, _, hcell, hwz⟩
    · simp [Value.cells] at hcs
      obtain ⟨rfl, rfl, rfl⟩ := hcs
      exact ⟨[], .inl ⟨rfl, rfl, rfl, rfl⟩⟩
    · simp [Value.cells] at hcs
      obtain ⟨rfl, rfl, rfl⟩ := hcs
      exact ⟨zs, .inr ⟨_, rfl, hl, hm, by simpa using hz, hcell, hwz⟩⟩
  obtain ⟨L0, s0, _, b0⟩ := sl_of_row w0
  clear hA0 hval0
  refine (walk _ L0 W s0 b0 (of_laid hL)).mono fun e W' ⟨he, hg⟩ => ?_
  subst he
  have bel : Below W.heap.size W W' := hg
  exact ⟨_, rfl, _, _, _, [], _, [], hW', trodAll_mk1 (shut_bool Tryd.underlying4 _), (trodAll_cons_mk (Below.trod laidOut (by kernel_rfl) (of_decide_eq_true (by kernel_rfl)) k0 bel lt0) trodAll_mk0), rfl, bel.frame _, fun h => by cases h⟩

theorem over : Rows.OrderAgainSaid :=
  OpenClaim.holds_of_wide 9 Tryd.f9 rfl rfl rfl rfl rfl rfl rfl ⟨rfl, rfl, rfl, rfl, rfl⟩ rfl rfl rfl rfl rfl (by kernel_rfl) Tryd.func9 (by kernel_rfl)
    (of_decide_eq_true (by kernel_rfl)) (by unfold Func.isWrapper; rw [if_neg (of_decide_eq_false (by kernel_rfl))]; exact ⟨rfl, rfl⟩)
    (fun os started H enc _ => lifted os started H enc)

theorem proved : Rows.OrderAgainCardSaid :=
  Claim7.holds_tied_plain_at .later [] [.data, .data, .data] true Rows.orderAgainCard.stood.harness false
    over (fun _ h => by cases h) (by kernel_rfl) (fun _ h => by cases h) orderAgain_row_tie rfl ⟨rfl, rfl⟩ (by kernel_rfl) rfl
    (fun f fn hf hfn => by
      obtain rfl : f = 9 := Option.some.inj ((show Tryd.prog.funcNamed "gesso/gessolaw06.OrderAgain" = some 9 by kernel_rfl).symm.trans hf) |>.symm
      obtain rfl : fn = Tryd.f9 := (Option.some.inj (Tryd.func9.symm.trans hfn)).symm
      exact ⟨by kernel_rfl, fun j t ht => by
        rw [Tryd.params9] at ht
        have hm : t ∈ [27] := by simpa using Array.mem_of_getElem? ht
        have hall : ([27].all fun u => !Tryd.prog.wantsStandIn u) = true := by kernel_rfl
        exact (show Tryd.prog.wantsStandIn t = false by simpa using List.all_eq_true.1 hall t hm)⟩)
    (by kernel_rfl)
#print axioms proved
end Go.Proofs.YtgjlneedpbgfpaaDoor.orderAgain
