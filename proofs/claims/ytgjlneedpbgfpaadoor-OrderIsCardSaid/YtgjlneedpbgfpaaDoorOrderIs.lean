/- The law OrderIs: whether any list is in order, and which classes it has, is told as the document says. No condition; the listed tables of the library are tied to the program's text. -/
import Derived.Test.YtgjlneedpbgfpaaDoorGOrd
import Derived.Test.YtgjlneedpbgfpaaDoorLaid
import Derived.Test.YtgjlneedpbgfpaaDoorCards
import Derived.Test.YtgjlneedpbgfpaaDoorTie
import Derived.SevenTiedAt
import Derived.Deep.RegionWith
import Derived.Deep.RegionHeld3
import Derived.Deep.DeepCutAuto
namespace Go.Proofs.YtgjlneedpbgfpaaDoor.orderIs
open Go.ChangeShapes Go.WideShapes Go.ChangeAt Go.RowKit Go.WideMaps Go.WideElems

set_option maxRecDepth 20000 in
set_option maxHeartbeats 8000000 in
theorem walk (v0 : Value) (L0 : List Nat) (w : World) (s0 : Sl w v0 L0) (b0 : ∀ x ∈ L0, x < 4294967296) (ht : Tz w) :
    Calls Tryd.prog 8 #[v0] w fun e w' => e = .returned (.bool true) ∧ Gr w w' := by
  have S0 := hid s0
  obtain ⟨ao, ca, rfl, h0, hA⟩ := s0
  have HA := hid hA
  clear h0 hA
  have HB := hid b0
  clear b0
  by_cases hbig : L0.length ≤ 3000
  · have hl1 : (L0.length : Int) ≤ 3000 := by omega
    have hd : decide ((3000 : Int) < L0.length) = false := decide_eq_false (by omega)
    have HC := hid (Classes_any (.slice ao L0.length ca) L0 w ht S0.out HB.out (by omega))
    have HI := fun W (t : Tz W) (s : Sl W (.slice ao L0.length ca) L0) => Is_any _ L0 W t s HB.out (by omega)
    have HR := fun W (s : Sl W (.slice ao L0.length ca) L0) => rIs_any _ L0 W s HB.out (by omega)
    obtain ⟨r, hr⟩ : ∃ r, inOrd cls 0 L0 = r := ⟨_, rfl⟩
    rw [hr] at HI HR
    have HI' := hid HI
    have HR' := hid HR
    clear HI HR hr
    obtain ⟨n, hn⟩ : ∃ n, L0.length = n := ⟨_, rfl⟩
    have hm : (L0.map cls).length = n := by rw [List.length_map]; exact hn
    rw [hn] at S0 HA HC HI' HR' hl1 hd
    have HN := hid hn
    have HM := hid hm
    clear hn hm
    have mixed : Tryd.prog.follows .mixedOrders = true := by kernel_rfl
    rw [HN.out]
    go_enter Tryd.func8, Tryd.ntmps8
    go_wp2_with (go_at_call 36; refine HC.out.mono ?_; rintro e w1 ⟨vk, rfl, hvk, g1⟩; rw [HM.out] at hvk; obtain ⟨bo, cb, rfl⟩ := row_shape hvk; have HV := hid hvk; clear hvk)
    go_loopw [4] (fun vi wr => ∃ k : Nat, k ≤ n ∧ vi = .int .i64 k ∧ Gr w1 wr) (fun vi _ => n - (intOf vi).toNat)
    case atStart => exact ⟨0, Nat.zero_le _, rfl, Gr.refl _⟩
    case round =>
      obtain ⟨k, hk, rfl, hgk⟩ := hrel
      by_cases hkn : k < n
      · obtain ⟨g, off, rfl, hcell⟩ := HA.out k hkn
        obtain ⟨gk, cap, e, hg1, hg2⟩ := row_form HV.out (by omega)
        injection e with e1 e2 e3
        subst e1 e3
        have hcell := (g1.trans hgk).cell hcell
        have hkL : k < L0.length := by rw [HN.out]; exact hkn
        have hx : L0.getD k 0 < 4294967296 := by
          rw [List.getD, List.getElem?_eq_getElem hkL]; exact HB.out _ (List.getElem_mem _)
        have hv := HV.out
        rw [← HM.out] at hv
        have hcell2 := hgk.cell (int_cell hv k (by rw [HM.out]; exact hkn))
        have hxx : (L0.map cls).getD k 0 = cls (L0.getD k 0) := by
          rw [List.getD, List.getD, List.getElem?_map, List.getElem?_eq_getElem hkL]; rfl
        rw [hxx] at hcell2
        have HCX := hid (fun W => rclass_any (L0.getD k 0) hx W)
        clear hxx hv hx
        generalize L0.getD k 0 = x at hcell hcell2 HCX
        generalize cls x = c at hcell2 HCX
        have hlt : (k : Int) < n := by omega
        have hge : ((n : Int) ≤ (k : Int)) = False := by simp; omega
        have hge2 : decide ((n : Int) ≤ (k : Int)) = false := decide_eq_false (by omega)
        clear HC HI' HR'
        have hcc : ((c : Int) != (c : Int)) = false := by simp
        go_upto_region 7 with fail
        go_cut [32] from 11 to 32 (fun s wx => s = .bool false ∧ Gr w1 wx)
        case first => as_aux_lemma =>
          have hgd := hgk.trans (Gr.drewN wr 1)
          go_region_held3 (fun W => W.cell? ⟨gk, k, none⟩ = some (.int .i64 (c : Int)) ∧ W.cell? ⟨g, off + k, none⟩ = some (.int .u32 (x : Int)) ∧ Gr w1 W) (first | exact ⟨hcell2, hcell, hgd⟩ | exact ⟨g2.cell hcell2, g2.cell hcell, hgd.trans g2⟩) (first | (go_at_call 37; refine (HCX.out _).mono ?_; rintro e w2 ⟨rfl, g2⟩))
          all_goals go_wp2_with fail
          all_goals go_meet
          case rel => exact ⟨rfl, hgd.trans g2⟩
        case rest =>
          obtain ⟨rfl, hgc⟩ := hcut
          go_wp2_with fail
          go_roundw
          case rel => exact ⟨k + 1, hkn, by simp, hgc⟩
          case measure => simp [intOf]; omega
      · have hkn' : k = n := by omega
        subst hkn'
        have hnn : ¬ (k : Int) < k := by omega
        go_wp2_with (first
          | (go_at_call 38; refine (HI'.out wr (ht.gr (g1.trans hgk)) (S0.out.gr (g1.trans hgk))).mono ?_; rintro e w2 ⟨rfl, g2⟩)
          | (go_at_call 39; refine (HR'.out w2 (S0.out.gr ((g1.trans hgk).trans g2))).mono ?_; rintro e w3 ⟨rfl, g3⟩)
          | (go_at_call 33; refine (awake6_any _ (ht.gr (((g1.trans hgk).trans g2).trans g3))).mono ?_; rintro e w4 ⟨rfl, g4⟩))
        go_ret
        exact ⟨rfl, (((g1.trans hgk).trans g2).trans g3).trans g4⟩
  · have hl1 : (3000 : Int) < L0.length := by omega
    clear S0 HA HB
    go_enter Tryd.func8, Tryd.ntmps8
    go_wp2_with (go_at_call 33; refine (awake6_any _ ht).mono ?_; rintro e w1 ⟨rfl, g1⟩)
    go_ret
    exact ⟨rfl, g1⟩

theorem laidOut : laidOutB Tryd.prog = true := by kernel_rfl

set_option maxRecDepth 100000 in
theorem lifted (os : Os) (started : os.Started) (H : Type) (enc : TypeId × Value → H) :
    ReturnsInHanded {} Tryd.checked os 8 .any (fun w args => (Rows.orderIsSpec.pre enc Tryd.prog Tryd.f8 [] false w args ∧ laidMetH Tryd.prog laid3 w) ∧ sizedMet enc Tryd.prog Tryd.f8 (OpenSpec.ofChange Rows.orderIsSpec) false w args)
      (Rows.orderIsSpec.post enc Tryd.prog Tryd.f8 false true false false) := by
  refine returnsInHanded_of_change_and (C := Tryd.checked) (X := fun w _ => laidMetH Tryd.prog laid3 w) (fun _ _ _ hh h => h.of_heap hh) own started (by kernel_rfl) Tryd.func8
    (ChangeSpec.witness_shaped (enc := enc) (C := Tryd.checked) (os := os) (X := fun w _ => laidMetH Tryd.prog laid3 w) false (World.doorLaid Tryd.prog 400 os) #[.slice none 0 0] 8 rfl (World.shaped_of_RefB (by kernel_rfl) (by kernel_rfl)) (by kernel_rfl) (by kernel_rfl) (by kernel_rfl) (door_met os _)) ?_
  intro W base args ds gs before hval0 hW _ _ hL _
  have hval : ∀ (j : Nat) t v, Tryd.f8.params[j]? = some t → args[j]? = some v → Value.okWide Tryd.prog W .any base t v := hval0
  have hW' := hW
  obtain ⟨p, q, hA0, hV, rfl, hfz, hnd⟩ := hW
  have hA : DataW.TrodAll enc Tryd.prog W 0 (fun _ => true) true Tryd.f8.params.toList args.toList ds p := hA0
  rw [Tryd.params8] at hA hval
  obtain ⟨v0, vs0, d0, ds0, p0, q0, hargs, rfl, rfl, h0, r0⟩ := trodAll_cons hA
  obtain ⟨rfl, rfl, rfl⟩ := trodAll_nil r0
  obtain rfl : args = #[v0] := by cases args; simp_all
  obtain ⟨rfl, rfl⟩ := trodVars_none hV
  obtain ⟨a0, len0, cap0, rfl⟩ := okWide_slice Tryd.underlying27 (hval 0 27 v0 rfl rfl)
  have k0 := h0
  have lt0 : ∀ x ∈ p0, x.block < W.heap.size := by obtain ⟨m, hm⟩ := k0; exact DataW.trod_lt m _ _ _ hm
  obtain ⟨z0, w0⟩ : ∃ zs, IsRow .u32 W a0 len0 cap0 zs := by
    obtain ⟨fuel, hf⟩ := h0
    rcases open_ints Tryd.underlying27 Tryd.underlying22 (by kernel_rfl) hf with ⟨hcs, _⟩ | ⟨x, l, c, zs, hcs, _, hl, hm, hz, _, hcell, hwz⟩
    · simp [Value.cells] at hcs
      obtain ⟨rfl, rfl, rfl⟩ := hcs
      exact ⟨[], .inl ⟨rfl, rfl, rfl, rfl⟩⟩
    · simp [Value.cells] at hcs
      obtain ⟨rfl, rfl, rfl⟩ := hcs
      exact ⟨zs, .inr ⟨_, rfl, hl, hm, by simpa using hz, hcell, hwz⟩⟩
  obtain ⟨L0, s0, _, b0⟩ := sl_of_row w0
  clear hA0 hval0
  refine (walk _ L0 W s0 b0 (of_laid hL)).mono fun e W' ⟨he, hg⟩ => ?_
  subst he
  have bel : Below W.heap.size W W' := hg
  exact ⟨_, rfl, _, _, _, [], _, [], hW', trodAll_mk1 (shut_bool Tryd.underlying4 _), (trodAll_cons_mk (Below.trod laidOut (by kernel_rfl) (of_decide_eq_true (by kernel_rfl)) k0 bel lt0) trodAll_mk0), rfl, bel.frame _, fun h => by cases h⟩

theorem over : Rows.OrderIsSaid :=
  OpenClaim.holds_of_wide 8 Tryd.f8 rfl rfl rfl rfl rfl rfl rfl ⟨rfl, rfl, rfl, rfl, rfl⟩ rfl rfl rfl rfl rfl (by kernel_rfl) Tryd.func8 (by kernel_rfl)
    (of_decide_eq_true (by kernel_rfl)) (by unfold Func.isWrapper; rw [if_neg (of_decide_eq_false (by kernel_rfl))]; exact ⟨rfl, rfl⟩)
    (fun os started H enc _ => lifted os started H enc)

theorem proved : Rows.OrderIsCardSaid :=
  Claim7.holds_tied_plain_at .later [] [.data, .data, .data] true Rows.orderIsCard.stood.harness false
    over (fun _ h => by cases h) (by kernel_rfl) (fun _ h => by cases h) orderIs_row_tie rfl ⟨rfl, rfl⟩ (by kernel_rfl) rfl
    (fun f fn hf hfn => by
      obtain rfl : f = 8 := Option.some.inj ((show Tryd.prog.funcNamed "gesso/gessolaw06.OrderIs" = some 8 by kernel_rfl).symm.trans hf) |>.symm
      obtain rfl : fn = Tryd.f8 := (Option.some.inj (Tryd.func8.symm.trans hfn)).symm
      exact ⟨by kernel_rfl, fun j t ht => by
        rw [Tryd.params8] at ht
        have hm : t ∈ [27] := by simpa using Array.mem_of_getElem? ht
        have hall : ([27].all fun u => !Tryd.prog.wantsStandIn u) = true := by kernel_rfl
        exact (show Tryd.prog.wantsStandIn t = false by simpa using List.all_eq_true.1 hall t hm)⟩)
    (by kernel_rfl)
#print axioms proved
end Go.Proofs.YtgjlneedpbgfpaaDoor.orderIs
