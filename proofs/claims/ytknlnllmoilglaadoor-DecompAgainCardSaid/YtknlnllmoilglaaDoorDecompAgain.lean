/- The law DecompAgain: what was taken apart is whole: taken apart again it stays. No condition; the listed tables of the library are tied to the program's text. -/
import Derived.Test.YtknlnllmoilglaaDoorAgain
import Derived.Test.YtknlnllmoilglaaDoorLaid
import Derived.Test.YtknlnllmoilglaaDoorCards
import Derived.Test.YtknlnllmoilglaaDoorTie
import Derived.SevenTiedAt
import Derived.Deep.RegionWith
namespace Go.Proofs.YtknlnllmoilglaaDoor.decompAgain
open Go.ChangeShapes Go.WideShapes Go.ChangeAt Go.RowKit Go.WideMaps Go.WideElems

set_option maxRecDepth 20000 in
set_option maxHeartbeats 4000000 in
theorem walk (v0 : Value) (L0 : List Nat) (w : World) (s0 : Sl w v0 L0) (b0 : ∀ x ∈ L0, x < 4294967296) (ht : Tz w) :
    Calls Tryd.prog 12 #[v0] w fun e w' => e = .returned (.bool true) ∧ Gr w w' := by
  obtain ⟨ao, ca, rfl, h0, hA⟩ := s0
  by_cases hbig : L0.length ≤ 2000
  · have hl1 : (L0.length : Int) ≤ 2000 := by omega
    have s0 : Sl w (.slice ao L0.length ca) L0 := ⟨ao, ca, rfl, h0, hA⟩
    have hlen := fullL_len L0
    have hwh := fullL_whole b0
    have HM := hid (List_any _ L0 w ht s0 b0 (by omega))
    have HA := hid (fullL_again (fun x hx => (hwh x hx).1))
    have HW := hid hwh
    obtain ⟨M, hM⟩ : ∃ M, fullL L0 = M := ⟨_, rfl⟩
    rw [hM] at HM HA HW hlen
    obtain ⟨hn1, hn2⟩ := hlen
    have h1 : (L0.length : Int) ≤ M.length := by omega
    have h2 : (M.length : Int) ≤ 4 * L0.length := by omega
    have hd : decide ((2000 : Int) < L0.length) = false := decide_eq_false (by omega)
    clear h0 hA s0 b0 hwh hM
    go_enter Tryd.func12, Tryd.ntmps12
    go_wp2_with (go_at_call 35; refine HM.out.mono ?_; rintro e w1 ⟨v1, rfl, hv1, g1⟩; obtain ⟨bo, cb, rfl, hb0, hB⟩ := Sl.of_row hv1)
    obtain ⟨wo, rfl⟩ : ∃ wo : World, wo = w1 := ⟨_, rfl⟩
    have HV := hid hv1
    have HB := hid hB
    clear hv1 hB hb0
    go_loopw [4] (fun vi wr => ∃ k : Nat, k ≤ M.length ∧ vi = .int .i64 k ∧ Gr wo wr) (fun vi _ => M.length - (intOf vi).toNat)
    case atStart => exact ⟨0, Nat.zero_le _, rfl, Gr.refl _⟩
    case round =>
      obtain ⟨k, hk, rfl, hgk⟩ := hrel
      by_cases hkn : k < M.length
      · obtain ⟨gg, off, rfl, hcell⟩ := HB.out k hkn
        have hcell := hgk.cell hcell
        have hmem : M.getD k 0 ∈ M := by rw [List.getD, List.getElem?_eq_getElem hkn]; exact List.getElem_mem _
        obtain ⟨hx1, hx2⟩ := HW.out _ hmem
        have hwx := whole_any (M.getD k 0) hx2 wr (ht.gr (g1.trans hgk))
        rw [hx1] at hwx
        have HWX := hid hwx
        clear hmem hx1 hwx
        generalize M.getD k 0 = x at hcell hx2 HWX
        have hlt : (k : Int) < M.length := by omega
        go_wp2_with (go_at_call 18; refine HWX.out.mono ?_; rintro e w2 ⟨rfl, g2⟩)
        go_roundw
        case rel => exact ⟨k + 1, hkn, by simp, hgk.trans g2⟩
        case measure => simp [intOf]; omega
      · have HM2 := hid (List_any _ M wr (ht.gr (g1.trans hgk)) ((Sl.of_row HV.out).gr hgk) (fun x hx => (HW.out x hx).2) (by omega))
        rw [HA.out] at HM2
        have HS := hid ((Sl.of_row HV.out).gr hgk)
        go_wp2_with (first
          | (go_at_call 35; refine HM2.out.mono ?_; rintro e w2 ⟨v2, rfl, hv2, g2⟩)
          | (go_at_call 17; refine (same_any _ _ M M _ (Sl.of_row hv2) (HS.out.gr g2) (by omega)).mono ?_; rintro e w3 ⟨rfl, g3⟩)
          | (go_at_call 19; refine (awake5_any _ (ht.gr (((g1.trans hgk).trans g2).trans g3))).mono ?_; rintro e w4 ⟨rfl, g4⟩))
        go_ret
        exact ⟨rfl, (((g1.trans hgk).trans g2).trans g3).trans g4⟩
  · have hl1 : (2000 : Int) < L0.length := by omega
    clear hA h0
    go_enter Tryd.func12, Tryd.ntmps12
    go_wp2_with (go_at_call 19; refine (awake5_any _ ht).mono ?_; rintro e w1 ⟨rfl, g1⟩)
    go_ret
    exact ⟨rfl, g1⟩

theorem laidOut : laidOutB Tryd.prog = true := by kernel_rfl

set_option maxRecDepth 100000 in
theorem lifted (os : Os) (started : os.Started) (H : Type) (enc : TypeId × Value → H) :
    ReturnsInHanded {} Tryd.checked os 12 .any (fun w args => (Rows.decompAgainSpec.pre enc Tryd.prog Tryd.f12 [] false w args ∧ laidMetH Tryd.prog laid3 w) ∧ sizedMet enc Tryd.prog Tryd.f12 (OpenSpec.ofChange Rows.decompAgainSpec) false w args)
      (Rows.decompAgainSpec.post enc Tryd.prog Tryd.f12 false true false false) := by
  refine returnsInHanded_of_change_and (C := Tryd.checked) (X := fun w _ => laidMetH Tryd.prog laid3 w) (fun _ _ _ hh h => h.of_heap hh) own started (by kernel_rfl) Tryd.func12
    (ChangeSpec.witness_shaped (enc := enc) (C := Tryd.checked) (os := os) (X := fun w _ => laidMetH Tryd.prog laid3 w) false (World.doorLaid Tryd.prog 400 os) #[.slice none 0 0] 8 rfl (World.shaped_of_RefB (by kernel_rfl) (by kernel_rfl)) (by kernel_rfl) (by kernel_rfl) (by kernel_rfl) (door_met os _)) ?_
  intro W base args ds gs before hval0 hW _ _ hL _
  have hval : ∀ (j : Nat) t v, Tryd.f12.params[j]? = some t → args[j]? = some v → Value.okWide Tryd.prog W .any base t v := hval0
  have hW' := hW
  obtain ⟨p, q, hA0, hV, rfl, hfz, hnd⟩ := hW
  have hA : DataW.TrodAll enc Tryd.prog W 0 (fun _ => true) true Tryd.f12.params.toList args.toList ds p := hA0
  rw [Tryd.params12] at hA hval
  obtain ⟨v0, vs0, d0, ds0, p0, q0, hargs, rfl, rfl, h0, r0⟩ := trodAll_cons hA
  obtain ⟨rfl, rfl, rfl⟩ := trodAll_nil r0
  obtain rfl : args = #[v0] := by cases args; simp_all
  obtain ⟨rfl, rfl⟩ := trodVars_none hV
  obtain ⟨a0, len0, cap0, rfl⟩ := okWide_slice Tryd.underlying23 (hval 0 23 v0 rfl rfl)
  have k0 := h0
  have lt0 : ∀ x ∈ p0, x.block < W.heap.size := by obtain ⟨m, hm⟩ := k0; exact DataW.trod_lt m _ _ _ hm
  obtain ⟨z0, w0⟩ : ∃ zs, IsRow .u32 W a0 len0 cap0 zs := by
    obtain ⟨fuel, hf⟩ := h0
    rcases open_ints Tryd.underlying23 Tryd.underlying22 (by kernel_rfl) hf with ⟨hcs, _⟩ | ⟨x, l, c, zs, hcs, _, hl, hm, hz, _, hcell, hwz⟩
    · simp [Value.cells] at hcs
      obtain ⟨rfl, rfl, rfl⟩ := hcs
      exact ⟨[], .inl ⟨rfl, rfl, rfl, rfl⟩⟩
    · simp [Value.cells] at hcs
      obtain ⟨rfl, rfl, rfl⟩ := hcs
      exact ⟨zs, .inr ⟨_, rfl, hl, hm, by simpa using hz, hcell, hwz⟩⟩
  obtain ⟨L0, s0, _, b0⟩ := sl_of_row w0
  clear hA0 hval0
  refine (walk _ L0 W s0 b0 (of_laid hL)).mono fun e W' ⟨he, hg⟩ => ?_
  subst he
  have bel : Below W.heap.size W W' := hg
  exact ⟨_, rfl, _, _, _, [], _, [], hW', trodAll_mk1 (shut_bool Tryd.underlying4 _), (trodAll_cons_mk (Below.trod laidOut (by kernel_rfl) (of_decide_eq_true (by kernel_rfl)) k0 bel lt0) trodAll_mk0), rfl, bel.frame _, fun h => by cases h⟩

theorem over : Rows.DecompAgainSaid :=
  OpenClaim.holds_of_wide 12 Tryd.f12 rfl rfl rfl rfl rfl rfl rfl ⟨rfl, rfl, rfl, rfl, rfl⟩ rfl rfl rfl rfl rfl (by kernel_rfl) Tryd.func12 (by kernel_rfl)
    (of_decide_eq_true (by kernel_rfl)) (by unfold Func.isWrapper; rw [if_neg (of_decide_eq_false (by kernel_rfl))]; exact ⟨rfl, rfl⟩)
    (fun os started H enc _ => lifted os started H enc)

theorem proved : Rows.DecompAgainCardSaid :=
  Claim7.holds_tied_plain_at .later [] [.data, .data, .data] true Rows.decompAgainCard.stood.harness false
    over (fun _ h => by cases h) (by kernel_rfl) (fun _ h => by cases h) decompAgain_row_tie rfl ⟨rfl, rfl⟩ (by kernel_rfl) rfl
    (fun f fn hf hfn => by
      obtain rfl : f = 12 := Option.some.inj ((show Tryd.prog.funcNamed "gesso/gessolaw05.DecompAgain" = some 12 by kernel_rfl).symm.trans hf) |>.symm
      obtain rfl : fn = Tryd.f12 := (Option.some.inj (Tryd.func12.symm.trans hfn)).symm
      exact ⟨by kernel_rfl, fun j t ht => by
        rw [Tryd.params12] at ht
        have hm : t ∈ [23] := by simpa using Array.mem_of_getElem? ht
        have hall : ([23].all fun u => !Tryd.prog.wantsStandIn u) = true := by kernel_rfl
        exact (show Tryd.prog.wantsStandIn t = false by simpa using List.all_eq_true.1 hall t hm)⟩)
    (by kernel_rfl)
#print axioms proved
end Go.Proofs.YtknlnllmoilglaaDoor.decompAgain
