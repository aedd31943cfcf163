/- The law NormTexts: any bytes have the composed form that the document says, or are not right. No condition; the listed tables of the library are tied to the program's text. -/
import Derived.Test.YtdakagahofalkaaGreatDoorKP
import Derived.Test.YtdakagahofalkaaGreatDoorCards
import Derived.Test.YtdakagahofalkaaGreatDoorTie
import Derived.SevenTiedAt
import Derived.Deep.RegionWith
import Derived.Lay
import Derived.Deep.RegionHeld3
import Derived.Deep.DeepCutAuto
import Derived.Deep.LoopGhost
import Derived.Maps.AppendAt
import Derived.BigQuiet
namespace Go.Proofs.YtdakagahofalkaaGreatDoor.normTexts
open Go.ChangeShapes Go.WideShapes Go.ChangeAt Go.RowKit Go.WideMaps Go.WideElems

theorem bs_nil (W : World) : Bs W (.slice none 0 0) [] := ⟨none, 0, rfl, Nat.le_refl _, by unfold maxLen; omega, fun _ => rfl, fun k hk => by simp at hk⟩
theorem text_d {b : List UInt8} (hl : b.length ≤ 20000) {c : List UInt8} {k : Nat} (h : textB b = some c ∧ k = 0 ∨ textB b = none ∧ c = [] ∧ k = 6) : Hid (∀ W v, Tz W → Ut W → Bs W v b → Calls Tryz.prog 5 #[v] W fun e w' => ∃ v', e = .returned (.tuple #[v', .int .i64 (k : Int)]) ∧ Bs w' v' c ∧ Gr W w') := fun W v t u s => (Text_any v b W t u s hl).mono fun e w' hh => by
  rcases h with ⟨h, rfl⟩ | ⟨h, rfl, rfl⟩
  · rcases hh with ⟨⟨h1, _⟩ | ⟨c', v', h1, h2, h3⟩, h4⟩
    · rw [h] at h1; cases h1
    · rw [h] at h1; obtain rfl := Option.some.inj h1; exact ⟨v', h2, Bs.of_row h3, h4⟩
  · rcases hh with ⟨⟨_, h1⟩ | ⟨c', v', h1, h2, h3⟩, h4⟩
    · exact ⟨_, h1, bs_nil _, h4⟩
    · rw [h] at h1; cases h1
theorem rtext_d {b : List UInt8} (hl : b.length ≤ 20000) {c : List UInt8} {k : Nat} (h : textB b = some c ∧ k = 0 ∨ textB b = none ∧ c = [] ∧ k = 6) : Hid (∀ W v, Bs W v b → Calls Tryz.prog 6 #[v] W fun e w' => ∃ v', e = .returned (.tuple #[v', .int .i64 (k : Int)]) ∧ Bs w' v' c ∧ Gr W w') := fun W v s => (rtext_any v b W s hl).mono fun e w' hh => by
  rcases h with ⟨h, rfl⟩ | ⟨h, rfl, rfl⟩
  · rcases hh with ⟨⟨h1, _⟩ | ⟨c', v', h1, h2, h3⟩, h4⟩
    · rw [h] at h1; cases h1
    · rw [h] at h1; obtain rfl := Option.some.inj h1; exact ⟨v', h2, Bs.of_row h3, h4⟩
  · rcases hh with ⟨⟨_, h1⟩ | ⟨c', v', h1, h2, h3⟩, h4⟩
    · exact ⟨_, h1, bs_nil _, h4⟩
    · rw [h] at h1; cases h1

set_option maxRecDepth 20000 in
set_option maxHeartbeats 4000000 in
theorem walk (v0 : Value) (L0 : List UInt8) (w : World) (s0 : Bs w v0 L0) (ht : Tz w) (hu : Ut w) :
    Calls Tryz.prog 3 #[v0] w fun e w' => e = .returned (.bool true) ∧ Gr w w' := by
  have S0 := hid s0
  obtain ⟨ao, ca, rfl, h0, h1, h2, hA⟩ := s0
  clear h0 hA h1 h2
  by_cases hbig : L0.length ≤ 1000
  · have hl1 : (L0.length : Int) ≤ 1000 := by omega
    have hd : decide ((1000 : Int) < L0.length) = false := decide_eq_false (by omega)
    obtain ⟨c, k, hck⟩ : ∃ (c : List UInt8) (k : Nat), textB L0 = some c ∧ k = 0 ∨ textB L0 = none ∧ c = [] ∧ k = 6 := by
      cases h : textB L0 with
      | none => exact ⟨[], 6, .inr ⟨rfl, rfl, rfl⟩⟩
      | some c => exact ⟨c, 0, .inl ⟨rfl, rfl⟩⟩
    have H1 := text_d (by omega) hck
    have H2 := rtext_d (by omega) hck
    have hcv0 := fun W (g : Gr w W) => (S0.out.gr g).conv 22 9 Tryz.underlying22 Tryz.underlying9
    obtain ⟨n, hn⟩ : ∃ n, L0.length = n := ⟨_, rfl⟩
    have HN := hid hn
    rw [hn] at hl1 hd hbig hcv0 S0 ⊢
    have HC0 := hid hcv0
    clear hck hn hcv0
    obtain ⟨SL, hSL⟩ : ∃ SL, strB L0 = SL := ⟨_, rfl⟩
    obtain ⟨SC, hSC⟩ : ∃ SC, strB c = SC := ⟨_, rfl⟩
    have HSL := hid hSL
    have HSC := hid hSC
    clear hSL hSC
    go_enter Tryz.func3, Tryz.ntmps3
    go_wp2_with (first
      | (at_builtin; refine wpList_copy_bs rfl _ _ rfl L0 rfl _ rfl S0.out (by rw [HN.out]; omega) ?_; intro vi wi hvi gi; have BI := hid (Bs.of_row hvi); clear hvi)
      | (go_at_call 5; refine (H1.out wi vi (ht.gr gi) (hu.gr gi) BI.out).mono ?_; clear H1; rintro e w1 ⟨v1, rfl, b1, g1⟩; have B1 := hid b1; clear b1)
      | (go_at_call 6; refine (H2.out w1 _ (S0.out.gr (gi.trans g1))).mono ?_; clear H2; rintro e w2 ⟨v2, rfl, b2, g2⟩; have G2 := gi.trans (g1.trans g2); have hcv1 := (B1.out.gr g2).conv 22 9 Tryz.underlying22 Tryz.underlying9; have hcv2 := b2.conv 22 9 Tryz.underlying22 Tryz.underlying9; have hcv3 := (BI.out.gr (g1.trans g2)).conv 22 9 Tryz.underlying22 Tryz.underlying9; have hcv4 := HC0.out w2 G2; rw [HSL.out] at hcv3 hcv4; rw [HSC.out] at hcv1 hcv2; clear b2)
      | (go_at_call 4; refine (awake8_any _ (ht.gr G2) (hu.gr G2)).mono ?_; rintro e w3 ⟨rfl, g3⟩))
    go_ret
    exact ⟨rfl, G2.trans g3⟩
  · have hl1 : (1000 : Int) < L0.length := by omega
    clear S0
    go_enter Tryz.func3, Tryz.ntmps3
    go_wp2_with (go_at_call 4; refine (awake8_any _ ht hu).mono ?_; rintro e w1 ⟨rfl, g1⟩)
    go_ret
    exact ⟨rfl, g1⟩

theorem laidOut : laidOutB Tryz.prog = true := by kernel_rfl

set_option maxRecDepth 100000 in
theorem lifted (os : Os) (started : os.Started) (H : Type) (enc : TypeId × Value → H) :
    ReturnsInHanded {} Tryz.checked os 3 .any (fun w args => (Rows.normTextsSpec.pre enc Tryz.prog Tryz.f3 [] false w args ∧ laidMetH Tryz.prog laid5 w) ∧ sizedMet enc Tryz.prog Tryz.f3 (OpenSpec.ofChange Rows.normTextsSpec) false w args)
      (Rows.normTextsSpec.post enc Tryz.prog Tryz.f3 false true false false) := by
  refine returnsInHanded_of_change_and (C := Tryz.checked) (X := fun w _ => laidMetH Tryz.prog laid5 w) (fun _ _ _ hh h => h.of_heap hh) own started (by kernel_rfl) Tryz.func3
    (ChangeSpec.witness_shaped (enc := enc) (C := Tryz.checked) (os := os) (X := fun w _ => laidMetH Tryz.prog laid5 w) false (World.laidAll Tryz.prog os laid5) #[.slice none 0 0] 8 (World.laidAll_os _ _ _) (World.shaped_of_ZipB (by kernel_rfl) (by kernel_rfl)) (by kernel_rfl) (by kernel_rfl) (by kernel_rfl) (met5 os _)) ?_
  intro W base args ds gs before hval0 hW _ _ hL _
  have hval : ∀ (j : Nat) t v, Tryz.f3.params[j]? = some t → args[j]? = some v → Value.okWide Tryz.prog W .any base t v := hval0
  have hW' := hW
  obtain ⟨p, q, hA0, hV, rfl, hfz, hnd⟩ := hW
  have hA : DataW.TrodAll enc Tryz.prog W 0 (fun _ => true) true Tryz.f3.params.toList args.toList ds p := hA0
  rw [Tryz.params3] at hA hval
  obtain ⟨v0, vs0, d0, ds0, p0, q0, hargs, rfl, rfl, h0, r0⟩ := trodAll_cons hA
  obtain ⟨rfl, rfl, rfl⟩ := trodAll_nil r0
  obtain rfl : args = #[v0] := by cases args; simp_all
  obtain ⟨rfl, rfl⟩ := trodVars_none hV
  obtain ⟨a0, len0, cap0, rfl⟩ := okWide_slice Tryz.underlying22 (hval 0 22 v0 rfl rfl)
  have k0 := h0
  have lt0 : ∀ x ∈ p0, x.block < W.heap.size := by obtain ⟨m, hm⟩ := k0; exact DataW.trod_lt m _ _ _ hm
  obtain ⟨z0, w0⟩ : ∃ zs, IsRow .u8 W a0 len0 cap0 zs := by
    obtain ⟨fuel, hf⟩ := h0
    rcases open_ints Tryz.underlying22 Tryz.underlying5 (by kernel_rfl) hf with ⟨hcs, _⟩ | ⟨x, l, c, zs, hcs, _, hl, hm, hz, _, hcell, hwz⟩
    · simp [Value.cells] at hcs
      obtain ⟨rfl, rfl, rfl⟩ := hcs
      exact ⟨[], .inl ⟨rfl, rfl, rfl, rfl⟩⟩
    · simp [Value.cells] at hcs
      obtain ⟨rfl, rfl, rfl⟩ := hcs
      exact ⟨zs, .inr ⟨_, rfl, hl, hm, by simpa using hz, hcell, hwz⟩⟩
  obtain ⟨L0, s0, b0⟩ := bs_of_row w0
  clear hA0 hval0
  refine (walk _ L0 W s0 (of_laid5 hL).1 (of_laid5 hL).2).mono fun e W' ⟨he, hg⟩ => ?_
  subst he
  have bel : Below W.heap.size W W' := hg
  exact ⟨_, rfl, _, _, _, [], _, [], hW', trodAll_mk1 (shut_bool Tryz.underlying4 _), (trodAll_cons_mk (Below.trod laidOut (by kernel_rfl) (of_decide_eq_true (by kernel_rfl)) k0 bel lt0) trodAll_mk0), rfl, bel.frame _, fun h => by cases h⟩

theorem over : Rows.NormTextsSaid :=
  OpenClaim.holds_of_wide 3 Tryz.f3 rfl rfl rfl rfl rfl rfl rfl ⟨rfl, rfl, rfl, rfl, rfl⟩ rfl rfl rfl rfl rfl (by kernel_rfl) Tryz.func3 (by kernel_rfl)
    (of_decide_eq_true (by kernel_rfl)) (by unfold Func.isWrapper; rw [if_neg (of_decide_eq_false (by kernel_rfl))]; exact ⟨rfl, rfl⟩)
    (fun os started H enc _ => lifted os started H enc)

theorem proved : Rows.NormTextsCardSaid :=
  Claim7.holds_tied_plain_at .later [] [.data, .data, .data, .data, .pinned] true Rows.normTextsCard.stood.harness false
    over (fun _ h => by cases h) (by kernel_rfl) (fun _ h => by cases h) normTexts_row_tie rfl ⟨rfl, rfl⟩ (by kernel_rfl) rfl
    (fun f fn hf hfn => by
      obtain rfl : f = 3 := Option.some.inj ((show Tryz.prog.funcNamed "gesso/gessolaw08.NormTexts" = some 3 by kernel_rfl).symm.trans hf) |>.symm
      obtain rfl : fn = Tryz.f3 := (Option.some.inj (Tryz.func3.symm.trans hfn)).symm
      exact ⟨by kernel_rfl, fun j t ht => by
        rw [Tryz.params3] at ht
        have hm : t ∈ [22] := by simpa using Array.mem_of_getElem? ht
        have hall : ([22].all fun u => !Tryz.prog.wantsStandIn u) = true := by kernel_rfl
        exact (show Tryz.prog.wantsStandIn t = false by simpa using List.all_eq_true.1 hall t hm)⟩)
    (by kernel_rfl)
#print axioms proved
end Go.Proofs.YtdakagahofalkaaGreatDoor.normTexts
