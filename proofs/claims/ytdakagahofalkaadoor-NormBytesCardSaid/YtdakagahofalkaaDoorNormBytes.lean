/- The law NormBytes: the composed form of bytes is right, stays when it is formed again, and is at most three times as long. No condition; the listed tables of the library are tied to the program's text. -/
import Derived.Test.YtdakagahofalkaaDoorKN
import Derived.Test.YtdakagahofalkaaDoorCards
import Derived.Test.YtdakagahofalkaaDoorTie
import Derived.SevenTiedAt
import Derived.Deep.RegionWith
import Derived.Lay
import Derived.Deep.RegionHeld3
import Derived.Deep.DeepCutAuto
import Derived.Deep.LoopGhost
import Derived.Maps.AppendAt
import Derived.BigQuiet
namespace Go.Proofs.YtdakagahofalkaaDoor.normBytes
open Go.ChangeShapes Go.WideShapes Go.ChangeAt Go.RowKit Go.WideMaps Go.WideElems

theorem text_c {b : List UInt8} (hl : b.length ≤ 20000) {c : List UInt8} (h : textB b = some c) : Hid (∀ W v, Tz W → Ut W → Bs W v b → Calls Tryd.prog 16 #[v] W fun e w' => ∃ v', e = .returned (.tuple #[v', .int .i64 0]) ∧ Bs w' v' c ∧ Gr W w') := fun W v t u s => (Text_any v b W t u s hl).mono fun e w' hh => by
  rcases hh with ⟨⟨h1, _⟩ | ⟨c', v', h1, h2, h3⟩, h4⟩
  · rw [h] at h1; cases h1
  · rw [h] at h1; obtain rfl := Option.some.inj h1; exact ⟨v', h2, Bs.of_row h3, h4⟩
theorem text_n {b : List UInt8} (hl : b.length ≤ 20000) (h : textB b = none) : Hid (∀ W v, Tz W → Ut W → Bs W v b → Calls Tryd.prog 16 #[v] W fun e w' => e = .returned (.tuple #[.slice none 0 0, .int .i64 6]) ∧ Gr W w') := fun W v t u s => (Text_any v b W t u s hl).mono fun e w' hh => by
  rcases hh with ⟨⟨_, h1⟩ | ⟨c', v', h1, h2, h3⟩, h4⟩
  · exact ⟨h1, h4⟩
  · rw [h] at h1; cases h1

set_option maxRecDepth 20000 in
set_option maxHeartbeats 4000000 in
theorem walk (v0 : Value) (L0 : List UInt8) (w : World) (s0 : Bs w v0 L0) (ht : Tz w) (hu : Ut w) :
    Calls Tryd.prog 5 #[v0] w fun e w' => e = .returned (.bool true) ∧ Gr w w' := by
  have S0 := hid s0
  obtain ⟨ao, ca, rfl, h0, h1, h2, hA⟩ := s0
  clear h0 hA h1 h2
  by_cases hbig : L0.length ≤ 500
  · have hl1 : (L0.length : Int) ≤ 500 := by omega
    have hd : decide ((500 : Int) < L0.length) = false := decide_eq_false (by omega)
    cases hc : textB L0 with
    | none =>
      have H1 := text_n (by omega) hc
      clear hc
      go_enter Tryd.func5, Tryd.ntmps5
      go_wp2_with (first
        | (go_at_call 16; refine (H1.out w _ ht hu S0.out).mono ?_; clear H1; rintro e w1 ⟨rfl, g1⟩)
        | (go_at_call 13; refine (awake8_any _ (ht.gr g1) (hu.gr g1)).mono ?_; rintro e w2 ⟨rfl, g2⟩))
      go_ret
      exact ⟨rfl, g1.trans g2⟩
    | some c =>
      have H1 := text_c (by omega) hc
      obtain ⟨l, _, _, _, h5, h6⟩ := textB_some hc
      have H2 := text_c (by omega) h5
      have hle : (c.length : Int) ≤ 3 * (L0.length : Int) := by omega
      have hld : decide ((c.length : Int) ≤ 3 * (L0.length : Int)) = true := decide_eq_true hle
      obtain ⟨m, hm⟩ : ∃ m, c.length = m := ⟨_, rfl⟩
      rw [hm] at hle hld
      have HM := hid hm
      clear hc h5 h6 hm
      go_enter Tryd.func5, Tryd.ntmps5
      go_wp2_with (first
        | (go_at_call 16; ((with_reducible refine (H1.out w _ ht hu S0.out).mono ?_); clear H1; rintro e w1 ⟨v1, rfl, b1, g1⟩; have B1 := hid b1; obtain ⟨bo, cb, rfl, k1, k2, k3, k4⟩ := b1; clear k1 k2 k3 k4; rw [HM.out] at B1 ⊢))
        | (go_at_call 16; ((with_reducible refine (H2.out w1 _ (ht.gr g1) (hu.gr g1) B1.out).mono ?_); clear H2; rintro e w2 ⟨v2, rfl, b2, g2⟩; have G2 := g1.trans g2; have hcv1 := (B1.out.gr g2).conv 28 9 Tryd.underlying28 Tryd.underlying9; have hcv2 := b2.conv 28 9 Tryd.underlying28 Tryd.underlying9; clear b2))
        | (go_at_call 13; refine (awake8_any _ (ht.gr G2) (hu.gr G2)).mono ?_; rintro e w3 ⟨rfl, g3⟩))
      go_ret
      exact ⟨rfl, G2.trans g3⟩
  · have hl1 : (500 : Int) < L0.length := by omega
    clear S0
    go_enter Tryd.func5, Tryd.ntmps5
    go_wp2_with (go_at_call 13; refine (awake8_any _ ht hu).mono ?_; rintro e w1 ⟨rfl, g1⟩)
    go_ret
    exact ⟨rfl, g1⟩

theorem laidOut : laidOutB Tryd.prog = true := by kernel_rfl

set_option maxRecDepth 100000 in
theorem lifted (os : Os) (started : os.Started) (H : Type) (enc : TypeId × Value → H) :
    ReturnsInHanded {} Tryd.checked os 5 .any (fun w args => (Rows.normBytesSpec.pre enc Tryd.prog Tryd.f5 [] false w args ∧ laidMetH Tryd.prog laid5 w) ∧ sizedMet enc Tryd.prog Tryd.f5 (OpenSpec.ofChange Rows.normBytesSpec) false w args)
      (Rows.normBytesSpec.post enc Tryd.prog Tryd.f5 false true false false) := by
  refine returnsInHanded_of_change_and (C := Tryd.checked) (X := fun w _ => laidMetH Tryd.prog laid5 w) (fun _ _ _ hh h => h.of_heap hh) own started (by kernel_rfl) Tryd.func5
    (ChangeSpec.witness_shaped (enc := enc) (C := Tryd.checked) (os := os) (X := fun w _ => laidMetH Tryd.prog laid5 w) false (World.laidAll Tryd.prog os laid5) #[.slice none 0 0] 8 (World.laidAll_os _ _ _) (World.shaped_of_ZipB (by kernel_rfl) (by kernel_rfl)) (by kernel_rfl) (by kernel_rfl) (by kernel_rfl) (met5 os _)) ?_
  intro W base args ds gs before hval0 hW _ _ hL _
  have hval : ∀ (j : Nat) t v, Tryd.f5.params[j]? = some t → args[j]? = some v → Value.okWide Tryd.prog W .any base t v := hval0
  have hW' := hW
  obtain ⟨p, q, hA0, hV, rfl, hfz, hnd⟩ := hW
  have hA : DataW.TrodAll enc Tryd.prog W 0 (fun _ => true) true Tryd.f5.params.toList args.toList ds p := hA0
  rw [Tryd.params5] at hA hval
  obtain ⟨v0, vs0, d0, ds0, p0, q0, hargs, rfl, rfl, h0, r0⟩ := trodAll_cons hA
  obtain ⟨rfl, rfl, rfl⟩ := trodAll_nil r0
  obtain rfl : args = #[v0] := by cases args; simp_all
  obtain ⟨rfl, rfl⟩ := trodVars_none hV
  obtain ⟨a0, len0, cap0, rfl⟩ := okWide_slice Tryd.underlying28 (hval 0 28 v0 rfl rfl)
  have k0 := h0
  have lt0 : ∀ x ∈ p0, x.block < W.heap.size := by obtain ⟨m, hm⟩ := k0; exact DataW.trod_lt m _ _ _ hm
  obtain ⟨z0, w0⟩ : ∃ zs, IsRow .u8 W a0 len0 cap0 zs := by
    obtain ⟨fuel, hf⟩ := h0
    rcases open_ints Tryd.underlying28 Tryd.underlying5 (by kernel_rfl) hf with ⟨hcs, _⟩ | ⟨x, l, c, zs, hcs, _, hl, hm, hz, _, hcell, hwz⟩
    · simp [Value.cells] at hcs
      obtain ⟨rfl, rfl, rfl⟩ := hcs
      exact ⟨[], .inl ⟨rfl, rfl, rfl, rfl⟩⟩
    · simp [Value.cells] at hcs
      obtain ⟨rfl, rfl, rfl⟩ := hcs
      exact ⟨zs, .inr ⟨_, rfl, hl, hm, by simpa using hz, hcell, hwz⟩⟩
  obtain ⟨L0, s0, b0⟩ := bs_of_row w0
  clear hA0 hval0
  refine (walk _ L0 W s0 (of_laid5 hL).1 (of_laid5 hL).2).mono fun e W' ⟨he, hg⟩ => ?_
  subst he
  have bel : Below W.heap.size W W' := hg
  exact ⟨_, rfl, _, _, _, [], _, [], hW', trodAll_mk1 (shut_bool Tryd.underlying4 _), (trodAll_cons_mk (Below.trod laidOut (by kernel_rfl) (of_decide_eq_true (by kernel_rfl)) k0 bel lt0) trodAll_mk0), rfl, bel.frame _, fun h => by cases h⟩

theorem over : Rows.NormBytesSaid :=
  OpenClaim.holds_of_wide 5 Tryd.f5 rfl rfl rfl rfl rfl rfl rfl ⟨rfl, rfl, rfl, rfl, rfl⟩ rfl rfl rfl rfl rfl (by kernel_rfl) Tryd.func5 (by kernel_rfl)
    (of_decide_eq_true (by kernel_rfl)) (by unfold Func.isWrapper; rw [if_neg (of_decide_eq_false (by kernel_rfl))]; exact ⟨rfl, rfl⟩)
    (fun os started H enc _ => lifted os started H enc)

theorem proved : Rows.NormBytesCardSaid :=
  Claim7.holds_tied_plain_at .later [] [.data, .data, .data, .data, .pinned] true Rows.normBytesCard.stood.harness false
    over (fun _ h => by cases h) (by kernel_rfl) (fun _ h => by cases h) normBytes_row_tie rfl ⟨rfl, rfl⟩ (by kernel_rfl) rfl
    (fun f fn hf hfn => by
      obtain rfl : f = 5 := Option.some.inj ((show Tryd.prog.funcNamed "gesso/gessolaw08.NormBytes" = some 5 by kernel_rfl).symm.trans hf) |>.symm
      obtain rfl : fn = Tryd.f5 := (Option.some.inj (Tryd.func5.symm.trans hfn)).symm
      exact ⟨by kernel_rfl, fun j t ht => by
        rw [Tryd.params5] at ht
        have hm : t ∈ [28] := by simpa using Array.mem_of_getElem? ht
        have hall : ([28].all fun u => !Tryd.prog.wantsStandIn u) = true := by kernel_rfl
        exact (show Tryd.prog.wantsStandIn t = false by simpa using List.all_eq_true.1 hall t hm)⟩)
    (by kernel_rfl)
#print axioms proved
end Go.Proofs.YtdakagahofalkaaDoor.normBytes
