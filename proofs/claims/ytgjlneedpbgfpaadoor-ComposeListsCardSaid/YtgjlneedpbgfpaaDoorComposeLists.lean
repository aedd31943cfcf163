/- The law ComposeLists: a list is composed to what the document says; it stays as it is. No condition; the listed tables of the library are tied to the program's text. -/
import Derived.Test.YtgjlneedpbgfpaaDoorGComp
import Derived.Test.YtgjlneedpbgfpaaDoorLaid
import Derived.Test.YtgjlneedpbgfpaaDoorCards
import Derived.Test.YtgjlneedpbgfpaaDoorTie
import Derived.SevenTiedAt
import Derived.Deep.RegionWith
namespace Go.Proofs.YtgjlneedpbgfpaaDoor.composeLists
open Go.ChangeShapes Go.WideShapes Go.ChangeAt Go.RowKit Go.WideMaps Go.WideElems

set_option maxRecDepth 20000 in
set_option maxHeartbeats 4000000 in
theorem walk (v0 : Value) (L0 : List Nat) (w : World) (s0 : Sl w v0 L0) (b0 : ∀ x ∈ L0, x < 4294967296) (ht : Tz w) :
    Calls Tryd.prog 4 #[v0] w fun e w' => e = .returned (.bool true) ∧ Gr w w' := by
  have S0 := hid s0
  obtain ⟨ao, ca, rfl, h0, hA⟩ := s0
  clear h0 hA
  have HB := hid b0
  clear b0
  by_cases hbig : L0.length ≤ 1000
  · have hl1 : (L0.length : Int) ≤ 1000 := by omega
    have hlen := comp_length L0
    have hd : decide ((1000 : Int) < L0.length) = false := decide_eq_false (by omega)
    have HL := fun W v (t : Tz W) (s : Sl W v L0) => Compose_any v L0 W t s HB.out (by omega)
    have HR := fun W v (s : Sl W v L0) => rCompose_any v L0 W s HB.out (by omega)
    obtain ⟨M, hM⟩ : ∃ M, comp L0 = M := ⟨_, rfl⟩
    rw [hM] at HL HR hlen
    have HL := hid HL
    have HR := hid HR
    clear hM
    have h1 : (M.length : Int) ≤ L0.length := by omega
    have HE := hid h1
    have h1' : (M.length : Int) ≤ 1000 := by omega
    clear h1 hlen
    go_enter Tryd.func4, Tryd.ntmps4
    go_wp2_with (first
      | (at_builtin; refine wpList_copy_sl rfl _ _ rfl L0 rfl _ rfl S0.out (by omega) ?_; intro vi wi hvi gi; have HVI := hid hvi; clear hvi)
      | (go_at_call 26; refine (HL.out _ _ (ht.gr gi) (Sl.of_row HVI.out)).mono ?_; rintro e w1 ⟨vm, rfl, hvm, g1⟩; obtain ⟨bo, cb, rfl, hb0, hB⟩ := Sl.of_row hvm; have HVM := hid hvm; clear hvm hb0 hB)
      | (go_at_call 28; refine (HR.out _ _ (S0.out.gr (gi.trans g1))).mono ?_; rintro e w2 ⟨vr, rfl, hvr, g2⟩; have HVR := hid hvr; clear hvr)
      | (go_at_call 27; refine (same_any _ _ M M _ ((Sl.of_row HVM.out).gr g2) (Sl.of_row HVR.out) (by omega)).mono ?_; rintro e w3 ⟨rfl, g3⟩))
    have HOW : Hid (w3.ownsRow wi.heap.size 22 1 (.slice bo M.length cb) M.length ((M.map (fun n : Nat => (n : Int))).map (Value.int .u32))) := by
      have := ownsRow_gr (ownsRow_gr HVM.out g2) g3
      show World.ownsRow _ _ _ _ _ _ _
      rw [List.map_map]; exact this
    have G3 := (g1.trans g2).trans g3
    clear HVM HVR g1 g2 g3 HL HR
    go_loopw [6] (fun vk wr => ∃ (k : Nat) (zs : List Int), k ≤ M.length ∧ vk = .int .i64 k ∧ zs.length = M.length ∧ Hid (wr.ownsRow wi.heap.size 22 1 (.slice bo M.length cb) M.length (zs.map (Value.int .u32))) ∧ Gr wi wr) (fun vk _ => M.length - (intOf vk).toNat)
    case atStart => exact ⟨0, _, Nat.zero_le _, rfl, by simp, HOW, G3⟩
    case round =>
      obtain ⟨k, zs, hk, rfl, hzs, HO, hgk⟩ := hrel
      clear HOW G3
      have HZ := hid hzs
      clear hzs
      by_cases hkn : k < M.length
      · obtain ⟨g, cap, e, hg1, hg2⟩ := row_form HO.out (by omega)
        injection e with e1 e2 e3
        subst e1 e3
        have hcell := HO.out.cellAt k (by omega)
        have hfr := HO.out.frozenAt k
        rw [List.getElem?_map, List.getElem?_eq_getElem (by rw [HZ.out]; exact hkn), Option.map_some] at hcell
        generalize zs[k]'(by rw [HZ.out]; exact hkn) = z at hcell
        have hlt : (k : Int) < M.length := by omega
        go_wp2
        go_roundw
        case rel =>
          have hst : ∀ y, (wr.setCell ⟨g, k, none⟩ (.int .u32 y)).ownsRow wi.heap.size 22 1 (.slice (some ⟨g, 0, none⟩) M.length cb) M.length ((zs.set k y).map (Value.int .u32)) := fun y => by
            rw [List.map_set]; exact (HO.out.stored k _).1
          exact ⟨k + 1, _, hkn, by simp, by rw [List.length_set]; exact HZ.out, hst _, hgk.setCell hg1 _⟩
        case measure => simp [intOf]; omega
      · go_wp2_with (first
          | (go_at_call 27; refine (same_any _ _ L0 L0 _ ((Sl.of_row HVI.out).gr hgk) (S0.out.gr (gi.trans hgk)) (by omega)).mono ?_; rintro e w4 ⟨rfl, g4⟩)
          | (go_at_call 25; refine (awake7_any _ (ht.gr ((gi.trans hgk).trans g4))).mono ?_; rintro e w5 ⟨rfl, g5⟩))
        go_ret
        exact ⟨rfl, ((gi.trans hgk).trans g4).trans g5⟩
  · have hl1 : (1000 : Int) < L0.length := by omega
    clear S0 HB
    go_enter Tryd.func4, Tryd.ntmps4
    go_wp2_with (go_at_call 25; refine (awake7_any _ ht).mono ?_; rintro e w1 ⟨rfl, g1⟩)
    go_ret
    exact ⟨rfl, g1⟩

theorem laidOut : laidOutB Tryd.prog = true := by kernel_rfl

set_option maxRecDepth 100000 in
theorem lifted (os : Os) (started : os.Started) (H : Type) (enc : TypeId × Value → H) :
    ReturnsInHanded {} Tryd.checked os 4 .any (fun w args => (Rows.composeListsSpec.pre enc Tryd.prog Tryd.f4 [] false w args ∧ laidMetH Tryd.prog laid3 w) ∧ sizedMet enc Tryd.prog Tryd.f4 (OpenSpec.ofChange Rows.composeListsSpec) false w args)
      (Rows.composeListsSpec.post enc Tryd.prog Tryd.f4 false true false false) := by
  refine returnsInHanded_of_change_and (C := Tryd.checked) (X := fun w _ => laidMetH Tryd.prog laid3 w) (fun _ _ _ hh h => h.of_heap hh) own started (by kernel_rfl) Tryd.func4
    (ChangeSpec.witness_shaped (enc := enc) (C := Tryd.checked) (os := os) (X := fun w _ => laidMetH Tryd.prog laid3 w) false (World.doorLaid Tryd.prog 400 os) #[.slice none 0 0] 8 rfl (World.shaped_of_RefB (by kernel_rfl) (by kernel_rfl)) (by kernel_rfl) (by kernel_rfl) (by kernel_rfl) (door_met os _)) ?_
  intro W base args ds gs before hval0 hW _ _ hL _
  have hval : ∀ (j : Nat) t v, Tryd.f4.params[j]? = some t → args[j]? = some v → Value.okWide Tryd.prog W .any base t v := hval0
  have hW' := hW
  obtain ⟨p, q, hA0, hV, rfl, hfz, hnd⟩ := hW
  have hA : DataW.TrodAll enc Tryd.prog W 0 (fun _ => true) true Tryd.f4.params.toList args.toList ds p := hA0
  rw [Tryd.params4] at hA hval
  obtain ⟨v0, vs0, d0, ds0, p0, q0, hargs, rfl, rfl, h0, r0⟩ := trodAll_cons hA
  obtain ⟨rfl, rfl, rfl⟩ := trodAll_nil r0
  obtain rfl : args = #[v0] := by cases args; simp_all
  obtain ⟨rfl, rfl⟩ := trodVars_none hV
  obtain ⟨a0, len0, cap0, rfl⟩ := okWide_slice Tryd.underlying27 (hval 0 27 v0 rfl rfl)
  have k0 := h0
  have lt0 : ∀ x ∈ p0, x.block < W.heap.size := by obtain ⟨m, hm⟩ := k0; exact DataW.trod_lt m _ _ _ hm
  obtain ⟨z0, w0⟩ : ∃ zs, IsRow .u32 W a0 len0 cap0 zs := by
    obtain ⟨fuel, hf⟩ := h0
    rcases open_ints Tryd.underlying27 Tryd.underlying22 (by kernel_rfl) hf with ⟨hcs, _⟩ | ⟨x, l, c, zs, hcs, _, hl, hm, hz, _, hcell, hwz⟩
    · simp [Value.cells] at hcs
      obtain ⟨rfl, rfl, rfl⟩ := hcs
      exact ⟨[], .inl ⟨rfl, rfl, rfl, rfl⟩⟩
    · simp [Value.cells] at hcs
      obtain ⟨rfl, rfl, rfl⟩ := hcs
      exact ⟨zs, .inr ⟨_, rfl, hl, hm, by simpa using hz, hcell, hwz⟩⟩
  obtain ⟨L0, s0, _, b0⟩ := sl_of_row w0
  clear hA0 hval0
  refine (walk _ L0 W s0 b0 (of_laid hL)).mono fun e W' ⟨he, hg⟩ => ?_
  subst he
  have bel : Below W.heap.size W W' := hg
  exact ⟨_, rfl, _, _, _, [], _, [], hW', trodAll_mk1 (shut_bool Tryd.underlying4 _), (trodAll_cons_mk (Below.trod laidOut (by kernel_rfl) (of_decide_eq_true (by kernel_rfl)) k0 bel lt0) trodAll_mk0), rfl, bel.frame _, fun h => by cases h⟩

theorem over : Rows.ComposeListsSaid :=
  OpenClaim.holds_of_wide 4 Tryd.f4 rfl rfl rfl rfl rfl rfl rfl ⟨rfl, rfl, rfl, rfl, rfl⟩ rfl rfl rfl rfl rfl (by kernel_rfl) Tryd.func4 (by kernel_rfl)
    (of_decide_eq_true (by kernel_rfl)) (by unfold Func.isWrapper; rw [if_neg (of_decide_eq_false (by kernel_rfl))]; exact ⟨rfl, rfl⟩)
    (fun os started H enc _ => lifted os started H enc)

theorem proved : Rows.ComposeListsCardSaid :=
  Claim7.holds_tied_plain_at .later [] [.data, .data, .data] true Rows.composeListsCard.stood.harness false
    over (fun _ h => by cases h) (by kernel_rfl) (fun _ h => by cases h) composeLists_row_tie rfl ⟨rfl, rfl⟩ (by kernel_rfl) rfl
    (fun f fn hf hfn => by
      obtain rfl : f = 4 := Option.some.inj ((show Tryd.prog.funcNamed "gesso/gessolaw07.ComposeLists" = some 4 by kernel_rfl).symm.trans hf) |>.symm
      obtain rfl : fn = Tryd.f4 := (Option.some.inj (Tryd.func4.symm.trans hfn)).symm
      exact ⟨by kernel_rfl, fun j t ht => by
        rw [Tryd.params4] at ht
        have hm : t ∈ [27] := by simpa using Array.mem_of_getElem? ht
        have hall : ([27].all fun u => !Tryd.prog.wantsStandIn u) = true := by kernel_rfl
        exact (show Tryd.prog.wantsStandIn t = false by simpa using List.all_eq_true.1 hall t hm)⟩)
    (by kernel_rfl)
#print axioms proved
end Go.Proofs.YtgjlneedpbgfpaaDoor.composeLists
