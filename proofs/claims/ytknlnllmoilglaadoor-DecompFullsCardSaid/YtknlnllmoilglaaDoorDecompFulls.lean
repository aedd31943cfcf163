/- The law DecompFulls: any number is taken apart as the document says. No condition; the listed tables of the library are tied to the program's text. -/
import Derived.Test.YtknlnllmoilglaaDoorAwake5
import Derived.Test.YtknlnllmoilglaaDoorLaid
import Derived.Test.YtknlnllmoilglaaDoorCards
import Derived.Test.YtknlnllmoilglaaDoorTie
import Derived.SevenTiedAt
import Derived.Deep.RegionWith
namespace Go.Proofs.YtknlnllmoilglaaDoor.decompFulls
open Go.ChangeShapes Go.WideShapes Go.ChangeAt Go.RowKit Go.WideMaps Go.WideElems

set_option maxRecDepth 20000 in
set_option maxHeartbeats 4000000 in
theorem walk (a0 : Int) (w0 : (Lit.int .u32 a0).wf = true) (w : World) (ht : Tz w) :
    Calls Tryd.prog 3 #[.int .u32 a0] w fun e w' => e = .returned (.bool true) ∧ Gr w w' := by
  have hb := bounds_u32 w0
  obtain ⟨c, rfl⟩ : ∃ c : Nat, a0 = c := ⟨a0.toNat, by omega⟩
  have hc : c < 4294967296 := by omega
  clear hb w0
  have h1 := fun w' (g : Gr w w') => Full_any c hc w' (ht.gr g)
  have h2 := fun w' => rFull_any c hc w'
  have h3 := fun w' (g : Gr w w') => whole_any c hc w' (ht.gr g)
  have hlen := full_len c
  have hiff := whole_iff c
  generalize full c = L at h1 h2 hlen hiff
  generalize whole c = b at h3 hiff
  have H1 := hid h1
  have H2 := hid h2
  have H3 := hid h3
  clear h1 h2 h3
  obtain ⟨hl1, hl4⟩ := hlen
  have HI := hid hiff
  clear hiff
  go_enter Tryd.func3, Tryd.ntmps3
  go_wp2_with (first
    | (go_at_call 15; refine (H1.out _ (Gr.refl _)).mono ?_; rintro e w1 ⟨v1, rfl, hv1, g1⟩)
    | (go_at_call 16; refine (H2.out _).mono ?_; rintro e w2 ⟨v2, rfl, hv2, g2⟩)
    | (go_at_call 17; refine (same_any _ _ L L _ (Sl.of_row (ownsRow_gr hv1 g2)) (Sl.of_row hv2) (by omega)).mono ?_; rintro e w3 ⟨rfl, g3⟩))
  obtain ⟨gg, cap, rfl, _, _⟩ := row_form hv2 (by omega)
  have hc0 := g3.cell (row_cell hv2 0 (by omega))
  have g := (g1.trans g2).trans g3
  clear hv1 hv2 g1 g2 g3 H1 H2
  refine (H3.out _ g).mono ?_
  rintro e w4 ⟨rfl, g4⟩
  have hc4 := g4.cell hc0
  have g' := g.trans g4
  clear hc0 g g4 H3
  by_cases hn : L.length = 1
  · obtain ⟨x, rfl⟩ := List.length_eq_one_iff.1 hn
    have hc4 : w4.cell? ⟨gg, 0, none⟩ = some (.int .u32 (x : Int)) := hc4
    by_cases hx : x = c
    · subst hx
      obtain rfl : b = true := HI.out.2 rfl
      clear HI hn
      go_wp2_with (go_at_call 19; refine (awake5_any _ (ht.gr g')).mono ?_; rintro e w5 ⟨rfl, g5⟩)
      all_goals go_ret
      all_goals exact ⟨rfl, g'.trans g5⟩
    · obtain rfl : b = false := by
        cases hb : b with
        | false => rfl
        | true => have := HI.out.1 hb; simp at this; exact absurd this hx
      have hx1 : ((x : Int) == c) = false := by rw [beq_eq_false_iff_ne]; omega
      have hx2 : ¬ (x : Int) = c := by omega
      clear HI hn
      go_wp2_with (go_at_call 19; refine (awake5_any _ (ht.gr g')).mono ?_; rintro e w5 ⟨rfl, g5⟩)
      all_goals go_ret
      all_goals exact ⟨rfl, g'.trans g5⟩
  · obtain rfl : b = false := by
      cases hb : b with
      | false => rfl
      | true => have := HI.out.1 hb; rw [this] at hn; simp at hn
    have hn1 : ((L.length : Int) == 1) = false := by rw [beq_eq_false_iff_ne]; omega
    clear HI
    go_wp2_with (go_at_call 19; refine (awake5_any _ (ht.gr g')).mono ?_; rintro e w5 ⟨rfl, g5⟩)
    all_goals go_ret
    all_goals exact ⟨rfl, g'.trans g5⟩

set_option maxRecDepth 100000 in
theorem lifted (os : Os) (started : os.Started) (H : Type) (enc : TypeId × Value → H) :
    ReturnsInHanded {} Tryd.checked os 3 .any (fun w args => (Rows.decompFullsSpec.pre enc Tryd.prog Tryd.f3 [] false w args ∧ laidMetH Tryd.prog laid3 w) ∧ sizedMet enc Tryd.prog Tryd.f3 (OpenSpec.ofChange Rows.decompFullsSpec) false w args)
      (Rows.decompFullsSpec.post enc Tryd.prog Tryd.f3 false true false false) := by
  refine returnsInHanded_of_change_and (C := Tryd.checked) (X := fun w _ => laidMetH Tryd.prog laid3 w) (fun _ _ _ hh h => h.of_heap hh) own started (by kernel_rfl) Tryd.func3
    (ChangeSpec.witness_shaped (enc := enc) (C := Tryd.checked) (os := os) (X := fun w _ => laidMetH Tryd.prog laid3 w) false (World.doorLaid Tryd.prog 400 os) #[.int .u32 0] 8 rfl (World.shaped_of_RefB (by kernel_rfl) (by kernel_rfl)) (by kernel_rfl) (by kernel_rfl) (by kernel_rfl) (door_met os _)) ?_
  intro W base args ds gs before hval0 hW _ _ hL _
  have hval : ∀ (j : Nat) t v, Tryd.f3.params[j]? = some t → args[j]? = some v → Value.okWide Tryd.prog W .any base t v := hval0
  have hW' := hW
  obtain ⟨p, q, hA0, hV, rfl, hfz, hnd⟩ := hW
  have hA : DataW.TrodAll enc Tryd.prog W 0 (fun _ => true) true Tryd.f3.params.toList args.toList ds p := hA0
  rw [Tryd.params3] at hA hval
  obtain ⟨v0, vs0, d0, ds0, p0, q0, hargs, rfl, rfl, h0, r0⟩ := trodAll_cons hA
  obtain ⟨rfl, rfl, rfl⟩ := trodAll_nil r0
  obtain rfl : args = #[v0] := by cases args; simp_all
  obtain ⟨rfl, rfl⟩ := trodVars_none hV
  obtain ⟨a0, rfl, rfl, rfl, w0⟩ := open_int Tryd.underlying22 (hval 0 22 v0 rfl rfl) h0
  clear hA0 hval0
  simp only [List.append_nil] at hW'
  refine (walk a0 w0 W (of_laid hL)).mono fun e W' ⟨he, hg⟩ => ?_
  subst he
  have bel : Below W.heap.size W W' := hg
  exact ⟨_, rfl, _, _, _, [], [], [], hW', trodAll_mk1 (shut_bool Tryd.underlying4 _), (trodAll_cons_mk (shut_int Tryd.underlying22 w0) trodAll_mk0), rfl, bel.frame _, fun h => by cases h⟩

theorem over : Rows.DecompFullsSaid :=
  OpenClaim.holds_of_wide 3 Tryd.f3 rfl rfl rfl rfl rfl rfl rfl ⟨rfl, rfl, rfl, rfl, rfl⟩ rfl rfl rfl rfl rfl (by kernel_rfl) Tryd.func3 (by kernel_rfl)
    (of_decide_eq_true (by kernel_rfl)) (by unfold Func.isWrapper; rw [if_neg (of_decide_eq_false (by kernel_rfl))]; exact ⟨rfl, rfl⟩)
    (fun os started H enc _ => lifted os started H enc)

theorem proved : Rows.DecompFullsCardSaid :=
  Claim7.holds_tied_plain_at .later [] [.data, .data, .data] true Rows.decompFullsCard.stood.harness false
    over (fun _ h => by cases h) (by kernel_rfl) (fun _ h => by cases h) decompFulls_row_tie rfl ⟨rfl, rfl⟩ (by kernel_rfl) rfl
    (fun f fn hf hfn => by
      obtain rfl : f = 3 := Option.some.inj ((show Tryd.prog.funcNamed "gesso/gessolaw05.DecompFulls" = some 3 by kernel_rfl).symm.trans hf) |>.symm
      obtain rfl : fn = Tryd.f3 := (Option.some.inj (Tryd.func3.symm.trans hfn)).symm
      exact ⟨by kernel_rfl, fun j t ht => by
        rw [Tryd.params3] at ht
        have hm : t ∈ [22] := by simpa using Array.mem_of_getElem? ht
        have hall : ([22].all fun u => !Tryd.prog.wantsStandIn u) = true := by kernel_rfl
        exact (show Tryd.prog.wantsStandIn t = false by simpa using List.all_eq_true.1 hall t hm)⟩)
    (by kernel_rfl)
#print axioms proved
end Go.Proofs.YtknlnllmoilglaaDoor.decompFulls
