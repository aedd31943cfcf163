/- The law UcdDecomps: any number is decomposed by the program to what the document's answer decomposes it to, or to nothing, and is composed again as that answer says. No condition; the listed tables of the library are tied to the program's text. -/
import Derived.Test.YtknlnllmoilglaaDoorAwake3
import Derived.Test.YtknlnllmoilglaaDoorLaid
import Derived.Test.YtknlnllmoilglaaDoorCards
import Derived.Test.YtknlnllmoilglaaDoorTie
import Derived.SevenTiedAt
namespace Go.Proofs.YtknlnllmoilglaaDoor.ucdDecomps
open Go.ChangeShapes Go.WideShapes Go.ChangeAt Go.RowKit Go.WideMaps Go.WideElems

theorem dval_three (c : Nat) : ∃ (x y : Nat) (z : Bool), dval c = .tuple #[.int .u32 x, .int .u32 y, .bool z] := by
  unfold dval
  cases dfind c with
  | none => exact ⟨0, 0, false, rfl⟩
  | some e => exact ⟨e.2.1, e.2.2.1, true, rfl⟩

set_option maxHeartbeats 2000000 in
theorem walk (a0 : Int) (w0 : (Lit.int .u32 a0).wf = true) (w : World) (ht : Tz w) :
    Calls Tryd.prog 8 #[.int .u32 a0] w fun e w' => e = .returned (.bool true) ∧ Gr w w' := by
  have hb := bounds_u32 w0
  obtain ⟨c, rfl⟩ : ∃ c : Nat, a0 = c := ⟨a0.toNat, by omega⟩
  have hc : c < 4294967296 := by omega
  clear hb w0
  obtain ⟨x, y, z, hd⟩ := dval_three c
  have h1 := fun w' (g : Gr w w') => decomp_any c hc w' (ht.gr g)
  have h2 := fun w' => rdecomp_any c hc w'
  have h3 := fun w' (g : Gr w w') => composes_any c hc w' (ht.gr g)
  have h4 := fun w' => rcomposes_any c hc w'
  rw [hd] at h1 h2
  generalize composes c = b at h3 h4
  have H1 := hid h1
  have H2 := hid h2
  have H3 := hid h3
  have H4 := hid h4
  clear h1 h2 h3 h4 hd
  go_enter Tryd.func8, Tryd.ntmps8
  go_wp2_with (first | (go_at_call 31; refine (H1.out _ (Gr.refl _)).mono ?_; rintro e w1 ⟨rfl, g1⟩) | (go_at_call 32; refine (H2.out _).mono ?_; rintro e w2 ⟨rfl, g2⟩) | (go_at_call 33; refine (H3.out _ (g1.trans g2)).mono ?_; rintro e w3 ⟨rfl, g3⟩) | (go_at_call 34; refine (H4.out _).mono ?_; rintro e w4 ⟨rfl, g4⟩) | (go_at_call 22; refine (awake3_any _ (ht.gr (((g1.trans g2).trans g3).trans g4))).mono ?_; rintro e w5 ⟨rfl, g5⟩))
  go_ret
  exact ⟨rfl, (((g1.trans g2).trans g3).trans g4).trans g5⟩

set_option maxRecDepth 100000 in
theorem lifted (os : Os) (started : os.Started) (H : Type) (enc : TypeId × Value → H) :
    ReturnsInHanded {} Tryd.checked os 8 .any (fun w args => (Rows.ucdDecompsSpec.pre enc Tryd.prog Tryd.f8 [] false w args ∧ laidMetH Tryd.prog laid3 w) ∧ sizedMet enc Tryd.prog Tryd.f8 (OpenSpec.ofChange Rows.ucdDecompsSpec) false w args)
      (Rows.ucdDecompsSpec.post enc Tryd.prog Tryd.f8 false true false false) := by
  refine returnsInHanded_of_change_and (C := Tryd.checked) (X := fun w _ => laidMetH Tryd.prog laid3 w) (fun _ _ _ hh h => h.of_heap hh) own started (by kernel_rfl) Tryd.func8
    (ChangeSpec.witness_shaped (enc := enc) (C := Tryd.checked) (os := os) (X := fun w _ => laidMetH Tryd.prog laid3 w) false (World.doorLaid Tryd.prog 400 os) #[.int .u32 0] 8 rfl (World.shaped_of_RefB (by kernel_rfl) (by kernel_rfl)) (by kernel_rfl) (by kernel_rfl) (by kernel_rfl) (door_met os _)) ?_
  intro W base args ds gs before hval0 hW _ _ hL _
  have hval : ∀ (j : Nat) t v, Tryd.f8.params[j]? = some t → args[j]? = some v → Value.okWide Tryd.prog W .any base t v := hval0
  have hW' := hW
  obtain ⟨p, q, hA0, hV, rfl, hfz, hnd⟩ := hW
  have hA : DataW.TrodAll enc Tryd.prog W 0 (fun _ => true) true Tryd.f8.params.toList args.toList ds p := hA0
  rw [Tryd.params8] at hA hval
  obtain ⟨v0, vs0, d0, ds0, p0, q0, hargs, rfl, rfl, h0, r0⟩ := trodAll_cons hA
  obtain ⟨rfl, rfl, rfl⟩ := trodAll_nil r0
  obtain rfl : args = #[v0] := by cases args; simp_all
  obtain ⟨rfl, rfl⟩ := trodVars_none hV
  obtain ⟨a0, rfl, rfl, rfl, w0⟩ := open_int Tryd.underlying22 (hval 0 22 v0 rfl rfl) h0
  clear hA0 hval0
  simp only [List.append_nil] at hW'
  refine (walk a0 w0 W (of_laid hL)).mono fun e W' ⟨he, hg⟩ => ?_
  subst he
  have bel : Below W.heap.size W W' := hg
  exact ⟨_, rfl, _, _, _, [], [], [], hW', trodAll_mk1 (shut_bool Tryd.underlying4 _), (trodAll_cons_mk (shut_int Tryd.underlying22 w0) trodAll_mk0), rfl, bel.frame _, fun h => by cases h⟩

theorem over : Rows.UcdDecompsSaid :=
  OpenClaim.holds_of_wide 8 Tryd.f8 rfl rfl rfl rfl rfl rfl rfl ⟨rfl, rfl, rfl, rfl, rfl⟩ rfl rfl rfl rfl rfl (by kernel_rfl) Tryd.func8 (by kernel_rfl)
    (of_decide_eq_true (by kernel_rfl)) (by unfold Func.isWrapper; rw [if_neg (of_decide_eq_false (by kernel_rfl))]; exact ⟨rfl, rfl⟩)
    (fun os started H enc _ => lifted os started H enc)

theorem proved : Rows.UcdDecompsCardSaid :=
  Claim7.holds_tied_plain_at .later [] [.data, .data, .data] true Rows.ucdDecompsCard.stood.harness false
    over (fun _ h => by cases h) (by kernel_rfl) (fun _ h => by cases h) ucdDecomps_row_tie rfl ⟨rfl, rfl⟩ (by kernel_rfl) rfl
    (fun f fn hf hfn => by
      obtain rfl : f = 8 := Option.some.inj ((show Tryd.prog.funcNamed "gesso/gessolaw03.UcdDecomps" = some 8 by kernel_rfl).symm.trans hf) |>.symm
      obtain rfl : fn = Tryd.f8 := (Option.some.inj (Tryd.func8.symm.trans hfn)).symm
      exact ⟨by kernel_rfl, fun j t ht => by
        rw [Tryd.params8] at ht
        have hm : t ∈ [22] := by simpa using Array.mem_of_getElem? ht
        have hall : ([22].all fun u => !Tryd.prog.wantsStandIn u) = true := by kernel_rfl
        exact (show Tryd.prog.wantsStandIn t = false by simpa using List.all_eq_true.1 hall t hm)⟩)
    (by kernel_rfl)
#print axioms proved
end Go.Proofs.YtknlnllmoilglaaDoor.ucdDecomps
