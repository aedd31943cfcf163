/- The law UcdFirsts: of what is decomposed the first one is none that combines, unless it is not composed again; what starts is composed with nothing ahead of it. No condition; the listed tables of the library are tied to the program's text. -/
import Derived.Test.YtknlnllmoilglaaDoorAwake3
import Derived.Test.YtknlnllmoilglaaDoorTree
import Derived.Test.YtknlnllmoilglaaDoorLaid
import Derived.Test.YtknlnllmoilglaaDoorCards
import Derived.Test.YtknlnllmoilglaaDoorTie
import Derived.SevenTiedAt
import Derived.Deep.RegionWith
namespace Go.Proofs.YtknlnllmoilglaaDoor.ucdFirsts
open Go.ChangeShapes Go.WideShapes Go.ChangeAt Go.RowKit Go.WideMaps Go.WideElems

theorem starts_facts {c : Nat} (h : starts c = true) : (∀ a, pfind a c = none) ∧ cls c = 0 ∧ (∀ e, dfind c = some e → e.2.2.2 = true) := by
  unfold starts at h
  rw [Bool.and_eq_true, Nat.beq_eq, Nat.beq_eq] at h
  obtain ⟨h1, h2⟩ := h
  have hs : second c = false := by
    cases hs : second c with
    | false => rfl
    | true =>
      unfold quick at h2; rw [hs] at h2
      cases hd : dfind c with
      | none => rw [hd] at h2; cases h2
      | some e => rw [hd] at h2; dsimp only at h2; cases hf : e.2.2.2 <;> rw [hf] at h2 <;> cases h2
  refine ⟨fun a => ?_, h1, fun e he => ?_⟩
  · cases hp : pfind a c with
    | none => rfl
    | some e =>
      exfalso
      obtain ⟨g1, _, g3⟩ := pfind_some hp
      unfold second at hs
      rw [Bool.or_eq_false_iff] at hs
      have := List.any_eq_false.1 hs.2 e g1
      exact this (Nat.beq_eq.mpr g3)
  · cases hf : e.2.2.2 with
    | true => rfl
    | false => unfold quick at h2; rw [he] at h2; dsimp only at h2; rw [hf] at h2; cases h2

/-- What the calls tell. -/
def Firsts (c d : Nat) (ok co : Bool) (cd cc : Nat) (st : Bool) : Prop :=
  (∃ y : Nat, dval c = .tuple #[.int .u32 d, .int .u32 y, .bool ok]) ∧ composes c = co ∧ cls d = cd ∧ cls c = cc ∧ starts c = st ∧ d < 1048576 ∧
    ((ok = false ∧ co = false ∧ st = false) ∨ (ok = false ∧ co = false ∧ st = true ∧ cc = 0) ∨ (ok = true ∧ co = false ∧ st = false) ∨ (ok = true ∧ co = true ∧ cd = 0 ∧ cc = 0 ∧ st = false) ∨ (ok = true ∧ co = true ∧ cd = 0 ∧ cc = 0 ∧ st = true))
theorem firsts (c : Nat) : ∃ d ok co cd cc st, Firsts c d ok co cd cc st := by
  cases hd : dfind c with
  | none =>
    refine ⟨0, false, false, cls 0, cls c, starts c, ⟨0, by unfold dval; rw [hd]; rfl⟩, by unfold composes; rw [hd], rfl, rfl, rfl, by omega, ?_⟩
    cases hs : starts c with
    | false => exact .inl ⟨rfl, rfl, rfl⟩
    | true => exact .inr (.inl ⟨rfl, rfl, rfl, (starts_facts hs).2.1⟩)
  | some e =>
    refine ⟨e.2.1, true, e.2.2.2, cls e.2.1, cls c, starts c, ⟨e.2.2.1, by unfold dval; rw [hd]⟩, by unfold composes; rw [hd], rfl, rfl, rfl, (D_bd2 e (dfind_some hd).1).1, ?_⟩
    cases hf : e.2.2.2 with
    | false =>
      have hs : starts c = false := by
        cases hs : starts c with
        | false => rfl
        | true => have := (starts_facts hs).2.2 e hd; rw [hf] at this; cases this
      exact .inr (.inr (.inl ⟨rfl, rfl, hs⟩))
    | true =>
      obtain ⟨_, _, k3, k4⟩ := dec_pair hd hf
      cases hs : starts c with
      | false => exact .inr (.inr (.inr (.inl ⟨rfl, rfl, k3, k4, rfl⟩)))
      | true => exact .inr (.inr (.inr (.inr ⟨rfl, rfl, k3, k4, rfl⟩)))

set_option maxHeartbeats 4000000 in
theorem walk (a0 a1 : Int) (w0 : (Lit.int .u32 a0).wf = true) (w1 : (Lit.int .u32 a1).wf = true) (w : World) (ht : Tz w) :
    Calls Tryd.prog 10 #[.int .u32 a0, .int .u32 a1] w fun e w' => e = .returned (.bool true) ∧ Gr w w' := by
  have hb := bounds_u32 w0
  have hb1 := bounds_u32 w1
  obtain ⟨c, rfl⟩ : ∃ c : Nat, a0 = c := ⟨a0.toNat, by omega⟩
  obtain ⟨a, rfl⟩ : ∃ c : Nat, a1 = c := ⟨a1.toNat, by omega⟩
  have ha : a < 4294967296 := by omega
  have hc : c < 4294967296 := by omega
  clear hb w0 hb1 w1
  have hpn : starts c = true → pfind a c = none := fun h => (starts_facts h).1 a
  obtain ⟨d, ok, co, cd, cc, st, ⟨y, h1⟩, h2, h3, h4, h5, h6, h7⟩ := firsts c
  have hd := fun w' (g : Gr w w') => decomp_any c hc w' (ht.gr g)
  have hco := fun w' (g : Gr w w') => composes_any c hc w' (ht.gr g)
  have hcd := fun w' (g : Gr w w') => class_any d (by omega) w' (ht.gr g)
  have hcc := fun w' (g : Gr w w') => class_any c hc w' (ht.gr g)
  have hst := fun w' (g : Gr w w') => starts_any c hc w' (ht.gr g)
  have hpr := fun (h : st = true) w' (g : Gr w w') => pair_no a c ha hc w' (ht.gr g) (hpn (h5.trans h))
  rw [h1] at hd
  rw [h2] at hco
  rw [h3] at hcd
  rw [h4] at hcc
  rw [h5] at hst
  have HD := hid hd
  have HCO := hid hco
  have HCD := hid hcd
  have HCC := hid hcc
  have HST := hid hst
  have HPR := hid hpr
  have HA := hid (fun w' (g : Gr w w') => awake3_any w' (ht.gr g))
  clear hd hco hcd hcc hst hpr h1 h2 h3 h4 h5 hpn
  rcases h7 with ⟨rfl, rfl, rfl⟩ | ⟨rfl, rfl, rfl, rfl⟩ | ⟨rfl, rfl, rfl⟩ | ⟨rfl, rfl, rfl, rfl, rfl⟩ | ⟨rfl, rfl, rfl, rfl, rfl⟩
  all_goals
    go_enter Tryd.func10, Tryd.ntmps10
    go_wp2_with fail
    refine (HD.out _ (Gr.refl _)).mono ?_
    rintro x w1 ⟨rfl, g⟩
    go_wp2_with (first
      | (go_at_call 33; refine (HCO.out _ g).mono ?_; rintro x w2 ⟨rfl, g2⟩; replace g := g.trans g2; clear g2)
      | (go_at_call 29; refine (HST.out _ g).mono ?_; rintro x w3 ⟨rfl, g2⟩; replace g := g.trans g2; clear g2)
      | (go_at_call 23; refine (HPR.out (by trivial) _ g).mono ?_; rintro x w4 ⟨rfl, g2⟩; replace g := g.trans g2; clear g2)
      | (go_at_call 22; refine (HA.out _ g).mono ?_; rintro x w5 ⟨rfl, g2⟩; replace g := g.trans g2; clear g2)
      | (go_at_call_of 20 (Value.int IntKind.u32 ↑d); refine (HCD.out _ g).mono ?_; rintro x w6 ⟨rfl, g2⟩; replace g := g.trans g2; clear g2)
      | (go_at_call_of 20 (Value.int IntKind.u32 ↑c); refine (HCC.out _ g).mono ?_; rintro x w7 ⟨rfl, g2⟩; replace g := g.trans g2; clear g2))
    go_ret
    exact ⟨rfl, g⟩

set_option maxRecDepth 100000 in
theorem lifted (os : Os) (started : os.Started) (H : Type) (enc : TypeId × Value → H) :
    ReturnsInHanded {} Tryd.checked os 10 .any (fun w args => (Rows.ucdFirstsSpec.pre enc Tryd.prog Tryd.f10 [] false w args ∧ laidMetH Tryd.prog laid3 w) ∧ sizedMet enc Tryd.prog Tryd.f10 (OpenSpec.ofChange Rows.ucdFirstsSpec) false w args)
      (Rows.ucdFirstsSpec.post enc Tryd.prog Tryd.f10 false true false false) := by
  refine returnsInHanded_of_change_and (C := Tryd.checked) (X := fun w _ => laidMetH Tryd.prog laid3 w) (fun _ _ _ hh h => h.of_heap hh) own started (by kernel_rfl) Tryd.func10
    (ChangeSpec.witness_shaped (enc := enc) (C := Tryd.checked) (os := os) (X := fun w _ => laidMetH Tryd.prog laid3 w) false (World.doorLaid Tryd.prog 400 os) #[.int .u32 0, .int .u32 0] 8 rfl (World.shaped_of_RefB (by kernel_rfl) (by kernel_rfl)) (by kernel_rfl) (by kernel_rfl) (by kernel_rfl) (door_met os _)) ?_
  intro W base args ds gs before hval0 hW _ _ hL _
  have hval : ∀ (j : Nat) t v, Tryd.f10.params[j]? = some t → args[j]? = some v → Value.okWide Tryd.prog W .any base t v := hval0
  have hW' := hW
  obtain ⟨p, q, hA0, hV, rfl, hfz, hnd⟩ := hW
  have hA : DataW.TrodAll enc Tryd.prog W 0 (fun _ => true) true Tryd.f10.params.toList args.toList ds p := hA0
  rw [Tryd.params10] at hA hval
  obtain ⟨v0, vs0, d0, ds0, p0, q0, hargs, rfl, rfl, h0, r0⟩ := trodAll_cons hA
  obtain ⟨v1, vs1, d1, ds1, p1, q1, rfl, rfl, rfl, h1, r1⟩ := trodAll_cons r0
  obtain ⟨rfl, rfl, rfl⟩ := trodAll_nil r1
  obtain rfl : args = #[v0, v1] := by cases args; simp_all
  obtain ⟨rfl, rfl⟩ := trodVars_none hV
  obtain ⟨a0, rfl, rfl, rfl, w0⟩ := open_int Tryd.underlying22 (hval 0 22 v0 rfl rfl) h0
  obtain ⟨a1, rfl, rfl, rfl, w1⟩ := open_int Tryd.underlying22 (hval 1 22 v1 rfl rfl) h1
  clear hA0 hval0
  simp only [List.append_nil] at hW'
  refine (walk a0 a1 w0 w1 W (of_laid hL)).mono fun e W' ⟨he, hg⟩ => ?_
  subst he
  have bel : Below W.heap.size W W' := hg
  exact ⟨_, rfl, _, _, _, [], [], [], hW', trodAll_mk1 (shut_bool Tryd.underlying4 _), (trodAll_cons_mk (shut_int Tryd.underlying22 w0) (trodAll_cons_mk (shut_int Tryd.underlying22 w1) trodAll_mk0)), rfl, bel.frame _, fun h => by cases h⟩

theorem over : Rows.UcdFirstsSaid :=
  OpenClaim.holds_of_wide 10 Tryd.f10 rfl rfl rfl rfl rfl rfl rfl ⟨rfl, rfl, rfl, rfl, rfl⟩ rfl rfl rfl rfl rfl (by kernel_rfl) Tryd.func10 (by kernel_rfl)
    (of_decide_eq_true (by kernel_rfl)) (by unfold Func.isWrapper; rw [if_neg (of_decide_eq_false (by kernel_rfl))]; exact ⟨rfl, rfl⟩)
    (fun os started H enc _ => lifted os started H enc)

theorem proved : Rows.UcdFirstsCardSaid :=
  Claim7.holds_tied_plain_at .later [] [.data, .data, .data] true Rows.ucdFirstsCard.stood.harness false
    over (fun _ h => by cases h) (by kernel_rfl) (fun _ h => by cases h) ucdFirsts_row_tie rfl ⟨rfl, rfl⟩ (by kernel_rfl) rfl
    (fun f fn hf hfn => by
      obtain rfl : f = 10 := Option.some.inj ((show Tryd.prog.funcNamed "gesso/gessolaw03.UcdFirsts" = some 10 by kernel_rfl).symm.trans hf) |>.symm
      obtain rfl : fn = Tryd.f10 := (Option.some.inj (Tryd.func10.symm.trans hfn)).symm
      exact ⟨by kernel_rfl, fun j t ht => by
        rw [Tryd.params10] at ht
        have hm : t ∈ [22, 22] := by simpa using Array.mem_of_getElem? ht
        have hall : ([22, 22].all fun u => !Tryd.prog.wantsStandIn u) = true := by kernel_rfl
        exact (show Tryd.prog.wantsStandIn t = false by simpa using List.all_eq_true.1 hall t hm)⟩)
    (by kernel_rfl)
#print axioms proved
end Go.Proofs.YtknlnllmoilglaaDoor.ucdFirsts
