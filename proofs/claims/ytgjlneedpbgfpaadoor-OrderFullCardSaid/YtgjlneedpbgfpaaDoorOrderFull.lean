/- The law OrderFull: a character's full decomposition is in order as it is. No condition; the listed tables of the library are tied to the program's text. -/
import Derived.Test.YtgjlneedpbgfpaaDoorAwake6
import Derived.Test.YtgjlneedpbgfpaaDoorLaid
import Derived.Test.YtgjlneedpbgfpaaDoorCards
import Derived.Test.YtgjlneedpbgfpaaDoorTie
import Derived.SevenTiedAt
import Derived.Deep.RegionWith
namespace Go.Proofs.YtgjlneedpbgfpaaDoor.orderFull
open Go.ChangeShapes Go.WideShapes Go.ChangeAt Go.RowKit Go.WideMaps Go.WideElems

/-- Every full decomposition is in order. -/
theorem full_ord_ (u : Nat) : inOrd cls 0 (full u) = true := by
  cases hh : isH u with
  | true =>
    have hl := hsp_lt u hh
    rw [full_h hh]
    have gen : ∀ (l : List Nat), (∀ x ∈ l, 4352 ≤ x ∧ x ≤ 4546) → ∀ p, inOrd cls p l = true := by
      intro l
      induction l with
      | nil => intro _ p; rfl
      | cons a l ih =>
        intro h p
        rw [inOrd, cls_h (.inl (h a (by simp))), Bool.and_eq_true]
        exact ⟨rfl, ih (fun x hx => h x (List.mem_cons_of_mem _ hx)) _⟩
    exact gen _ hl 0
  | false =>
    cases hd : dfind u with
    | none => rw [full_no hh hd]; simp [inOrd]
    | some e =>
      have he := dfind_some hd
      have hk := (allB_iff _ _).1 (and3 ckB_t).2.2 e he.1
      unfold ckD3 at hk
      have hc : ∀ c, clsT (dc12 tC.data.toList) c = cls c := fun c => by
        unfold clsT cls
        rw [show fC (dc12 tC.data.toList) c = cfind c from fC_eq c]
        cases cfind c <;> rfl
      rw [he.2, show fullT (dc16 tD.data.toList) 3 u = fullF 3 u from fullT_eq (deep3 u) hh] at hk
      rw [funext hc] at hk
      exact hk

set_option maxRecDepth 20000 in
set_option maxHeartbeats 4000000 in
theorem walk (c : Int) (hw : (Lit.int .u32 c).wf = true) (w : World) (ht : Tz w) :
    Calls Tryd.prog 12 #[.int .u32 c] w fun e w' => e = .returned (.bool true) ∧ Gr w w' := by
  obtain ⟨hc0, hc1⟩ := bounds_u32 hw
  obtain ⟨c, rfl⟩ : ∃ n : Nat, c = n := ⟨c.toNat, by omega⟩
  have hcb : c < 4294967296 := by omega
  have HF := hid (Full_any c hcb w ht)
  have hl := full_len c
  have hsm : ∀ x ∈ full c, x < 4294967296 := fun x hx => (full_whole hcb x hx).2
  have ho := full_ord_ c
  have hi := ordL_of ho
  have HI := fun W v (t : Tz W) (s : Sl W v (full c)) => Is_any v (full c) W t s hsm (by omega)
  have HO := fun W v (t : Tz W) (s : Sl W v (full c)) => Order_any v (full c) W t s hsm (by omega)
  rw [ho] at HI
  rw [hi] at HO
  obtain ⟨M, hM⟩ : ∃ M, full c = M := ⟨_, rfl⟩
  rw [hM] at HF HI HO hl
  have HI' := hid HI
  have HO' := hid HO
  clear HI HO hM hsm ho hi hcb hc0 hc1 hw
  go_enter Tryd.func12, Tryd.ntmps12
  go_wp2_with (first
    | (go_at_call 30; refine HF.out.mono ?_; clear HF; rintro e w1 ⟨v, rfl, hv, g1⟩; have HV := hid (Sl.of_row hv); clear hv)
    | (go_at_call 38; refine (HI'.out w1 v (ht.gr g1) HV.out).mono ?_; rintro e w2 ⟨rfl, g2'⟩; have g2 := g1.trans g2')
    | (go_at_call 34; refine (HO'.out w2 v (ht.gr g2) (HV.out.gr g2')).mono ?_; rintro e w3 ⟨v3, rfl, hv3, g3'⟩; have g3 := g2.trans g3'; have HV3 := hid (Sl.of_row hv3); clear hv3)
    | (go_at_call 27; refine (same_any v3 v M M w3 HV3.out ((HV.out.gr g2').gr g3') (by omega)).mono ?_; rintro e w4 ⟨rfl, g4'⟩; have g4 := g3.trans g4')
    | (go_at_call 33; refine (awake6_any _ (ht.gr g4)).mono ?_; rintro e w5 ⟨rfl, g5⟩))
  go_ret
  exact ⟨rfl, g4.trans g5⟩

set_option maxRecDepth 100000 in
theorem lifted (os : Os) (started : os.Started) (H : Type) (enc : TypeId × Value → H) :
    ReturnsInHanded {} Tryd.checked os 12 .any (fun w args => (Rows.orderFullSpec.pre enc Tryd.prog Tryd.f12 [] false w args ∧ laidMetH Tryd.prog laid3 w) ∧ sizedMet enc Tryd.prog Tryd.f12 (OpenSpec.ofChange Rows.orderFullSpec) false w args)
      (Rows.orderFullSpec.post enc Tryd.prog Tryd.f12 false true false false) := by
  refine returnsInHanded_of_change_and (C := Tryd.checked) (X := fun w _ => laidMetH Tryd.prog laid3 w) (fun _ _ _ hh h => h.of_heap hh) own started (by kernel_rfl) Tryd.func12
    (ChangeSpec.witness_shaped (enc := enc) (C := Tryd.checked) (os := os) (X := fun w _ => laidMetH Tryd.prog laid3 w) false (World.doorLaid Tryd.prog 400 os) #[.int .u32 0] 8 rfl (World.shaped_of_RefB (by kernel_rfl) (by kernel_rfl)) (by kernel_rfl) (by kernel_rfl) (by kernel_rfl) (door_met os _)) ?_
  intro W base args ds gs before hval0 hW _ _ hL _
  have hval : ∀ (j : Nat) t v, Tryd.f12.params[j]? = some t → args[j]? = some v → Value.okWide Tryd.prog W .any base t v := hval0
  have hW' := hW
  obtain ⟨p, q, hA0, hV, rfl, hfz, hnd⟩ := hW
  have hA : DataW.TrodAll enc Tryd.prog W 0 (fun _ => true) true Tryd.f12.params.toList args.toList ds p := hA0
  rw [Tryd.params12] at hA hval
  obtain ⟨v0, vs0, d0, ds0, p0, q0, hargs, rfl, rfl, h0, r0⟩ := trodAll_cons hA
  obtain ⟨rfl, rfl, rfl⟩ := trodAll_nil r0
  obtain rfl : args = #[v0] := by cases args; simp_all
  obtain ⟨rfl, rfl⟩ := trodVars_none hV
  obtain ⟨a0, rfl, rfl, rfl, w0⟩ := open_int Tryd.underlying22 (hval 0 22 v0 rfl rfl) h0
  clear hA0 hval0
  simp only [List.append_nil] at hW'
  refine (walk a0 w0 W (of_laid hL)).mono fun e W' ⟨he, hg⟩ => ?_
  subst he
  have bel : Below W.heap.size W W' := hg
  exact ⟨_, rfl, _, _, _, [], [], [], hW', trodAll_mk1 (shut_bool Tryd.underlying4 _), (trodAll_cons_mk (shut_int Tryd.underlying22 w0) trodAll_mk0), rfl, bel.frame _, fun h => by cases h⟩

theorem over : Rows.OrderFullSaid :=
  OpenClaim.holds_of_wide 12 Tryd.f12 rfl rfl rfl rfl rfl rfl rfl ⟨rfl, rfl, rfl, rfl, rfl⟩ rfl rfl rfl rfl rfl (by kernel_rfl) Tryd.func12 (by kernel_rfl)
    (of_decide_eq_true (by kernel_rfl)) (by unfold Func.isWrapper; rw [if_neg (of_decide_eq_false (by kernel_rfl))]; exact ⟨rfl, rfl⟩)
    (fun os started H enc _ => lifted os started H enc)

theorem proved : Rows.OrderFullCardSaid :=
  Claim7.holds_tied_plain_at .later [] [.data, .data, .data] true Rows.orderFullCard.stood.harness false
    over (fun _ h => by cases h) (by kernel_rfl) (fun _ h => by cases h) orderFull_row_tie rfl ⟨rfl, rfl⟩ (by kernel_rfl) rfl
    (fun f fn hf hfn => by
      obtain rfl : f = 12 := Option.some.inj ((show Tryd.prog.funcNamed "gesso/gessolaw06.OrderFull" = some 12 by kernel_rfl).symm.trans hf) |>.symm
      obtain rfl : fn = Tryd.f12 := (Option.some.inj (Tryd.func12.symm.trans hfn)).symm
      exact ⟨by kernel_rfl, fun j t ht => by
        rw [Tryd.params12] at ht
        have hm : t ∈ [22] := by simpa using Array.mem_of_getElem? ht
        have hall : ([22].all fun u => !Tryd.prog.wantsStandIn u) = true := by kernel_rfl
        exact (show Tryd.prog.wantsStandIn t = false by simpa using List.all_eq_true.1 hall t hm)⟩)
    (by kernel_rfl)
#print axioms proved
end Go.Proofs.YtgjlneedpbgfpaaDoor.orderFull
