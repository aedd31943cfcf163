import Derived.Test.YtlomehhlhbpanaaKD
import Derived.Test.YtlomehhlhbpanaaRows
import Derived.WalkKit
import Derived.ProofKit
import Derived.OpenShut
import Derived.ShutString
import Derived.ChangeOld
import Derived.Below
import Derived.SizedLaws
/- A pack of texts: TTreeSamesW, TreeSames. -/
/- The walk of TreeSames. -/
namespace Go.Proofs.Ytlomehhlhbpanaa
open Go.RowKit Go.Lib Go.Proofs.YtlomehhlhbpanaaW.PrintWords Go.Proofs.YtlomehhlhbpanaaW.PrintLast Go.Proofs.YtlomehhlhbpanaaW.PrintMore Go.Proofs.Ytlomehhlhbpanaa.Prt

set_option maxRecDepth 100000 in
set_option maxHeartbeats 8000000 in
theorem treeSames_walk (L : List It) (A : Option Addr) (c : Nat) (hc : L.length ≤ c) (M : List It) (B : Option Addr) (d : Nat) (hd : M.length ≤ d) (w : World) (hC : Kd.C kIt w A L.length L) (hwf : WfL L) (hD : Kd.C kIt w B M.length M) (hwf2 : WfL M) :
    Calls Try.prog 5 #[.slice A L.length c, .slice B M.length d] w fun e w' => e = .returned (.bool true) ∧ Below w.heap.size w w' := by
  have HC := Aside0.mk hC
  have HD := Aside0.mk hD
  have HL := Light_any L A c hc w hC
  have HM := fun W (b : Below w.heap.size w W) => Light_any M B d hd W (Kd.C_below HD.out b)
  clear hC hD
  cases hl : lightB L with
  | false =>
    rw [hl] at HL
    go_enter Try.func5, Try.ntmps5
    go_wp2_with (first
      | (go_at_call 8; with_reducible refine HL.mono ?_; rintro e w1 ⟨rfl, hb1⟩)
      | (go_at_call 9; with_reducible refine (awake14_any _).mono ?_; rintro e w2 ⟨rfl, hb2⟩; have hb20 := hb1.trans (hb2.mono hb1.size)))
    go_ret
    exact ⟨rfl, hb20⟩
  | true =>
    rw [hl] at HL
    have hs := light_names hl
    clear hl
    cases hm : lightB M with
    | false =>
      rw [hm] at HM
      go_enter Try.func5, Try.ntmps5
      go_wp2_with (first
        | (go_at_call 8; with_reducible refine HL.mono ?_; rintro e w1 ⟨rfl, hb1⟩)
        | (go_at_call 8; with_reducible refine (HM _ hb1).mono ?_; rintro e w2 ⟨rfl, hb2⟩; have hb20 := hb1.trans (hb2.mono hb1.size))
        | (go_at_call 9; with_reducible refine (awake14_any _).mono ?_; rintro e w3 ⟨rfl, hb3⟩; have hb30 := hb20.trans (hb3.mono hb20.size)))
      go_ret
      exact ⟨rfl, hb30⟩
    | true =>
      rw [hm] at HM
      have hs2 := light_names hm
      clear hm
      have e1 : ∀ x : Bool, (x == x) = true := fun x => by simp
      go_enter Try.func5, Try.ntmps5
      go_wp2_with (first
        | (go_at_call 8; with_reducible refine HL.mono ?_; rintro e w1 ⟨rfl, hb1⟩)
        | (go_at_call 8; with_reducible refine (HM _ hb1).mono ?_; rintro e w2 ⟨rfl, hb2⟩; have hb20 := hb1.trans (hb2.mono hb1.size))
        | (go_at_call 21; with_reducible refine (Same_any L M A B c d hc hd _ (Kd.C_below HC.out hb20) (Kd.C_below HD.out hb20) hwf hwf2).mono ?_; rintro e w3 ⟨rfl, hb3⟩; have hb30 := hb20.trans (hb3.mono hb20.size))
        | (go_at_call 22; with_reducible refine (RSame_any L M hs hs2 A B c d hc hd _ (Kd.C_below HC.out hb30) (Kd.C_below HD.out hb30) hwf hwf2).mono ?_; rintro e w4 ⟨rfl, hb4⟩; have hb40 := hb30.trans (hb4.mono hb30.size))
        | (go_at_call 9; with_reducible refine (awake14_any _).mono ?_; rintro e w5 ⟨rfl, hb5⟩; have hb50 := hb40.trans (hb5.mono hb40.size)))
      go_ret
      exact ⟨rfl, hb50⟩
end Go.Proofs.Ytlomehhlhbpanaa

/- Whether any two lists of items are one tree is told as the document says: TreeSames returns true at every input, and its arguments read as they did. -/
namespace Go.Proofs.Ytlomehhlhbpanaa.treeSames
open Go.ChangeShapes Go.WideShapes Go.ChangeAt Go.RowKit
open Go.ChangeMaps (open_string shut_string)
open Go.Proofs.YtlomehhlhbpanaaW.PrintWords
theorem own : ownKnob Try.prog.godebug = none := by kernel_rfl
theorem laidOut : laidOutB Try.prog = true := by kernel_rfl

set_option maxRecDepth 100000 in
theorem lifted (os : Os) (started : os.Started) (H : Type) (enc : TypeId × Value → H) :
    ReturnsInHanded {} Try.checked os 5 .any (Rows.treeSamesSpec.pre6 enc Try.prog Try.f5 Rows.treeSamesRow.domain false) (Rows.treeSamesSpec.post enc Try.prog Try.f5 false true false false) := by
  refine returnsInHanded_of_change_sized (C := Try.checked) own started (by kernel_rfl) Try.func5
    (ChangeSpec.witness6 (enc := enc) (C := Try.checked) false ⟨#[], #[.slice none 0 0, .slice none 0 0], []⟩ 8 (by kernel_rfl) (by kernel_rfl) (by kernel_rfl) (by kernel_rfl)) ?_
  intro W base args ds gs before hval0 hW _ _ _
  have hval : ∀ (j : Nat) t v, Try.f5.params[j]? = some t → args[j]? = some v → Value.okWide Try.prog W .any base t v := hval0
  have hW' := hW
  obtain ⟨p, q, hA0, hV, rfl, hfz, hnd⟩ := hW
  have hA : DataW.TrodAll enc Try.prog W 0 (fun _ => true) true Try.f5.params.toList args.toList ds p := hA0
  rw [Try.params5] at hA hval
  obtain ⟨v0, vs0, d0, ds0, p0, q0, hargs, rfl, rfl, h0, r0⟩ := trodAll_cons hA
  obtain ⟨v1, vs1, d1, ds1, p1, q1, rfl, rfl, rfl, h1, r1⟩ := trodAll_cons r0
  obtain ⟨rfl, rfl, rfl⟩ := trodAll_nil r1
  obtain rfl : args = #[v0, v1] := by cases args; simp_all
  obtain ⟨rfl, rfl⟩ := trodVars_none hV
  have k0 := h0
  have lt0 : ∀ x ∈ p0, x.block < W.heap.size := by obtain ⟨m, hm⟩ := k0; exact DataW.trod_lt m _ _ _ hm
  obtain ⟨A0, c0, L0, e0, l0, hC0, hw0, _⟩ : ∃ A c L, v0 = .slice A (List.length L) c ∧ L.length ≤ c ∧ Kd.C kIt W A L.length L ∧ WfL L ∧ L.length ≤ maxLen := by
    obtain ⟨fuel, hf⟩ := h0
    obtain ⟨a, len, cap, rfl⟩ := okWide_slice Try.underlying22 (hval 0 22 v0 rfl rfl)
    obtain ⟨A, c, L, hcs, r⟩ := open_items hf
    simp [Value.cells] at hcs
    obtain ⟨rfl, rfl, rfl⟩ := hcs
    exact ⟨_, _, L, rfl, r⟩
  subst e0
  have k1 := h1
  have lt1 : ∀ x ∈ p1, x.block < W.heap.size := by obtain ⟨m, hm⟩ := k1; exact DataW.trod_lt m _ _ _ hm
  obtain ⟨A1, c1, L1, e1, l1, hC1, hw1, _⟩ : ∃ A c L, v1 = .slice A (List.length L) c ∧ L.length ≤ c ∧ Kd.C kIt W A L.length L ∧ WfL L ∧ L.length ≤ maxLen := by
    obtain ⟨fuel, hf⟩ := h1
    obtain ⟨a, len, cap, rfl⟩ := okWide_slice Try.underlying22 (hval 1 22 v1 rfl rfl)
    obtain ⟨A, c, L, hcs, r⟩ := open_items hf
    simp [Value.cells] at hcs
    obtain ⟨rfl, rfl, rfl⟩ := hcs
    exact ⟨_, _, L, rfl, r⟩
  subst e1
  clear hA0 hval0
  refine (treeSames_walk L0 A0 c0 l0 L1 A1 c1 l1 W hC0 hw0 hC1 hw1).mono fun e W' ⟨he, bel⟩ => ?_
  subst he
  exact ⟨_, rfl, _, _, _, [], _, [], hW', trodAll_mk1 (shut_bool Try.underlying4 _), (trodAll_cons_mk (Below.trod laidOut (by kernel_rfl) (of_decide_eq_true (by kernel_rfl)) k0 bel lt0) (trodAll_cons_mk (Below.trod laidOut (by kernel_rfl) (of_decide_eq_true (by kernel_rfl)) k1 bel lt1) trodAll_mk0)), rfl, bel.frame _, fun h => by cases h⟩

theorem over : Rows.treeSamesRow.holds Try.pinned (OpenSpec.ofChange Rows.treeSamesSpec) :=
  OpenClaim.holds_of_wide 5 Try.f5 rfl rfl rfl rfl rfl rfl rfl ⟨rfl, rfl, rfl, rfl, rfl⟩ rfl rfl rfl rfl rfl (by kernel_rfl) Try.func5 (by kernel_rfl)
    (of_decide_eq_true (by kernel_rfl)) (by unfold Func.isWrapper; first | (rw [if_pos (by decide +kernel)]; kernel_rfl) | (rw [if_neg (by decide +kernel)]; exact ⟨rfl, rfl⟩))
    (fun os started H enc _ => lifted os started H enc)
theorem proved : Rows.TreeSamesSaid := over
#print axioms proved
end Go.Proofs.Ytlomehhlhbpanaa.treeSames
