import Derived.Test.YtlomehhlhbpanaaKD
import Derived.Test.YtlomehhlhbpanaaRows
import Derived.WalkKit
import Derived.ProofKit
import Derived.OpenShut
import Derived.ShutString
import Derived.ChangeOld
import Derived.Below
import Derived.SizedLaws
/- A pack of texts: TTreeChecksW, TreeChecks. -/
/- The walk of TreeChecks. -/
namespace Go.Proofs.Ytlomehhlhbpanaa
open Go.RowKit Go.Lib Go.Proofs.YtlomehhlhbpanaaW.PrintWords Go.Proofs.YtlomehhlhbpanaaW.PrintLast Go.Proofs.YtlomehhlhbpanaaW.PrintMore Go.Proofs.Ytlomehhlhbpanaa.Prt

set_option maxRecDepth 100000 in
set_option maxHeartbeats 8000000 in
theorem treeChecks_walk (L : List It) (A : Option Addr) (c : Nat) (hc : L.length ≤ c) (i : Int) (s : ByteArray) (w : World) (hC : Kd.C kIt w A L.length L) (hwf : WfL L) :
    Calls Try.prog 3 #[.slice A L.length c, .int .i64 i, .string s] w fun e w' => e = .returned (.bool true) ∧ Below w.heap.size w w' := by
  have HC := Aside0.mk hC
  have HL := Light_any L A c hc w hC
  clear hC
  cases hl : lightB L with
  | false =>
    rw [hl] at HL
    go_enter Try.func3, Try.ntmps3
    go_wp2_with (first
      | (go_at_call 8; with_reducible refine HL.mono ?_; rintro e w1 ⟨rfl, hb1⟩)
      | (go_at_call 9; with_reducible refine (awake14_any _).mono ?_; rintro e w2 ⟨rfl, hb2⟩; have hb20 := hb1.trans (hb2.mono hb1.size)))
    go_ret
    exact ⟨rfl, hb20⟩
  | true =>
    rw [hl] at HL
    have hs := light_names hl
    clear hl
    have e1 : ∀ x : Int, (x == x) = true := fun x => by simp
    go_enter Try.func3, Try.ntmps3
    go_wp2_with (first
      | (go_at_call 8; with_reducible refine HL.mono ?_; rintro e w1 ⟨rfl, hb1⟩)
      | (go_at_call 10; with_reducible refine (check_any L A c _ (Kd.C_below HC.out hb1) hwf).mono ?_; rintro e w2 ⟨rfl, hb2⟩; have hb20 := hb1.trans (hb2.mono hb1.size))
      | (go_at_call 11; with_reducible refine (RCheck_any L hs A c hc _ (Kd.C_below HC.out hb20)).mono ?_; rintro e w3 ⟨rfl, hb3⟩; have hb30 := hb20.trans (hb3.mono hb20.size))
      | (go_at_call 13; with_reducible refine (Path_any L i A c hc _ (Kd.C_below HC.out hb30) hwf).mono ?_; rintro e w4 ⟨v4, rfl, hr4, hb4⟩; obtain ⟨A4, c4, rfl⟩ := Kd.R_slice hr4; have hb40 := hb30.trans (hb4.mono hb30.size))
      | (go_at_call 14; with_reducible refine (RPath_any L hs i A c hc _ (Kd.C_below HC.out hb40)).mono ?_; rintro e w5 ⟨v5, rfl, hr5, hb5⟩; obtain ⟨A5, c5, rfl⟩ := Kd.R_slice hr5; have hb50 := hb40.trans (hb5.mono hb40.size))
      | (go_at_call 12; with_reducible refine (same_made (by have := tPath_len L i; omega) hr4 hb5 hr5).mono ?_; rw [decide_eq_true rfl]; rintro e w6 ⟨rfl, hb6⟩; have hb60 := hb50.trans (hb6.mono hb50.size))
      | (go_at_call 15; with_reducible refine (res_any s _).mono ?_; rintro e w7 ⟨rfl, hb7⟩; have hb70 := hb60.trans (hb7.mono hb60.size))
      | (go_at_call 16; with_reducible refine (RRes_any s _).mono ?_; rintro e w8 ⟨rfl, hb8⟩; have hb80 := hb70.trans (hb8.below.mono hb70.size))
      | (go_at_call 9; with_reducible refine (awake14_any _).mono ?_; rintro e w9 ⟨rfl, hb9⟩; have hb90 := hb80.trans (hb9.mono hb80.size)))
    go_ret
    exact ⟨rfl, hb90⟩
end Go.Proofs.Ytlomehhlhbpanaa

/- Whether any items are a tree, which paths they have, and which names are reserved, is told as the document says: TreeChecks returns true at every input, and its arguments read as they did. -/
namespace Go.Proofs.Ytlomehhlhbpanaa.treeChecks
open Go.ChangeShapes Go.WideShapes Go.ChangeAt Go.RowKit
open Go.ChangeMaps (open_string shut_string)
open Go.Proofs.YtlomehhlhbpanaaW.PrintWords
theorem own : ownKnob Try.prog.godebug = none := by kernel_rfl
theorem laidOut : laidOutB Try.prog = true := by kernel_rfl

set_option maxRecDepth 100000 in
theorem lifted (os : Os) (started : os.Started) (H : Type) (enc : TypeId × Value → H) :
    ReturnsInHanded {} Try.checked os 3 .any (Rows.treeChecksSpec.pre6 enc Try.prog Try.f3 Rows.treeChecksRow.domain false) (Rows.treeChecksSpec.post enc Try.prog Try.f3 false true false false) := by
  refine returnsInHanded_of_change_sized (C := Try.checked) own started (by kernel_rfl) Try.func3
    (ChangeSpec.witness6 (enc := enc) (C := Try.checked) false ⟨#[], #[.slice none 0 0, .int .i64 0, .string ByteArray.empty], []⟩ 8 (by kernel_rfl) (by kernel_rfl) (by kernel_rfl) (by kernel_rfl)) ?_
  intro W base args ds gs before hval0 hW _ _ _
  have hval : ∀ (j : Nat) t v, Try.f3.params[j]? = some t → args[j]? = some v → Value.okWide Try.prog W .any base t v := hval0
  have hW' := hW
  obtain ⟨p, q, hA0, hV, rfl, hfz, hnd⟩ := hW
  have hA : DataW.TrodAll enc Try.prog W 0 (fun _ => true) true Try.f3.params.toList args.toList ds p := hA0
  rw [Try.params3] at hA hval
  obtain ⟨v0, vs0, d0, ds0, p0, q0, hargs, rfl, rfl, h0, r0⟩ := trodAll_cons hA
  obtain ⟨v1, vs1, d1, ds1, p1, q1, rfl, rfl, rfl, h1, r1⟩ := trodAll_cons r0
  obtain ⟨v2, vs2, d2, ds2, p2, q2, rfl, rfl, rfl, h2, r2⟩ := trodAll_cons r1
  obtain ⟨rfl, rfl, rfl⟩ := trodAll_nil r2
  obtain rfl : args = #[v0, v1, v2] := by cases args; simp_all
  obtain ⟨rfl, rfl⟩ := trodVars_none hV
  have k0 := h0
  have lt0 : ∀ x ∈ p0, x.block < W.heap.size := by obtain ⟨m, hm⟩ := k0; exact DataW.trod_lt m _ _ _ hm
  obtain ⟨A0, c0, L0, e0, l0, hC0, hw0, _⟩ : ∃ A c L, v0 = .slice A (List.length L) c ∧ L.length ≤ c ∧ Kd.C kIt W A L.length L ∧ WfL L ∧ L.length ≤ maxLen := by
    obtain ⟨fuel, hf⟩ := h0
    obtain ⟨a, len, cap, rfl⟩ := okWide_slice Try.underlying22 (hval 0 22 v0 rfl rfl)
    obtain ⟨A, c, L, hcs, r⟩ := open_items hf
    simp [Value.cells] at hcs
    obtain ⟨rfl, rfl, rfl⟩ := hcs
    exact ⟨_, _, L, rfl, r⟩
  subst e0
  obtain ⟨a1, rfl, rfl, rfl, w1⟩ := open_int Try.underlying3 (hval 1 3 v1 rfl rfl) h1
  obtain ⟨a2, rfl, rfl, rfl, y2⟩ := open_string Try.underlying9 (hval 2 9 v2 rfl rfl) h2
  clear hA0 hval0
  refine (treeChecks_walk L0 A0 c0 l0 a1 a2 W hC0 hw0).mono fun e W' ⟨he, bel⟩ => ?_
  subst he
  exact ⟨_, rfl, _, _, _, [], _, [], hW', trodAll_mk1 (shut_bool Try.underlying4 _), (trodAll_cons_mk (Below.trod laidOut (by kernel_rfl) (of_decide_eq_true (by kernel_rfl)) k0 bel lt0) (trodAll_cons_mk (shut_int Try.underlying3 w1) (trodAll_cons_mk (shut_string Try.underlying9 y2) trodAll_mk0))), rfl, bel.frame _, fun h => by cases h⟩

theorem over : Rows.treeChecksRow.holds Try.pinned (OpenSpec.ofChange Rows.treeChecksSpec) :=
  OpenClaim.holds_of_wide 3 Try.f3 rfl rfl rfl rfl rfl rfl rfl ⟨rfl, rfl, rfl, rfl, rfl⟩ rfl rfl rfl rfl rfl (by kernel_rfl) Try.func3 (by kernel_rfl)
    (of_decide_eq_true (by kernel_rfl)) (by unfold Func.isWrapper; first | (rw [if_pos (by decide +kernel)]; kernel_rfl) | (rw [if_neg (by decide +kernel)]; exact ⟨rfl, rfl⟩))
    (fun os started H enc _ => lifted os started H enc)
theorem proved : Rows.TreeChecksSaid := over
#print axioms proved
end Go.Proofs.Ytlomehhlhbpanaa.treeChecks
