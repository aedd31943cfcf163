import Derived.Test.YtlomehhlhbpanaaKD
import Derived.Deep.RegionHeld3
import Derived.Test.YtlomehhlhbpanaaRows
import Derived.WalkKit
import Derived.ProofKit
import Derived.OpenShut
import Derived.ShutString
import Derived.ChangeOld
import Derived.Below
import Derived.SizedLaws
/- A pack of texts: TTreePathsW, TreePaths. -/
/- The walk of TreePaths. -/
namespace Go.Proofs.Ytlomehhlhbpanaa
open Go.RowKit Go.Lib Go.Proofs.YtlomehhlhbpanaaW.PrintWords Go.Proofs.YtlomehhlhbpanaaW.PrintLast Go.Proofs.YtlomehhlhbpanaaW.PrintMore Go.Proofs.Ytlomehhlhbpanaa.Prt

section
variable {L : List It}
theorem pars (h14 : checkN L ≠ 14) {i : Nat} (hi : i < L.length) : ∀ j : Nat, j ≤ i → parB L j = true := by
  obtain ⟨_, q2, _⟩ := check_ok h14
  simp only [depB, List.all_eq_true, List.mem_range] at q2
  exact fun j hj => okAt_par (q2 j (by omega))
theorem path_dep (h14 : checkN L ≠ 14) : ∀ (t i : Nat), i ≤ t → i < L.length → ((pathN L (i : Int)).length : Int) = dep L i := by
  intro t
  induction t with
  | zero =>
    intro i h1 hi
    obtain rfl : i = 0 := by omega
    obtain ⟨p1, p2⟩ := itA_par h14 hi
    have e : (itA L (0 : Nat)).f0 = -1 := by omega
    rw [path_step (pars h14 hi), e, path_top, dep_one e]; rfl
  | succ t ih =>
    intro i h1 hi
    obtain ⟨p1, p2⟩ := itA_par h14 hi
    by_cases e : (itA L (i : Int)).f0 = -1
    · rw [path_step (pars h14 hi), e, path_top, dep_one e]; rfl
    · obtain ⟨q, hq⟩ : ∃ q : Nat, (itA L (i : Int)).f0 = q := ⟨(itA L (i : Int)).f0.toNat, by omega⟩
      rw [path_step (pars h14 hi), hq, dep_step hq (by omega) (fun j hj => pars h14 hi j (by omega)), ← ih q (by omega) (by omega), List.length_append]
      simp
theorem path_8 (h14 : checkN L ≠ 14) {i : Nat} (hi : i < L.length) : (pathN L (i : Int)).length ≤ 8 := by
  have h := path_dep h14 i i (Nat.le_refl _) hi
  obtain ⟨_, q2, _⟩ := check_ok h14
  simp only [depB, List.all_eq_true, List.mem_range] at q2
  have := q2 i hi
  simp only [okAtB, Bool.and_eq_true, decide_eq_true_eq] at this
  omega
/-- The path of what an item stands in. -/
theorem tPath_par (h14 : checkN L ≠ 14) {i : Nat} (hi : i < L.length) : tPath L (itA L (i : Int)).f0 = pathN L (itA L (i : Int)).f0 := by
  obtain ⟨p1, p2⟩ := itA_par h14 hi
  by_cases e : (itA L (i : Int)).f0 = -1
  · rw [e, path_top]
    unfold tPath
    rw [if_pos (.inl (by omega))]
  · obtain ⟨q, hq⟩ : ∃ q : Nat, (itA L (i : Int)).f0 = q := ⟨(itA L (i : Int)).f0.toNat, by omega⟩
    rw [hq]
    exact tPath_in h14 (by omega)
end

set_option maxRecDepth 100000 in
set_option maxHeartbeats 8000000 in
theorem treePaths_walk (L : List It) (A : Option Addr) (c : Nat) (hc : L.length ≤ c) (w : World) (hC : Kd.C kIt w A L.length L) (hwf : WfL L) :
    Calls Try.prog 7 #[.slice A L.length c] w fun e w' => e = .returned (.bool true) ∧ Below w.heap.size w w' := by
  have HC := Aside0.mk hC
  have HL := Light_any L A c hc w hC
  have HK := fun W B => check_any L A c W (Kd.C_below HC.out B) hwf
  have HP := fun i W (B : Below w.heap.size w W) => Path_any L i A c hc W (Kd.C_below HC.out B) hwf
  have hu41 := Try.underlying41
  clear hC
  cases hl : lightB L with
  | false =>
    rw [hl] at HL
    clear HK HP
    go_enter Try.func7, Try.ntmps7
    go_wp2_with (first
      | (go_at_call 8; with_reducible refine HL.mono ?_; rintro e w1 ⟨rfl, hb1⟩)
      | (go_at_call 9; with_reducible refine (awake14_any _).mono ?_; rintro e w2 ⟨rfl, hb2⟩; have hb20 := hb1.trans (hb2.mono hb1.size)))
    go_ret
    exact ⟨rfl, hb20⟩
  | true =>
    rw [hl] at HL
    clear hl
    by_cases h14 : checkN L = 14
    · simp only [h14] at HK
      clear HP
      go_enter Try.func7, Try.ntmps7
      go_wp2_with (first
        | (go_at_call 8; with_reducible refine HL.mono ?_; rintro e w1 ⟨rfl, hb1⟩)
        | (go_at_call 10; with_reducible refine (HK _ hb1).mono ?_; rintro e w2 ⟨rfl, hb2⟩; have hb20 := hb1.trans (hb2.mono hb1.size))
        | (go_at_call 9; with_reducible refine (awake14_any _).mono ?_; rintro e w3 ⟨rfl, hb3⟩; have hb30 := hb20.trans (hb3.mono hb20.size)))
      go_ret
      exact ⟨rfl, hb30⟩
    · have h14b : (checkN L == 14) = false := by rw [beq_eq_false_iff_ne]; exact h14
      obtain ⟨q1, q2, _⟩ := check_ok h14
      have H14 := Aside0.mk h14
      clear h14
      generalize hN : checkN L = N at HK h14b
      clear hN
      go_enter Try.func7, Try.ntmps7
      go_wp2_with (first
        | (go_at_call 8; with_reducible refine HL.mono ?_; rintro e w1 ⟨rfl, hb1⟩)
        | (go_at_call 10; with_reducible refine (HK _ hb1).mono ?_; rintro e w2 ⟨rfl, hb2⟩; have hb20 := hb1.trans (hb2.mono hb1.size)))
      clear HL HK h14b
      go_loopg [3] L.length (fun gg v3 wr => ∃ i : Nat, i ≤ L.length ∧ L.length - i ≤ gg ∧ v3 = .int .i64 i ∧ Aside0 (Below w.heap.size w wr))
      case atStart => exact ⟨0, Nat.zero_le _, by omega, rfl, ⟨hb20⟩⟩
      case round =>
        clear hb20 hb1 hb2
        obtain ⟨i, hi, hg, rfl, HB⟩ := hrel
        by_cases hlt : i < L.length
        · have hltz : (i : Int) < (L.length : Int) := by omega
          have ep : tPath L (i : Int) = pathN L (i : Int) := tPath_in H14.out hlt
          have HP1 := HP (i : Int) wr HB.out
          have hstep := path_step (pars H14.out hlt)
          have h8 := path_8 H14.out hlt
          rw [ep, hstep] at HP1
          rw [hstep, List.length_append, List.length_singleton] at h8
          have HPar := HP (itA L (i : Int)).f0
          rw [tPath_par H14.out hlt] at HPar
          obtain ⟨q, hq⟩ : ∃ q, q = (pathN L (itA L (i : Int)).f0).length := ⟨_, rfl⟩
          rw [← hq] at h8
          go_upto_region 7 with (first
            | (go_at_call 13; with_reducible refine HP1.mono ?_; rintro e w3 ⟨v3, rfl, hr3, hb3⟩))
          have hb03 : Below w.heap.size w w3 := HB.out.trans (hb3.mono HB.out.size)
          obtain ⟨gs, cs, e3, _, _, _⟩ := Kd.R_form hr3 (by simp)
          rw [List.length_append, List.length_singleton, ← hq] at e3
          obtain ⟨m, hm⟩ : ∃ m, m = q + 1 := ⟨_, rfl⟩
          rw [← hm] at e3
          subst e3
          have hrc : Kd.R Kd.string 9 w3 wr.heap.size (fun _ => True) (.slice (some ⟨gs, 0, none⟩) q cs) (pathN L (itA L (i : Int)).f0) := by
            have := Kd.R_take (m := q) hr3 (by rw [List.length_append, ← hq]; omega)
            rwa [hq, List.take_left, ← hq] at this
          have hc1 := (Kd.R_celln ByteArray.empty hr3 (q : Int) (by omega) (by omega)).1
          rw [Int.toNat_natCast] at hc1
          rw [show rdOf ByteArray.empty (pathN L (itA L (i : Int)).f0 ++ [(itA L (i : Int)).f1]) (q : Int) = (itA L (i : Int)).f1 by
            simp only [rdOf, Int.toNat_natCast]
            rw [List.getD_eq_getElem?_getD, hq, List.getElem?_append_right (Nat.le_refl _)]; simp] at hc1
          obtain ⟨ad, A3, c3, hA, y0, y1, _, _, _, _⟩ := at_T41 (Kd.C_below HC.out hb03) (i : Int) (by omega) hltz
          rw [Int.toNat_natCast] at y0 y1
          subst hA
          have HKeep : ∀ W, Below w3.heap.size w3 W → Below w3.heap.size w3 W ∧ W.cell? ⟨gs, q, none⟩ = some (.string (itA L (i : Int)).f1) ∧ W.cell? (ad.add (i * 4)) = some (.int .i64 (itA L (i : Int)).f0) ∧ W.cell? ⟨(ad.add (i * 4)).block, (ad.add (i * 4)).off + 1, none⟩ = some (.string (itA L (i : Int)).f1) := fun W b =>
            ⟨b, (b.cell (World.block_lt_of_cell? w3 _ hc1)).trans hc1, (b.cell (World.block_lt_of_cell? w3 _ y0)).trans y0, (b.cell (World.block_lt_of_cell? w3 _ y1)).trans y1⟩
          have z0 : ((m : Int) == 0) = false := by rw [beq_eq_false_iff_ne]; omega
          have z8 : decide ((8 : Int) < (m : Int)) = false := decide_eq_false (by omega)
          have hsub : IntKind.i64.wrap ((m : Int) - 1) = (q : Int) := by
            rw [IntKind.wrap_i64]; omega
          have hqm : (q : Int) < (m : Int) := by omega
          have hqm2 : q ≤ m := by omega
          have hqc : q ≤ cs := (Kd.R_reads' hrc).2.1
          have HR3a := hr3
          have HRC := Aside0.mk hrc
          have hqb : (pathN L (itA L (i : Int)).f0).length ≤ 100 := by omega
          rw [← hstep] at HR3a
          have HR3 := Aside0.mk HR3a
          clear hr3 HR3a hrc hc1 y0 y1 HP1 hstep ep hm h8 hq
          go_region_held3 (fun W => Below w3.heap.size w3 W ∧ W.cell? ⟨gs, q, none⟩ = some (.string (itA L (i : Int)).f1) ∧ W.cell? (ad.add (i * 4)) = some (.int .i64 (itA L (i : Int)).f0) ∧ W.cell? ⟨(ad.add (i * 4)).block, (ad.add (i * 4)).off + 1, none⟩ = some (.string (itA L (i : Int)).f1))
            (first | exact HKeep _ (Below.refl _ _) | exact HKeep _ (Below.drew (Below.refl _ _)) | exact HKeep _ hb5 | exact HKeep _ hb4)
            (first
              | (go_at_call 13; (with_reducible refine (HPar _ (hb03.trans ((by first | exact Below.refl _ _ | exact Below.drew (Below.refl _ _) : Below w3.heap.size w3 _).mono hb03.size))).mono ?_); rintro e w4 ⟨v4, rfl, hr4, hb4'⟩; obtain ⟨A4, c4, rfl⟩ := Kd.R_slice hr4; have hb4 : Below w3.heap.size w3 w4 := (by first | exact hb4' | exact (Below.drew (Below.refl _ _)).trans hb4'))
              | (go_at_call 12; (with_reducible refine (same_made (by have := hqb; omega) HRC.out hb4 hr4).mono ?_); rw [decide_eq_true rfl]; rintro e w5 ⟨rfl, hb5'⟩; have hb5 : Below w3.heap.size w3 w5 := hb4.trans (hb5'.mono hb4.size)))
          clear hr4 hb4' hb5' hb4 HKeep HPar hsub hqm hqm2 hqc z0 z8
          go_wp2
          have HB5 := Aside0.mk hb5
          clear hb5
          go_loopg [5] i (fun gg v5 wr => ∃ k : Nat, k ≤ i ∧ i - k ≤ gg ∧ v5 = .int .i64 k ∧ Aside0 (Below w3.heap.size w3 wr))
          case atStart => exact ⟨0, Nat.zero_le _, by omega, rfl, HB5⟩
          case round =>
            clear HB5
            obtain ⟨k, hk, hgk, rfl, HB5⟩ := hrel
            have hb0r : Below w.heap.size w wr := hb03.trans (HB5.out.mono hb03.size)
            by_cases hki : k < i
            · have hkz : (k : Int) < (i : Int) := by omega
              have HPk := HP (k : Int) wr hb0r
              rw [tPath_in H14.out (by omega : k < L.length)] at HPk
              have hne : decide (pathN L (i : Int) = pathN L (k : Int)) = false := decide_eq_false (fun e => by
                have := path_inj q2 _ i k (Nat.le_refl _) hlt (by omega) e
                omega)
              have hpl : (pathN L (i : Int)).length ≤ 100000 := by have := path_len L i; omega
              clear HP
              go_wp2_with (first
                | (go_at_call 13; with_reducible refine HPk.mono ?_; rintro e w6 ⟨v6, rfl, hr6, hb6⟩; obtain ⟨A6, c6, rfl⟩ := Kd.R_slice hr6; have hb36 : Below w3.heap.size w3 w6 := HB5.out.trans (hb6.mono HB5.out.size))
                | (go_at_call 12; (with_reducible refine (same_made hpl HR3.out hb36 hr6).mono ?_); rw [hne]; rintro e w7 ⟨rfl, hb7⟩))
              go_roundg (i - (k + 1))
              case measure => omega
              case rel => exact ⟨k + 1, by omega, by omega, by go_num, ⟨hb36.trans (hb7.mono hb36.size)⟩⟩
            · obtain rfl : k = i := by omega
              clear HP
              go_wp2
              go_roundg (L.length - (k + 1))
              case measure => omega
              case rel => exact ⟨k + 1, by omega, by omega, by go_num, ⟨hb0r⟩⟩
        · obtain rfl : i = L.length := by omega
          have hb := HB.out
          clear HP HB
          go_wp2_with (first | (go_at_call 9; with_reducible refine (awake14_any _).mono ?_; rintro e w4 ⟨rfl, hb4⟩; have hb40 := hb.trans (hb4.mono hb.size)))
          go_ret
          exact ⟨rfl, hb40⟩
end Go.Proofs.Ytlomehhlhbpanaa

/- No two items of a tree have one path; each path is its directory's, and the item's name behind it: TreePaths returns true at every input, and its argument reads as it did. -/
namespace Go.Proofs.Ytlomehhlhbpanaa.treePaths
open Go.ChangeShapes Go.WideShapes Go.ChangeAt Go.RowKit
open Go.ChangeMaps (open_string shut_string)
open Go.Proofs.YtlomehhlhbpanaaW.PrintWords
theorem own : ownKnob Try.prog.godebug = none := by kernel_rfl
theorem laidOut : laidOutB Try.prog = true := by kernel_rfl

set_option maxRecDepth 100000 in
theorem lifted (os : Os) (started : os.Started) (H : Type) (enc : TypeId × Value → H) :
    ReturnsInHanded {} Try.checked os 7 .any (Rows.treePathsSpec.pre6 enc Try.prog Try.f7 Rows.treePathsRow.domain false) (Rows.treePathsSpec.post enc Try.prog Try.f7 false true false false) := by
  refine returnsInHanded_of_change_sized (C := Try.checked) own started (by kernel_rfl) Try.func7
    (ChangeSpec.witness6 (enc := enc) (C := Try.checked) false ⟨#[], #[.slice none 0 0], []⟩ 8 (by kernel_rfl) (by kernel_rfl) (by kernel_rfl) (by kernel_rfl)) ?_
  intro W base args ds gs before hval0 hW _ _ _
  have hval : ∀ (j : Nat) t v, Try.f7.params[j]? = some t → args[j]? = some v → Value.okWide Try.prog W .any base t v := hval0
  have hW' := hW
  obtain ⟨p, q, hA0, hV, rfl, hfz, hnd⟩ := hW
  have hA : DataW.TrodAll enc Try.prog W 0 (fun _ => true) true Try.f7.params.toList args.toList ds p := hA0
  rw [Try.params7] at hA hval
  obtain ⟨v0, vs0, d0, ds0, p0, q0, hargs, rfl, rfl, h0, r0⟩ := trodAll_cons hA
  obtain ⟨rfl, rfl, rfl⟩ := trodAll_nil r0
  obtain rfl : args = #[v0] := by cases args; simp_all
  obtain ⟨rfl, rfl⟩ := trodVars_none hV
  have k0 := h0
  have lt0 : ∀ x ∈ p0, x.block < W.heap.size := by obtain ⟨m, hm⟩ := k0; exact DataW.trod_lt m _ _ _ hm
  obtain ⟨A0, c0, L0, e0, l0, hC0, hw0, _⟩ : ∃ A c L, v0 = .slice A (List.length L) c ∧ L.length ≤ c ∧ Kd.C kIt W A L.length L ∧ WfL L ∧ L.length ≤ maxLen := by
    obtain ⟨fuel, hf⟩ := h0
    obtain ⟨a, len, cap, rfl⟩ := okWide_slice Try.underlying22 (hval 0 22 v0 rfl rfl)
    obtain ⟨A, c, L, hcs, r⟩ := open_items hf
    simp [Value.cells] at hcs
    obtain ⟨rfl, rfl, rfl⟩ := hcs
    exact ⟨_, _, L, rfl, r⟩
  subst e0
  clear hA0 hval0
  refine (treePaths_walk L0 A0 c0 l0 W hC0 hw0).mono fun e W' ⟨he, bel⟩ => ?_
  subst he
  exact ⟨_, rfl, _, _, _, [], _, [], hW', trodAll_mk1 (shut_bool Try.underlying4 _), (trodAll_cons_mk (Below.trod laidOut (by kernel_rfl) (of_decide_eq_true (by kernel_rfl)) k0 bel lt0) trodAll_mk0), rfl, bel.frame _, fun h => by cases h⟩

theorem over : Rows.treePathsRow.holds Try.pinned (OpenSpec.ofChange Rows.treePathsSpec) :=
  OpenClaim.holds_of_wide 7 Try.f7 rfl rfl rfl rfl rfl rfl rfl ⟨rfl, rfl, rfl, rfl, rfl⟩ rfl rfl rfl rfl rfl (by kernel_rfl) Try.func7 (by kernel_rfl)
    (of_decide_eq_true (by kernel_rfl)) (by unfold Func.isWrapper; first | (rw [if_pos (by decide +kernel)]; kernel_rfl) | (rw [if_neg (by decide +kernel)]; exact ⟨rfl, rfl⟩))
    (fun os started H enc _ => lifted os started H enc)
theorem proved : Rows.TreePathsSaid := over
#print axioms proved
end Go.Proofs.Ytlomehhlhbpanaa.treePaths
