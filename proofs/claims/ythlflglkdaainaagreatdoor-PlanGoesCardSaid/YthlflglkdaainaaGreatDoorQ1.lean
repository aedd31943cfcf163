import Derived.Test.YthlflglkdaainaaGreatDoorP8
import Derived.Test.YthlflglkdaainaaGreatDoorP5
import Derived.Test.YthlflglkdaainaaGreatDoorQ0
/- What a plan's first step leaves: pure. -/
set_option maxRecDepth 100000
namespace Go.Proofs.YthlflglkdaainaaGreatDoor.Tr
open Go.RowKit Go.Lib Go.Maps Go.Proofs.YthlflglkdaainaaGreatDoorW.PrintWords Go.Proofs.YthlflglkdaainaaGreatDoorW.PrintLast Go.Proofs.YthlflglkdaainaaGreatDoorW.PrintMore Go.Proofs.YthlflglkdaainaaGreatDoor.Prt

/-! ### sorted steps -/
theorem sortSt_perm (X : List St) : (sortSt X).Perm X := List.mergeSort_perm _ _
theorem ordS_asym {x y : St} (h1 : ordS x y < 0) : ¬ ordS y x < 0 := fun h2 => ordS_irr x (ordS_tr h1 h2)
theorem sortSt_sorted {X : List St} (h : (X.map keyS).Nodup) : (sortSt X).Pairwise (fun x y => ordS x y < 0) := by
  have h1 : (sortSt X).Pairwise (fun x y => (!decide (ordS y x < 0)) = true) := by
    unfold sortSt
    refine List.pairwise_mergeSort (fun a b c h1 h2 => ?_) (fun a b => ?_) X
    · simp only [Bool.not_eq_true', decide_eq_false_iff_not] at *
      intro h3
      by_cases e : a.f0 = b.f0 ∧ a.f1 = b.f1
      · rw [ordS_lt] at h2 h3
        rw [e.1, e.2] at h3
        exact h2 h3
      · exact h2 (ordS_tr h3 (ordS_tri h1 (fun e' => e ⟨e'.1.symm, e'.2.symm⟩)))
    · rw [Bool.or_eq_true]
      by_cases h1 : ordS b a < 0
      · right; simpa using ordS_asym h1
      · left; simpa using h1
  have h2 : ((sortSt X).map keyS).Nodup := ((sortSt_perm X).map keyS).nodup_iff.2 h
  rw [List.nodup_iff_pairwise_ne, List.pairwise_map] at h2
  refine (h1.and h2).imp ?_
  intro a b hab
  have := hab.1
  simp only [Bool.not_eq_true', decide_eq_false_iff_not] at this
  exact ordS_tri this (fun e => hab.2 (by unfold keyS; rw [e.1, e.2]))
theorem sorted_uniq : ∀ {A B : List St}, A.Perm B → A.Pairwise (fun x y => ordS x y < 0) → B.Pairwise (fun x y => ordS x y < 0) → A = B
  | [], B, h, _, _ => (List.nil_perm.1 h).symm
  | a :: A, [], h, _, _ => absurd (List.perm_nil.1 h) (by simp)
  | a :: A, b :: B, h, hA, hB => by
    have e : a = b := by
      rcases List.mem_cons.1 (h.subset List.mem_cons_self) with e | e
      · exact e
      · rcases List.mem_cons.1 (h.symm.subset List.mem_cons_self) with e2 | e2
        · exact e2.symm
        · exact absurd ((List.pairwise_cons.1 hA).1 b e2) (ordS_asym ((List.pairwise_cons.1 hB).1 a e))
    subst e
    rw [sorted_uniq (List.perm_cons a |>.1 h) (List.pairwise_cons.1 hA).2 (List.pairwise_cons.1 hB).2]
/-- Without its first step. -/
theorem sort_rest {X X' : List St} {s : St} {rest : List St} (hn : (X.map keyS).Nodup) (hs : sortSt X = s :: rest) (hp : X.Perm (s :: X')) : sortSt X' = rest := by
  have h1 := sortSt_sorted hn
  rw [hs] at h1
  have h2 : (X'.map keyS).Nodup := by
    have := (hp.map keyS).nodup_iff.1 hn
    rw [List.map_cons, List.nodup_cons] at this
    exact this.2
  have h3 : (s :: rest).Perm X := hs ▸ sortSt_perm X
  exact sorted_uniq ((sortSt_perm X').trans ((List.perm_cons s).1 (h3.trans hp)).symm) (sortSt_sorted h2) (List.pairwise_cons.1 h1).2
theorem sort_head {X : List St} {s : St} {rest : List St} (hn : (X.map keyS).Nodup) (hs : sortSt X = s :: rest) {t : St} (ht : t ∈ X) : ¬ ordS t s < 0 := by
  have h1 := sortSt_sorted hn
  rw [hs] at h1
  rcases List.mem_cons.1 (hs ▸ (sortSt_perm X).symm.subset ht) with e | e
  · rw [e]; exact ordS_irr s
  · exact ordS_asym ((List.pairwise_cons.1 h1).1 t e)
theorem flat_perm {f g : Nat → List St} {s : St} {k : Nat} (h1 : (f k).Perm (s :: g k)) : ∀ {n : Nat}, k < n → (∀ j, j < n → j ≠ k → f j = g j) → ((List.range n).flatMap f).Perm (s :: (List.range n).flatMap g)
  | 0, hk, _ => absurd hk (by omega)
  | n + 1, hk, h2 => by
    rw [List.range_succ, List.flatMap_append, List.flatMap_append, List.flatMap_singleton, List.flatMap_singleton]
    by_cases e : k = n
    · subst e
      have e2 : (List.range k).flatMap f = (List.range k).flatMap g := by
        rw [List.flatMap_def, List.flatMap_def]
        congr 1
        exact List.map_congr_left fun j hj => h2 j (by have := List.mem_range.1 hj; omega) (by have := List.mem_range.1 hj; omega)
      rw [e2]
      exact (h1.append_left _).trans List.perm_middle
    · rw [h2 n (by omega) (fun e' => e e'.symm)]
      exact (flat_perm h1 (show k < n by omega) (fun j hj => h2 j (by omega))).append_right _

/-! ### the steps of what was turned in part -/
theorem st_nodup {L : List It} (h14 : checkN L ≠ 14) : ((stL L L.length).map keyS).Nodup := by
  obtain ⟨_, hd, _⟩ := check_ok h14
  refine nodup_paths (p := fun i => pathN L i) (fun i => ?_) (fun i s hs => ?_) _ List.nodup_range (fun i hi j hj h => path_inj hd L.length i j (by have := List.mem_range.1 hi; omega) (List.mem_range.1 hi) (List.mem_range.1 hj) h)
  · unfold stD stN
    split <;> (try split) <;> (try split) <;> simp [keyS]
  · unfold stD stN at hs
    split at hs <;> (try split at hs) <;> (try split at hs) <;> simp at hs <;> (try (rcases hs with rfl | rfl)) <;> (try subst hs) <;> rfl
theorem st_mem {L : List It} {s : St} (h : s ∈ stL L L.length) : ∃ k, k < L.length ∧ (s ∈ stD L k ∨ s ∈ stN L k) := by
  obtain ⟨k, hk, h2⟩ := List.mem_flatMap.1 h
  exact ⟨k, List.mem_range.1 hk, List.mem_append.1 h2⟩
theorem st_in {L : List It} {s : St} {k : Nat} (hk : k < L.length) (h : s ∈ stD L k ∨ s ∈ stN L k) : s ∈ stL L L.length :=
  List.mem_flatMap.2 ⟨k, List.mem_range.2 hk, List.mem_append.2 h⟩
theorem stD_mem {L : List It} {s : St} {k : Nat} (h : s ∈ stD L k) : s = ⟨false, pathN L k, ⟨#[]⟩⟩ ∧ (itA L k).f2 = false ∧ (jDt (itA L k)).1 ≠ (itA L k).f3 ∧ stD L k = [s] := by
  unfold stD at h ⊢
  by_cases h1 : (itA L (k : Int)).f2 = true
  · rw [if_pos h1] at h; cases h
  · rw [if_neg h1] at h ⊢
    by_cases h2 : (jDt (itA L (k : Int))).1 = (itA L (k : Int)).f3
    · rw [if_pos h2] at h; cases h
    · rw [if_neg h2] at h ⊢
      have := List.mem_singleton.1 h
      exact ⟨this, by simpa using h1, h2, by rw [this]⟩
theorem stN_mem {L : List It} {s : St} {k : Nat} (h : s ∈ stN L k) : s = ⟨true, pathN L k, (jNm L (itA L k)).1⟩ ∧ stN L k = [s] := by
  unfold stN at h ⊢
  split at h
  · cases h
  · rename_i h1
    rw [if_neg h1]
    have := List.mem_singleton.1 h
    exact ⟨this, by rw [this]⟩
section
variable {L M : List It} (h : Half L M) {j : Nat} (hj : j < L.length)
include h hj
theorem stD_half (hp : pathN M j = pathN L j) (h3 : (itA M j).f3 = (itA L j).f3) : stD M j = stD L j := by
  unfold stD
  rw [half_jDt h hj, (h.on j hj).2.1, h3, hp]
theorem stN_half (hp : pathN M j = pathN L j) (h1 : (itA M j).f1 = (itA L j).f1) : stN M j = stN L j := by
  unfold stN
  rw [half_jNm h hj, h1, hp]
theorem stD_done (h3 : (itA M j).f3 = (jDt (itA L j)).1) : stD M j = [] := by
  unfold stD
  rw [half_jDt h hj, h3, if_pos rfl]
  simp
theorem stN_done (h1 : (itA M j).f1 = (jNm L (itA L j)).1) : stN M j = [] := by
  unfold stN
  rw [half_jNm h hj, h1, if_pos (by simp)]
theorem stN_none (he : stN L j = []) (h1 : (itA M j).f1 = (itA L j).f1) : stN M j = [] := by
  unfold stN at he ⊢
  rw [half_jNm h hj, h1]
  split at he
  · rename_i h2; rw [if_pos h2]
  · cases he
end

/-! ### an item's place -/
noncomputable def findT (L : List It) (path : List ByteArray) : Int := if path = [] then -1 else findI L (findP L path)
theorem same_at {L : List It} (h14 : checkN L ≠ 14) {j : Nat} (hj : j < L.length) : sameI L (itA L j) = j := by
  obtain ⟨_, hd, _⟩ := check_ok h14
  simp only [depB, List.all_eq_true, List.mem_range] at hd
  refine findI_some hj (by rw [itA_get hj]; simp) fun x hx => ?_
  obtain ⟨i, hi, rfl⟩ := List.mem_take_iff_getElem.1 hx
  rw [← Bool.not_eq_true, Bool.and_eq_true, decide_eq_true_eq, beq_iff_eq, ← itA_get (show i < L.length by omega)]
  rintro ⟨e0, e1⟩
  exact no_dup (show i < j by omega) hj (hd j hj) e0 (data_inj e1)
theorem path_last {L : List It} (h14 : checkN L ≠ 14) {k : Nat} (hk : k < L.length) : (pathN L k).getD ((pathN L k).length - 1) ByteArray.empty = (itA L k).f1 := by
  rw [path_step (tree_pars h14 hk)]
  simp
theorem find_path {L : List It} (h14 : checkN L ≠ 14) {k : Nat} (hk : k < L.length) : findT L (pathN L k) = k := by
  obtain ⟨_, hd, _⟩ := check_ok h14
  have hp := path_ne (tree_pars h14 hk)
  unfold findT
  rw [if_neg hp]
  have hq : ∀ j : Nat, j < L.length → findP L (pathN L k) (itA L j) = ((itA L j).f1.toList == (itA L k).f1.toList && decide (pathN L j = pathN L k)) := fun j hj => by
    unfold findP
    rw [path_last h14 hk, same_at h14 hj, tPath_in h14 hj]
  refine findI_some hk (by rw [← itA_get hk, hq k hk]; simp) fun x hx => ?_
  obtain ⟨i, hi, rfl⟩ := List.mem_take_iff_getElem.1 hx
  rw [← itA_get (show i < L.length by omega), hq i (by omega), ← Bool.not_eq_true, Bool.and_eq_true, decide_eq_true_eq]
  rintro ⟨_, e⟩
  have := path_inj hd L.length i k (by omega) (by omega) hk e
  omega

/-! ### a step -/
noncomputable def applyT (L : List It) (s : St) : List It × Int :=
  if checkN L = 0 then
    if findT L s.f1 < 0 then ([], 8)
    else if s.f0 then (if checkN (setN L (findT L s.f1).toNat s.f2) = 0 then (setN L (findT L s.f1).toNat s.f2, 0) else ([], 7))
    else if (itA L (findT L s.f1)).f2 then ([], 10)
    else match textB (u8s (itA L (findT L s.f1)).f3) with
      | none => ([], 6)
      | some c => if 8192 < c.length then ([], 5) else (setD L (findT L s.f1).toNat (i8s c), 0)
  else ([], checkN L)
theorem one_step {L : List It} (h0 : checkN L = 0) (hwf : WfL L) {s : St} {rest : List St} (hs : stpT L = s :: rest) : ∃ M, applyT L s = (M, 0) ∧ Half L M ∧ stpT M = rest := by
  have h14 : checkN L ≠ 14 := by rw [h0]; decide
  obtain ⟨_, hd, _⟩ := check_ok h14
  simp only [depB, List.all_eq_true, List.mem_range] at hd
  have hp : ∀ j, j < L.length → parB L j = true := fun j hj => okAt_par (hd j hj)
  have hnd := st_nodup h14
  unfold stpT at hs
  rw [if_pos h0] at hs
  have hin : s ∈ stL L L.length := (sortSt_perm _).subset (hs ▸ List.mem_cons_self)
  have done : ∀ M, Half L M → (stL L L.length).Perm (s :: stL M M.length) → stpT M = rest := fun M hM hpm => by
    unfold stpT
    rw [if_pos (half_check hM h0)]
    exact sort_rest hnd hs hpm
  obtain ⟨k, hk, hm | hm⟩ := st_mem hin
  · obtain ⟨es, e2, e3, e4⟩ := stD_mem hm
    have hM := half_setD hk
    have hp2 : ∀ j, j < L.length → parB (setD L k (jDt (itA L k)).1) j = true := fun j hj => half_par hM hj (hp j hj)
    have f1 : ∀ j : Nat, j < L.length → (itA (setD L k (jDt (itA L k)).1) j).f1 = (itA L j).f1 := fun j hj => by
      unfold setD
      rw [itA_set hk _ j hj]
      split
      · rename_i e; rw [e]
      · rfl
    have f3 : ∀ j : Nat, j < L.length → (itA (setD L k (jDt (itA L k)).1) j).f3 = if j = k then (jDt (itA L k)).1 else (itA L j).f3 := fun j hj => by
      unfold setD
      rw [itA_set hk _ j hj]
      split <;> rfl
    have hpt := path_same hM.len hp hp2 (fun j hj => (hM.on j hj).1) f1
    refine ⟨_, ?_, hM, done _ hM ?_⟩
    · have hx : (itA L k) ∈ L := it_mem' hk
      obtain ⟨_, _, _, hb, _⟩ := hwf _ hx
      have hf : findT L s.f1 = k := by rw [es]; exact find_path h14 hk
      unfold applyT
      rw [if_pos h0, hf, if_neg (by omega), show s.f0 = false by rw [es], if_neg (by decide), if_neg (by rw [e2]; decide)]
      have hj : (jDt (itA L k)).1 = i8s (dOf (u8s (itA L k).f3)).1 := by unfold jDt; rw [if_neg (by rw [e2]; decide)]
      cases ht : textB (u8s (itA L (k : Int)).f3) with
      | none =>
        exfalso
        refine e3 (hj.trans ?_)
        unfold dOf
        rw [ht]
        exact i8s_u8s hb
      | some c =>
        by_cases h1 : 8192 < c.length
        · exfalso
          refine e3 (hj.trans ?_)
          unfold dOf
          rw [ht]
          show i8s (if 8192 < c.length then (u8s (itA L (k : Int)).f3, (5 : Int)) else (c, 0)).1 = _
          rw [if_pos h1]
          exact i8s_u8s hb
        · show (if 8192 < c.length then (([] : List It), (5 : Int)) else (setD L (k : Int).toNat (i8s c), 0)) = _
          rw [if_neg h1]
          have : (jDt (itA L k)).1 = i8s c := by
            rw [hj]
            unfold dOf
            rw [ht]
            show i8s (if 8192 < c.length then (u8s (itA L (k : Int)).f3, (5 : Int)) else (c, 0)).1 = _
            rw [if_neg h1]
          rw [this, Int.toNat_natCast]
    · unfold stL
      rw [hM.len]
      refine flat_perm (k := k) ?_ hk fun j hj hne => ?_
      · rw [e4, stD_done hM hk (by rw [f3 k hk, if_pos rfl]), stN_half hM hk (hpt k hk) (f1 k hk)]
        exact List.Perm.refl _
      · rw [stD_half hM hj (hpt j hj) (by rw [f3 j hj, if_neg hne]), stN_half hM hj (hpt j hj) (f1 j hj)]
  · obtain ⟨es, e4⟩ := stN_mem hm
    have hM := half_setN hk
    have hp2 : ∀ j, j < L.length → parB (setN L k (jNm L (itA L k)).1) j = true := fun j hj => half_par hM hj (hp j hj)
    have f3 : ∀ j : Nat, j < L.length → (itA (setN L k (jNm L (itA L k)).1) j).f3 = (itA L j).f3 := fun j hj => by
      unfold setN
      rw [itA_set hk _ j hj]
      split
      · rename_i e; rw [e]
      · rfl
    have f1 : ∀ j : Nat, j < L.length → (itA (setN L k (jNm L (itA L k)).1) j).f1 = if j = k then (jNm L (itA L k)).1 else (itA L j).f1 := fun j hj => by
      unfold setN
      rw [itA_set hk _ j hj]
      split <;> rfl
    have hpt := path_other hp hp2 (fun j hj => (hM.on j hj).1) (fun j hj hne => by rw [f1 j hj, if_neg hne])
    have noD : ∀ j : Nat, j < L.length → stD L j = [] := fun j hj => by
      cases e : stD L j with
      | nil => rfl
      | cons t r =>
        exfalso
        have ht : t ∈ stD L j := by rw [e]; exact List.mem_cons_self
        refine sort_head hnd hs (st_in hj (.inl ht)) ?_
        rw [ordS_lt, (stD_mem ht).1, es]
        exact .inl ⟨rfl, rfl⟩
    have noD2 : ∀ j : Nat, j < L.length → stD (setN L k (jNm L (itA L k)).1) j = [] := fun j hj => by
      have := noD j hj
      unfold stD at this ⊢
      rw [half_jDt hM hj, (hM.on j hj).2.1, f3 j hj]
      split
      · rfl
      · rename_i q1
        rw [if_neg q1] at this
        split
        · rfl
        · rename_i q2
          rw [if_neg q2] at this
          cases this
    refine ⟨_, ?_, hM, done _ hM ?_⟩
    · have hf : findT L s.f1 = k := by rw [es]; exact find_path h14 hk
      unfold applyT
      rw [if_pos h0, hf, if_neg (by omega), show s.f0 = true by rw [es], if_pos rfl, Int.toNat_natCast, show s.f2 = (jNm L (itA L k)).1 by rw [es], if_pos (half_check hM h0)]
    · unfold stL
      rw [hM.len]
      refine flat_perm (k := k) ?_ hk fun j hj hne => ?_
      · rw [noD k hk, noD2 k hk, e4, stN_done hM hk (by rw [f1 k hk, if_pos rfl])]
        exact List.Perm.refl _
      · rw [noD j hj, noD2 j hj, List.nil_append, List.nil_append]
        have q1 : (itA (setN L k (jNm L (itA L k)).1) j).f1 = (itA L j).f1 := by rw [f1 j hj, if_neg hne]
        rcases hpt j hj with e | ⟨r, e⟩
        · exact (stN_half hM hj e q1).symm
        · have hr : r ≠ [] := fun er => by
            rw [er, List.append_nil] at e
            exact hne (path_inj (check_ok h14).2.1 L.length j k (by omega) hj hk e)
          have hno : stN L j = [] := by
            cases en : stN L j with
            | nil => rfl
            | cons t u =>
              exfalso
              have ht : t ∈ stN L j := by rw [en]; exact List.mem_cons_self
              refine sort_head hnd hs (st_in hj (.inr ht)) ?_
              rw [ordS_lt, (stN_mem ht).1, es]
              refine .inr ⟨rfl, ?_⟩
              show lessB true (pathN L j) (pathN L k) = true
              rw [lessB_true]
              left
              rw [e, List.length_append]
              have : 0 < r.length := List.length_pos_iff.2 hr
              omega
          rw [hno, stN_none hM hj hno q1]

/-! ### some steps -/
noncomputable def runT : List It → List St → List It × Int
  | L, [] => (L, 0)
  | L, s :: r => if (applyT L s).2 = 0 then runT (applyT L s).1 r else ([], (applyT L s).2)
noncomputable def allT (L : List It) (S : List St) : List It × Int := if checkN L = 0 then runT L S else ([], checkN L)
theorem run_take : ∀ (k : Nat) {L : List It}, checkN L = 0 → WfL L → k ≤ (stpT L).length → ∃ M, runT L ((stpT L).take k) = (M, 0) ∧ stpT M = (stpT L).drop k ∧ turnL M = turnL L ∧ checkN M = 0 ∧ WfL M ∧ M.length = L.length
  | 0, L, h0, hwf, _ => ⟨L, rfl, rfl, rfl, h0, hwf, rfl⟩
  | k + 1, L, h0, hwf, hk => by
    cases hs : stpT L with
    | nil => rw [hs] at hk; exact absurd hk (by simp)
    | cons s r =>
      rw [hs, List.length_cons] at hk
      obtain ⟨M, e1, hM, e2⟩ := one_step h0 hwf hs
      obtain ⟨M', a1, a2, a3, a4, a5, a6⟩ := run_take k (half_check hM h0) (half_wf hM h0 hwf) (by rw [e2]; omega)
      rw [e2] at a1 a2
      refine ⟨M', ?_, a2, a3.trans (half_turn hM), a4, a5, a6.trans hM.len⟩
      rw [List.take_succ_cons]
      unfold runT
      rw [e1]
      exact a1
/-- No steps: it is what it is to become. -/
theorem no_steps {M : List It} (h0 : checkN M = 0) (hs : stpT M = []) : turnL M = M := by
  unfold stpT at hs
  rw [if_pos h0] at hs
  have hnil : stL M M.length = [] := by
    have := sortSt_perm (stL M M.length)
    rw [hs] at this
    exact List.nil_perm.1 this
  obtain ⟨_, _, h3⟩ := check_ok (show checkN M ≠ 14 by rw [h0]; decide)
  rw [List.all_eq_true] at h3
  refine it_ext (turn_len M) fun j hj => ?_
  have hD : stD M j = [] ∧ stN M j = [] := by
    constructor
    · cases e : stD M j with
      | nil => rfl
      | cons t r => exact absurd (st_in hj (.inl (by rw [e]; exact List.mem_cons_self))) (by rw [hnil]; simp)
    · cases e : stN M j with
      | nil => rfl
      | cons t r => exact absurd (st_in hj (.inr (by rw [e]; exact List.mem_cons_self))) (by rw [hnil]; simp)
  rw [turn_at hj]
  unfold turnI
  have e1 : (jNm M (itA M j)).1 = (itA M j).f1 := by
    have := hD.2
    unfold stN at this
    split at this
    · rename_i q; exact data_inj (by simpa using q)
    · cases this
  have e3 : (jDt (itA M j)).1 = (itA M j).f3 := by
    have hd := hD.1
    unfold stD at hd
    split at hd
    · rename_i q
      have hr := h3 _ (it_mem' hj)
      unfold rightB at hr
      rw [Bool.and_eq_true, q] at hr
      have := hr.2
      unfold jDt
      rw [if_pos q]
      simp at this
      exact this.symm
    · split at hd
      · rename_i q; exact q
      · cases hd
  rw [e1, e3]
theorem steps_none {M : List It} (ht : turnL M = M) : stpT M = [] := by
  unfold stpT
  by_cases h0 : checkN M = 0
  · rw [if_pos h0]
    have hnil : stL M M.length = [] := by
      cases e : stL M M.length with
      | nil => rfl
      | cons t r =>
        exfalso
        obtain ⟨k, hk, hm⟩ := st_mem (L := M) (s := t) (by rw [e]; exact List.mem_cons_self)
        have hq := turn_at (L := M) hk
        rw [ht] at hq
        have e1 : (itA M k).f1 = (jNm M (itA M k)).1 := congrArg S53.f1 hq
        have e3 : (itA M k).f3 = (jDt (itA M k)).1 := congrArg S53.f3 hq
        rcases hm with hm | hm
        · exact (stD_mem hm).2.2.1 e3.symm
        · unfold stN at hm
          rw [if_pos (by rw [← e1]; simp)] at hm
          cases hm
    rw [hnil]
    simp [sortSt]
  · rw [if_neg h0]
end Go.Proofs.YthlflglkdaainaaGreatDoor.Tr
