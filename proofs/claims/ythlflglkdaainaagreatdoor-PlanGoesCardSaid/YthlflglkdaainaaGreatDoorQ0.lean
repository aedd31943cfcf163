import Derived.Test.YthlflglkdaainaaGreatDoorPY
/- A tree that was turned in part: it is a tree, and becomes the same. -/
set_option maxRecDepth 100000
namespace Go.Proofs.YthlflglkdaainaaGreatDoor.Tr
open Go.RowKit Go.Lib

/-- M is L, some names and some data of which have been turned. -/
structure Half (L M : List It) : Prop where
  len : M.length = L.length
  on : ∀ j : Nat, j < L.length → (itA M j).f0 = (itA L j).f0 ∧ (itA M j).f2 = (itA L j).f2 ∧ ((itA M j).f1 = (itA L j).f1 ∨ (itA M j).f1 = (jNm L (itA L j)).1) ∧ ((itA M j).f3 = (itA L j).f3 ∨ (itA M j).f3 = (jDt (itA L j)).1)

theorem it_ext {L M : List It} (hl : M.length = L.length) (h : ∀ j : Nat, j < L.length → itA M j = itA L j) : M = L := by
  apply List.ext_getElem hl
  intro j h1 h2
  rw [← itA_get h1, ← itA_get h2]
  exact h j h2
theorem it_mem {L : List It} {x : It} (h : x ∈ L) : ∃ j : Nat, j < L.length ∧ x = itA L j := by
  obtain ⟨j, hj, rfl⟩ := List.mem_iff_getElem.1 h
  exact ⟨j, hj, (itA_get hj).symm⟩
theorem it_mem' {L : List It} {j : Nat} (h : j < L.length) : itA L j ∈ L := by
  rw [itA_get h]; exact List.getElem_mem h

section
variable {L M : List It} (h : Half L M)
include h

theorem half_nm {j : Nat} (hj : j < L.length) : cmB (itA M j) = cmB (itA L j) := by
  obtain ⟨_, _, e | e, _⟩ := h.on j hj
  · unfold cmB; rw [e]
  · rw [← turn_nm L (itA L j)]
    show textB (itA M j).f1.data.toList = textB (jNm L (itA L j)).1.data.toList
    rw [e]
theorem half_cnt : ∀ n : Nat, n ≤ L.length → ∀ p c, cntN M n p c = cntN L n p c
  | 0, _, p, c => by simp [cntN]
  | n + 1, hn, p, c => by
    rw [cnt_snoc (L := M) (by rw [h.len]; omega), cnt_snoc (L := L) (by omega), half_cnt n (by omega), half_nm h (show n < L.length by omega), (h.on n (by omega)).1]
theorem half_jNm {j : Nat} (hj : j < L.length) : jNm M (itA M j) = jNm L (itA L j) := by
  obtain ⟨e0, _, e1, _⟩ := h.on j hj
  have hc := half_nm h hj
  have hn : ∀ c, cntN M M.length (itA M j).f0 c = cntN L L.length (itA L j).f0 c := fun c => by rw [h.len, e0]; exact half_cnt h _ (Nat.le_refl _) _ _
  have key : (jNm L (itA L j)).1 = (itA L j).f1 → (itA M j).f1 = (itA L j).f1 := fun hw => by
    rcases e1 with e | e
    · exact e
    · rw [e, hw]
  unfold jNm at key ⊢
  rw [hc]
  cases hcm : cmB (itA L j) with
  | none =>
    rw [hcm] at key
    show ((itA M j).f1, (1 : Int)) = ((itA L j).f1, 1)
    rw [key rfl]
  | some c =>
    rw [hcm] at key
    replace key : (if 48 < c.length then ((itA L j).f1, (3 : Int)) else if 1 < cntN L L.length (itA L j).f0 c then ((itA L j).f1, 2) else (strB c, 0)).1 = (itA L j).f1 → (itA M j).f1 = (itA L j).f1 := key
    show (if 48 < c.length then ((itA M j).f1, (3 : Int)) else if 1 < cntN M M.length (itA M j).f0 c then ((itA M j).f1, 2) else (strB c, 0)) = (if 48 < c.length then ((itA L j).f1, (3 : Int)) else if 1 < cntN L L.length (itA L j).f0 c then ((itA L j).f1, 2) else (strB c, 0))
    rw [hn c]
    by_cases h1 : 48 < c.length
    · rw [if_pos h1] at key
      rw [if_pos h1, if_pos h1, key rfl]
    · rw [if_neg h1] at key
      rw [if_neg h1, if_neg h1]
      by_cases h2 : 1 < cntN L L.length (itA L j).f0 c
      · rw [if_pos h2] at key
        rw [if_pos h2, if_pos h2, key rfl]
      · rw [if_neg h2, if_neg h2]
theorem half_jDt {j : Nat} (hj : j < L.length) : jDt (itA M j) = jDt (itA L j) := by
  obtain ⟨_, e2, _, e | e⟩ := h.on j hj
  · unfold jDt; rw [e2, e]
  · rw [← turn_data L (itA L j)]
    unfold jDt
    show _ = if (itA L j).f2 = true then _ else (i8s (dOf (u8s (jDt (itA L j)).1)).1, (dOf (u8s (jDt (itA L j)).1)).2)
    rw [e2, e]
theorem half_turn : turnL M = turnL L := by
  refine it_ext (by rw [turn_len, turn_len, h.len]) fun j hj => ?_
  rw [turn_len] at hj
  rw [turn_at (by rw [h.len]; exact hj), turn_at hj]
  unfold turnI
  rw [half_jNm h hj, half_jDt h hj, (h.on j hj).1, (h.on j hj).2.1]
theorem half_right {j : Nat} (hj : j < L.length) (hr : rightB (itA L j) = true) : rightB (itA M j) = true := by
  obtain ⟨_, e2, e1, e3⟩ := h.on j hj
  have ht := turn_right (L := L) hr
  unfold rightB at hr ht ⊢
  rw [Bool.and_eq_true] at hr ht ⊢
  refine ⟨?_, ?_⟩
  · rcases e1 with e | e
    · rw [e]; exact hr.1
    · rw [e]; exact ht.1
  · rw [e2]
    rcases e3 with e | e
    · rw [e]; exact hr.2
    · rw [e]; exact ht.2
theorem half_res {j : Nat} (hj : j < L.length) (hr : resB (itA L j).f1 = false) : resB (itA M j).f1 = false := by
  obtain ⟨_, _, e | e, _⟩ := h.on j hj
  · rw [e]; exact hr
  · rw [e]; exact turn_res (L := L) hr
theorem half_par {i : Nat} (hi : i < L.length) (hp : parB L i = true) : parB M i = true := by
  obtain ⟨h1, h2⟩ := par_ok hp
  have e0 := (h.on i hi).1
  unfold parB at hp ⊢
  rw [e0]
  by_cases h3 : (itA L (i : Int)).f0 = -1
  · simp [h3] at hp ⊢
    omega
  · obtain ⟨p, hq⟩ : ∃ p : Nat, (itA L (i : Int)).f0 = p := ⟨(itA L (i : Int)).f0.toNat, by omega⟩
    rw [hq] at hp h2 ⊢
    rw [(h.on p (by omega)).2.1]
    exact hp
theorem half_dep (hp : ∀ j, j < L.length → parB L j = true) : ∀ i, i < L.length → dep M i = dep L i := by
  intro i
  induction i using Nat.strongRecOn with
  | _ i ih =>
    intro hi
    have e0 := (h.on i hi).1
    obtain ⟨h1, h2⟩ := par_ok (hp i hi)
    by_cases h3 : (itA L (i : Int)).f0 = -1
    · rw [dep_one h3, dep_one (e0.trans h3)]
    · obtain ⟨p, hq⟩ : ∃ p : Nat, (itA L (i : Int)).f0 = p := ⟨(itA L (i : Int)).f0.toNat, by omega⟩
      rw [dep_step hq (by omega) (fun j hj => hp j (by omega)), dep_step (e0.trans hq) (by omega) (fun j hj => half_par h (by omega) (hp j (by omega))), ih p (by omega) (by omega)]
theorem half_dup {i j : Nat} (hij : j < i) (hi : i < L.length) (ho : okAtB L i = true) (h0 : (itA L j).f0 = (itA L i).f0) : (itA M j).f1 ≠ (itA M i).f1 := by
  intro he
  have e1 : cmB (itA L j) = cmB (itA L i) := by
    rw [← half_nm h (show j < L.length by omega), ← half_nm h hi]
    unfold cmB; rw [he]
  have hown : ∀ c, cmB (itA L j) = some c → 1 < cntN L L.length (itA L i).f0 c := fun c hc => by
    rw [← h0]
    exact cnt_two (show j < L.length by omega) hi (by omega) hc (e1 ▸ hc) h0
  have same : ∀ k : Nat, k < L.length → (k = j ∨ k = i) → (itA M k).f1 = (itA L k).f1 := fun k hk hkk => by
    obtain ⟨_, _, e | e, _⟩ := h.on k hk
    · exact e
    · rcases jNm_own L (itA L k) with a | ⟨c, a1, _, a2, _⟩
      · rw [e, a]
      · exfalso
        rcases hkk with rfl | rfl
        · exact a2 (h0 ▸ hown c a1)
        · exact a2 (hown c (e1.trans a1))
  rw [same j (by omega) (.inl rfl), same i hi (.inr rfl)] at he
  exact no_dup hij hi ho h0 he
theorem half_ok (hd : depB L = true) : depB M = true := by
  simp only [depB, List.all_eq_true, List.mem_range] at hd
  have hp : ∀ j, j < L.length → parB L j = true := fun j hj => okAt_par (hd j hj)
  refine depB_true fun i hi => ?_
  rw [h.len] at hi
  have ho := hd i hi
  have e0 := (h.on i hi).1
  have hdp := half_dep h hp i hi
  simp only [okAtB, Bool.and_eq_true, Bool.not_eq_true', decide_eq_true_eq] at ho ⊢
  refine ⟨⟨half_par h hi ho.1.1, by rw [hdp]; exact ho.1.2⟩, ?_⟩
  rw [← Bool.not_eq_true]
  intro hdup
  unfold dupB at hdup
  obtain ⟨x, hx, hx2⟩ := List.any_eq_true.1 hdup
  obtain ⟨j, hj, rfl⟩ := List.mem_take_iff_getElem.1 hx
  have hji : j < i := by omega
  rw [← itA_get (L := M) (by rw [h.len]; omega), Bool.and_eq_true, decide_eq_true_eq, beq_iff_eq, e0, (h.on j (by omega)).1] at hx2
  exact half_dup h hji hi (hd i hi) hx2.1 (data_inj hx2.2)
theorem half_check (h0 : checkN L = 0) : checkN M = 0 := by
  obtain ⟨h1, h2, h3⟩ := check_ok (show checkN L ≠ 14 by rw [h0]; decide)
  have h4 : L.any (fun x => resB x.f1) = false := by
    rw [← Bool.not_eq_true]
    intro hr
    unfold checkN at h0
    rw [if_neg (by omega)] at h0
    split at h0
    · cases h0
    · first | cases h0 | (rw [if_pos hr] at h0; cases h0)
  rw [List.all_eq_true] at h3
  rw [List.any_eq_false] at h4
  have hl := h.len
  unfold checkN
  rw [hl, if_neg (by omega), if_neg, if_neg]
  · rw [Bool.not_eq_true, List.any_eq_false]
    intro x hx
    obtain ⟨j, hj, rfl⟩ := it_mem hx
    rw [half_res h (by omega) (by simpa using h4 _ (it_mem' (L := L) (j := j) (by omega)))]; decide
  · rw [half_ok h h2, Bool.not_true, Bool.false_or, Bool.not_eq_true, List.any_eq_false]
    intro x hx
    obtain ⟨j, hj, rfl⟩ := it_mem hx
    rw [half_right h (by omega) (h3 _ (it_mem' (by omega)))]; decide
theorem half_wf (h0 : checkN L = 0) (hwf : WfL L) : WfL M := by
  have ht := turn_wf hwf h0
  have hl := h.len
  intro x hx
  obtain ⟨j, hj, rfl⟩ := it_mem hx
  have hj' : j < L.length := by omega
  obtain ⟨a1, a2, a3, a4, a5⟩ := hwf _ (it_mem' hj')
  have hq := ht _ (it_mem' (L := turnL L) (j := j) (by rw [turn_len]; exact hj'))
  rw [turn_at hj'] at hq
  obtain ⟨_, _, b3, b4, b5⟩ := hq
  obtain ⟨e0, e2, e1, e3⟩ := h.on j hj'
  refine ⟨by rw [e0]; exact a1, by rw [e0]; exact a2, ?_, ?_, ?_⟩
  · rcases e1 with e | e
    · rw [e]; exact a3
    · rw [e]; exact b3
  · rcases e3 with e | e
    · rw [e]; exact a4
    · rw [e]; exact b4
  · rcases e3 with e | e
    · rw [e]; exact a5
    · rw [e]; exact b5
end

/-! ### one item -/
theorem itA_set {L : List It} {k : Nat} (hk : k < L.length) (x : It) (j : Nat) (hj : j < L.length) : itA (L.set k x) j = if j = k then x else itA L j := by
  rw [itA_get (by rw [List.length_set]; exact hj), itA_get hj, List.getElem_set]
  by_cases e : k = j
  · rw [if_pos e, if_pos e.symm]
  · rw [if_neg e, if_neg (fun h => e h.symm)]
/-- L with one item's name, or with one item's data. -/
def setN (L : List It) (k : Nat) (s : ByteArray) : List It := L.set k ⟨(itA L k).f0, s, (itA L k).f2, (itA L k).f3⟩
def setD (L : List It) (k : Nat) (d : List Int) : List It := L.set k ⟨(itA L k).f0, (itA L k).f1, (itA L k).f2, d⟩
theorem half_setN {L : List It} {k : Nat} (hk : k < L.length) : Half L (setN L k (jNm L (itA L k)).1) := by
  refine ⟨List.length_set, fun j hj => ?_⟩
  unfold setN
  rw [itA_set hk _ j hj]
  by_cases e : j = k
  · subst e
    rw [if_pos rfl]
    exact ⟨rfl, rfl, .inr rfl, .inl rfl⟩
  · rw [if_neg e]
    exact ⟨rfl, rfl, .inl rfl, .inl rfl⟩
theorem half_setD {L : List It} {k : Nat} (hk : k < L.length) : Half L (setD L k (jDt (itA L k)).1) := by
  refine ⟨List.length_set, fun j hj => ?_⟩
  unfold setD
  rw [itA_set hk _ j hj]
  by_cases e : j = k
  · subst e
    rw [if_pos rfl]
    exact ⟨rfl, rfl, .inl rfl, .inr rfl⟩
  · rw [if_neg e]
    exact ⟨rfl, rfl, .inl rfl, .inl rfl⟩

/-! ### its paths -/
theorem path_same {L M : List It} (hl : M.length = L.length) (hp : ∀ j, j < L.length → parB L j = true) (hp2 : ∀ j, j < L.length → parB M j = true) (h0 : ∀ j : Nat, j < L.length → (itA M j).f0 = (itA L j).f0) (h1 : ∀ j : Nat, j < L.length → (itA M j).f1 = (itA L j).f1) :
    ∀ j : Nat, j < L.length → pathN M j = pathN L j := by
  intro i
  induction i using Nat.strongRecOn with
  | _ i ih =>
    intro hi
    obtain ⟨a1, a2⟩ := par_ok (hp i hi)
    rw [path_step (fun j hj => hp2 j (by omega)), path_step (fun j hj => hp j (by omega)), h0 i hi, h1 i hi]
    by_cases h3 : (itA L (i : Int)).f0 = -1
    · rw [h3, path_top, path_top]
    · obtain ⟨p, hq⟩ : ∃ p : Nat, (itA L (i : Int)).f0 = p := ⟨(itA L (i : Int)).f0.toNat, by omega⟩
      rw [hq, ih p (by omega) (by omega)]
/-- One name is another: only the paths through that item are. -/
theorem path_other {L M : List It} {k : Nat} (hp : ∀ j, j < L.length → parB L j = true) (hp2 : ∀ j, j < L.length → parB M j = true) (h0 : ∀ j : Nat, j < L.length → (itA M j).f0 = (itA L j).f0) (h1 : ∀ j : Nat, j < L.length → j ≠ k → (itA M j).f1 = (itA L j).f1) :
    ∀ j : Nat, j < L.length → pathN M j = pathN L j ∨ ∃ r, pathN L j = pathN L k ++ r := by
  intro i
  induction i using Nat.strongRecOn with
  | _ i ih =>
    intro hi
    by_cases e : i = k
    · subst e
      exact .inr ⟨[], by simp⟩
    · obtain ⟨a1, a2⟩ := par_ok (hp i hi)
      rw [path_step (i := i) (L := M) (fun j hj => hp2 j (by omega)), path_step (i := i) (L := L) (fun j hj => hp j (by omega)), h0 i hi, h1 i hi e]
      by_cases h3 : (itA L (i : Int)).f0 = -1
      · rw [h3, path_top, path_top]
        exact .inl rfl
      · obtain ⟨p, hq⟩ : ∃ p : Nat, (itA L (i : Int)).f0 = p := ⟨(itA L (i : Int)).f0.toNat, by omega⟩
        rw [hq]
        rcases ih p (by omega) (by omega) with a | ⟨r, a⟩
        · rw [a]; exact .inl rfl
        · rw [a, List.append_assoc]
          exact .inr ⟨_, rfl⟩
end Go.Proofs.YthlflglkdaainaaGreatDoor.Tr
