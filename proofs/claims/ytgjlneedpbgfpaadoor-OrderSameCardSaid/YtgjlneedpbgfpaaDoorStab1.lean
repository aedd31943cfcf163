import Derived.Test.YtgjlneedpbgfpaaDoorStab0
/- SymMerge merges: two sorted runs become one. -/
namespace Go.Proofs.YtgjlneedpbgfpaaDoor
open Go.Sort

section
variable {α : Type} [Inhabited α]

theorem shUp_spec (A B : Nat) : ∀ (t k i : Nat) (d : Array α), i - k = t → A ≤ k → i ≤ B → B ≤ d.size →
    PermIn A B d (shUp k i d) ∧ ∀ x, (shUp k i d)[x]! = if k ≤ x ∧ x + 1 < i then d[x + 1]! else if x + 1 = i ∧ k < i then d[k]! else d[x]!
  | 0, k, i, d, h, hA, hB, hs => by
    rw [shUp, if_neg (by omega)]
    exact ⟨permIn_refl _ _ _, fun x => by rw [if_neg (by omega), if_neg (by omega)]⟩
  | t + 1, k, i, d, h, hA, hB, hs => by
    rw [shUp]
    by_cases hk : k + 1 < i
    · rw [if_pos hk]
      have hl := swp_left d k (k + 1) (by omega) (by omega)
      have hr := swp_right d k (k + 1) (by omega)
      have ho := fun x h1 h2 => swp_other d k (k + 1) x h1 h2
      obtain ⟨h1, h2⟩ := shUp_spec A B t (k + 1) i (swp d k (k + 1)) (by omega) (by omega) hB (by rw [size_swp]; exact hs)
      refine ⟨permIn_trans _ _ _ A B (swp_permIn d A B k (k + 1) hA (by omega) (by omega) (by omega) hs) h1, fun x => ?_⟩
      rw [h2 x]
      by_cases x1 : x = k
      · subst x1; rw [if_neg (by omega), if_neg (by omega), if_pos (by omega), hl]
      · by_cases x2 : k + 1 ≤ x ∧ x + 1 < i
        · rw [if_pos x2, if_pos (by omega), ho _ (by omega) (by omega)]
        · by_cases x3 : x + 1 = i
          · rw [if_neg x2, if_pos (by omega), if_neg (by omega), if_pos (by omega), hr]
          · rw [if_neg x2, if_neg (by omega), if_neg (by omega), if_neg (by omega), ho _ x1 (by omega)]
    · rw [if_neg hk]
      exact ⟨permIn_refl _ _ _, fun x => by
        rw [if_neg (by omega)]
        by_cases hx : x + 1 = i ∧ k < i
        · rw [if_pos hx]; exact getE _ (by omega)
        · rw [if_neg hx]⟩

theorem shDn_spec (A B i : Nat) (hA : A ≤ i) : ∀ (k : Nat) (d : Array α), i ≤ k → k < B → B ≤ d.size →
    PermIn A B d (shDn i k d) ∧ ∀ x, (shDn i k d)[x]! = if x = i then d[k]! else if i < x ∧ x ≤ k then d[x - 1]! else d[x]!
  | 0, d, h, hB, hs => by
    unfold shDn
    exact ⟨permIn_refl _ _ _, fun x => by
      by_cases hx : x = i
      · rw [if_pos hx]; exact getE _ (by omega)
      · rw [if_neg hx, if_neg (by omega)]⟩
  | k + 1, d, h, hB, hs => by
    unfold shDn
    by_cases hk : i < k + 1
    · rw [if_pos hk]
      have hl := swp_left d (k + 1) k (by omega) (by omega)
      have hr := swp_right d (k + 1) k (by omega)
      have ho := fun x h1 h2 => swp_other d (k + 1) k x h1 h2
      obtain ⟨h1, h2⟩ := shDn_spec A B i hA k (swp d (k + 1) k) (by omega) (by omega) (by rw [size_swp]; exact hs)
      refine ⟨permIn_trans _ _ _ A B (swp_permIn d A B (k + 1) k (by omega) (by omega) (by omega) (by omega) hs) h1, fun x => ?_⟩
      rw [h2 x]
      by_cases x1 : x = i
      · rw [if_pos x1, if_pos x1, hr]
      · by_cases x2 : i < x ∧ x ≤ k
        · rw [if_neg x1, if_pos x2, if_neg x1, if_pos (by omega), ho _ (by omega) (by omega)]
        · by_cases x3 : x = k + 1
          · rw [if_neg x1, if_neg x2, if_neg x1, if_pos (by omega), x3, hl]; exact getE _ (by omega)
          · rw [if_neg x1, if_neg x2, if_neg x1, if_neg (by omega), ho _ x3 (by omega)]
    · rw [if_neg hk]
      exact ⟨permIn_refl _ _ _, fun x => by
        by_cases hx : x = i
        · rw [if_pos hx]; exact getE _ (by omega)
        · rw [if_neg hx, if_neg (by omega)]⟩

theorem rotG_spec (A B m i j : Nat) (d : Array α) (hA : A + i ≤ m) (hB : m + j ≤ B) (hs : B ≤ d.size) :
    PermIn A B d (if 0 < i ∧ 0 < j then rot m i j d else d) ∧ ∀ k, (if 0 < i ∧ 0 < j then rot m i j d else d)[k]! = if m - i ≤ k ∧ k < m - i + j then d[k + i]! else if m - i + j ≤ k ∧ k < m + j then d[k - j]! else d[k]! := by
  by_cases h : 0 < i ∧ 0 < j
  · rw [if_pos h]
    exact rot_spec m A B _ i j d rfl h.1 h.2 hA hB hs
  · rw [if_neg h]
    refine ⟨permIn_refl _ _ _, fun k => ?_⟩
    by_cases h1 : m - i ≤ k ∧ k < m - i + j
    · rw [if_pos h1]; exact getE _ (by omega)
    · by_cases h2 : m - i + j ≤ k ∧ k < m + j
      · rw [if_neg h1, if_pos h2]; exact getE _ (by omega)
      · rw [if_neg h1, if_neg h2]

/-- What symMerge is told of its two runs. -/
structure Runs (lt lt' : α → α → Bool) (a m b : Nat) (d : Array α) : Prop where
  left : SortedIn lt' a m d
  right : SortedIn lt' m b d
  agree : ∀ i j, a ≤ i → i < m → m ≤ j → j < b → lt d[j]! d[i]! = lt' d[j]! d[i]!

theorem sorted_join {lt' : α → α → Bool} {a c b : Nat} {d : Array α} (h1 : SortedIn lt' a c d) (h2 : SortedIn lt' c b d) (h3 : ∀ i j, a ≤ i → i < c → c ≤ j → j < b → lt' d[j]! d[i]! = false) : SortedIn lt' a b d := by
  intro i j hi hij hj
  by_cases h : j < c
  · exact h1 i j hi hij h
  · by_cases h' : c ≤ i
    · exact h2 i j h' hij hj
    · exact h3 i j hi (by omega) (by omega) hj

theorem symMerge_spec (lt lt' : α → α → Bool) (hT : SWO lt') : ∀ (f a m b : Nat) (d : Array α), b - a ≤ f → a < m → m < b → b ≤ d.size → Runs lt lt' a m b d →
    PermIn a b d (symMerge lt f a m b d) ∧ SortedIn lt' a b (symMerge lt f a m b d) := by
  intro f
  induction f with
  | zero => intro a m b d hf h1 h2; omega
  | succ f ih =>
    intro a m b d hf ham hmb hs hR
    have hle : ∀ i j, a ≤ i → i ≤ j → j < m → lt' d[j]! d[i]! = false := fun i j h1 h2 h3 => by
      rcases Nat.lt_or_eq_of_le h2 with h | h
      · exact hR.left i j h1 h h3
      · rw [h]; exact hT.irrefl _
    have hre : ∀ i j, m ≤ i → i ≤ j → j < b → lt' d[j]! d[i]! = false := fun i j h1 h2 h3 => by
      rcases Nat.lt_or_eq_of_le h2 with h | h
      · exact hR.right i j h1 h h3
      · rw [h]; exact hT.irrefl _
    rw [symMerge]
    by_cases hm1 : m - a = 1
    · rw [if_pos hm1]
      obtain ⟨q1, q2, q3, q4⟩ := bs_spec (fun h => lt d[h]! d[a]!) (b - m) m b rfl (by omega)
      obtain ⟨i, hi⟩ : ∃ i, bs (fun h => lt d[h]! d[a]!) m b = i := ⟨_, rfl⟩
      rw [hi] at q1 q2 q3 q4 ⊢
      obtain ⟨hp, hg⟩ := shUp_spec a b (i - a) a i d rfl (Nat.le_refl _) q2 hs
      refine ⟨hp, fun x y hx hxy hy => ?_⟩
      -- all of [m, i) are below d[a], all of [i, b) are not
      have hlo : ∀ z, m ≤ z → z < i → lt' d[z]! d[a]! = true := fun z h1 h2 => by
        rcases q3 with q3 | q3
        · omega
        · have e1 : lt' d[i - 1]! d[a]! = true := by rw [← hR.agree a (i - 1) (Nat.le_refl _) ham (by omega) (by omega)]; exact q3
          by_cases hz : z = i - 1
          · rw [hz]; exact e1
          · have e2 := hre z (i - 1) h1 (by omega) (by omega)
            cases hc : lt' d[z]! d[a]! with
            | true => rfl
            | false =>
              have := hT.ntrans _ _ _ e2 hc
              rw [e1] at this; cases this
      have hhi : ∀ z, i ≤ z → z < b → lt' d[z]! d[a]! = false := fun z h1 h2 => by
        rcases q4 with q4 | q4
        · omega
        · have e1 : lt' d[i]! d[a]! = false := by rw [← hR.agree a i (Nat.le_refl _) ham (by omega) (by omega)]; exact q4
          exact hT.ntrans _ _ _ (hre i z (by omega) h1 h2) e1
      have f1 : ∀ z, a ≤ z → z + 1 < i → (shUp a i d)[z]! = d[z + 1]! := fun z h1 h2 => by rw [hg z, if_pos (by omega)]
      have f2 : ∀ z, z + 1 = i → (shUp a i d)[z]! = d[a]! := fun z h1 => by rw [hg z, if_neg (by omega), if_pos (by omega)]
      have f3 : ∀ z, i ≤ z → (shUp a i d)[z]! = d[z]! := fun z h1 => by rw [hg z, if_neg (by omega), if_neg (by omega)]
      by_cases x1 : x + 1 < i
      · rw [f1 x hx x1]
        by_cases y1 : y + 1 < i
        · rw [f1 y (by omega) y1]; exact hre _ _ (by omega) (by omega) (by omega)
        · by_cases y2 : y + 1 = i
          · rw [f2 y y2]; exact hT.asymmA (hlo _ (by omega) (by omega))
          · rw [f3 y (by omega)]; exact hre _ _ (by omega) (by omega) (by omega)
      · by_cases x2 : x + 1 = i
        · rw [f2 x x2, f3 y (by omega)]; exact hhi _ (by omega) (by omega)
        · rw [f3 x (by omega), f3 y (by omega)]; exact hre _ _ (by omega) (by omega) (by omega)
    · rw [if_neg hm1]
      by_cases hm2 : b - m = 1
      · rw [if_pos hm2]
        obtain ⟨q1, q2, q3, q4⟩ := bs_spec (fun h => !lt d[m]! d[h]!) (m - a) a m rfl (by omega)
        obtain ⟨i, hi⟩ : ∃ i, bs (fun h => !lt d[m]! d[h]!) a m = i := ⟨_, rfl⟩
        rw [hi] at q1 q2 q3 q4 ⊢
        obtain ⟨hp, hg⟩ := shDn_spec a b i q1 m d q2 (by omega) hs
        refine ⟨hp, fun x y hx hxy hy => ?_⟩
        have hlo : ∀ z, a ≤ z → z < i → lt' d[m]! d[z]! = false := fun z h1 h2 => by
          rcases q3 with q3 | q3
          · omega
          · have e1 : lt' d[m]! d[i - 1]! = false := by rw [← hR.agree (i - 1) m (by omega) (by omega) (Nat.le_refl _) hmb]; simpa using q3
            exact hT.ntrans _ _ _ e1 (hle z (i - 1) h1 (by omega) (by omega))
        have hhi : ∀ z, i ≤ z → z < m → lt' d[m]! d[z]! = true := fun z h1 h2 => by
          rcases q4 with q4 | q4
          · omega
          · have e1 : lt' d[m]! d[i]! = true := by rw [← hR.agree i m (by omega) (by omega) (Nat.le_refl _) hmb]; simpa using q4
            cases hc : lt' d[m]! d[z]! with
            | true => rfl
            | false =>
              have := hT.ntrans _ _ _ hc (hle i z (by omega) h1 h2)
              rw [e1] at this; cases this
        have f1 : ∀ z, z < i → (shDn i m d)[z]! = d[z]! := fun z h1 => by rw [hg z, if_neg (by omega), if_neg (by omega)]
        have f2 : (shDn i m d)[i]! = d[m]! := by rw [hg i, if_pos rfl]
        have f3 : ∀ z, i < z → z ≤ m → (shDn i m d)[z]! = d[z - 1]! := fun z h1 h2 => by rw [hg z, if_neg (by omega), if_pos (by omega)]
        by_cases x1 : x < i
        · rw [f1 x x1]
          by_cases y1 : y = i
          · rw [y1, f2]; exact hlo _ hx x1
          · by_cases y2 : i < y
            · rw [f3 y y2 (by omega)]; exact hle _ _ (by omega) (by omega) (by omega)
            · rw [f1 y (by omega)]; exact hle _ _ (by omega) (by omega) (by omega)
        · by_cases x2 : x = i
          · rw [x2, f2, f3 y (by omega) (by omega)]; exact hT.asymmA (hhi _ (by omega) (by omega))
          · rw [f3 x (by omega) (by omega), f3 y (by omega) (by omega)]; exact hle _ _ (by omega) (by omega) (by omega)
      · rw [if_neg hm2]
        obtain ⟨mid, hmid⟩ : ∃ mid, (a + b) / 2 = mid := ⟨_, rfl⟩
        have hst := bs_spec (fun c => !lt d[(a + b) / 2 + m - 1 - c]! d[c]!) _ (if (a + b) / 2 < m then (a + b) / 2 + m - b else a) (if (a + b) / 2 < m then (a + b) / 2 else m) rfl (by split <;> omega)
        obtain ⟨st, hse⟩ : ∃ st, symStart lt a m b d = st := ⟨_, rfl⟩
        have hse' := hse
        unfold symStart at hse'
        rw [hse'] at hst
        obtain ⟨q1, q2, q3, q4⟩ := hst
        simp only [hse]
        rw [hmid] at q1 q2 q3 q4 ⊢
        have hma : a < mid := by omega
        have hmb' : mid < b := by omega
        have hsa : a ≤ st := by split at q1 <;> omega
        have hsm : st ≤ m := by split at q2 <;> omega
        have hsd : st ≤ mid := by split at q2 <;> omega
        obtain ⟨en, hen⟩ : ∃ en, mid + m - st = en := ⟨_, rfl⟩
        rw [hen]
        have hem : m ≤ en := by omega
        have heb : en ≤ b := by split at q1 <;> omega
        have hed : mid ≤ en := by omega
        -- L1 is not above R2
        have c1 : ∀ i j, a ≤ i → i < st → en ≤ j → j < b → lt' d[j]! d[i]! = false := fun i j h1 h2 h3 h4 => by
          rcases q3 with q3 | q3
          · split at q3 <;> omega
          · have e1 : lt' d[mid + m - 1 - (st - 1)]! d[st - 1]! = false := by
              rw [← hR.agree (st - 1) (mid + m - 1 - (st - 1)) (by omega) (by omega) (by omega) (by omega)]; simpa using q3
            have e2 := hre (mid + m - 1 - (st - 1)) j (by omega) (by omega) h4
            have e3 := hle i (st - 1) h1 (by omega) (by omega)
            exact hT.ntrans _ _ _ e2 (hT.ntrans _ _ _ e1 e3)
        -- R1 is below L2
        have c2 : ∀ i j, m ≤ i → i < en → st ≤ j → j < m → lt' d[j]! d[i]! = false := fun i j h1 h2 h3 h4 => by
          rcases q4 with q4 | q4
          · split at q4 <;> omega
          · have e1 : lt' d[mid + m - 1 - st]! d[st]! = true := by
              rw [← hR.agree st (mid + m - 1 - st) (by omega) (by omega) (by omega) (by omega)]; simpa using q4
            have e2 := hre i (mid + m - 1 - st) h1 (by omega) (by omega)
            have e3 := hle st j (by omega) h3 h4
            cases hc : lt' d[j]! d[i]! with
            | false => rfl
            | true =>
              -- d[i] is not above d[p-st], that is below d[st], that is not above d[j]
              have e4 := hT.asymmA e1
              exact absurd (hT.ntrans _ _ _ (hT.ntrans _ _ _ e3 e4) e2) (by rw [hc]; decide)
        have hrot := rotG_spec a b m (m - st) (en - m) d (by omega) (by omega) hs
        have hcond : (if st < m ∧ m < en then rot m (m - st) (en - m) d else d) = (if 0 < m - st ∧ 0 < en - m then rot m (m - st) (en - m) d else d) := by
          by_cases h : st < m ∧ m < en
          · rw [if_pos h, if_pos (by omega)]
          · rw [if_neg h, if_neg (by omega)]
        rw [← hcond] at hrot
        obtain ⟨d1, hd1⟩ : ∃ d1, (if st < m ∧ m < en then rot m (m - st) (en - m) d else d) = d1 := ⟨_, rfl⟩
        rw [hd1] at hrot ⊢
        obtain ⟨p1, g1⟩ := hrot
        have hs1 : d1.size = d.size := p1.1
        have gL1 : ∀ k, k < st → d1[k]! = d[k]! := fun k h => by rw [g1, if_neg (by omega), if_neg (by omega)]
        have gR1 : ∀ k, st ≤ k → k < mid → d1[k]! = d[k + (m - st)]! := fun k h h' => by rw [g1, if_pos (by omega)]
        have gL2 : ∀ k, mid ≤ k → k < en → d1[k]! = d[k - (en - m)]! := fun k h h' => by rw [g1, if_neg (by omega), if_pos (by omega)]
        have gR2 : ∀ k, en ≤ k → d1[k]! = d[k]! := fun k h => by rw [g1, if_neg (by omega), if_neg (by omega)]
        have hcross : ∀ i j, a ≤ i → i < mid → mid ≤ j → j < b → lt' d1[j]! d1[i]! = false := fun i j h1 h2 h3 h4 => by
          by_cases hi : i < st
          · rw [gL1 i hi]
            by_cases hj : j < en
            · rw [gL2 j h3 hj]; exact hle _ _ h1 (by omega) (by omega)
            · rw [gR2 j (by omega)]; exact c1 _ _ h1 hi (by omega) h4
          · rw [gR1 i (by omega) h2]
            by_cases hj : j < en
            · rw [gL2 j h3 hj]; exact c2 _ _ (by omega) (by omega) (by omega) (by omega)
            · rw [gR2 j (by omega)]; exact hre _ _ (by omega) (by omega) h4
        -- the first half
        have hA : ∃ d2, (if a < st ∧ st < mid then symMerge lt f a st mid d1 else d1) = d2 ∧ PermIn a mid d1 d2 ∧ SortedIn lt' a mid d2 := by
          by_cases h : a < st ∧ st < mid
          · refine ⟨_, rfl, ?_⟩
            rw [if_pos h]
            exact ih a st mid d1 (by omega) h.1 h.2 (by omega) ⟨fun i j h1 h2 h3 => by rw [gL1 i (by omega), gL1 j h3]; exact hR.left i j h1 h2 (by omega),
              fun i j h1 h2 h3 => by rw [gR1 i h1 (by omega), gR1 j (by omega) h3]; exact hR.right _ _ (by omega) (by omega) (by omega),
              fun i j h1 h2 h3 h4 => by rw [gL1 i h2, gR1 j h3 h4]; exact hR.agree _ _ h1 (by omega) (by omega) (by omega)⟩
          · refine ⟨_, rfl, ?_⟩
            rw [if_neg h]
            refine ⟨permIn_refl _ _ _, fun i j h1 h2 h3 => ?_⟩
            by_cases hst : st = a
            · rw [gR1 i (by omega) (by omega), gR1 j (by omega) h3]; exact hR.right _ _ (by omega) (by omega) (by omega)
            · rw [gL1 i (by omega), gL1 j (by omega)]; exact hR.left i j h1 h2 (by omega)
        obtain ⟨d2, hd2, p2, s2⟩ := hA
        rw [hd2]
        have hs2 : d2.size = d.size := p2.1.trans hs1
        have g2 : ∀ k, mid ≤ k → d2[k]! = d1[k]! := fun k h => p2.2.1 k (Or.inr h)
        have hB : ∃ d3, (if mid < en ∧ en < b then symMerge lt f mid en b d2 else d2) = d3 ∧ PermIn mid b d2 d3 ∧ SortedIn lt' mid b d3 := by
          by_cases h : mid < en ∧ en < b
          · refine ⟨_, rfl, ?_⟩
            rw [if_pos h]
            exact ih mid en b d2 (by omega) h.1 h.2 (by omega) ⟨fun i j h1 h2 h3 => by rw [g2 i h1, g2 j (by omega), gL2 i h1 (by omega), gL2 j (by omega) h3]; exact hR.left _ _ (by omega) (by omega) (by omega),
              fun i j h1 h2 h3 => by rw [g2 i (by omega), g2 j (by omega), gR2 i h1, gR2 j (by omega)]; exact hR.right _ _ (by omega) (by omega) (by omega),
              fun i j h1 h2 h3 h4 => by rw [g2 i h1, g2 j (by omega), gL2 i h1 h2, gR2 j h3]; exact hR.agree _ _ (by omega) (by omega) (by omega) (by omega)⟩
          · refine ⟨_, rfl, ?_⟩
            rw [if_neg h]
            refine ⟨permIn_refl _ _ _, fun i j h1 h2 h3 => ?_⟩
            rw [g2 i h1, g2 j (by omega)]
            by_cases hst : en = mid
            · rw [gR2 i (by omega), gR2 j (by omega)]; exact hR.right _ _ (by omega) (by omega) (by omega)
            · rw [gL2 i h1 (by omega), gL2 j (by omega) (by omega)]; exact hR.left _ _ (by omega) (by omega) (by omega)
        obtain ⟨d3, hd3, p3, s3⟩ := hB
        rw [hd3]
        refine ⟨permIn_trans _ _ _ a b p1 (permIn_trans _ _ _ a b (permIn_mono d1 d2 a mid a b (Nat.le_refl _) (by omega) (by omega) p2) (permIn_mono d2 d3 mid b a b (by omega) (Nat.le_refl _) (by omega) p3)), ?_⟩
        refine sorted_join (c := mid) (fun i j h1 h2 h3 => ?_) s3 (fun i j h1 h2 h3 h4 => ?_)
        · rw [p3.2.1 i (Or.inl (by omega)), p3.2.1 j (Or.inl h3)]; exact s2 i j h1 h2 h3
        · rw [p3.2.1 i (Or.inl h2)]
          refine permIn_all d2 d3 mid b (fun x => lt' x d2[i]! = false) (by omega) p3 (fun j h3 h4 => ?_) j h3 h4
          rw [g2 j h3]
          exact permIn_all d1 d2 a mid (fun x => lt' d1[j]! x = false) (by omega) p2 (fun i h1 h2 => hcross i j h1 h2 h3 h4) i h1 h2
end
end Go.Proofs.YtgjlneedpbgfpaaDoor
