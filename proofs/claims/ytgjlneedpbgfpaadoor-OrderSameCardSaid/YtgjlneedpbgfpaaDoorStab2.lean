import Derived.Test.YtgjlneedpbgfpaaDoorStab1
/- Blocks by insertion, merged pass by pass: the whole is sorted, equals in their order: it is the list's merge sort. -/
namespace Go.Proofs.YtgjlneedpbgfpaaDoor
open Go.Sort

section
variable {α : Type} [Inhabited α] (idx : α → Nat) (lt : α → α → Bool)

def ltI (x y : α) : Bool := lt x y || (!lt y x && decide (idx x < idx y))

omit [Inhabited α] in
theorem ltI_true {x y : α} : ltI idx lt x y = true ↔ lt x y = true ∨ (lt y x = false ∧ idx x < idx y) := by unfold ltI; simp
omit [Inhabited α] in
theorem ltI_false {x y : α} : ltI idx lt x y = false ↔ lt x y = false ∧ (lt y x = true ∨ idx y ≤ idx x) := by
  unfold ltI; rw [Bool.or_eq_false_iff, Bool.and_eq_false_iff]; simp

variable {lt}
omit [Inhabited α] in
theorem ltI_swo (hS : SWO lt) : SWO (ltI idx lt) := by
  have ct : ∀ {x y z}, lt x y = true → lt z y = false → lt x z = true := fun {x y z} h1 h2 => by
    cases h : lt x z with
    | true => rfl
    | false => have := hS.ntrans x z y h h2; rw [h1] at this; cases this
  have ct2 : ∀ {x y z}, lt y x = false → lt y z = true → lt x z = true := fun {x y z} h1 h2 => by
    cases h : lt x z with
    | true => rfl
    | false => have := hS.ntrans y x z h1 h; rw [h2] at this; cases this
  constructor
  · intro x; rw [ltI_false]; exact ⟨hS.irrefl x, Or.inr (Nat.le_refl _)⟩
  · intro x y z h1 h2
    rw [ltI_true] at h1 h2 ⊢
    rcases h1 with h1 | ⟨h1, i1⟩ <;> rcases h2 with h2 | ⟨h2, i2⟩
    · exact Or.inl (hS.trans _ _ _ h1 h2)
    · exact Or.inl (ct h1 h2)
    · exact Or.inl (ct2 h1 h2)
    · exact Or.inr ⟨hS.ntrans _ _ _ h2 h1, by omega⟩
  · intro x y z h1 h2
    rw [ltI_false] at h1 h2 ⊢
    refine ⟨hS.ntrans _ _ _ h1.1 h2.1, ?_⟩
    rcases h1.2 with h3 | h3
    · exact Or.inl (ct2 h2.1 h3)
    · rcases h2.2 with h4 | h4
      · exact Or.inl (ct h4 h1.1)
      · exact Or.inr (by omega)

variable {idx}
omit [Inhabited α] in
theorem ltI_agree {x y : α} (h : idx x < idx y) : lt y x = ltI idx lt y x := by
  cases h1 : lt y x with
  | true => exact ((ltI_true idx lt).2 (Or.inl h1)).symm
  | false => exact ((ltI_false idx lt).2 ⟨h1, Or.inr (by omega)⟩).symm

theorem insInner_agree (a : Nat) : ∀ (j : Nat) (d : Array α), j < d.size → (∀ k, a ≤ k → k < j → idx d[k]! < idx d[j]!) → insInner lt a j d = insInner (ltI idx lt) a j d
  | 0, d, _, _ => rfl
  | j + 1, d, hs, h => by
    unfold insInner
    by_cases hj : j + 1 > a
    · rw [← ltI_agree (idx := idx) (lt := lt) (h j (by omega) (by omega))]
      by_cases hc : (decide (j + 1 > a) && lt d[j + 1]! d[j]!) = true
      · rw [if_pos hc, if_pos hc]
        refine insInner_agree a j _ (by rw [size_swp]; omega) fun k h1 h2 => ?_
        rw [swp_other _ _ _ _ (by omega) (by omega), swp_right _ _ _ (by omega)]
        exact h k h1 (by omega)
      · rw [if_neg hc, if_neg hc]
    · rw [if_neg (by simp [hj]), if_neg (by simp [hj])]

theorem insOuter_agree (hS : SWO lt) (a b : Nat) : ∀ (t i : Nat) (d : Array α), b - i = t → a < i → b ≤ d.size → SortedIn (ltI idx lt) a i d → (∀ k l, a ≤ k → k < l → i ≤ l → l < b → idx d[k]! < idx d[l]!) →
    insOuter lt a b i d = insOuter (ltI idx lt) a b i d
  | 0, i, d, h, _, _, _, _ => by
    have e1 : insOuter lt a b i d = d := by rw [insOuter, if_neg (by omega)]
    have e2 : insOuter (ltI idx lt) a b i d = d := by rw [insOuter, if_neg (by omega)]
    rw [e1, e2]
  | t + 1, i, d, h, hai, hs, hso, hi => by
    have e1 : insOuter lt a b i d = insOuter lt a b (i + 1) (insInner lt a i d) := by rw [insOuter, if_pos (by omega)]
    have e2 : insOuter (ltI idx lt) a b i d = insOuter (ltI idx lt) a b (i + 1) (insInner (ltI idx lt) a i d) := by rw [insOuter, if_pos (by omega)]
    rw [e1, e2, insInner_agree (idx := idx) a i d (by omega) (fun k h1 h2 => hi k i h1 h2 (Nat.le_refl _) (by omega))]
    have hsp := insInner_spec (ltI_swo idx hS) swp_permIn permIn_refl permIn_trans a (i + 1) i (by omega) i d (by omega) (Nat.le_refl _) (by omega) ⟨fun p q hap hpq hqi _ hq => hso p q hap hpq (by omega), fun q h1 h2 => by omega⟩
    obtain ⟨hp, hso'⟩ := hsp
    refine insOuter_agree hS a b t (i + 1) _ (by omega) (by omega) (by rw [hp.1]; exact hs) hso' fun k l h1 h2 h3 h4 => ?_
    rw [hp.2.1 l (Or.inr (by omega))]
    by_cases hk : k < i + 1
    · exact permIn_all d _ a (i + 1) (fun x => idx x < idx d[l]!) (by omega) hp (fun k h1 h2 => hi k l h1 (by omega) (by omega) h4) k h1 hk
    · rw [hp.2.1 k (Or.inr (by omega))]; exact hi k l h1 h2 (by omega) h4

theorem insertionSort_agree (hS : SWO lt) (a b : Nat) (d : Array α) (hb : b ≤ d.size) (hi : ∀ k l, a ≤ k → k < l → l < b → idx d[k]! < idx d[l]!) : insertionSort lt d a b = insertionSort (ltI idx lt) d a b := by
  unfold insertionSort
  exact insOuter_agree hS a b _ (a + 1) d rfl (by omega) hb (fun i j h1 h2 h3 => by omega) (fun k l h1 h2 _ h4 => hi k l h1 h2 h4)

variable (lt)
def blocksR (n a : Nat) (d : Array α) : Array α := if a + 20 ≤ n then blocksR n (a + 20) (insertionSort lt d a (a + 20)) else insertionSort lt d a n
termination_by n - a

def symM (a m b : Nat) (d : Array α) : Array α := symMerge lt (b - a) a m b d

def mergePass (bz n a : Nat) (d : Array α) : Array α :=
  if 0 < bz ∧ a + 2 * bz ≤ n then mergePass bz n (a + 2 * bz) (symM lt a (a + bz) (a + 2 * bz) d)
  else if a + bz < n then symM lt a (a + bz) n d else d
termination_by n - a

def passes (n bz : Nat) (d : Array α) : Array α := if 0 < bz ∧ bz < n then passes n (bz * 2) (mergePass lt bz n 0 d) else d
termination_by n - bz

def stableA (n : Nat) (d : Array α) : Array α := passes lt n 20 (blocksR lt n 0 d)

variable (idx)
structure Good (a b : Nat) (d : Array α) : Prop where
  so : SortedIn (ltI idx lt) a b d
  inr : ∀ i, a ≤ i → i < b → a ≤ idx d[i]! ∧ idx d[i]! < b

variable {idx lt}
theorem Good.congr {a b : Nat} {d d' : Array α} (h : Good idx lt a b d) (e : ∀ i, a ≤ i → i < b → d'[i]! = d[i]!) : Good idx lt a b d' :=
  ⟨fun i j h1 h2 h3 => by rw [e i h1 (by omega), e j (by omega) h3]; exact h.so i j h1 h2 h3, fun i h1 h2 => by rw [e i h1 h2]; exact h.inr i h1 h2⟩

theorem Good.merge (hS : SWO lt) {a m b : Nat} {d : Array α} (ham : a < m) (hmb : m < b) (hs : b ≤ d.size) (h1 : Good idx lt a m d) (h2 : Good idx lt m b d) :
    PermIn a b d (symM lt a m b d) ∧ Good idx lt a b (symM lt a m b d) := by
  have hr : Runs lt (ltI idx lt) a m b d := ⟨h1.so, h2.so, fun i j hi him hj hjb => ltI_agree (by have := h1.inr i hi him; have := h2.inr j hj hjb; omega)⟩
  obtain ⟨p, so⟩ := symMerge_spec lt (ltI idx lt) (ltI_swo idx hS) (b - a) a m b d (Nat.le_refl _) ham hmb hs hr
  refine ⟨p, so, fun i hi hib => ?_⟩
  refine permIn_all d _ a b (fun x => a ≤ idx x ∧ idx x < b) hs p (fun i hi hib => ?_) i hi hib
  by_cases hm : i < m
  · have := h1.inr i hi hm; omega
  · have := h2.inr i (by omega) hib; omega

theorem Good.ins (hS : SWO lt) {a b : Nat} {d : Array α} (hab : a ≤ b) (hs : b ≤ d.size) (hi : ∀ i, a ≤ i → i < b → idx d[i]! = i) :
    PermIn a b d (insertionSort lt d a b) ∧ Good idx lt a b (insertionSort lt d a b) := by
  rw [insertionSort_agree (idx := idx) hS a b d hs (fun k l h1 h2 h3 => by rw [hi k h1 (by omega), hi l (by omega) h3]; exact h2)]
  obtain ⟨p, so⟩ := insertionSort_holds (ltI_swo idx hS) d a b hab hs
  refine ⟨p, so, fun i h1 h2 => ?_⟩
  exact permIn_all d _ a b (fun x => a ≤ idx x ∧ idx x < b) hs p (fun i h1 h2 => by rw [hi i h1 h2]; omega) i h1 h2

theorem dvd_step {k c a : Nat} (h : k ∣ c) (h' : k ∣ a) (hlt : c < a) : c + k ≤ a := by
  obtain ⟨u, rfl⟩ := h
  obtain ⟨v, rfl⟩ := h'
  have : u < v := by
    rcases Nat.lt_or_ge u v with h | h
    · exact h
    · have := Nat.mul_le_mul_left k h; omega
  have := Nat.mul_le_mul_left k (show u + 1 ≤ v from this)
  rwa [Nat.mul_add, Nat.mul_one] at this

/-- Every block of so many is good; the last one may be short. -/
def Blks (idx : α → Nat) (lt : α → α → Bool) (n bz : Nat) (d : Array α) : Prop := ∀ c, bz ∣ c → c < n → Good idx lt c (min (c + bz) n) d

theorem blocksR_spec (hS : SWO lt) (n : Nat) : ∀ (t a : Nat) (d : Array α), n - a = t → 20 ∣ a → a ≤ n → n ≤ d.size → (∀ c, 20 ∣ c → c + 20 ≤ a → Good idx lt c (c + 20) d) → (∀ i, a ≤ i → i < n → idx d[i]! = i) →
    PermIn 0 n d (blocksR lt n a d) ∧ Blks idx lt n 20 (blocksR lt n a d) := by
  intro t
  induction t using Nat.strongRecOn with
  | _ t ih =>
    intro a d ht ha han hs hG hI
    rw [blocksR]
    by_cases hc : a + 20 ≤ n
    · rw [if_pos hc]
      obtain ⟨p, g⟩ := Good.ins (idx := idx) hS (show a ≤ a + 20 by omega) (by omega) (fun i h1 h2 => hI i h1 (by omega))
      have hsz : (insertionSort lt d a (a + 20)).size = d.size := p.1
      obtain ⟨p2, g2⟩ := ih (n - (a + 20)) (by omega) (a + 20) (insertionSort lt d a (a + 20)) rfl (Nat.dvd_add ha (Nat.dvd_refl _)) hc (by omega) (fun c hc1 hc2 => by
        by_cases hca : c = a
        · rw [hca]; exact g
        · have hlt : c < a := by omega
          have := dvd_step hc1 ha hlt
          exact (hG c hc1 this).congr fun i h1 h2 => p.2.1 i (Or.inl (by omega))) (fun i h1 h2 => by rw [p.2.1 i (Or.inr h1)]; exact hI i (by omega) h2)
      exact ⟨permIn_trans _ _ _ 0 n (permIn_mono d _ a (a + 20) 0 n (Nat.zero_le _) hc hs p) p2, g2⟩
    · rw [if_neg hc]
      obtain ⟨p, g⟩ := Good.ins (idx := idx) hS han hs hI
      refine ⟨permIn_mono d _ a n 0 n (Nat.zero_le _) (Nat.le_refl _) hs p, fun c hc1 hc2 => ?_⟩
      by_cases hca : c < a
      · have h20 := dvd_step hc1 ha hca
        rw [Nat.min_eq_left (by omega)]
        exact (hG c hc1 h20).congr fun i h1 h2 => p.2.1 i (Or.inl (by omega))
      · have : c = a := by
          rcases Nat.lt_or_eq_of_le (Nat.le_of_not_lt hca) with h | h
          · have := dvd_step ha hc1 h; omega
          · exact h.symm
        rw [this, Nat.min_eq_right (by omega)]; exact g

theorem mergePass_spec (hS : SWO lt) (n bz : Nat) (hbz : 0 < bz) : ∀ (t a : Nat) (d : Array α), n - a = t → 2 * bz ∣ a → a ≤ n → n ≤ d.size → (∀ c, 2 * bz ∣ c → c + 2 * bz ≤ a → Good idx lt c (c + 2 * bz) d) → (∀ c, bz ∣ c → a ≤ c → c < n → Good idx lt c (min (c + bz) n) d) →
    PermIn 0 n d (mergePass lt bz n a d) ∧ Blks idx lt n (2 * bz) (mergePass lt bz n a d) := by
  intro t
  induction t using Nat.strongRecOn with
  | _ t ih =>
    intro a d ht ha han hs hG hI
    have hba : bz ∣ a := Nat.dvd_trans ⟨2, by omega⟩ ha
    have hbab : bz ∣ a + bz := Nat.dvd_add hba (Nat.dvd_refl _)
    rw [mergePass]
    by_cases hc : 0 < bz ∧ a + 2 * bz ≤ n
    · rw [if_pos hc]
      have hc := hc.2
      have g1 := hI a hba (Nat.le_refl _) (by omega)
      have g2 := hI (a + bz) hbab (by omega) (by omega)
      rw [Nat.min_eq_left (by omega)] at g1 g2
      rw [show a + bz + bz = a + 2 * bz by omega] at g2
      obtain ⟨p, g⟩ := Good.merge hS (by omega) (by omega) (by omega) g1 g2
      have hsz : (symM lt a (a + bz) (a + 2 * bz) d).size = d.size := p.1
      obtain ⟨p2, g2⟩ := ih (n - (a + 2 * bz)) (by omega) (a + 2 * bz) (symM lt a (a + bz) (a + 2 * bz) d) rfl (Nat.dvd_add ha (Nat.dvd_refl _)) hc (by omega) (fun c hc1 hc2 => by
        by_cases hca : c = a
        · rw [hca]; exact g
        · have hlt : c < a := by omega
          have := dvd_step hc1 ha hlt
          exact (hG c hc1 this).congr fun i h1 h2 => p.2.1 i (Or.inl (by omega))) (fun c hc1 hc2 hc3 => (hI c hc1 (by omega) hc3).congr fun i h1 h2 => p.2.1 i (Or.inr (by omega)))
      exact ⟨permIn_trans _ _ _ 0 n (permIn_mono d _ a (a + 2 * bz) 0 n (Nat.zero_le _) hc hs p) p2, g2⟩
    · rw [if_neg hc]
      have hc : ¬ a + 2 * bz ≤ n := fun h => hc ⟨hbz, h⟩
      have hA : ∃ d', (if a + bz < n then symM lt a (a + bz) n d else d) = d' ∧ PermIn a n d d' ∧ (a < n → Good idx lt a n d') := by
        by_cases hb : a + bz < n
        · rw [if_pos hb]
          have g1 := hI a hba (Nat.le_refl _) (by omega)
          have g2 := hI (a + bz) hbab (by omega) (by omega)
          rw [Nat.min_eq_left (by omega)] at g1
          rw [Nat.min_eq_right (by omega)] at g2
          obtain ⟨p, g⟩ := Good.merge hS (by omega) hb hs g1 g2
          exact ⟨_, rfl, p, fun _ => g⟩
        · rw [if_neg hb]
          exact ⟨_, rfl, permIn_refl _ _ _, fun h => by have g1 := hI a hba (Nat.le_refl _) h; rwa [Nat.min_eq_right (by omega)] at g1⟩
      obtain ⟨d', e, p, g⟩ := hA
      rw [e]
      refine ⟨permIn_mono d _ a n 0 n (Nat.zero_le _) (Nat.le_refl _) hs p, fun c hc1 hc2 => ?_⟩
      by_cases hca : c < a
      · have h20 := dvd_step hc1 ha hca
        rw [Nat.min_eq_left (by omega)]
        exact (hG c hc1 h20).congr fun i h1 h2 => p.2.1 i (Or.inl (by omega))
      · have : c = a := by
          rcases Nat.lt_or_eq_of_le (Nat.le_of_not_lt hca) with h | h
          · have := dvd_step ha hc1 h; omega
          · exact h.symm
        rw [this, Nat.min_eq_right (by omega)]; exact g (by omega)

theorem passes_spec (hS : SWO lt) (n : Nat) : ∀ (t bz : Nat) (d : Array α), n - bz = t → 0 < bz → n ≤ d.size → Blks idx lt n bz d → PermIn 0 n d (passes lt n bz d) ∧ SortedIn (ltI idx lt) 0 n (passes lt n bz d) := by
  intro t
  induction t using Nat.strongRecOn with
  | _ t ih =>
    intro bz d ht hbz hs hB
    rw [passes]
    by_cases hc : 0 < bz ∧ bz < n
    · rw [if_pos hc]
      obtain ⟨p, g⟩ := mergePass_spec (idx := idx) hS n bz hbz n 0 d rfl (Nat.dvd_zero _) (Nat.zero_le _) hs (fun c _ h => by omega) (fun c h1 _ h3 => hB c h1 h3)
      rw [Nat.mul_comm 2 bz] at g
      obtain ⟨p2, s2⟩ := ih (n - bz * 2) (by omega) (bz * 2) _ rfl (by omega) (by rw [p.1]; exact hs) g
      exact ⟨permIn_trans _ _ _ 0 n p p2, s2⟩
    · rw [if_neg hc]
      refine ⟨permIn_refl _ _ _, ?_⟩
      by_cases hn : 0 < n
      · have := (hB 0 (Nat.dvd_zero _) hn).so
        rwa [Nat.min_eq_right (by omega)] at this
      · exact fun i j h1 h2 h3 => by omega

theorem stableA_spec (hS : SWO lt) (d : Array α) (hI : ∀ i, i < d.size → idx d[i]! = i) : PermIn 0 d.size d (stableA lt d.size d) ∧ SortedIn (ltI idx lt) 0 d.size (stableA lt d.size d) := by
  unfold stableA
  obtain ⟨p, g⟩ := blocksR_spec (idx := idx) hS d.size d.size 0 d rfl (Nat.dvd_zero _) (Nat.zero_le _) (Nat.le_refl _) (fun c _ h => by omega) (fun i _ h => hI i h)
  obtain ⟨p2, s2⟩ := passes_spec (idx := idx) hS d.size _ 20 _ rfl (by omega) (by rw [p.1]; exact Nat.le_refl _) g
  exact ⟨permIn_trans _ _ _ 0 d.size p p2, s2⟩
end

section
variable {α : Type} [Inhabited α]
theorem rot_size (m : Nat) : ∀ (t i j : Nat) (d : Array α), i + j = t → (rot m i j d).size = d.size := by
  intro t
  induction t using Nat.strongRecOn with
  | _ t ih =>
    intro i j d ht
    rw [rot]
    split
    · exact swapR_size _ _ _ _ _ _ rfl
    · split
      · split
        · rw [ih (i - j + j) (by omega) _ _ _ rfl]; exact swapR_size _ _ _ _ _ _ rfl
        · rfl
      · split
        · rw [ih (i + (j - i)) (by omega) _ _ _ rfl]; exact swapR_size _ _ _ _ _ _ rfl
        · rfl
theorem shUp_size : ∀ (t k i : Nat) (d : Array α), i - k = t → (shUp k i d).size = d.size
  | 0, k, i, d, h => by rw [shUp, if_neg (by omega)]
  | t + 1, k, i, d, h => by
    rw [shUp]
    split
    · rw [shUp_size t (k + 1) i _ (by omega), size_swp]
    · rfl
theorem shDn_size (i : Nat) : ∀ (k : Nat) (d : Array α), (shDn i k d).size = d.size
  | 0, _ => rfl
  | k + 1, d => by
    rw [shDn]
    split
    · rw [shDn_size i k, size_swp]
    · rfl
theorem symMerge_size (lt : α → α → Bool) : ∀ (f a m b : Nat) (d : Array α), (symMerge lt f a m b d).size = d.size
  | 0, _, _, _, _ => rfl
  | f + 1, a, m, b, d => by
    rw [symMerge]
    split
    · exact shUp_size _ _ _ _ rfl
    · split
      · exact shDn_size _ _ _
      · dsimp only
        have h1 : (if symStart lt a m b d < m ∧ m < (a + b) / 2 + m - symStart lt a m b d then rot m (m - symStart lt a m b d) ((a + b) / 2 + m - symStart lt a m b d - m) d else d).size = d.size := by
          split
          · exact rot_size _ _ _ _ _ rfl
          · rfl
        split
        · rw [symMerge_size lt f]
          split
          · rw [symMerge_size lt f]; exact h1
          · exact h1
        · split
          · rw [symMerge_size lt f]; exact h1
          · exact h1
end

/-- Elements with their places: sorted, they are the list's merge sort. -/
theorem stable_sorts {β : Type} [Inhabited β] (lt : β → β → Bool) (hS : SWO lt) (l : List β) :
    (stableA (fun x y : β × Nat => lt x.1 y.1) l.length l.zipIdx.toArray).toList.map (·.1) = l.mergeSort (fun x y => !lt y x) := by
  have hS2 : SWO (fun x y : β × Nat => lt x.1 y.1) := ⟨fun x => hS.irrefl _, fun x y z => hS.trans _ _ _, fun x y z => hS.ntrans _ _ _⟩
  have hsz : l.zipIdx.toArray.size = l.length := by simp
  obtain ⟨p, so⟩ := stableA_spec (idx := fun x : β × Nat => x.2) hS2 l.zipIdx.toArray (fun i hi => by
    rw [getElem!_pos _ i hi]; simp)
  rw [hsz] at p so
  rw [← List.mergeSort_zipIdx]
  congr 1
  obtain ⟨hs, _, hperm⟩ := p
  have ext : ∀ (A : Array (β × Nat)) (n : Nat), A.size = n → A.extract 0 n = A := fun A n h => by subst h; exact Array.extract_size
  have e1 := ext _ _ (hs.trans hsz)
  have e2 := ext _ _ hsz
  rw [e1, e2] at hperm
  have hanti : ∀ x ∈ l.zipIdx, ∀ y ∈ l.zipIdx, x.2 = y.2 → x = y := fun x hx y hy h => by
    obtain ⟨a, i⟩ := x
    obtain ⟨b, j⟩ := y
    simp only at h; subst h
    have h1 := List.mk_mem_zipIdx_iff_getElem?.1 hx
    have h2 := List.mk_mem_zipIdx_iff_getElem?.1 hy
    rw [h1] at h2; injection h2 with h2; rw [h2]
  have hle : ∀ x y : β × Nat, (List.zipIdxLE (fun x y => !lt y x) x y = true) ↔ (ltI (fun x : β × Nat => x.2) (fun x y : β × Nat => lt x.1 y.1) y x = false) := fun x y => by
    rw [ltI_false]
    unfold List.zipIdxLE
    show _ ↔ lt y.1 x.1 = false ∧ (lt x.1 y.1 = true ∨ x.2 ≤ y.2)
    cases h1 : lt y.1 x.1 <;> cases h2 : lt x.1 y.1 <;> simp [h1, h2]
  have hsw := ltI_swo (fun x : β × Nat => x.2) hS2
  refine List.Perm.eq_of_pairwise (le := fun x y => List.zipIdxLE (fun x y => !lt y x) x y = true) ?_ ?_ ?_ (hperm.trans (List.mergeSort_perm _ _).symm)
  · intro a b ha hb h1 h2
    rw [hle, ltI_false] at h1 h2
    refine hanti a (hperm.mem_iff.1 ha) b (hperm.mem_iff.1 (hperm.mem_iff.2 ((List.mergeSort_perm _ _).mem_iff.1 hb))) ?_
    rcases h1.2 with h | h
    · rw [h] at h2; exact absurd h2.1 (by decide)
    · rcases h2.2 with h' | h'
      · rw [h'] at h1; exact absurd h1.1 (by decide)
      · omega
  · rw [List.pairwise_iff_getElem]
    intro i j hi hj hij
    rw [hle]
    have hz := hs.trans hsz
    have := so i j (Nat.zero_le _) hij (by rw [Array.length_toList, hz] at hj; exact hj)
    rw [Array.length_toList] at hi hj
    rw [getElem!_pos _ j hj, getElem!_pos _ i hi] at this
    simpa using this
  · refine List.pairwise_mergeSort ?_ ?_ _
    · intro a b c h1 h2
      rw [hle] at h1 h2 ⊢
      exact hsw.ntrans c b a h2 h1
    · intro a b
      cases h : List.zipIdxLE (fun x y => !lt y x) a b with
      | true => simp
      | false =>
        have h' : ltI (fun x : β × Nat => x.2) (fun x y : β × Nat => lt x.1 y.1) b a = true := by
          cases h2 : ltI (fun x : β × Nat => x.2) (fun x y : β × Nat => lt x.1 y.1) b a with
          | true => rfl
          | false => rw [(hle a b).2 h2] at h; cases h
        rw [Bool.false_or, (hle b a)]
        exact hsw.asymmA h'
end Go.Proofs.YtgjlneedpbgfpaaDoor
