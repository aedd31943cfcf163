import Derived.Sort.LotA
/- slices.SortStableFunc (blocks by insertion, then SymMerge) as functions over an array and a 'less'; they sort, and leave equals in their order. No model in this text. -/
namespace Go.Proofs.YtgjlneedpbgfpaaDoor
open Go.Sort

section
variable {α : Type} [Inhabited α]

theorem getE (d : Array α) {x y : Nat} (h : x = y) : d[x]! = d[y]! := by rw [h]

def swapR (a b n i : Nat) (d : Array α) : Array α := if i < n then swapR a b n (i + 1) (swp d (a + i) (b + i)) else d
termination_by n - i

def rot (m i j : Nat) (d : Array α) : Array α :=
  if i = j then swapR (m - i) m i 0 d
  else if j < i then (if 0 < j then rot m (i - j) j (swapR (m - i) m j 0 d) else d)
  else (if 0 < i then rot m i (j - i) (swapR (m - i) (m + j - i) i 0 d) else d)
termination_by i + j

def bs (p : Nat → Bool) (i j : Nat) : Nat := if i < j then (if p ((i + j) / 2) then bs p ((i + j) / 2 + 1) j else bs p i ((i + j) / 2)) else i
termination_by j - i

def shUp (k i : Nat) (d : Array α) : Array α := if k + 1 < i then shUp (k + 1) i (swp d k (k + 1)) else d
termination_by i - k

def shDn (i : Nat) : Nat → Array α → Array α
  | 0, d => d
  | k + 1, d => if i < k + 1 then shDn i k (swp d (k + 1) k) else d

def rotG (m i j : Nat) (d : Array α) : Array α := if 0 < i ∧ 0 < j then rot m i j d else d

def symStart (lt : α → α → Bool) (a m b : Nat) (d : Array α) : Nat :=
  bs (fun c => !lt d[(a + b) / 2 + m - 1 - c]! d[c]!) (if (a + b) / 2 < m then (a + b) / 2 + m - b else a) (if (a + b) / 2 < m then (a + b) / 2 else m)

def symMerge (lt : α → α → Bool) : Nat → Nat → Nat → Nat → Array α → Array α
  | 0, _, _, _, d => d
  | f + 1, a, m, b, d =>
    if m - a = 1 then shUp a (bs (fun h => lt d[h]! d[a]!) m b) d
    else if b - m = 1 then shDn (bs (fun h => !lt d[m]! d[h]!) a m) m d
    else
      let st := symStart lt a m b d
      let en := (a + b) / 2 + m - st
      let d1 := if st < m ∧ m < en then rot m (m - st) (en - m) d else d
      let d2 := if a < st ∧ st < (a + b) / 2 then symMerge lt f a st ((a + b) / 2) d1 else d1
      if (a + b) / 2 < en ∧ en < b then symMerge lt f ((a + b) / 2) en b d2 else d2

theorem bs_spec (p : Nat → Bool) : ∀ (t i j : Nat), j - i = t → i ≤ j → i ≤ bs p i j ∧ bs p i j ≤ j ∧ (bs p i j = i ∨ p (bs p i j - 1) = true) ∧ (bs p i j = j ∨ p (bs p i j) = false) := by
  intro t
  induction t using Nat.strongRecOn with
  | _ t ih =>
    intro i j ht hij
    by_cases h : i < j
    · rw [bs, if_pos h]
      by_cases hp : p ((i + j) / 2) = true
      · rw [if_pos hp]
        obtain ⟨h1, h2, h3, h4⟩ := ih (j - ((i + j) / 2 + 1)) (by omega) _ _ rfl (by omega)
        refine ⟨by omega, h2, Or.inr ?_, h4⟩
        rcases h3 with h3 | h3
        · rw [h3]; simpa using hp
        · exact h3
      · rw [if_neg hp]
        obtain ⟨h1, h2, h3, h4⟩ := ih ((i + j) / 2 - i) (by omega) _ _ rfl (by omega)
        refine ⟨h1, by omega, h3, Or.inr ?_⟩
        rcases h4 with h4 | h4
        · rw [h4]; simpa using hp
        · exact h4
    · rw [bs, if_neg h]
      exact ⟨Nat.le_refl _, hij, Or.inl rfl, Or.inl (by omega)⟩

theorem swapR_size (a b n : Nat) : ∀ (t i : Nat) (d : Array α), n - i = t → (swapR a b n i d).size = d.size
  | 0, i, d, h => by rw [swapR, if_neg (by omega)]
  | t + 1, i, d, h => by rw [swapR, if_pos (by omega), swapR_size a b n t (i + 1) _ (by omega), size_swp]

theorem swapR_get (a b n : Nat) (hab : a + n ≤ b) : ∀ (t i : Nat) (d : Array α), n - i = t → b + n ≤ d.size → ∀ k,
    (swapR a b n i d)[k]! = if a + i ≤ k ∧ k < a + n then d[k - a + b]! else if b + i ≤ k ∧ k < b + n then d[k - b + a]! else d[k]!
  | 0, i, d, h, hs, k => by rw [swapR, if_neg (by omega), if_neg (by omega), if_neg (by omega)]
  | t + 1, i, d, h, hs, k => by
    rw [swapR, if_pos (by omega), swapR_get a b n hab t (i + 1) _ (by omega) (by rw [size_swp]; exact hs) k]
    have hl := swp_left d (a + i) (b + i) (by omega) (by omega)
    have hr := swp_right d (a + i) (b + i) (by omega)
    have ho := fun k h1 h2 => swp_other d (a + i) (b + i) k h1 h2
    by_cases h1 : k = a + i
    · rw [if_neg (by omega), if_neg (by omega), if_pos (by omega), h1, hl]; exact getE _ (by omega)
    · by_cases h2 : k = b + i
      · rw [if_neg (by omega), if_neg (by omega), if_neg (by omega), if_pos (by omega), h2, hr]; exact getE _ (by omega)
      · by_cases h3 : a + i ≤ k ∧ k < a + n
        · rw [if_pos (by omega), if_pos h3, ho _ (by omega) (by omega)]
        · by_cases h4 : b + i ≤ k ∧ k < b + n
          · rw [if_neg (by omega), if_pos (by omega), if_neg h3, if_pos h4, ho _ (by omega) (by omega)]
          · rw [if_neg (by omega), if_neg (by omega), if_neg h3, if_neg h4, ho _ h1 h2]

theorem swapR_perm (a b n A B : Nat) (ha : A ≤ a) (hab : a + n ≤ b) (hb : b + n ≤ B) : ∀ (t i : Nat) (d : Array α), n - i = t → B ≤ d.size → PermIn A B d (swapR a b n i d)
  | 0, i, d, h, hs => by rw [swapR, if_neg (by omega)]; exact permIn_refl _ _ _
  | t + 1, i, d, h, hs => by
    rw [swapR, if_pos (by omega)]
    exact permIn_trans _ _ _ A B (swp_permIn d A B (a + i) (b + i) (by omega) (by omega) (by omega) (by omega) hs) (swapR_perm a b n A B ha hab hb t (i + 1) _ (by omega) (by rw [size_swp]; exact hs))

theorem rot_spec (m A B : Nat) : ∀ (t i j : Nat) (d : Array α), i + j = t → 0 < i → 0 < j → A + i ≤ m → m + j ≤ B → B ≤ d.size →
    PermIn A B d (rot m i j d) ∧ ∀ k, (rot m i j d)[k]! = if m - i ≤ k ∧ k < m - i + j then d[k + i]! else if m - i + j ≤ k ∧ k < m + j then d[k - j]! else d[k]! := by
  intro t
  induction t using Nat.strongRecOn with
  | _ t ih =>
    intro i j d ht hi hj hA hB hs
    rw [rot]
    by_cases he : i = j
    · rw [if_pos he]
      refine ⟨swapR_perm _ _ _ A B (by omega) (by omega) (by omega) _ _ _ rfl hs, fun k => ?_⟩
      rw [swapR_get (m - i) m i (by omega) _ 0 d rfl (by omega) k]
      by_cases h1 : m - i ≤ k ∧ k < m - i + j
      · rw [if_pos (by omega), if_pos h1]; exact getE _ (by omega)
      · by_cases h2 : m - i + j ≤ k ∧ k < m + j
        · rw [if_neg (by omega), if_pos (by omega), if_neg h1, if_pos h2]; exact getE _ (by omega)
        · rw [if_neg (by omega), if_neg (by omega), if_neg h1, if_neg h2]
    · rw [if_neg he]
      by_cases hl : j < i
      · rw [if_pos hl, if_pos hj]
        have hsz := swapR_size (m - i) m j j 0 d (by omega)
        have hg := swapR_get (m - i) m j (by omega) j 0 d (by omega) (by omega)
        obtain ⟨h1, h2⟩ := ih (i - j + j) (by omega) (i - j) j (swapR (m - i) m j 0 d) rfl (by omega) hj (by omega) hB (by omega)
        refine ⟨permIn_trans _ _ _ A B (swapR_perm _ _ _ A B (by omega) (by omega) (by omega) _ _ _ rfl hs) h1, fun k => ?_⟩
        rw [h2 k]
        by_cases k1 : m - i ≤ k ∧ k < m - i + j
        · rw [if_neg (by omega), if_neg (by omega), if_pos k1, hg, if_pos (by omega)]; exact getE _ (by omega)
        · by_cases k2 : m - (i - j) ≤ k ∧ k < m - (i - j) + j
          · rw [if_pos k2, if_neg k1, if_pos (by omega), hg, if_neg (by omega), if_pos (by omega)]; exact getE _ (by omega)
          · by_cases k3 : m - (i - j) + j ≤ k ∧ k < m + j
            · rw [if_neg k2, if_pos k3, if_neg k1, if_pos (by omega), hg, if_neg (by omega), if_neg (by omega)]
            · rw [if_neg k2, if_neg k3, if_neg k1, if_neg (by omega), hg, if_neg (by omega), if_neg (by omega)]
      · rw [if_neg hl, if_pos hi]
        have hsz := swapR_size (m - i) (m + j - i) i i 0 d (by omega)
        have hg := swapR_get (m - i) (m + j - i) i (by omega) i 0 d (by omega) (by omega)
        obtain ⟨h1, h2⟩ := ih (i + (j - i)) (by omega) i (j - i) (swapR (m - i) (m + j - i) i 0 d) rfl hi (by omega) hA (by omega) (by omega)
        refine ⟨permIn_trans _ _ _ A B (swapR_perm _ _ _ A B (by omega) (by omega) (by omega) _ _ _ rfl hs) h1, fun k => ?_⟩
        rw [h2 k]
        by_cases k1 : m - i ≤ k ∧ k < m - i + (j - i)
        · rw [if_pos k1, if_pos (by omega), hg]
          by_cases k4 : k + i < m
          · omega
          · rw [if_neg (by omega), if_neg (by omega)]
        · by_cases k2 : m - i + (j - i) ≤ k ∧ k < m + (j - i)
          · rw [if_neg k1, if_pos k2, hg]
            by_cases k4 : k < m - i + j
            · rw [if_pos (by omega), if_pos (by omega)]; exact getE _ (by omega)
            · omega
          · by_cases k3 : m + (j - i) ≤ k ∧ k < m + j
            · rw [if_neg k1, if_neg k2, if_neg (by omega), if_pos (by omega), hg, if_neg (by omega), if_pos (by omega)]; exact getE _ (by omega)
            · rw [if_neg k1, if_neg k2, if_neg (by omega), if_neg (by omega), hg, if_neg (by omega), if_neg (by omega)]
end
end Go.Proofs.YtgjlneedpbgfpaaDoor
