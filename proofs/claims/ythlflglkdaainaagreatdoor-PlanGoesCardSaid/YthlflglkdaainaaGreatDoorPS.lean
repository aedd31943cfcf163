import Derived.Sort.LotA
import Derived.Shelf.SlSortCmp.KitK
import Derived.Sort.WalkB2
import Derived.Sort.WalkB12
import Derived.Deep.LoopGhost
import Derived.BigRegion
import Derived.Deep.CutRange
import Derived.Deep.DeepCutAuto
import Derived.Test.YthlflglkdaainaaGreatDoorPA
/- Texts of this seat: KS. -/
set_option maxRecDepth 100000
set_option maxHeartbeats 8000000
namespace Go.Proofs.YthlflglkdaainaaGreatDoor
open Go.Sort
section
variable {α : Type} [Inhabited α]
theorem getE (d : Array α) {x y : Nat} (h : x = y) : d[x]! = d[y]! := by rw [h]
def swapR (a b n i : Nat) (d : Array α) : Array α := if i < n then swapR a b n (i + 1) (swp d (a + i) (b + i)) else d
termination_by n - i
def rot (m i j : Nat) (d : Array α) : Array α :=
 if i = j then swapR (m - i) m i 0 d
 else if j < i then (if 0 < j then rot m (i - j) j (swapR (m - i) m j 0 d) else d)
 else (if 0 < i then rot m i (j - i) (swapR (m - i) (m + j - i) i 0 d) else d)
termination_by i + j
def bs (p : Nat → Bool) (i j : Nat) : Nat := if i < j then (if p ((i + j) / 2) then bs p ((i + j) / 2 + 1) j else bs p i ((i + j) / 2)) else i
termination_by j - i
def shUp (k i : Nat) (d : Array α) : Array α := if k + 1 < i then shUp (k + 1) i (swp d k (k + 1)) else d
termination_by i - k
def shDn (i : Nat) : Nat → Array α → Array α
 | 0, d => d
 | k + 1, d => if i < k + 1 then shDn i k (swp d (k + 1) k) else d
def symStart (lt : α → α → Bool) (a m b : Nat) (d : Array α) : Nat :=
 bs (fun c => !lt d[(a + b) / 2 + m - 1 - c]! d[c]!) (if (a + b) / 2 < m then (a + b) / 2 + m - b else a) (if (a + b) / 2 < m then (a + b) / 2 else m)
def symMerge (lt : α → α → Bool) : Nat → Nat → Nat → Nat → Array α → Array α
 | 0, _, _, _, d => d
 | f + 1, a, m, b, d =>
  if m - a = 1 then shUp a (bs (fun h => lt d[h]! d[a]!) m b) d
  else if b - m = 1 then shDn (bs (fun h => !lt d[m]! d[h]!) a m) m d
  else
   let st := symStart lt a m b d
   let en := (a + b) / 2 + m - st
   let d1 := if st < m ∧ m < en then rot m (m - st) (en - m) d else d
   let d2 := if a < st ∧ st < (a + b) / 2 then symMerge lt f a st ((a + b) / 2) d1 else d1
   if (a + b) / 2 < en ∧ en < b then symMerge lt f ((a + b) / 2) en b d2 else d2
theorem bs_spec (p : Nat → Bool) : ∀ (t i j : Nat), j - i = t → i ≤ j → i ≤ bs p i j ∧ bs p i j ≤ j ∧ (bs p i j = i ∨ p (bs p i j - 1) = true) ∧ (bs p i j = j ∨ p (bs p i j) = false) := by
 intro t
 induction t using Nat.strongRecOn with
 | _ t ih =>
  intro i j ht hij
  by_cases h : i < j
  · rw [bs, if_pos h]
    by_cases hp : p ((i + j) / 2) = true
    · rw [if_pos hp]
      obtain ⟨h1, h2, h3, h4⟩ := ih (j - ((i + j) / 2 + 1)) (by omega) _ _ rfl (by omega)
      refine ⟨by omega, h2, Or.inr ?_, h4⟩
      rcases h3 with h3 | h3
      · rw [h3]; simpa using hp
      · exact h3
    · rw [if_neg hp]
      obtain ⟨h1, h2, h3, h4⟩ := ih ((i + j) / 2 - i) (by omega) _ _ rfl (by omega)
      refine ⟨h1, by omega, h3, Or.inr ?_⟩
      rcases h4 with h4 | h4
      · rw [h4]; simpa using hp
      · exact h4
  · rw [bs, if_neg h]
    exact ⟨Nat.le_refl _, hij, Or.inl rfl, Or.inl (by omega)⟩
theorem swapR_size (a b n : Nat) : ∀ (t i : Nat) (d : Array α), n - i = t → (swapR a b n i d).size = d.size
 | 0, i, d, h => by rw [swapR, if_neg (by omega)]
 | t + 1, i, d, h => by rw [swapR, if_pos (by omega), swapR_size a b n t (i + 1) _ (by omega), size_swp]
theorem swapR_get (a b n : Nat) (hab : a + n ≤ b) : ∀ (t i : Nat) (d : Array α), n - i = t → b + n ≤ d.size → ∀ k,
    (swapR a b n i d)[k]! = if a + i ≤ k ∧ k < a + n then d[k - a + b]! else if b + i ≤ k ∧ k < b + n then d[k - b + a]! else d[k]!
 | 0, i, d, h, hs, k => by rw [swapR, if_neg (by omega), if_neg (by omega), if_neg (by omega)]
 | t + 1, i, d, h, hs, k => by
  rw [swapR, if_pos (by omega), swapR_get a b n hab t (i + 1) _ (by omega) (by rw [size_swp]; exact hs) k]
  have hl := swp_left d (a + i) (b + i) (by omega) (by omega)
  have hr := swp_right d (a + i) (b + i) (by omega)
  have ho := fun k h1 h2 => swp_other d (a + i) (b + i) k h1 h2
  by_cases h1 : k = a + i
  · rw [if_neg (by omega), if_neg (by omega), if_pos (by omega), h1, hl]; exact getE _ (by omega)
  · by_cases h2 : k = b + i
    · rw [if_neg (by omega), if_neg (by omega), if_neg (by omega), if_pos (by omega), h2, hr]; exact getE _ (by omega)
    · by_cases h3 : a + i ≤ k ∧ k < a + n
      · rw [if_pos (by omega), if_pos h3, ho _ (by omega) (by omega)]
      · by_cases h4 : b + i ≤ k ∧ k < b + n
        · rw [if_neg (by omega), if_pos (by omega), if_neg h3, if_pos h4, ho _ (by omega) (by omega)]
        · rw [if_neg (by omega), if_neg (by omega), if_neg h3, if_neg h4, ho _ h1 h2]
theorem swapR_perm (a b n A B : Nat) (ha : A ≤ a) (hab : a + n ≤ b) (hb : b + n ≤ B) : ∀ (t i : Nat) (d : Array α), n - i = t → B ≤ d.size → PermIn A B d (swapR a b n i d)
 | 0, i, d, h, hs => by rw [swapR, if_neg (by omega)]; exact permIn_refl _ _ _
 | t + 1, i, d, h, hs => by
  rw [swapR, if_pos (by omega)]
  exact permIn_trans _ _ _ A B (swp_permIn d A B (a + i) (b + i) (by omega) (by omega) (by omega) (by omega) hs) (swapR_perm a b n A B ha hab hb t (i + 1) _ (by omega) (by rw [size_swp]; exact hs))
theorem rot_spec (m A B : Nat) : ∀ (t i j : Nat) (d : Array α), i + j = t → 0 < i → 0 < j → A + i ≤ m → m + j ≤ B → B ≤ d.size →
    PermIn A B d (rot m i j d) ∧ ∀ k, (rot m i j d)[k]! = if m - i ≤ k ∧ k < m - i + j then d[k + i]! else if m - i + j ≤ k ∧ k < m + j then d[k - j]! else d[k]! := by
 intro t
 induction t using Nat.strongRecOn with
 | _ t ih =>
  intro i j d ht hi hj hA hB hs
  rw [rot]
  by_cases he : i = j
  · rw [if_pos he]
    refine ⟨swapR_perm _ _ _ A B (by omega) (by omega) (by omega) _ _ _ rfl hs, fun k => ?_⟩
    rw [swapR_get (m - i) m i (by omega) _ 0 d rfl (by omega) k]
    by_cases h1 : m - i ≤ k ∧ k < m - i + j
    · rw [if_pos (by omega), if_pos h1]; exact getE _ (by omega)
    · by_cases h2 : m - i + j ≤ k ∧ k < m + j
      · rw [if_neg (by omega), if_pos (by omega), if_neg h1, if_pos h2]; exact getE _ (by omega)
      · rw [if_neg (by omega), if_neg (by omega), if_neg h1, if_neg h2]
  · rw [if_neg he]
    by_cases hl : j < i
    · rw [if_pos hl, if_pos hj]
      have hsz := swapR_size (m - i) m j j 0 d (by omega)
      have hg := swapR_get (m - i) m j (by omega) j 0 d (by omega) (by omega)
      obtain ⟨h1, h2⟩ := ih (i - j + j) (by omega) (i - j) j (swapR (m - i) m j 0 d) rfl (by omega) hj (by omega) hB (by omega)
      refine ⟨permIn_trans _ _ _ A B (swapR_perm _ _ _ A B (by omega) (by omega) (by omega) _ _ _ rfl hs) h1, fun k => ?_⟩
      rw [h2 k]
      by_cases k1 : m - i ≤ k ∧ k < m - i + j
      · rw [if_neg (by omega), if_neg (by omega), if_pos k1, hg, if_pos (by omega)]; exact getE _ (by omega)
      · by_cases k2 : m - (i - j) ≤ k ∧ k < m - (i - j) + j
        · rw [if_pos k2, if_neg k1, if_pos (by omega), hg, if_neg (by omega), if_pos (by omega)]; exact getE _ (by omega)
        · by_cases k3 : m - (i - j) + j ≤ k ∧ k < m + j
          · rw [if_neg k2, if_pos k3, if_neg k1, if_pos (by omega), hg, if_neg (by omega), if_neg (by omega)]
          · rw [if_neg k2, if_neg k3, if_neg k1, if_neg (by omega), hg, if_neg (by omega), if_neg (by omega)]
    · rw [if_neg hl, if_pos hi]
      have hsz := swapR_size (m - i) (m + j - i) i i 0 d (by omega)
      have hg := swapR_get (m - i) (m + j - i) i (by omega) i 0 d (by omega) (by omega)
      obtain ⟨h1, h2⟩ := ih (i + (j - i)) (by omega) i (j - i) (swapR (m - i) (m + j - i) i 0 d) rfl hi (by omega) hA (by omega) (by omega)
      refine ⟨permIn_trans _ _ _ A B (swapR_perm _ _ _ A B (by omega) (by omega) (by omega) _ _ _ rfl hs) h1, fun k => ?_⟩
      rw [h2 k]
      by_cases k1 : m - i ≤ k ∧ k < m - i + (j - i)
      · rw [if_pos k1, if_pos (by omega), hg]
        by_cases k4 : k + i < m
        · omega
        · rw [if_neg (by omega), if_neg (by omega)]
      · by_cases k2 : m - i + (j - i) ≤ k ∧ k < m + (j - i)
        · rw [if_neg k1, if_pos k2, hg]
          by_cases k4 : k < m - i + j
          · rw [if_pos (by omega), if_pos (by omega)]; exact getE _ (by omega)
          · omega
        · by_cases k3 : m + (j - i) ≤ k ∧ k < m + j
          · rw [if_neg k1, if_neg k2, if_neg (by omega), if_pos (by omega), hg, if_neg (by omega), if_pos (by omega)]; exact getE _ (by omega)
          · rw [if_neg k1, if_neg k2, if_neg (by omega), if_neg (by omega), hg, if_neg (by omega), if_neg (by omega)]
end
end Go.Proofs.YthlflglkdaainaaGreatDoor
namespace Go.Proofs.YthlflglkdaainaaGreatDoor
open Go.Sort
section
variable {α : Type} [Inhabited α]
theorem shUp_spec (A B : Nat) : ∀ (t k i : Nat) (d : Array α), i - k = t → A ≤ k → i ≤ B → B ≤ d.size →
    PermIn A B d (shUp k i d) ∧ ∀ x, (shUp k i d)[x]! = if k ≤ x ∧ x + 1 < i then d[x + 1]! else if x + 1 = i ∧ k < i then d[k]! else d[x]!
 | 0, k, i, d, h, hA, hB, hs => by
  rw [shUp, if_neg (by omega)]
  exact ⟨permIn_refl _ _ _, fun x => by rw [if_neg (by omega), if_neg (by omega)]⟩
 | t + 1, k, i, d, h, hA, hB, hs => by
  rw [shUp]
  by_cases hk : k + 1 < i
  · rw [if_pos hk]
    have hl := swp_left d k (k + 1) (by omega) (by omega)
    have hr := swp_right d k (k + 1) (by omega)
    have ho := fun x h1 h2 => swp_other d k (k + 1) x h1 h2
    obtain ⟨h1, h2⟩ := shUp_spec A B t (k + 1) i (swp d k (k + 1)) (by omega) (by omega) hB (by rw [size_swp]; exact hs)
    refine ⟨permIn_trans _ _ _ A B (swp_permIn d A B k (k + 1) hA (by omega) (by omega) (by omega) hs) h1, fun x => ?_⟩
    rw [h2 x]
    by_cases x1 : x = k
    · subst x1; rw [if_neg (by omega), if_neg (by omega), if_pos (by omega), hl]
    · by_cases x2 : k + 1 ≤ x ∧ x + 1 < i
      · rw [if_pos x2, if_pos (by omega), ho _ (by omega) (by omega)]
      · by_cases x3 : x + 1 = i
        · rw [if_neg x2, if_pos (by omega), if_neg (by omega), if_pos (by omega), hr]
        · rw [if_neg x2, if_neg (by omega), if_neg (by omega), if_neg (by omega), ho _ x1 (by omega)]
  · rw [if_neg hk]
    exact ⟨permIn_refl _ _ _, fun x => by
     rw [if_neg (by omega)]
     by_cases hx : x + 1 = i ∧ k < i
     · rw [if_pos hx]; exact getE _ (by omega)
     · rw [if_neg hx]⟩
theorem shDn_spec (A B i : Nat) (hA : A ≤ i) : ∀ (k : Nat) (d : Array α), i ≤ k → k < B → B ≤ d.size →
    PermIn A B d (shDn i k d) ∧ ∀ x, (shDn i k d)[x]! = if x = i then d[k]! else if i < x ∧ x ≤ k then d[x - 1]! else d[x]!
 | 0, d, h, hB, hs => by
  unfold shDn
  exact ⟨permIn_refl _ _ _, fun x => by
   by_cases hx : x = i
   · rw [if_pos hx]; exact getE _ (by omega)
   · rw [if_neg hx, if_neg (by omega)]⟩
 | k + 1, d, h, hB, hs => by
  unfold shDn
  by_cases hk : i < k + 1
  · rw [if_pos hk]
    have hl := swp_left d (k + 1) k (by omega) (by omega)
    have hr := swp_right d (k + 1) k (by omega)
    have ho := fun x h1 h2 => swp_other d (k + 1) k x h1 h2
    obtain ⟨h1, h2⟩ := shDn_spec A B i hA k (swp d (k + 1) k) (by omega) (by omega) (by rw [size_swp]; exact hs)
    refine ⟨permIn_trans _ _ _ A B (swp_permIn d A B (k + 1) k (by omega) (by omega) (by omega) (by omega) hs) h1, fun x => ?_⟩
    rw [h2 x]
    by_cases x1 : x = i
    · rw [if_pos x1, if_pos x1, hr]
    · by_cases x2 : i < x ∧ x ≤ k
      · rw [if_neg x1, if_pos x2, if_neg x1, if_pos (by omega), ho _ (by omega) (by omega)]
      · by_cases x3 : x = k + 1
        · rw [if_neg x1, if_neg x2, if_neg x1, if_pos (by omega), x3, hl]; exact getE _ (by omega)
        · rw [if_neg x1, if_neg x2, if_neg x1, if_neg (by omega), ho _ x3 (by omega)]
  · rw [if_neg hk]
    exact ⟨permIn_refl _ _ _, fun x => by
     by_cases hx : x = i
     · rw [if_pos hx]; exact getE _ (by omega)
     · rw [if_neg hx, if_neg (by omega)]⟩
theorem rotG_spec (A B m i j : Nat) (d : Array α) (hA : A + i ≤ m) (hB : m + j ≤ B) (hs : B ≤ d.size) :
    PermIn A B d (if 0 < i ∧ 0 < j then rot m i j d else d) ∧ ∀ k, (if 0 < i ∧ 0 < j then rot m i j d else d)[k]! = if m - i ≤ k ∧ k < m - i + j then d[k + i]! else if m - i + j ≤ k ∧ k < m + j then d[k - j]! else d[k]! := by
 by_cases h : 0 < i ∧ 0 < j
 · rw [if_pos h]
   exact rot_spec m A B _ i j d rfl h.1 h.2 hA hB hs
 · rw [if_neg h]
   refine ⟨permIn_refl _ _ _, fun k => ?_⟩
   by_cases h1 : m - i ≤ k ∧ k < m - i + j
   · rw [if_pos h1]; exact getE _ (by omega)
   · by_cases h2 : m - i + j ≤ k ∧ k < m + j
     · rw [if_neg h1, if_pos h2]; exact getE _ (by omega)
     · rw [if_neg h1, if_neg h2]
structure Runs (lt lt' : α → α → Bool) (a m b : Nat) (d : Array α) : Prop where
 left : SortedIn lt' a m d
 right : SortedIn lt' m b d
 agree : ∀ i j, a ≤ i → i < m → m ≤ j → j < b → lt d[j]! d[i]! = lt' d[j]! d[i]!
theorem sorted_join {lt' : α → α → Bool} {a c b : Nat} {d : Array α} (h1 : SortedIn lt' a c d) (h2 : SortedIn lt' c b d) (h3 : ∀ i j, a ≤ i → i < c → c ≤ j → j < b → lt' d[j]! d[i]! = false) : SortedIn lt' a b d := by
 intro i j hi hij hj
 by_cases h : j < c
 · exact h1 i j hi hij h
 · by_cases h' : c ≤ i
   · exact h2 i j h' hij hj
   · exact h3 i j hi (by omega) (by omega) hj
theorem symMerge_spec (lt lt' : α → α → Bool) (hT : SWO lt') : ∀ (f a m b : Nat) (d : Array α), b - a ≤ f → a < m → m < b → b ≤ d.size → Runs lt lt' a m b d →
    PermIn a b d (symMerge lt f a m b d) ∧ SortedIn lt' a b (symMerge lt f a m b d) := by
 intro f
 induction f with
 | zero => intro a m b d hf h1 h2; omega
 | succ f ih =>
  intro a m b d hf ham hmb hs hR
  have hle : ∀ i j, a ≤ i → i ≤ j → j < m → lt' d[j]! d[i]! = false := fun i j h1 h2 h3 => by
   rcases Nat.lt_or_eq_of_le h2 with h | h
   · exact hR.left i j h1 h h3
   · rw [h]; exact hT.irrefl _
  have hre : ∀ i j, m ≤ i → i ≤ j → j < b → lt' d[j]! d[i]! = false := fun i j h1 h2 h3 => by
   rcases Nat.lt_or_eq_of_le h2 with h | h
   · exact hR.right i j h1 h h3
   · rw [h]; exact hT.irrefl _
  rw [symMerge]
  by_cases hm1 : m - a = 1
  · rw [if_pos hm1]
    obtain ⟨q1, q2, q3, q4⟩ := bs_spec (fun h => lt d[h]! d[a]!) (b - m) m b rfl (by omega)
    obtain ⟨i, hi⟩ : ∃ i, bs (fun h => lt d[h]! d[a]!) m b = i := ⟨_, rfl⟩
    rw [hi] at q1 q2 q3 q4 ⊢
    obtain ⟨hp, hg⟩ := shUp_spec a b (i - a) a i d rfl (Nat.le_refl _) q2 hs
    refine ⟨hp, fun x y hx hxy hy => ?_⟩
    -- all of [m, i) are below d[a], all of [i, b) are not
    have hlo : ∀ z, m ≤ z → z < i → lt' d[z]! d[a]! = true := fun z h1 h2 => by
     rcases q3 with q3 | q3
     · omega
     · have e1 : lt' d[i - 1]! d[a]! = true := by rw [← hR.agree a (i - 1) (Nat.le_refl _) ham (by omega) (by omega)]; exact q3
       by_cases hz : z = i - 1
       · rw [hz]; exact e1
       · have e2 := hre z (i - 1) h1 (by omega) (by omega)
         cases hc : lt' d[z]! d[a]! with
         | true => rfl
         | false =>
          have := hT.ntrans _ _ _ e2 hc
          rw [e1] at this; cases this
    have hhi : ∀ z, i ≤ z → z < b → lt' d[z]! d[a]! = false := fun z h1 h2 => by
     rcases q4 with q4 | q4
     · omega
     · have e1 : lt' d[i]! d[a]! = false := by rw [← hR.agree a i (Nat.le_refl _) ham (by omega) (by omega)]; exact q4
       exact hT.ntrans _ _ _ (hre i z (by omega) h1 h2) e1
    have f1 : ∀ z, a ≤ z → z + 1 < i → (shUp a i d)[z]! = d[z + 1]! := fun z h1 h2 => by rw [hg z, if_pos (by omega)]
    have f2 : ∀ z, z + 1 = i → (shUp a i d)[z]! = d[a]! := fun z h1 => by rw [hg z, if_neg (by omega), if_pos (by omega)]
    have f3 : ∀ z, i ≤ z → (shUp a i d)[z]! = d[z]! := fun z h1 => by rw [hg z, if_neg (by omega), if_neg (by omega)]
    by_cases x1 : x + 1 < i
    · rw [f1 x hx x1]
      by_cases y1 : y + 1 < i
      · rw [f1 y (by omega) y1]; exact hre _ _ (by omega) (by omega) (by omega)
      · by_cases y2 : y + 1 = i
        · rw [f2 y y2]; exact hT.asymmA (hlo _ (by omega) (by omega))
        · rw [f3 y (by omega)]; exact hre _ _ (by omega) (by omega) (by omega)
    · by_cases x2 : x + 1 = i
      · rw [f2 x x2, f3 y (by omega)]; exact hhi _ (by omega) (by omega)
      · rw [f3 x (by omega), f3 y (by omega)]; exact hre _ _ (by omega) (by omega) (by omega)
  · rw [if_neg hm1]
    by_cases hm2 : b - m = 1
    · rw [if_pos hm2]
      obtain ⟨q1, q2, q3, q4⟩ := bs_spec (fun h => !lt d[m]! d[h]!) (m - a) a m rfl (by omega)
      obtain ⟨i, hi⟩ : ∃ i, bs (fun h => !lt d[m]! d[h]!) a m = i := ⟨_, rfl⟩
      rw [hi] at q1 q2 q3 q4 ⊢
      obtain ⟨hp, hg⟩ := shDn_spec a b i q1 m d q2 (by omega) hs
      refine ⟨hp, fun x y hx hxy hy => ?_⟩
      have hlo : ∀ z, a ≤ z → z < i → lt' d[m]! d[z]! = false := fun z h1 h2 => by
       rcases q3 with q3 | q3
       · omega
       · have e1 : lt' d[m]! d[i - 1]! = false := by rw [← hR.agree (i - 1) m (by omega) (by omega) (Nat.le_refl _) hmb]; simpa using q3
         exact hT.ntrans _ _ _ e1 (hle z (i - 1) h1 (by omega) (by omega))
      have hhi : ∀ z, i ≤ z → z < m → lt' d[m]! d[z]! = true := fun z h1 h2 => by
       rcases q4 with q4 | q4
       · omega
       · have e1 : lt' d[m]! d[i]! = true := by rw [← hR.agree i m (by omega) (by omega) (Nat.le_refl _) hmb]; simpa using q4
         cases hc : lt' d[m]! d[z]! with
         | true => rfl
         | false =>
          have := hT.ntrans _ _ _ hc (hle i z (by omega) h1 h2)
          rw [e1] at this; cases this
      have f1 : ∀ z, z < i → (shDn i m d)[z]! = d[z]! := fun z h1 => by rw [hg z, if_neg (by omega), if_neg (by omega)]
      have f2 : (shDn i m d)[i]! = d[m]! := by rw [hg i, if_pos rfl]
      have f3 : ∀ z, i < z → z ≤ m → (shDn i m d)[z]! = d[z - 1]! := fun z h1 h2 => by rw [hg z, if_neg (by omega), if_pos (by omega)]
      by_cases x1 : x < i
      · rw [f1 x x1]
        by_cases y1 : y = i
        · rw [y1, f2]; exact hlo _ hx x1
        · by_cases y2 : i < y
          · rw [f3 y y2 (by omega)]; exact hle _ _ (by omega) (by omega) (by omega)
          · rw [f1 y (by omega)]; exact hle _ _ (by omega) (by omega) (by omega)
      · by_cases x2 : x = i
        · rw [x2, f2, f3 y (by omega) (by omega)]; exact hT.asymmA (hhi _ (by omega) (by omega))
        · rw [f3 x (by omega) (by omega), f3 y (by omega) (by omega)]; exact hle _ _ (by omega) (by omega) (by omega)
    · rw [if_neg hm2]
      obtain ⟨mid, hmid⟩ : ∃ mid, (a + b) / 2 = mid := ⟨_, rfl⟩
      have hst := bs_spec (fun c => !lt d[(a + b) / 2 + m - 1 - c]! d[c]!) _ (if (a + b) / 2 < m then (a + b) / 2 + m - b else a) (if (a + b) / 2 < m then (a + b) / 2 else m) rfl (by split <;> omega)
      obtain ⟨st, hse⟩ : ∃ st, symStart lt a m b d = st := ⟨_, rfl⟩
      have hse' := hse
      unfold symStart at hse'
      rw [hse'] at hst
      obtain ⟨q1, q2, q3, q4⟩ := hst
      simp only [hse]
      rw [hmid] at q1 q2 q3 q4 ⊢
      have hma : a < mid := by omega
      have hmb' : mid < b := by omega
      have hsa : a ≤ st := by split at q1 <;> omega
      have hsm : st ≤ m := by split at q2 <;> omega
      have hsd : st ≤ mid := by split at q2 <;> omega
      obtain ⟨en, hen⟩ : ∃ en, mid + m - st = en := ⟨_, rfl⟩
      rw [hen]
      have hem : m ≤ en := by omega
      have heb : en ≤ b := by split at q1 <;> omega
      have hed : mid ≤ en := by omega
      -- L1 is not above R2
      have c1 : ∀ i j, a ≤ i → i < st → en ≤ j → j < b → lt' d[j]! d[i]! = false := fun i j h1 h2 h3 h4 => by
       rcases q3 with q3 | q3
       · split at q3 <;> omega
       · have e1 : lt' d[mid + m - 1 - (st - 1)]! d[st - 1]! = false := by
           rw [← hR.agree (st - 1) (mid + m - 1 - (st - 1)) (by omega) (by omega) (by omega) (by omega)]; simpa using q3
         have e2 := hre (mid + m - 1 - (st - 1)) j (by omega) (by omega) h4
         have e3 := hle i (st - 1) h1 (by omega) (by omega)
         exact hT.ntrans _ _ _ e2 (hT.ntrans _ _ _ e1 e3)
      -- R1 is below L2
      have c2 : ∀ i j, m ≤ i → i < en → st ≤ j → j < m → lt' d[j]! d[i]! = false := fun i j h1 h2 h3 h4 => by
       rcases q4 with q4 | q4
       · split at q4 <;> omega
       · have e1 : lt' d[mid + m - 1 - st]! d[st]! = true := by
           rw [← hR.agree st (mid + m - 1 - st) (by omega) (by omega) (by omega) (by omega)]; simpa using q4
         have e2 := hre i (mid + m - 1 - st) h1 (by omega) (by omega)
         have e3 := hle st j (by omega) h3 h4
         cases hc : lt' d[j]! d[i]! with
         | false => rfl
         | true =>
          -- d[i] is not above d[p-st], that is below d[st], that is not above d[j]
          have e4 := hT.asymmA e1
          exact absurd (hT.ntrans _ _ _ (hT.ntrans _ _ _ e3 e4) e2) (by rw [hc]; decide)
      have hrot := rotG_spec a b m (m - st) (en - m) d (by omega) (by omega) hs
      have hcond : (if st < m ∧ m < en then rot m (m - st) (en - m) d else d) = (if 0 < m - st ∧ 0 < en - m then rot m (m - st) (en - m) d else d) := by
       by_cases h : st < m ∧ m < en
       · rw [if_pos h, if_pos (by omega)]
       · rw [if_neg h, if_neg (by omega)]
      rw [← hcond] at hrot
      obtain ⟨d1, hd1⟩ : ∃ d1, (if st < m ∧ m < en then rot m (m - st) (en - m) d else d) = d1 := ⟨_, rfl⟩
      rw [hd1] at hrot ⊢
      obtain ⟨p1, g1⟩ := hrot
      have hs1 : d1.size = d.size := p1.1
      have gL1 : ∀ k, k < st → d1[k]! = d[k]! := fun k h => by rw [g1, if_neg (by omega), if_neg (by omega)]
      have gR1 : ∀ k, st ≤ k → k < mid → d1[k]! = d[k + (m - st)]! := fun k h h' => by rw [g1, if_pos (by omega)]
      have gL2 : ∀ k, mid ≤ k → k < en → d1[k]! = d[k - (en - m)]! := fun k h h' => by rw [g1, if_neg (by omega), if_pos (by omega)]
      have gR2 : ∀ k, en ≤ k → d1[k]! = d[k]! := fun k h => by rw [g1, if_neg (by omega), if_neg (by omega)]
      have hcross : ∀ i j, a ≤ i → i < mid → mid ≤ j → j < b → lt' d1[j]! d1[i]! = false := fun i j h1 h2 h3 h4 => by
       by_cases hi : i < st
       · rw [gL1 i hi]
         by_cases hj : j < en
         · rw [gL2 j h3 hj]; exact hle _ _ h1 (by omega) (by omega)
         · rw [gR2 j (by omega)]; exact c1 _ _ h1 hi (by omega) h4
       · rw [gR1 i (by omega) h2]
         by_cases hj : j < en
         · rw [gL2 j h3 hj]; exact c2 _ _ (by omega) (by omega) (by omega) (by omega)
         · rw [gR2 j (by omega)]; exact hre _ _ (by omega) (by omega) h4
      -- the first half
      have hA : ∃ d2, (if a < st ∧ st < mid then symMerge lt f a st mid d1 else d1) = d2 ∧ PermIn a mid d1 d2 ∧ SortedIn lt' a mid d2 := by
       by_cases h : a < st ∧ st < mid
       · refine ⟨_, rfl, ?_⟩
         rw [if_pos h]
         exact ih a st mid d1 (by omega) h.1 h.2 (by omega) ⟨fun i j h1 h2 h3 => by rw [gL1 i (by omega), gL1 j h3]; exact hR.left i j h1 h2 (by omega),
          fun i j h1 h2 h3 => by rw [gR1 i h1 (by omega), gR1 j (by omega) h3]; exact hR.right _ _ (by omega) (by omega) (by omega),
          fun i j h1 h2 h3 h4 => by rw [gL1 i h2, gR1 j h3 h4]; exact hR.agree _ _ h1 (by omega) (by omega) (by omega)⟩
       · refine ⟨_, rfl, ?_⟩
         rw [if_neg h]
         refine ⟨permIn_refl _ _ _, fun i j h1 h2 h3 => ?_⟩
         by_cases hst : st = a
         · rw [gR1 i (by omega) (by omega), gR1 j (by omega) h3]; exact hR.right _ _ (by omega) (by omega) (by omega)
         · rw [gL1 i (by omega), gL1 j (by omega)]; exact hR.left i j h1 h2 (by omega)
      obtain ⟨d2, hd2, p2, s2⟩ := hA
      rw [hd2]
      have hs2 : d2.size = d.size := p2.1.trans hs1
      have g2 : ∀ k, mid ≤ k → d2[k]! = d1[k]! := fun k h => p2.2.1 k (Or.inr h)
      have hB : ∃ d3, (if mid < en ∧ en < b then symMerge lt f mid en b d2 else d2) = d3 ∧ PermIn mid b d2 d3 ∧ SortedIn lt' mid b d3 := by
       by_cases h : mid < en ∧ en < b
       · refine ⟨_, rfl, ?_⟩
         rw [if_pos h]
         exact ih mid en b d2 (by omega) h.1 h.2 (by omega) ⟨fun i j h1 h2 h3 => by rw [g2 i h1, g2 j (by omega), gL2 i h1 (by omega), gL2 j (by omega) h3]; exact hR.left _ _ (by omega) (by omega) (by omega),
          fun i j h1 h2 h3 => by rw [g2 i (by omega), g2 j (by omega), gR2 i h1, gR2 j (by omega)]; exact hR.right _ _ (by omega) (by omega) (by omega),
          fun i j h1 h2 h3 h4 => by rw [g2 i h1, g2 j (by omega), gL2 i h1 h2, gR2 j h3]; exact hR.agree _ _ (by omega) (by omega) (by omega) (by omega)⟩
       · refine ⟨_, rfl, ?_⟩
         rw [if_neg h]
         refine ⟨permIn_refl _ _ _, fun i j h1 h2 h3 => ?_⟩
         rw [g2 i h1, g2 j (by omega)]
         by_cases hst : en = mid
         · rw [gR2 i (by omega), gR2 j (by omega)]; exact hR.right _ _ (by omega) (by omega) (by omega)
         · rw [gL2 i h1 (by omega), gL2 j (by omega) (by omega)]; exact hR.left _ _ (by omega) (by omega) (by omega)
      obtain ⟨d3, hd3, p3, s3⟩ := hB
      rw [hd3]
      refine ⟨permIn_trans _ _ _ a b p1 (permIn_trans _ _ _ a b (permIn_mono d1 d2 a mid a b (Nat.le_refl _) (by omega) (by omega) p2) (permIn_mono d2 d3 mid b a b (by omega) (Nat.le_refl _) (by omega) p3)), ?_⟩
      refine sorted_join (c := mid) (fun i j h1 h2 h3 => ?_) s3 (fun i j h1 h2 h3 h4 => ?_)
      · rw [p3.2.1 i (Or.inl (by omega)), p3.2.1 j (Or.inl h3)]; exact s2 i j h1 h2 h3
      · rw [p3.2.1 i (Or.inl h2)]
        refine permIn_all d2 d3 mid b (fun x => lt' x d2[i]! = false) (by omega) p3 (fun j h3 h4 => ?_) j h3 h4
        rw [g2 j h3]
        exact permIn_all d1 d2 a mid (fun x => lt' d1[j]! x = false) (by omega) p2 (fun i h1 h2 => hcross i j h1 h2 h3 h4) i h1 h2
end
end Go.Proofs.YthlflglkdaainaaGreatDoor
namespace Go.Proofs.YthlflglkdaainaaGreatDoor
open Go.Sort
section
variable {α : Type} [Inhabited α] (idx : α → Nat) (lt : α → α → Bool)
def ltI (x y : α) : Bool := lt x y || (!lt y x && decide (idx x < idx y))
omit [Inhabited α] in
theorem ltI_true {x y : α} : ltI idx lt x y = true ↔ lt x y = true ∨ (lt y x = false ∧ idx x < idx y) := by unfold ltI; simp
omit [Inhabited α] in
theorem ltI_false {x y : α} : ltI idx lt x y = false ↔ lt x y = false ∧ (lt y x = true ∨ idx y ≤ idx x) := by
 unfold ltI; rw [Bool.or_eq_false_iff, Bool.and_eq_false_iff]; simp
variable {lt}
omit [Inhabited α] in
theorem ltI_swo (hS : SWO lt) : SWO (ltI idx lt) := by
 have ct : ∀ {x y z}, lt x y = true → lt z y = false → lt x z = true := fun {x y z} h1 h2 => by
  cases h : lt x z with
  | true => rfl
  | false => have := hS.ntrans x z y h h2; rw [h1] at this; cases this
 have ct2 : ∀ {x y z}, lt y x = false → lt y z = true → lt x z = true := fun {x y z} h1 h2 => by
  cases h : lt x z with
  | true => rfl
  | false => have := hS.ntrans y x z h1 h; rw [h2] at this; cases this
 constructor
 · intro x; rw [ltI_false]; exact ⟨hS.irrefl x, Or.inr (Nat.le_refl _)⟩
 · intro x y z h1 h2
   rw [ltI_true] at h1 h2 ⊢
   rcases h1 with h1 | ⟨h1, i1⟩ <;> rcases h2 with h2 | ⟨h2, i2⟩
   · exact Or.inl (hS.trans _ _ _ h1 h2)
   · exact Or.inl (ct h1 h2)
   · exact Or.inl (ct2 h1 h2)
   · exact Or.inr ⟨hS.ntrans _ _ _ h2 h1, by omega⟩
 · intro x y z h1 h2
   rw [ltI_false] at h1 h2 ⊢
   refine ⟨hS.ntrans _ _ _ h1.1 h2.1, ?_⟩
   rcases h1.2 with h3 | h3
   · exact Or.inl (ct2 h2.1 h3)
   · rcases h2.2 with h4 | h4
     · exact Or.inl (ct h4 h1.1)
     · exact Or.inr (by omega)
variable {idx}
omit [Inhabited α] in
theorem ltI_agree {x y : α} (h : idx x < idx y) : lt y x = ltI idx lt y x := by
 cases h1 : lt y x with
 | true => exact ((ltI_true idx lt).2 (Or.inl h1)).symm
 | false => exact ((ltI_false idx lt).2 ⟨h1, Or.inr (by omega)⟩).symm
theorem insInner_agree (a : Nat) : ∀ (j : Nat) (d : Array α), j < d.size → (∀ k, a ≤ k → k < j → idx d[k]! < idx d[j]!) → insInner lt a j d = insInner (ltI idx lt) a j d
 | 0, d, _, _ => rfl
 | j + 1, d, hs, h => by
  unfold insInner
  by_cases hj : j + 1 > a
  · rw [← ltI_agree (idx := idx) (lt := lt) (h j (by omega) (by omega))]
    by_cases hc : (decide (j + 1 > a) && lt d[j + 1]! d[j]!) = true
    · rw [if_pos hc, if_pos hc]
      refine insInner_agree a j _ (by rw [size_swp]; omega) fun k h1 h2 => ?_
      rw [swp_other _ _ _ _ (by omega) (by omega), swp_right _ _ _ (by omega)]
      exact h k h1 (by omega)
    · rw [if_neg hc, if_neg hc]
  · rw [if_neg (by simp [hj]), if_neg (by simp [hj])]
theorem insOuter_agree (hS : SWO lt) (a b : Nat) : ∀ (t i : Nat) (d : Array α), b - i = t → a < i → b ≤ d.size → SortedIn (ltI idx lt) a i d → (∀ k l, a ≤ k → k < l → i ≤ l → l < b → idx d[k]! < idx d[l]!) →
    insOuter lt a b i d = insOuter (ltI idx lt) a b i d
 | 0, i, d, h, _, _, _, _ => by
  have e1 : insOuter lt a b i d = d := by rw [insOuter, if_neg (by omega)]
  have e2 : insOuter (ltI idx lt) a b i d = d := by rw [insOuter, if_neg (by omega)]
  rw [e1, e2]
 | t + 1, i, d, h, hai, hs, hso, hi => by
  have e1 : insOuter lt a b i d = insOuter lt a b (i + 1) (insInner lt a i d) := by rw [insOuter, if_pos (by omega)]
  have e2 : insOuter (ltI idx lt) a b i d = insOuter (ltI idx lt) a b (i + 1) (insInner (ltI idx lt) a i d) := by rw [insOuter, if_pos (by omega)]
  rw [e1, e2, insInner_agree (idx := idx) a i d (by omega) (fun k h1 h2 => hi k i h1 h2 (Nat.le_refl _) (by omega))]
  have hsp := insInner_spec (ltI_swo idx hS) swp_permIn permIn_refl permIn_trans a (i + 1) i (by omega) i d (by omega) (Nat.le_refl _) (by omega) ⟨fun p q hap hpq hqi _ hq => hso p q hap hpq (by omega), fun q h1 h2 => by omega⟩
  obtain ⟨hp, hso'⟩ := hsp
  refine insOuter_agree hS a b t (i + 1) _ (by omega) (by omega) (by rw [hp.1]; exact hs) hso' fun k l h1 h2 h3 h4 => ?_
  rw [hp.2.1 l (Or.inr (by omega))]
  by_cases hk : k < i + 1
  · exact permIn_all d _ a (i + 1) (fun x => idx x < idx d[l]!) (by omega) hp (fun k h1 h2 => hi k l h1 (by omega) (by omega) h4) k h1 hk
  · rw [hp.2.1 k (Or.inr (by omega))]; exact hi k l h1 h2 (by omega) h4
theorem insertionSort_agree (hS : SWO lt) (a b : Nat) (d : Array α) (hb : b ≤ d.size) (hi : ∀ k l, a ≤ k → k < l → l < b → idx d[k]! < idx d[l]!) : insertionSort lt d a b = insertionSort (ltI idx lt) d a b := by
 unfold insertionSort
 exact insOuter_agree hS a b _ (a + 1) d rfl (by omega) hb (fun i j h1 h2 h3 => by omega) (fun k l h1 h2 _ h4 => hi k l h1 h2 h4)
variable (lt)
def blocksR (n a : Nat) (d : Array α) : Array α := if a + 20 ≤ n then blocksR n (a + 20) (insertionSort lt d a (a + 20)) else insertionSort lt d a n
termination_by n - a
def symM (a m b : Nat) (d : Array α) : Array α := symMerge lt (b - a) a m b d
def mergePass (bz n a : Nat) (d : Array α) : Array α :=
 if 0 < bz ∧ a + 2 * bz ≤ n then mergePass bz n (a + 2 * bz) (symM lt a (a + bz) (a + 2 * bz) d)
 else if a + bz < n then symM lt a (a + bz) n d else d
termination_by n - a
def passes (n bz : Nat) (d : Array α) : Array α := if 0 < bz ∧ bz < n then passes n (bz * 2) (mergePass lt bz n 0 d) else d
termination_by n - bz
def stableA (n : Nat) (d : Array α) : Array α := passes lt n 20 (blocksR lt n 0 d)
variable (idx)
structure Good (a b : Nat) (d : Array α) : Prop where
 so : SortedIn (ltI idx lt) a b d
 inr : ∀ i, a ≤ i → i < b → a ≤ idx d[i]! ∧ idx d[i]! < b
variable {idx lt}
theorem Good.congr {a b : Nat} {d d' : Array α} (h : Good idx lt a b d) (e : ∀ i, a ≤ i → i < b → d'[i]! = d[i]!) : Good idx lt a b d' :=
 ⟨fun i j h1 h2 h3 => by rw [e i h1 (by omega), e j (by omega) h3]; exact h.so i j h1 h2 h3, fun i h1 h2 => by rw [e i h1 h2]; exact h.inr i h1 h2⟩
theorem Good.merge (hS : SWO lt) {a m b : Nat} {d : Array α} (ham : a < m) (hmb : m < b) (hs : b ≤ d.size) (h1 : Good idx lt a m d) (h2 : Good idx lt m b d) :
    PermIn a b d (symM lt a m b d) ∧ Good idx lt a b (symM lt a m b d) := by
 have hr : Runs lt (ltI idx lt) a m b d := ⟨h1.so, h2.so, fun i j hi him hj hjb => ltI_agree (by have := h1.inr i hi him; have := h2.inr j hj hjb; omega)⟩
 obtain ⟨p, so⟩ := symMerge_spec lt (ltI idx lt) (ltI_swo idx hS) (b - a) a m b d (Nat.le_refl _) ham hmb hs hr
 refine ⟨p, so, fun i hi hib => ?_⟩
 refine permIn_all d _ a b (fun x => a ≤ idx x ∧ idx x < b) hs p (fun i hi hib => ?_) i hi hib
 by_cases hm : i < m
 · have := h1.inr i hi hm; omega
 · have := h2.inr i (by omega) hib; omega
theorem Good.ins (hS : SWO lt) {a b : Nat} {d : Array α} (hab : a ≤ b) (hs : b ≤ d.size) (hi : ∀ i, a ≤ i → i < b → idx d[i]! = i) :
    PermIn a b d (insertionSort lt d a b) ∧ Good idx lt a b (insertionSort lt d a b) := by
 rw [insertionSort_agree (idx := idx) hS a b d hs (fun k l h1 h2 h3 => by rw [hi k h1 (by omega), hi l (by omega) h3]; exact h2)]
 obtain ⟨p, so⟩ := insertionSort_holds (ltI_swo idx hS) d a b hab hs
 refine ⟨p, so, fun i h1 h2 => ?_⟩
 exact permIn_all d _ a b (fun x => a ≤ idx x ∧ idx x < b) hs p (fun i h1 h2 => by rw [hi i h1 h2]; omega) i h1 h2
theorem dvd_step {k c a : Nat} (h : k ∣ c) (h' : k ∣ a) (hlt : c < a) : c + k ≤ a := by
 obtain ⟨u, rfl⟩ := h
 obtain ⟨v, rfl⟩ := h'
 have : u < v := by
  rcases Nat.lt_or_ge u v with h | h
  · exact h
  · have := Nat.mul_le_mul_left k h; omega
 have := Nat.mul_le_mul_left k (show u + 1 ≤ v from this)
 rwa [Nat.mul_add, Nat.mul_one] at this
def Blks (idx : α → Nat) (lt : α → α → Bool) (n bz : Nat) (d : Array α) : Prop := ∀ c, bz ∣ c → c < n → Good idx lt c (min (c + bz) n) d
theorem blocksR_spec (hS : SWO lt) (n : Nat) : ∀ (t a : Nat) (d : Array α), n - a = t → 20 ∣ a → a ≤ n → n ≤ d.size → (∀ c, 20 ∣ c → c + 20 ≤ a → Good idx lt c (c + 20) d) → (∀ i, a ≤ i → i < n → idx d[i]! = i) →
    PermIn 0 n d (blocksR lt n a d) ∧ Blks idx lt n 20 (blocksR lt n a d) := by
 intro t
 induction t using Nat.strongRecOn with
 | _ t ih =>
  intro a d ht ha han hs hG hI
  rw [blocksR]
  by_cases hc : a + 20 ≤ n
  · rw [if_pos hc]
    obtain ⟨p, g⟩ := Good.ins (idx := idx) hS (show a ≤ a + 20 by omega) (by omega) (fun i h1 h2 => hI i h1 (by omega))
    have hsz : (insertionSort lt d a (a + 20)).size = d.size := p.1
    obtain ⟨p2, g2⟩ := ih (n - (a + 20)) (by omega) (a + 20) (insertionSort lt d a (a + 20)) rfl (Nat.dvd_add ha (Nat.dvd_refl _)) hc (by omega) (fun c hc1 hc2 => by
     by_cases hca : c = a
     · rw [hca]; exact g
     · have hlt : c < a := by omega
       have := dvd_step hc1 ha hlt
       exact (hG c hc1 this).congr fun i h1 h2 => p.2.1 i (Or.inl (by omega))) (fun i h1 h2 => by rw [p.2.1 i (Or.inr h1)]; exact hI i (by omega) h2)
    exact ⟨permIn_trans _ _ _ 0 n (permIn_mono d _ a (a + 20) 0 n (Nat.zero_le _) hc hs p) p2, g2⟩
  · rw [if_neg hc]
    obtain ⟨p, g⟩ := Good.ins (idx := idx) hS han hs hI
    refine ⟨permIn_mono d _ a n 0 n (Nat.zero_le _) (Nat.le_refl _) hs p, fun c hc1 hc2 => ?_⟩
    by_cases hca : c < a
    · have h20 := dvd_step hc1 ha hca
      rw [Nat.min_eq_left (by omega)]
      exact (hG c hc1 h20).congr fun i h1 h2 => p.2.1 i (Or.inl (by omega))
    · have : c = a := by
        rcases Nat.lt_or_eq_of_le (Nat.le_of_not_lt hca) with h | h
        · have := dvd_step ha hc1 h; omega
        · exact h.symm
      rw [this, Nat.min_eq_right (by omega)]; exact g
theorem mergePass_spec (hS : SWO lt) (n bz : Nat) (hbz : 0 < bz) : ∀ (t a : Nat) (d : Array α), n - a = t → 2 * bz ∣ a → a ≤ n → n ≤ d.size → (∀ c, 2 * bz ∣ c → c + 2 * bz ≤ a → Good idx lt c (c + 2 * bz) d) → (∀ c, bz ∣ c → a ≤ c → c < n → Good idx lt c (min (c + bz) n) d) →
    PermIn 0 n d (mergePass lt bz n a d) ∧ Blks idx lt n (2 * bz) (mergePass lt bz n a d) := by
 intro t
 induction t using Nat.strongRecOn with
 | _ t ih =>
  intro a d ht ha han hs hG hI
  have hba : bz ∣ a := Nat.dvd_trans ⟨2, by omega⟩ ha
  have hbab : bz ∣ a + bz := Nat.dvd_add hba (Nat.dvd_refl _)
  rw [mergePass]
  by_cases hc : 0 < bz ∧ a + 2 * bz ≤ n
  · rw [if_pos hc]
    have hc := hc.2
    have g1 := hI a hba (Nat.le_refl _) (by omega)
    have g2 := hI (a + bz) hbab (by omega) (by omega)
    rw [Nat.min_eq_left (by omega)] at g1 g2
    rw [show a + bz + bz = a + 2 * bz by omega] at g2
    obtain ⟨p, g⟩ := Good.merge hS (by omega) (by omega) (by omega) g1 g2
    have hsz : (symM lt a (a + bz) (a + 2 * bz) d).size = d.size := p.1
    obtain ⟨p2, g2⟩ := ih (n - (a + 2 * bz)) (by omega) (a + 2 * bz) (symM lt a (a + bz) (a + 2 * bz) d) rfl (Nat.dvd_add ha (Nat.dvd_refl _)) hc (by omega) (fun c hc1 hc2 => by
     by_cases hca : c = a
     · rw [hca]; exact g
     · have hlt : c < a := by omega
       have := dvd_step hc1 ha hlt
       exact (hG c hc1 this).congr fun i h1 h2 => p.2.1 i (Or.inl (by omega))) (fun c hc1 hc2 hc3 => (hI c hc1 (by omega) hc3).congr fun i h1 h2 => p.2.1 i (Or.inr (by omega)))
    exact ⟨permIn_trans _ _ _ 0 n (permIn_mono d _ a (a + 2 * bz) 0 n (Nat.zero_le _) hc hs p) p2, g2⟩
  · rw [if_neg hc]
    have hc : ¬ a + 2 * bz ≤ n := fun h => hc ⟨hbz, h⟩
    have hA : ∃ d', (if a + bz < n then symM lt a (a + bz) n d else d) = d' ∧ PermIn a n d d' ∧ (a < n → Good idx lt a n d') := by
     by_cases hb : a + bz < n
     · rw [if_pos hb]
       have g1 := hI a hba (Nat.le_refl _) (by omega)
       have g2 := hI (a + bz) hbab (by omega) (by omega)
       rw [Nat.min_eq_left (by omega)] at g1
       rw [Nat.min_eq_right (by omega)] at g2
       obtain ⟨p, g⟩ := Good.merge hS (by omega) hb hs g1 g2
       exact ⟨_, rfl, p, fun _ => g⟩
     · rw [if_neg hb]
       exact ⟨_, rfl, permIn_refl _ _ _, fun h => by have g1 := hI a hba (Nat.le_refl _) h; rwa [Nat.min_eq_right (by omega)] at g1⟩
    obtain ⟨d', e, p, g⟩ := hA
    rw [e]
    refine ⟨permIn_mono d _ a n 0 n (Nat.zero_le _) (Nat.le_refl _) hs p, fun c hc1 hc2 => ?_⟩
    by_cases hca : c < a
    · have h20 := dvd_step hc1 ha hca
      rw [Nat.min_eq_left (by omega)]
      exact (hG c hc1 h20).congr fun i h1 h2 => p.2.1 i (Or.inl (by omega))
    · have : c = a := by
        rcases Nat.lt_or_eq_of_le (Nat.le_of_not_lt hca) with h | h
        · have := dvd_step ha hc1 h; omega
        · exact h.symm
      rw [this, Nat.min_eq_right (by omega)]; exact g (by omega)
theorem passes_spec (hS : SWO lt) (n : Nat) : ∀ (t bz : Nat) (d : Array α), n - bz = t → 0 < bz → n ≤ d.size → Blks idx lt n bz d → PermIn 0 n d (passes lt n bz d) ∧ SortedIn (ltI idx lt) 0 n (passes lt n bz d) := by
 intro t
 induction t using Nat.strongRecOn with
 | _ t ih =>
  intro bz d ht hbz hs hB
  rw [passes]
  by_cases hc : 0 < bz ∧ bz < n
  · rw [if_pos hc]
    obtain ⟨p, g⟩ := mergePass_spec (idx := idx) hS n bz hbz n 0 d rfl (Nat.dvd_zero _) (Nat.zero_le _) hs (fun c _ h => by omega) (fun c h1 _ h3 => hB c h1 h3)
    rw [Nat.mul_comm 2 bz] at g
    obtain ⟨p2, s2⟩ := ih (n - bz * 2) (by omega) (bz * 2) _ rfl (by omega) (by rw [p.1]; exact hs) g
    exact ⟨permIn_trans _ _ _ 0 n p p2, s2⟩
  · rw [if_neg hc]
    refine ⟨permIn_refl _ _ _, ?_⟩
    by_cases hn : 0 < n
    · have := (hB 0 (Nat.dvd_zero _) hn).so
      rwa [Nat.min_eq_right (by omega)] at this
    · exact fun i j h1 h2 h3 => by omega
theorem stableA_spec (hS : SWO lt) (d : Array α) (hI : ∀ i, i < d.size → idx d[i]! = i) : PermIn 0 d.size d (stableA lt d.size d) ∧ SortedIn (ltI idx lt) 0 d.size (stableA lt d.size d) := by
 unfold stableA
 obtain ⟨p, g⟩ := blocksR_spec (idx := idx) hS d.size d.size 0 d rfl (Nat.dvd_zero _) (Nat.zero_le _) (Nat.le_refl _) (fun c _ h => by omega) (fun i _ h => hI i h)
 obtain ⟨p2, s2⟩ := passes_spec (idx := idx) hS d.size _ 20 _ rfl (by omega) (by rw [p.1]; exact Nat.le_refl _) g
 exact ⟨permIn_trans _ _ _ 0 d.size p p2, s2⟩
end
section
variable {α : Type} [Inhabited α]
theorem rot_size (m : Nat) : ∀ (t i j : Nat) (d : Array α), i + j = t → (rot m i j d).size = d.size := by
 intro t
 induction t using Nat.strongRecOn with
 | _ t ih =>
  intro i j d ht
  rw [rot]
  split
  · exact swapR_size _ _ _ _ _ _ rfl
  · split
    · split
      · rw [ih (i - j + j) (by omega) _ _ _ rfl]; exact swapR_size _ _ _ _ _ _ rfl
      · rfl
    · split
      · rw [ih (i + (j - i)) (by omega) _ _ _ rfl]; exact swapR_size _ _ _ _ _ _ rfl
      · rfl
theorem shUp_size : ∀ (t k i : Nat) (d : Array α), i - k = t → (shUp k i d).size = d.size
 | 0, k, i, d, h => by rw [shUp, if_neg (by omega)]
 | t + 1, k, i, d, h => by
  rw [shUp]
  split
  · rw [shUp_size t (k + 1) i _ (by omega), size_swp]
  · rfl
theorem shDn_size (i : Nat) : ∀ (k : Nat) (d : Array α), (shDn i k d).size = d.size
 | 0, _ => rfl
 | k + 1, d => by
  rw [shDn]
  split
  · rw [shDn_size i k, size_swp]
  · rfl
theorem symMerge_size (lt : α → α → Bool) : ∀ (f a m b : Nat) (d : Array α), (symMerge lt f a m b d).size = d.size
 | 0, _, _, _, _ => rfl
 | f + 1, a, m, b, d => by
  rw [symMerge]
  split
  · exact shUp_size _ _ _ _ rfl
  · split
    · exact shDn_size _ _ _
    · dsimp only
      have h1 : (if symStart lt a m b d < m ∧ m < (a + b) / 2 + m - symStart lt a m b d then rot m (m - symStart lt a m b d) ((a + b) / 2 + m - symStart lt a m b d - m) d else d).size = d.size := by
       split
       · exact rot_size _ _ _ _ _ rfl
       · rfl
      split
      · rw [symMerge_size lt f]
        split
        · rw [symMerge_size lt f]; exact h1
        · exact h1
      · split
        · rw [symMerge_size lt f]; exact h1
        · exact h1
end
theorem stable_sorts {β : Type} [Inhabited β] (lt : β → β → Bool) (hS : SWO lt) (l : List β) :
    (stableA (fun x y : β × Nat => lt x.1 y.1) l.length l.zipIdx.toArray).toList.map (·.1) = l.mergeSort (fun x y => !lt y x) := by
 have hS2 : SWO (fun x y : β × Nat => lt x.1 y.1) := ⟨fun x => hS.irrefl _, fun x y z => hS.trans _ _ _, fun x y z => hS.ntrans _ _ _⟩
 have hsz : l.zipIdx.toArray.size = l.length := by simp
 obtain ⟨p, so⟩ := stableA_spec (idx := fun x : β × Nat => x.2) hS2 l.zipIdx.toArray (fun i hi => by
  rw [getElem!_pos _ i hi]; simp)
 rw [hsz] at p so
 rw [← List.mergeSort_zipIdx]
 congr 1
 obtain ⟨hs, _, hperm⟩ := p
 have ext : ∀ (A : Array (β × Nat)) (n : Nat), A.size = n → A.extract 0 n = A := fun A n h => by subst h; exact Array.extract_size
 have e1 := ext _ _ (hs.trans hsz)
 have e2 := ext _ _ hsz
 rw [e1, e2] at hperm
 have hanti : ∀ x ∈ l.zipIdx, ∀ y ∈ l.zipIdx, x.2 = y.2 → x = y := fun x hx y hy h => by
  obtain ⟨a, i⟩ := x
  obtain ⟨b, j⟩ := y
  simp only at h; subst h
  have h1 := List.mk_mem_zipIdx_iff_getElem?.1 hx
  have h2 := List.mk_mem_zipIdx_iff_getElem?.1 hy
  rw [h1] at h2; injection h2 with h2; rw [h2]
 have hle : ∀ x y : β × Nat, (List.zipIdxLE (fun x y => !lt y x) x y = true) ↔ (ltI (fun x : β × Nat => x.2) (fun x y : β × Nat => lt x.1 y.1) y x = false) := fun x y => by
  rw [ltI_false]
  unfold List.zipIdxLE
  show _ ↔ lt y.1 x.1 = false ∧ (lt x.1 y.1 = true ∨ x.2 ≤ y.2)
  cases h1 : lt y.1 x.1 <;> cases h2 : lt x.1 y.1 <;> simp [h1, h2]
 have hsw := ltI_swo (fun x : β × Nat => x.2) hS2
 refine List.Perm.eq_of_pairwise (le := fun x y => List.zipIdxLE (fun x y => !lt y x) x y = true) ?_ ?_ ?_ (hperm.trans (List.mergeSort_perm _ _).symm)
 · intro a b ha hb h1 h2
   rw [hle, ltI_false] at h1 h2
   refine hanti a (hperm.mem_iff.1 ha) b (hperm.mem_iff.1 (hperm.mem_iff.2 ((List.mergeSort_perm _ _).mem_iff.1 hb))) ?_
   rcases h1.2 with h | h
   · rw [h] at h2; exact absurd h2.1 (by decide)
   · rcases h2.2 with h' | h'
     · rw [h'] at h1; exact absurd h1.1 (by decide)
     · omega
 · rw [List.pairwise_iff_getElem]
   intro i j hi hj hij
   rw [hle]
   have hz := hs.trans hsz
   have := so i j (Nat.zero_le _) hij (by rw [Array.length_toList, hz] at hj; exact hj)
   rw [Array.length_toList] at hi hj
   rw [getElem!_pos _ j hj, getElem!_pos _ i hi] at this
   simpa using this
 · refine List.pairwise_mergeSort ?_ ?_ _
   · intro a b c h1 h2
     rw [hle] at h1 h2 ⊢
     exact hsw.ntrans c b a h2 h1
   · intro a b
     cases h : List.zipIdxLE (fun x y => !lt y x) a b with
     | true => simp
     | false =>
      have h' : ltI (fun x : β × Nat => x.2) (fun x y : β × Nat => lt x.1 y.1) b a = true := by
       cases h2 : ltI (fun x : β × Nat => x.2) (fun x y : β × Nat => lt x.1 y.1) b a with
       | true => rfl
       | false => rw [(hle a b).2 h2] at h; cases h
      rw [Bool.false_or, (hle b a)]
      exact hsw.asymmA h'
end Go.Proofs.YthlflglkdaainaaGreatDoor
namespace Go.Proofs.YthlflglkdaainaaGreatDoor
open Go.Shelf Go.RowKit Go.Lib Go.Sort
structure StabL (P : Program) (k : Nat) : Prop where
 mixed : P.follows .mixedOrders = true
 f_swap : P.funcs[215]? = some Tryz.f215
 f_rot : P.funcs[201]? = some Tryz.f201
 f_sym : P.funcs[187]? = some Tryz.f187
 f_stable : P.funcs[166]? = some Tryz.f166
 f_top : P.funcs[133]? = some Tryz.f133
 t_int : P.underlying 3 = some (TypeDesc.int IntKind.i64)
 a_int : ∀ w, (isAgg 3).run P w = .ok false w
 z_int : ∀ w, (Go.sizeOf 3).run P w = .ok 1 w
 v_int : ∀ w, (zeroValue 3).run P w = .ok (Value.int IntKind.i64 0) w
 t_bool : P.underlying 4 = some (TypeDesc.bool)
 a_bool : ∀ w, (isAgg 4).run P w = .ok false w
 z_bool : ∀ w, (Go.sizeOf 4).run P w = .ok 1 w
 v_bool : ∀ w, (zeroValue 4).run P w = .ok (Value.bool false) w
 t_uint : P.underlying 119 = some (TypeDesc.int IntKind.u64)
 a_uint : ∀ w, (isAgg 119).run P w = .ok false w
 z_uint : ∀ w, (Go.sizeOf 119).run P w = .ok 1 w
 v_uint : ∀ w, (zeroValue 119).run P w = .ok (Value.int IntKind.u64 0) w
 t_slice : P.underlying 170 = some (TypeDesc.slice 173)
 a_slice : ∀ w, (isAgg 170).run P w = .ok false w
 z_slice : ∀ w, (Go.sizeOf 170).run P w = .ok 1 w
 v_slice : ∀ w, (zeroValue 170).run P w = .ok (Value.slice none 0 0) w
 t_fn : P.underlying 174 = some (TypeDesc.func #[173, 173] #[3] false)
 a_fn : ∀ w, (isAgg 174).run P w = .ok false w
 z_fn : ∀ w, (Go.sizeOf 174).run P w = .ok 1 w
 v_fn : ∀ w, (zeroValue 174).run P w = .ok (Value.nilFunc) w
 t_unit : P.underlying 0 = some (TypeDesc.tuple #[])
 a_unit : ∀ w, (isAgg 0).run P w = .ok false w
 z_unit : ∀ w, (Go.sizeOf 0).run P w = .ok 1 w
 v_unit : ∀ w, (zeroValue 0).run P w = .ok (Value.tuple #[]) w
 aE : ∀ w, (isAgg 173).run P w = .ok true w
 zE : ∀ w, (Go.sizeOf 173).run P w = .ok k w
theorem stabL : StabL Tryz.prog 2 := {
 mixed := by kernel_rfl
 f_swap := Tryz.func215
 f_rot := Tryz.func201
 f_sym := Tryz.func187
 f_stable := Tryz.func166
 f_top := Tryz.func133
 t_int := Tryz.underlying3
 a_int := Tryz.isAgg3
 z_int := Tryz.sizeOf3
 v_int := Tryz.zeroValue3
 t_bool := Tryz.underlying4
 a_bool := Tryz.isAgg4
 z_bool := Tryz.sizeOf4
 v_bool := Tryz.zeroValue4
 t_uint := Tryz.underlying119
 a_uint := Tryz.isAgg119
 z_uint := Tryz.sizeOf119
 v_uint := Tryz.zeroValue119
 t_slice := Tryz.underlying170
 a_slice := Tryz.isAgg170
 z_slice := Tryz.sizeOf170
 v_slice := Tryz.zeroValue170
 t_fn := Tryz.underlying174
 a_fn := Tryz.isAgg174
 z_fn := Tryz.sizeOf174
 v_fn := Tryz.zeroValue174
 t_unit := Tryz.underlying0
 a_unit := Tryz.isAgg0
 z_unit := Tryz.sizeOf0
 v_unit := Tryz.zeroValue0
 aE := Tryz.isAgg173
 zE := Tryz.sizeOf173 }
variable {α : Type} [Inhabited α] {P : Program}
set_option maxRecDepth 1000000 in
theorem swapRange_walk (k : Nat) (L : StabL P k) (enc : α → List Value) (g : Nat) (cb : Array Value) (blk off cap a b n : Nat) (d0 d : Array α) (w0 w : World) (R : RowK enc k w0 blk off d0) (hs : d0.size = d.size) (S : SWK enc k w0 blk off d w) (hab : a + n ≤ b) (hb : b + n ≤ d.size) (hsz : d.size < 4611686018427387904) :
    Calls P 215 #[.slice (some ⟨blk, off, none⟩) d.size cap, .int .i64 a, .int .i64 b, .int .i64 n, .func (.func g) #[] cb] w fun e w' =>
     e = .returned (.tuple #[]) ∧ SWK enc k w0 blk off (swapR a b n 0 d) w' := by
 have mixed := L.mixed; have t_int := L.t_int; have a_int := L.a_int; have z_int := L.z_int; have v_int := L.v_int; have t_bool := L.t_bool; have a_bool := L.a_bool; have z_bool := L.z_bool; have v_bool := L.v_bool; have t_uint := L.t_uint; have a_uint := L.a_uint; have z_uint := L.z_uint; have v_uint := L.v_uint; have t_slice := L.t_slice; have a_slice := L.a_slice; have z_slice := L.z_slice; have v_slice := L.v_slice; have t_fn := L.t_fn; have a_fn := L.a_fn; have z_fn := L.z_fn; have v_fn := L.v_fn; have t_unit := L.t_unit; have a_unit := L.a_unit; have z_unit := L.z_unit; have v_unit := L.v_unit; have aE := L.aE; have zE := L.zE
 have F := L.f_swap
 have u22 := run_underlying L.t_slice
 have S0 : Aside _ := S
 clear S
 go_enter F, Tryz.ntmps215
 go_wp2
 go_loopg [10] n (fun kx s10 wr => ∃ (i : Nat) (dk : Array α), s10 = .int .i64 i ∧ i ≤ n ∧ n - i ≤ kx ∧ dk.size = d.size ∧ Aside (SWK enc k w0 blk off dk wr) ∧ Hid (swapR a b n i dk = swapR a b n 0 d))
 case atStart => exact ⟨0, d, rfl, Nat.zero_le _, Nat.le_refl _, rfl, S0, rfl⟩
 case round =>
  obtain ⟨i, dk, rfl, hi, hkx, hds, S1, HE⟩ := hrel
  clear S0
  by_cases hlt : i < n
  · have hltz : (i : Int) < (n : Int) := by omega
    have ea : ((a : Int) + (i : Int)).toNat = a + i := by omega
    have pa : (0 : Int) ≤ (a : Int) + (i : Int) := by omega
    have ba : (a : Int) + (i : Int) < (d.size : Int) := by omega
    have ra : IntKind.i64.wrap ((a : Int) + (i : Int)) = (a : Int) + (i : Int) := by rw [IntKind.wrap_i64]; omega
    have ec : ((b : Int) + (i : Int)).toNat = b + i := by omega
    have pc : (0 : Int) ≤ (b : Int) + (i : Int) := by omega
    have bc : (b : Int) + (i : Int) < (d.size : Int) := by omega
    have rc : IntKind.i64.wrap ((b : Int) + (i : Int)) = (b : Int) + (i : Int) := by rw [IntKind.wrap_i64]; omega
    have S2 : Aside (SWK enc k w0 blk off (swp dk (a + i) (b + i)) ((wr.drew.setCells blk (off + (a + i) * k) (enc dk[b + i]!)).setCells blk (off + (b + i) * k) (enc dk[a + i]!))) := S1.out.swapped R (a + i) (b + i) (by omega) (by omega)
    have l1 := S1.out.ld1 R (by omega) P (a + i) (by omega)
    have l2 := S1.out.ld1 R (by omega) P (b + i) (by omega)
    have s1 := S1.out.st1 R (by omega) P (a + i) (by omega) dk[b + i]!
    have s2 := S1.out.st2 R (by omega) P (a + i) (b + i) (by omega) (by omega) dk[b + i]! dk[a + i]!
    have n1 : (enc dk[a + i]!).length = k := R.hk _
    have n2 : (enc dk[b + i]!).length = k := R.hk _
    generalize enc dk[a + i]! = cI at S2 l1 s2 n1
    generalize enc dk[b + i]! = cJ at S2 l2 s1 s2 n2
    clear S1
    go_wp2_with fail
    go_big_region_o
    clear l1 l2 s1 s2
    generalize (wr.drew.setCells blk (off + (a + i) * k) cJ).setCells blk (off + (b + i) * k) cI = w4 at S2 ⊢
    go_wp2
    go_roundg (n - (i + 1))
    case measure => omega
    case rel => exact ⟨i + 1, swp dk (a + i) (b + i), by go_num, by omega, by omega, by rw [size_swp]; exact hds, S2, by rw [← HE.out]; show _ = _; conv => rhs; rw [swapR, if_pos hlt]⟩
  · have hltz : ¬ (i : Int) < (n : Int) := by omega
    go_wp2
    go_end0
    refine ⟨rfl, ?_⟩
    rw [← HE.out, show swapR a b n i dk = dk by rw [swapR, if_neg hlt]]
    exact S1.out
set_option maxRecDepth 1000000 in
theorem rotate_walk (k : Nat) (L : StabL P k) (enc : α → List Value) (g : Nat) (cb : Array Value) (blk off cap a m b : Nat) (d0 d : Array α) (w0 w : World) (R : RowK enc k w0 blk off d0) (hs : d0.size = d.size) (S : SWK enc k w0 blk off d w) (ham : a < m) (hmb : m < b) (hb : b ≤ d.size) (hsz : d.size < 4611686018427387904) :
    Calls P 201 #[.slice (some ⟨blk, off, none⟩) d.size cap, .int .i64 a, .int .i64 m, .int .i64 b, .func (.func g) #[] cb] w fun e w' =>
     e = .returned (.tuple #[]) ∧ SWK enc k w0 blk off (rot m (m - a) (b - m) d) w' := by
 have mixed := L.mixed; have t_int := L.t_int; have a_int := L.a_int; have z_int := L.z_int; have v_int := L.v_int; have t_bool := L.t_bool; have a_bool := L.a_bool; have z_bool := L.z_bool; have v_bool := L.v_bool; have t_uint := L.t_uint; have a_uint := L.a_uint; have z_uint := L.z_uint; have v_uint := L.v_uint; have t_slice := L.t_slice; have a_slice := L.a_slice; have z_slice := L.z_slice; have v_slice := L.v_slice; have t_fn := L.t_fn; have a_fn := L.a_fn; have z_fn := L.z_fn; have v_fn := L.v_fn; have t_unit := L.t_unit; have a_unit := L.a_unit; have z_unit := L.z_unit; have v_unit := L.v_unit; have aE := L.aE; have zE := L.zE
 have F := L.f_rot
 have eS : ∀ args w, (callFunc 215 args).run P w = .ok (.enter 215 args) w := enters_of L.f_swap (by kernel_rfl) rfl
 have S0 : Aside _ := S
 clear S
 go_enter F, Tryz.ntmps201
 go_wp2
 go_loopg [10, 11] (m - a + (b - m)) (fun kx s10 s11 wr => ∃ (i j : Nat) (dk : Array α), s10 = .int .i64 i ∧ s11 = .int .i64 j ∧ 0 < i ∧ 0 < j ∧ i ≤ m ∧ m + j ≤ d.size ∧ i + j ≤ kx ∧ dk.size = d.size ∧ Aside (SWK enc k w0 blk off dk wr) ∧ Hid (rot m i j dk = rot m (m - a) (b - m) d))
 case atStart => exact ⟨m - a, b - m, d, by rw [Int.ofNat_sub (Nat.le_of_lt ham)], by rw [Int.ofNat_sub (Nat.le_of_lt hmb)], by omega, by omega, by omega, by omega, Nat.le_refl _, rfl, S0, rfl⟩
 case round =>
  obtain ⟨i, j, dk, rfl, rfl, hi, hj, him, hjm, hkx, hds, S1, HE⟩ := hrel
  clear S0
  have hc1 : ((m - i : Nat) : Int) = (m : Int) - (i : Int) := by omega
  by_cases hij : i = j
  · subst hij
    have hc := swapRange_walk k L enc g cb blk off cap (m - i) m i d0 dk w0 wr R (by omega) S1.out (by omega) (by omega) (by omega)
    rw [hc1, hds] at hc
    have HC := hid hc
    clear hc hc1
    go_wp2_with (go_at_fn 215; refine HC.out.mono ?_; rintro e w2 ⟨rfl, S2⟩)
    go_end0
    refine ⟨rfl, ?_⟩
    rw [← HE.out, show rot m i i dk = swapR (m - i) m i 0 dk by rw [rot, if_pos rfl]]
    exact S2
  · have hne : ((i : Int) != (j : Int)) = true := by rw [bne_iff_ne]; omega
    have hne2 : ¬ (i : Int) = (j : Int) := by omega
    by_cases hlt : j < i
    · have hgt : (j : Int) < (i : Int) := by omega
      have hc := swapRange_walk k L enc g cb blk off cap (m - i) m j d0 dk w0 wr R (by omega) S1.out (by omega) (by omega) (by omega)
      rw [hc1, hds] at hc
      have HC := hid hc
      clear hc hc1
      go_wp2_with (go_at_fn 215; refine HC.out.mono ?_; rintro e w2 ⟨rfl, S2⟩)
      go_roundg (i - j + j)
      case measure => omega
      case rel => exact ⟨i - j, j, swapR (m - i) m j 0 dk, by rw [Int.ofNat_sub (Nat.le_of_lt hlt)], rfl, by omega, hj, by omega, hjm, Nat.le_refl _, by rw [swapR_size _ _ _ _ _ _ rfl]; exact hds, S2, by show _ = _; rw [← HE.out]; conv => rhs; rw [rot, if_neg hij, if_pos hlt, if_pos hj]⟩
    · have hgt : ¬ (j : Int) < (i : Int) := by omega
      have hc := swapRange_walk k L enc g cb blk off cap (m - i) (m + j - i) i d0 dk w0 wr R (by omega) S1.out (by omega) (by omega) (by omega)
      have hc2 : ((m + j - i : Nat) : Int) = (m : Int) + (j : Int) - (i : Int) := by omega
      rw [hc1, hc2, hds] at hc
      have HC := hid hc
      clear hc hc1 hc2
      go_wp2_with (go_at_fn 215; refine HC.out.mono ?_; rintro e w2 ⟨rfl, S2⟩)
      go_roundg (i + (j - i))
      case measure => omega
      case rel => exact ⟨i, j - i, swapR (m - i) (m + j - i) i 0 dk, rfl, by rw [Int.ofNat_sub (by omega)], hi, by omega, him, by omega, Nat.le_refl _, by rw [swapR_size _ _ _ _ _ _ rfl]; exact hds, S2, by show _ = _; rw [← HE.out]; conv => rhs; rw [rot, if_neg hij, if_neg hlt, if_pos hi]⟩
end Go.Proofs.YthlflglkdaainaaGreatDoor
namespace Go.Proofs.YthlflglkdaainaaGreatDoor
open Go.Shelf Go.RowKit Go.Lib Go.Sort
variable {α : Type} [Inhabited α] {P : Program}
set_option maxRecDepth 1000000 in
theorem sym_one (k : Nat) (L : StabL P k) (enc : α → List Value) (cf : α → α → Int) (g : Nat) (cb : Array Value) (blk off cap a m b : Nat) (d0 d : Array α) (w0 w : World) (eg : ∀ args w, (callFunc g args).run P w = .ok (.enter g args) w) (hcmp : CmpLays P g cb enc k cf blk off d0.size w0) (R : RowK enc k w0 blk off d0) (hs : d0.size = d.size) (S : SWK enc k w0 blk off d w) (ham : m = a + 1) (hmb : m < b) (hb : b ≤ d.size) (hsz : d.size < 4611686018427387904) :
    Calls P 187 #[.slice (some ⟨blk, off, none⟩) d.size cap, .int .i64 a, .int .i64 m, .int .i64 b, .func (.func g) #[] cb] w fun e w' =>
     e = .returned (.tuple #[]) ∧ SWK enc k w0 blk off (shUp a (bs (fun h => ltOf cf d[h]! d[a]!) m b) d) w' := by
 have F := L.f_sym
 have mixed := L.mixed; have t_int := L.t_int; have a_int := L.a_int; have z_int := L.z_int; have v_int := L.v_int; have t_bool := L.t_bool; have a_bool := L.a_bool; have z_bool := L.z_bool; have v_bool := L.v_bool; have t_uint := L.t_uint; have a_uint := L.a_uint; have z_uint := L.z_uint; have v_uint := L.v_uint; have t_slice := L.t_slice; have a_slice := L.a_slice; have z_slice := L.z_slice; have v_slice := L.v_slice; have t_fn := L.t_fn; have a_fn := L.a_fn; have z_fn := L.z_fn; have v_fn := L.v_fn; have t_unit := L.t_unit; have a_unit := L.a_unit; have z_unit := L.z_unit; have v_unit := L.v_unit; have aE := L.aE; have zE := L.zE
 have u22 := run_underlying L.t_slice
 have HC : Aside _ := hcmp
 have S0 : Aside _ := S
 clear hcmp S
 have h1 : (m : Int) - (a : Int) = 1 := by omega
 have ham1 : a < m := by omega
 have HAM := hid ham
 clear ham
 go_enter F, Tryz.ntmps187
 go_wp2
 go_loopg [10, 11] (b - m) (fun kx s10 s11 wr => ∃ (i j : Nat), s10 = .int .i64 i ∧ s11 = .int .i64 j ∧ m ≤ i ∧ i ≤ j ∧ j ≤ b ∧ j - i ≤ kx ∧ Aside (SWK enc k w0 blk off d wr) ∧ Hid (bs (fun h => ltOf cf d[h]! d[a]!) i j = bs (fun h => ltOf cf d[h]! d[a]!) m b))
 case atStart => exact ⟨m, b, rfl, rfl, Nat.le_refl _, Nat.le_of_lt hmb, Nat.le_refl _, Nat.le_refl _, S0, rfl⟩
 case round =>
  obtain ⟨i, j, rfl, rfl, hi, hij, hj, hkx, S1, HE⟩ := hrel
  clear S0
  by_cases hlt : i < j
  · have hltz : (i : Int) < (j : Int) := by omega
    have ea : (((i : Int) + (j : Int)) / 2).toNat = (i + j) / 2 := by omega
    have pa : (0 : Int) ≤ ((i : Int) + (j : Int)) / 2 := by omega
    have ba : ((i : Int) + (j : Int)) / 2 < (d.size : Int) := by omega
    have bb : (a : Int) < (d.size : Int) := by omega
    obtain ⟨x, hx⟩ : ∃ x, x = d[(i + j) / 2]! := ⟨_, rfl⟩
    obtain ⟨y, hy⟩ : ∃ y, y = d[a]! := ⟨_, rfl⟩
    have la := S1.out.ld R (by omega) P ((i + j) / 2) (by omega)
    have lb := S1.out.ld R (by omega) P a (by omega)
    rw [← hx] at la
    rw [← hy] at lb
    have hc := S1.out.cmp HC.out (by omega) x y
    have HXY : Hid (ltOf cf d[(i + j) / 2]! d[a]! = decide (cf x y < 0)) := by rw [hx, hy]; rfl
    clear hx hy
    by_cases hv : cf x y < 0
    · have hd : decide (cf x y < 0) = true := decide_eq_true hv
      go_wp2_with fail
      go_quiet_grown (first | (go_at_fn g; refine Calls.grown_of (hc _ _)))
      have S2 : Aside (SWK enc k w0 blk off d (grow (wr.drewN nq) osq)) := S1.out.grown nq osq
      clear la lb hc S1
      generalize grow (wr.drewN nq) osq = w2 at S2 ⊢
      clear nq osq
      go_wp2
      go_roundg (j - ((i + j) / 2 + 1))
      case measure => omega
      case rel => exact ⟨(i + j) / 2 + 1, j, by first | go_num | (congr 1; omega), rfl, by omega, by omega, hj, Nat.le_refl _, S2, by show _ = _; rw [← HE.out]; conv => rhs; rw [bs, if_pos hlt, if_pos (by rw [HXY.out]; exact hd)]⟩
    · have hd : decide (cf x y < 0) = false := decide_eq_false hv
      go_wp2_with fail
      go_quiet_grown (first | (go_at_fn g; refine Calls.grown_of (hc _ _)))
      have S2 : Aside (SWK enc k w0 blk off d (grow (wr.drewN nq) osq)) := S1.out.grown nq osq
      clear la lb hc S1
      generalize grow (wr.drewN nq) osq = w2 at S2 ⊢
      clear nq osq
      go_wp2
      go_roundg ((i + j) / 2 - i)
      case measure => omega
      case rel => exact ⟨i, (i + j) / 2, rfl, by first | go_num | (congr 1; omega), hi, by omega, by omega, Nat.le_refl _, S2, by show _ = _; rw [← HE.out]; conv => rhs; rw [bs, if_pos hlt, if_neg (by rw [HXY.out, hd]; exact Bool.false_ne_true)]⟩
  · have hltz : ¬ (i : Int) < (j : Int) := by omega
    have HI : Hid (bs (fun h => ltOf cf d[h]! d[a]!) m b = i) := by show _ = _; rw [← HE.out, bs, if_neg hlt]
    clear HE
    obtain ⟨wo, rfl⟩ : ∃ wo : World, wo = wr := ⟨_, rfl⟩
    go_wp2
    go_loopg [13] (i - a) (fun kx s13 wr => ∃ (q : Nat) (dk : Array α), s13 = .int .i64 q ∧ a ≤ q ∧ q < i ∧ i - q ≤ kx ∧ dk.size = d.size ∧ Aside (SWK enc k w0 blk off dk wr) ∧ Hid (shUp q i dk = shUp a i d))
    case atStart => exact ⟨a, d, rfl, Nat.le_refl _, by omega, Nat.le_refl _, rfl, S1, rfl⟩
    case round =>
     obtain ⟨q, dk, rfl, hq, hqi, hkq, hds, S2, HQ⟩ := hrel
     clear S1
     by_cases hk : q + 1 < i
     · have hkz : (q : Int) < (i : Int) - 1 := by omega
       have hkz2 : (q : Int) + 1 < (i : Int) := by omega
       have ea : ((q : Int) + 1).toNat = q + 1 := by omega
       have pa : (0 : Int) ≤ (q : Int) + 1 := by omega
       have ba : (q : Int) + 1 < (d.size : Int) := by omega
       have bb : (q : Int) < (d.size : Int) := by omega
       have ra : IntKind.i64.wrap ((q : Int) + 1) = (q : Int) + 1 := by rw [IntKind.wrap_i64]; omega
       have S3 : Aside (SWK enc k w0 blk off (swp dk q (q + 1)) ((wr.drew.setCells blk (off + q * k) (enc dk[q + 1]!)).setCells blk (off + (q + 1) * k) (enc dk[q]!))) := S2.out.swapped R q (q + 1) (by omega) (by omega)
       have l1 := S2.out.ld1 R (by omega) P q (by omega)
       have l2 := S2.out.ld1 R (by omega) P (q + 1) (by omega)
       have s1 := S2.out.st1 R (by omega) P q (by omega) dk[q + 1]!
       have s2 := S2.out.st2 R (by omega) P q (q + 1) (by omega) (by omega) dk[q + 1]! dk[q]!
       have n1 : (enc dk[q]!).length = k := R.hk _
       have n2 : (enc dk[q + 1]!).length = k := R.hk _
       generalize enc dk[q]! = cI at S3 l1 s2 n1
       generalize enc dk[q + 1]! = cJ at S3 l2 s1 s2 n2
       clear S2
       go_wp2_with fail
       go_big_region_o
       clear l1 l2 s1 s2
       generalize (wr.drew.setCells blk (off + q * k) cJ).setCells blk (off + (q + 1) * k) cI = w4 at S3 ⊢
       go_wp2
       go_roundg (i - (q + 1))
       case measure => omega
       case rel => exact ⟨q + 1, swp dk q (q + 1), by go_num, by omega, by omega, Nat.le_refl _, by rw [size_swp]; exact hds, S3, by show _ = _; rw [← HQ.out]; conv => rhs; rw [shUp, if_pos hk]⟩
     · have hkz : ¬ (q : Int) < (i : Int) - 1 := by omega
       have hkz2 : ¬ (q : Int) + 1 < (i : Int) := by omega
       go_wp2
       refine bodyPost_ret (results_none rfl _ _ _) rfl ⟨rfl, ?_⟩
       rw [HI.out, ← HQ.out, show shUp q i dk = dk by rw [shUp, if_neg hk]]
       exact S2.out
end Go.Proofs.YthlflglkdaainaaGreatDoor
namespace Go.Proofs.YthlflglkdaainaaGreatDoor
open Go.Shelf Go.RowKit Go.Lib Go.Sort
variable {α : Type} [Inhabited α] {P : Program}
set_option maxRecDepth 1000000 in
theorem sym_last (k : Nat) (L : StabL P k) (enc : α → List Value) (cf : α → α → Int) (g : Nat) (cb : Array Value) (blk off cap a m b : Nat) (d0 d : Array α) (w0 w : World) (eg : ∀ args w, (callFunc g args).run P w = .ok (.enter g args) w) (hcmp : CmpLays P g cb enc k cf blk off d0.size w0) (R : RowK enc k w0 blk off d0) (hs : d0.size = d.size) (S : SWK enc k w0 blk off d w) (ham : a + 1 < m) (hmb : b = m + 1) (hb : b ≤ d.size) (hsz : d.size < 4611686018427387904) :
    Calls P 187 #[.slice (some ⟨blk, off, none⟩) d.size cap, .int .i64 a, .int .i64 m, .int .i64 b, .func (.func g) #[] cb] w fun e w' =>
     e = .returned (.tuple #[]) ∧ SWK enc k w0 blk off (shDn (bs (fun h => !ltOf cf d[m]! d[h]!) a m) m d) w' := by
 have F := L.f_sym
 have mixed := L.mixed; have t_int := L.t_int; have a_int := L.a_int; have z_int := L.z_int; have v_int := L.v_int; have t_bool := L.t_bool; have a_bool := L.a_bool; have z_bool := L.z_bool; have v_bool := L.v_bool; have t_uint := L.t_uint; have a_uint := L.a_uint; have z_uint := L.z_uint; have v_uint := L.v_uint; have t_slice := L.t_slice; have a_slice := L.a_slice; have z_slice := L.z_slice; have v_slice := L.v_slice; have t_fn := L.t_fn; have a_fn := L.a_fn; have z_fn := L.z_fn; have v_fn := L.v_fn; have t_unit := L.t_unit; have a_unit := L.a_unit; have z_unit := L.z_unit; have v_unit := L.v_unit; have aE := L.aE; have zE := L.zE
 have u22 := run_underlying L.t_slice
 have HC : Aside _ := hcmp
 have S0 : Aside _ := S
 clear hcmp S
 have h1 : ¬ (m : Int) - (a : Int) = 1 := by omega
 have h1' : ((m : Int) - (a : Int) == 1) = false := by rw [beq_eq_false_iff_ne]; omega
 have h2 : (b : Int) - (m : Int) = 1 := by omega
 have hmb1 : m < b := by omega
 have HMB := hid hmb
 clear hmb
 go_enter F, Tryz.ntmps187
 go_wp2
 go_loopg [14, 15] (m - a) (fun kx s10 s11 wr => ∃ (i j : Nat), s10 = .int .i64 i ∧ s11 = .int .i64 j ∧ a ≤ i ∧ i ≤ j ∧ j ≤ m ∧ j - i ≤ kx ∧ Aside (SWK enc k w0 blk off d wr) ∧ Hid (bs (fun h => !ltOf cf d[m]! d[h]!) i j = bs (fun h => !ltOf cf d[m]! d[h]!) a m))
 case atStart => exact ⟨a, m, rfl, rfl, Nat.le_refl _, by omega, Nat.le_refl _, Nat.le_refl _, S0, rfl⟩
 case round =>
  obtain ⟨i, j, rfl, rfl, hi, hij, hj, hkx, S1, HE⟩ := hrel
  clear S0
  by_cases hlt : i < j
  · have hltz : (i : Int) < (j : Int) := by omega
    have ea : (((i : Int) + (j : Int)) / 2).toNat = (i + j) / 2 := by omega
    have pa : (0 : Int) ≤ ((i : Int) + (j : Int)) / 2 := by omega
    have ba : ((i : Int) + (j : Int)) / 2 < (d.size : Int) := by omega
    have bb : (m : Int) < (d.size : Int) := by omega
    obtain ⟨x, hx⟩ : ∃ x, x = d[m]! := ⟨_, rfl⟩
    obtain ⟨y, hy⟩ : ∃ y, y = d[(i + j) / 2]! := ⟨_, rfl⟩
    have la := S1.out.ld R (by omega) P m (by omega)
    have lb := S1.out.ld R (by omega) P ((i + j) / 2) (by omega)
    rw [← hx] at la
    rw [← hy] at lb
    have hc := S1.out.cmp HC.out (by omega) x y
    have HXY : Hid (ltOf cf d[m]! d[(i + j) / 2]! = decide (cf x y < 0)) := by rw [hx, hy]; rfl
    clear hx hy
    by_cases hv : cf x y < 0
    · have hd : decide (cf x y < 0) = true := decide_eq_true hv
      go_wp2_with fail
      go_quiet_grown (first | (go_at_fn g; refine Calls.grown_of (hc _ _)))
      have S2 : Aside (SWK enc k w0 blk off d (grow (wr.drewN nq) osq)) := S1.out.grown nq osq
      clear la lb hc S1
      generalize grow (wr.drewN nq) osq = w2 at S2 ⊢
      clear nq osq
      go_wp2
      go_roundg ((i + j) / 2 - i)
      case measure => omega
      case rel => exact ⟨i, (i + j) / 2, rfl, by first | go_num | (congr 1; omega), hi, by omega, by omega, Nat.le_refl _, S2, by show _ = _; rw [← HE.out]; conv => rhs; rw [bs, if_pos hlt, if_neg (by rw [HXY.out, hd]; exact Bool.false_ne_true)]⟩
    · have hd : decide (cf x y < 0) = false := decide_eq_false hv
      go_wp2_with fail
      go_quiet_grown (first | (go_at_fn g; refine Calls.grown_of (hc _ _)))
      have S2 : Aside (SWK enc k w0 blk off d (grow (wr.drewN nq) osq)) := S1.out.grown nq osq
      clear la lb hc S1
      generalize grow (wr.drewN nq) osq = w2 at S2 ⊢
      clear nq osq
      go_wp2
      go_roundg (j - ((i + j) / 2 + 1))
      case measure => omega
      case rel => exact ⟨(i + j) / 2 + 1, j, by first | go_num | (congr 1; omega), rfl, by omega, by omega, hj, Nat.le_refl _, S2, by show _ = _; rw [← HE.out]; conv => rhs; rw [bs, if_pos hlt, if_pos (by rw [HXY.out, hd]; rfl)]⟩
  · have hltz : ¬ (i : Int) < (j : Int) := by omega
    have HI : Hid (bs (fun h => !ltOf cf d[m]! d[h]!) a m = i) := by show _ = _; rw [← HE.out, bs, if_neg hlt]
    clear HE
    obtain ⟨wo, rfl⟩ : ∃ wo : World, wo = wr := ⟨_, rfl⟩
    go_wp2
    go_loopg [17] (m - i) (fun kx s13 wr => ∃ (q : Nat) (dk : Array α), s13 = .int .i64 q ∧ i ≤ q ∧ q ≤ m ∧ q - i ≤ kx ∧ dk.size = d.size ∧ Aside (SWK enc k w0 blk off dk wr) ∧ Hid (shDn i q dk = shDn i m d))
    case atStart => exact ⟨m, d, rfl, by omega, Nat.le_refl _, Nat.le_refl _, rfl, S1, rfl⟩
    case round =>
     obtain ⟨q, dk, rfl, hq, hqi, hkq, hds, S2, HQ⟩ := hrel
     clear S1
     by_cases hk : i < q
     · obtain ⟨q, rfl⟩ : ∃ p, q = p + 1 := ⟨q - 1, by omega⟩
       have hkz : (i : Int) < (q : Int) + 1 := by omega
       have ea : ((q : Int) + 1).toNat = q + 1 := by omega
       have pa : (0 : Int) ≤ (q : Int) + 1 := by omega
       have ba : (q : Int) + 1 < (d.size : Int) := by omega
       have bb : (q : Int) < (d.size : Int) := by omega
       have hwp : IntKind.i64.wrap (q : Int) = (q : Int) := by rw [IntKind.wrap_i64]; omega
       have S3 : Aside (SWK enc k w0 blk off (swp dk (q + 1) q) ((wr.drew.setCells blk (off + (q + 1) * k) (enc dk[q]!)).setCells blk (off + q * k) (enc dk[q + 1]!))) := S2.out.swapped R (q + 1) q (by omega) (by omega)
       have l1 := S2.out.ld1 R (by omega) P (q + 1) (by omega)
       have l2 := S2.out.ld1 R (by omega) P q (by omega)
       have s1 := S2.out.st1 R (by omega) P (q + 1) (by omega) dk[q]!
       have s2 := S2.out.st2 R (by omega) P (q + 1) q (by omega) (by omega) dk[q]! dk[q + 1]!
       have n1 : (enc dk[q + 1]!).length = k := R.hk _
       have n2 : (enc dk[q]!).length = k := R.hk _
       generalize enc dk[q + 1]! = cI at S3 l1 s2 n1
       generalize enc dk[q]! = cJ at S3 l2 s1 s2 n2
       clear S2
       go_wp2_with fail
       go_big_region_o
       clear l1 l2 s1 s2
       generalize (wr.drew.setCells blk (off + (q + 1) * k) cJ).setCells blk (off + q * k) cI = w4 at S3 ⊢
       go_wp2
       go_roundg (q - i)
       case measure => omega
       case rel => exact ⟨q, swp dk (q + 1) q, by first | rfl | go_num | (congr 1; omega), by omega, by omega, Nat.le_refl _, by rw [size_swp]; exact hds, S3, by show _ = _; rw [← HQ.out]; conv => rhs; rw [shDn, if_pos hk]⟩
     · have hkz : ¬ (i : Int) < (q : Int) := by omega
       go_wp2
       refine bodyPost_ret (results_none rfl _ _ _) rfl ⟨rfl, ?_⟩
       rw [HI.out, ← HQ.out, show shDn i q dk = dk by cases q with | zero => rfl | succ q => rw [shDn, if_neg hk]]
       exact S2.out
end Go.Proofs.YthlflglkdaainaaGreatDoor
namespace Go.Proofs.YthlflglkdaainaaGreatDoor
open Go.Shelf Go.RowKit Go.Lib Go.Sort
variable {α : Type} [Inhabited α] {P : Program}
set_option maxRecDepth 1000000 in
theorem sym_gen (k : Nat) (L : StabL P k) (enc : α → List Value) (cf : α → α → Int) (g : Nat) (cb : Array Value) (blk off cap a m b : Nat) (d0 d : Array α) (w0 w : World) (eg : ∀ args w, (callFunc g args).run P w = .ok (.enter g args) w) (hcmp : CmpLays P g cb enc k cf blk off d0.size w0) (R : RowK enc k w0 blk off d0) (hs : d0.size = d.size) (S : SWK enc k w0 blk off d w) (ham : a + 1 < m) (hmb : m + 1 < b) (hb : b ≤ d.size) (hsz : d.size < 4611686018427387904)
    (f : Nat) (ih : ∀ (a m b : Nat) (d : Array α) (w : World), b - a ≤ f → a < m → m < b → b ≤ d.size → d0.size = d.size → SWK enc k w0 blk off d w →
     Calls P 187 #[.slice (some ⟨blk, off, none⟩) d.size cap, .int .i64 a, .int .i64 m, .int .i64 b, .func (.func g) #[] cb] w fun e w' => e = .returned (.tuple #[]) ∧ SWK enc k w0 blk off (symMerge (ltOf cf) f a m b d) w')
    (hf : b - a ≤ f + 1) :
    Calls P 187 #[.slice (some ⟨blk, off, none⟩) d.size cap, .int .i64 a, .int .i64 m, .int .i64 b, .func (.func g) #[] cb] w fun e w' =>
     e = .returned (.tuple #[]) ∧ SWK enc k w0 blk off (symMerge (ltOf cf) (f + 1) a m b d) w' := by
 have F := L.f_sym
 have mixed := L.mixed; have t_int := L.t_int; have a_int := L.a_int; have z_int := L.z_int; have v_int := L.v_int; have t_bool := L.t_bool; have a_bool := L.a_bool; have z_bool := L.z_bool; have v_bool := L.v_bool; have t_uint := L.t_uint; have a_uint := L.a_uint; have z_uint := L.z_uint; have v_uint := L.v_uint; have t_slice := L.t_slice; have a_slice := L.a_slice; have z_slice := L.z_slice; have v_slice := L.v_slice; have t_fn := L.t_fn; have a_fn := L.a_fn; have z_fn := L.z_fn; have v_fn := L.v_fn; have t_unit := L.t_unit; have a_unit := L.a_unit; have z_unit := L.z_unit; have v_unit := L.v_unit; have aE := L.aE; have zE := L.zE
 have u22 := run_underlying L.t_slice
 have eS : ∀ args w, (callFunc 201 args).run P w = .ok (.enter 201 args) w := enters_of L.f_rot (by kernel_rfl) rfl
 have eM : ∀ args w, (callFunc 187 args).run P w = .ok (.enter 187 args) w := enters_of L.f_sym (by kernel_rfl) rfl
 have HC : Aside _ := hcmp
 have S0 : Aside _ := S
 have IH : Aside _ := ih
 clear hcmp S ih
 obtain ⟨st, hst⟩ : ∃ st, symStart (ltOf cf) a m b d = st := ⟨_, rfl⟩
 obtain ⟨mid, hmd⟩ : ∃ mid, (a + b) / 2 = mid := ⟨_, rfl⟩
 obtain ⟨s0, hs0⟩ : ∃ s0, (if mid < m then mid + m - b else a) = s0 := ⟨_, rfl⟩
 obtain ⟨r0, hr0⟩ : ∃ r0, (if mid < m then mid else m) = r0 := ⟨_, rfl⟩
 have HB : Hid ((mid < m ∧ s0 + b = mid + m ∧ r0 = mid) ∨ (m ≤ mid ∧ s0 = a ∧ r0 = m)) := by
  show _ ∨ _
  by_cases h : mid < m
  · rw [if_pos h] at hs0 hr0; exact .inl ⟨h, by omega, hr0.symm⟩
  · rw [if_neg h] at hs0 hr0; exact .inr ⟨by omega, hs0.symm, hr0.symm⟩
 have hse := hst
 unfold symStart at hse
 rw [hmd, hs0, hr0] at hse
 have hq := bs_spec (fun c => !ltOf cf d[mid + m - 1 - c]! d[c]!) (r0 - s0) s0 r0 rfl (by have := HB.out; omega)
 rw [hse] at hq
 have q1 : s0 ≤ st := hq.1
 have q2 : st ≤ r0 := hq.2.1
 have HSE := hid hse
 have HST := hid hst
 have HMD := hid hmd
 have b1 : a < mid := by omega
 have b2 : mid < b := by omega
 have b3 : a ≤ s0 := by have := HB.out; omega
 have b4 : s0 ≤ r0 := by omega
 have b5 : r0 ≤ mid := by have := HB.out; omega
 have b6 : r0 ≤ m := by have := HB.out; omega
 have b7 : mid + m ≤ s0 + b := by have := HB.out; omega
 have hmid : ((a : Int) + (b : Int)) / 2 = (mid : Int) := by omega
 have h1 : ¬ (m : Int) - (a : Int) = 1 := by omega
 have h1' : ((m : Int) - (a : Int) == 1) = false := by rw [beq_eq_false_iff_ne]; omega
 have h2 : ¬ (b : Int) - (m : Int) = 1 := by omega
 have h2' : ((b : Int) - (m : Int) == 1) = false := by rw [beq_eq_false_iff_ne]; omega
 clear hq hst hse hs0 hr0 hmd
 go_enter F, Tryz.ntmps187
 go_upto_if 140 with fail
 go_cut [20, 21] (fun s20 s21 wx => s20 = .int .i64 s0 ∧ s21 = .int .i64 r0 ∧ wx = w)
 case first => as_aux_lemma =>
  by_cases hA : (mid : Int) < (m : Int)
  · go_wp2_with fail
    go_meet
    case rel => exact ⟨by congr 1; have := HB.out; omega, by congr 1; have := HB.out; omega, rfl⟩
  · go_wp2_with fail
    go_meet
    case rel => exact ⟨by congr 1; have := HB.out; omega, by congr 1; have := HB.out; omega, rfl⟩
 case rest =>
  obtain ⟨rfl, rfl, rfl⟩ := hcut
  obtain ⟨p, hp⟩ : ∃ p, mid + m - 1 = p := ⟨_, rfl⟩
  have hpz : (mid : Int) + (m : Int) - 1 = (p : Int) := by omega
  have HP := hid hp
  clear hp
  go_wp2_with fail
  go_loopg [20, 21] (r0 - s0) (fun kx s20 s21 wr => ∃ (i j : Nat), s20 = .int .i64 i ∧ s21 = .int .i64 j ∧ s0 ≤ i ∧ i ≤ j ∧ j ≤ r0 ∧ j - i ≤ kx ∧ Aside (SWK enc k w0 blk off d wr) ∧ Hid (bs (fun c => !ltOf cf d[mid + m - 1 - c]! d[c]!) i j = bs (fun c => !ltOf cf d[mid + m - 1 - c]! d[c]!) s0 r0))
  case atStart => exact ⟨s0, r0, rfl, rfl, Nat.le_refl _, b4, Nat.le_refl _, Nat.le_refl _, S0, rfl⟩
  case round =>
   obtain ⟨i, j, rfl, rfl, hi, hij, hj, hkx, S1, HE⟩ := hrel
   clear S0
   by_cases hlt : i < j
   · as_aux_lemma =>
     have hltz : (i : Int) < (j : Int) := by omega
     obtain ⟨h, hh⟩ : ∃ h, (i + j) / 2 = h := ⟨_, rfl⟩
     obtain ⟨q, hq⟩ : ∃ q, mid + m - 1 - h = q := ⟨_, rfl⟩
     have hhz : ((i : Int) + (j : Int)) / 2 = (h : Int) := by omega
     have hqz : (p : Int) - (h : Int) = (q : Int) := by have := HP.out; omega
     have rq : IntKind.i64.wrap (q : Int) = (q : Int) := by rw [IntKind.wrap_i64]; omega
     have ba : (h : Int) < (d.size : Int) := by omega
     have bc : (q : Int) < (d.size : Int) := by omega
     obtain ⟨x, hx⟩ : ∃ x, x = d[q]! := ⟨_, rfl⟩
     obtain ⟨y, hy⟩ : ∃ y, y = d[h]! := ⟨_, rfl⟩
     have la := S1.out.ld R (by omega) P q (by omega)
     have lb := S1.out.ld R (by omega) P h (by omega)
     rw [← hx] at la
     rw [← hy] at lb
     have hc := S1.out.cmp HC.out (by omega) x y
     have HXY : Hid (ltOf cf d[mid + m - 1 - (i + j) / 2]! d[(i + j) / 2]! = decide (cf x y < 0)) := by show _ = _; rw [hh, hq, hx, hy]; rfl
     have HH := hid hh
     clear hx hy hh hq
     by_cases hv : cf x y < 0
     · have hd : decide (cf x y < 0) = true := decide_eq_true hv
       go_wp2_with fail
       go_quiet_grown (first | (go_at_fn g; refine Calls.grown_of (hc _ _)))
       have S2 : Aside (SWK enc k w0 blk off d (grow (wr.drewN nq) osq)) := S1.out.grown nq osq
       clear la lb hc S1
       generalize grow (wr.drewN nq) osq = w2 at S2 ⊢
       clear nq osq
       go_wp2
       go_roundg (h - i)
       case measure => have := HH.out; omega
       case rel => exact ⟨i, h, rfl, rfl, hi, by have := HH.out; omega, by have := HH.out; omega, Nat.le_refl _, S2, by show _ = _; rw [← HE.out]; conv => rhs; rw [bs, if_pos hlt, if_neg (by rw [HXY.out, hd]; exact Bool.false_ne_true), HH.out]⟩
     · have hd : decide (cf x y < 0) = false := decide_eq_false hv
       go_wp2_with fail
       go_quiet_grown (first | (go_at_fn g; refine Calls.grown_of (hc _ _)))
       have S2 : Aside (SWK enc k w0 blk off d (grow (wr.drewN nq) osq)) := S1.out.grown nq osq
       clear la lb hc S1
       generalize grow (wr.drewN nq) osq = w2 at S2 ⊢
       clear nq osq
       go_wp2
       go_roundg (j - (h + 1))
       case measure => have := HH.out; omega
       case rel => exact ⟨h + 1, j, by go_num, rfl, by have := HH.out; omega, by have := HH.out; omega, hj, Nat.le_refl _, S2, by show _ = _; rw [← HE.out]; conv => rhs; rw [bs, if_pos hlt, if_pos (by rw [HXY.out, hd]; rfl), HH.out]⟩
   · have hltz : ¬ (i : Int) < (j : Int) := by omega
     have hi : i = st := by rw [← HSE.out, ← HE.out, bs, if_neg hlt]
     clear HE
     obtain ⟨wo, rfl⟩ : ∃ wo : World, wo = wr := ⟨_, rfl⟩
     obtain ⟨en, hen⟩ : ∃ en, mid + m - st = en := ⟨_, rfl⟩
     subst hi
     have henz : (mid : Int) + (m : Int) - (i : Int) = (en : Int) := by omega
     have c1 : mid ≤ en := by omega
     have c2 : m ≤ en := by omega
     have c3 : en ≤ b := by omega
     have c4 : a ≤ i := by omega
     have c5 : i ≤ mid := by omega
     have c6 : i ≤ m := by omega
     have HEN := hid hen
     clear hen
     obtain ⟨d1, hd1⟩ : ∃ d1, (if i < m ∧ m < en then rot m (m - i) (en - m) d else d) = d1 := ⟨_, rfl⟩
     have z1 : d1.size = d.size := by
      rw [← hd1]
      split
      · rename_i h
        exact (rot_spec m 0 d.size _ (m - i) (en - m) d rfl (by omega) (by omega) (by omega) (by omega) (Nat.le_refl _)).1.1
      · rfl
     have HD1 := hid hd1
     clear hd1
     obtain ⟨t, ht⟩ : ∃ t : Bool, decide (i < m ∧ m < en) = t := ⟨_, rfl⟩
     have HT := hid ht
     clear ht
     go_upto_region 39 with fail
     go_cut [185] (fun s185 wx => s185 = .bool t ∧ wx = wo)
     case first => as_aux_lemma =>
      by_cases t1 : i < m
      · have t1z : (i : Int) < (m : Int) := by omega
        by_cases t2 : m < en
        · have t2z : (m : Int) < (en : Int) := by omega
          go_wp2_with fail
          go_meet
          case rel => exact ⟨by rw [← HT.out, decide_eq_true ⟨t1, t2⟩], rfl⟩
        · have t2z : ¬ (m : Int) < (en : Int) := by omega
          go_wp2_with fail
          go_meet
          case rel => exact ⟨by rw [← HT.out, decide_eq_false (fun h => t2 h.2)], rfl⟩
      · have t1z : ¬ (i : Int) < (m : Int) := by omega
        have t1y : decide ((i : Int) < (m : Int)) = false := decide_eq_false t1z
        go_wp2_with fail
        go_meet
        case rel => exact ⟨by rw [← HT.out, decide_eq_false (fun h => t1 h.1)], rfl⟩
     case rest =>
      obtain ⟨rfl, rfl⟩ := hcut
      go_upto_if 185 with fail
      go_cut [24] (fun s24 wx => s24 = .int .i64 en ∧ Aside (SWK enc k w0 blk off d1 wx))
      case first => as_aux_lemma =>
       cases t with
       | true =>
        obtain ⟨t1, t2⟩ := of_decide_eq_true HT.out
        have HR := hid (rotate_walk k L enc g cb blk off cap i m en d0 d w0 wc R hs S1.out t1 t2 (by omega) hsz)
        go_wp2_with (go_at_fn 201; refine HR.out.mono ?_; rintro e w2 ⟨rfl, S2⟩)
        go_meet
        case rel => exact ⟨rfl, by rw [← HD1.out, if_pos ⟨t1, t2⟩]; exact S2⟩
       | false =>
        have t1 := of_decide_eq_false HT.out
        go_wp2_with fail
        go_meet
        case rel => exact ⟨rfl, by rw [← HD1.out, if_neg t1]; exact S1⟩
      case rest =>
       obtain ⟨rfl, S2⟩ := hcut
       clear S1 HT
       obtain ⟨d2, hd2⟩ : ∃ d2, (if a < i ∧ i < mid then symMerge (ltOf cf) f a i mid d1 else d1) = d2 := ⟨_, rfl⟩
       have HD2 := hid hd2
       clear hd2
       obtain ⟨t, ht⟩ : ∃ t : Bool, decide (a < i ∧ i < mid) = t := ⟨_, rfl⟩
       have HT := hid ht
       clear ht
       obtain ⟨wo, rfl⟩ : ∃ wo : World, wo = wc := ⟨_, rfl⟩
       go_upto_region 41 with fail
       go_cut [199] (fun s wx => s = .bool t ∧ wx = wo)
       case first => as_aux_lemma =>
        by_cases t1 : a < i
        · have t1z : (a : Int) < (i : Int) := by omega
          by_cases t2 : i < mid
          · have t2z : (i : Int) < (mid : Int) := by omega
            go_wp2_with fail
            go_meet
            case rel => exact ⟨by rw [← HT.out, decide_eq_true ⟨t1, t2⟩], rfl⟩
          · have t2z : ¬ (i : Int) < (mid : Int) := by omega
            go_wp2_with fail
            go_meet
            case rel => exact ⟨by rw [← HT.out, decide_eq_false (fun h => t2 h.2)], rfl⟩
        · have t1z : ¬ (a : Int) < (i : Int) := by omega
          have t1y : decide ((a : Int) < (i : Int)) = false := decide_eq_false t1z
          go_wp2_with fail
          go_meet
          case rel => exact ⟨by rw [← HT.out, decide_eq_false (fun h => t1 h.1)], rfl⟩
       case rest =>
        obtain ⟨rfl, rfl⟩ := hcut
        have HI1 : Hid (t = true → Calls P 187 #[.slice (some ⟨blk, off, none⟩) d.size cap, .int .i64 a, .int .i64 i, .int .i64 mid, .func (.func g) #[] cb] wc fun e w' => e = .returned (.tuple #[]) ∧ SWK enc k w0 blk off d2 w') := by
         show _ → _
         intro htt
         rw [htt] at HT
         have htr := of_decide_eq_true HT.out
         have h := IH.out a i mid d1 wc (by omega) htr.1 htr.2 (by omega) (by omega) S2.out
         rw [z1] at h
         rw [← HD2.out, if_pos htr]
         exact h
        go_upto_if 199 with fail
        go_cut [24] (fun s24 wx => s24 = .int .i64 en ∧ Aside (SWK enc k w0 blk off d2 wx))
        case first => as_aux_lemma =>
         cases t with
         | true =>
          go_wp2_with (go_at_fn 187; refine (HI1.out rfl).mono ?_; rintro e w2 ⟨rfl, S3⟩)
          go_meet
          case rel => exact ⟨rfl, S3⟩
         | false =>
          have t1 := of_decide_eq_false HT.out
          go_wp2_with fail
          go_meet
          case rel => exact ⟨rfl, by rw [← HD2.out, if_neg t1]; exact S2⟩
        case rest =>
         obtain ⟨rfl, S3⟩ := hcut
         clear S2 HT HI1
         have z2 : d2.size = d.size := by
          rw [← HD2.out, ← z1]
          split
          · exact symMerge_size _ _ _ _ _ _
          · rfl
         obtain ⟨d3, hd3⟩ : ∃ d3, (if mid < en ∧ en < b then symMerge (ltOf cf) f mid en b d2 else d2) = d3 := ⟨_, rfl⟩
         have HD3 := hid hd3
         clear hd3
         have HF : Hid (symMerge (ltOf cf) (f + 1) a m b d = d3) := by
          show _ = _
          rw [symMerge, if_neg (by omega), if_neg (by omega)]
          dsimp only
          rw [HST.out, HMD.out, HEN.out, HD1.out, HD2.out, HD3.out]
         obtain ⟨t, ht⟩ : ∃ t : Bool, decide (mid < en ∧ en < b) = t := ⟨_, rfl⟩
         have HT := hid ht
         clear ht
         obtain ⟨wo, rfl⟩ : ∃ wo : World, wo = wc := ⟨_, rfl⟩
         go_upto_region 43 with fail
         go_cut [213] (fun s wx => s = .bool t ∧ wx = wo)
         case first => as_aux_lemma =>
          by_cases t1 : mid < en
          · have t1z : (mid : Int) < (en : Int) := by omega
            by_cases t2 : en < b
            · have t2z : (en : Int) < (b : Int) := by omega
              go_wp2_with fail
              go_meet
              case rel => exact ⟨by rw [← HT.out, decide_eq_true ⟨t1, t2⟩], rfl⟩
            · have t2z : ¬ (en : Int) < (b : Int) := by omega
              go_wp2_with fail
              go_meet
              case rel => exact ⟨by rw [← HT.out, decide_eq_false (fun h => t2 h.2)], rfl⟩
          · have t1z : ¬ (mid : Int) < (en : Int) := by omega
            have t1y : decide ((mid : Int) < (en : Int)) = false := decide_eq_false t1z
            go_wp2_with fail
            go_meet
            case rel => exact ⟨by rw [← HT.out, decide_eq_false (fun h => t1 h.1)], rfl⟩
         case rest =>
          obtain ⟨rfl, rfl⟩ := hcut
          cases t with
          | true =>
           have htr := of_decide_eq_true HT.out
           have h := IH.out mid en b d2 wc (by omega) htr.1 htr.2 (by omega) (by omega) S3.out
           rw [z2] at h
           have HI3 := hid h
           clear h
           go_wp2_with (go_at_fn 187; refine HI3.out.mono ?_; rintro e w2 ⟨rfl, S4⟩)
           go_end0
           refine ⟨rfl, ?_⟩
           rw [HF.out, ← HD3.out, if_pos htr]; exact S4
          | false =>
           have t1 := of_decide_eq_false HT.out
           go_wp2_with fail
           go_end0
           refine ⟨rfl, ?_⟩
           rw [HF.out, ← HD3.out, if_neg t1]; exact S3.out
end Go.Proofs.YthlflglkdaainaaGreatDoor
namespace Go.Proofs.YthlflglkdaainaaGreatDoor
open Go.Shelf Go.RowKit Go.Lib Go.Sort
def lIns_ren : Go.Shelf.Ren := ⟨fun | 20 => 186 | n => n, fun | 0 => 0 | 3 => 3 | 4 => 4 | 22 => 170 | 24 => 173 | 25 => 174 | n => n, fun | n => n⟩
theorem lIns : Go.Proofs.SlLaysF0.n20 Tryz.prog lIns_ren := {
 mixed := by kernel_rfl
 f20 := ⟨"slices.insertionSortCmpFunc[gesso/order.mark]", by decide, Tryz.func186.trans (congrArg some (by kernel_rfl))⟩
 t0 := Tryz.underlying0
 a0 := Tryz.isAgg0
 z0 := Tryz.sizeOf0
 v0 := Tryz.zeroValue0
 t3 := Tryz.underlying3
 a3 := Tryz.isAgg3
 z3 := Tryz.sizeOf3
 v3 := Tryz.zeroValue3
 t4 := Tryz.underlying4
 a4 := Tryz.isAgg4
 z4 := Tryz.sizeOf4
 v4 := Tryz.zeroValue4
 t22 := Tryz.underlying170
 a22 := Tryz.isAgg170
 z22 := Tryz.sizeOf170
 v22 := Tryz.zeroValue170
 t25 := Tryz.underlying174
 a25 := Tryz.isAgg174
 z25 := Tryz.sizeOf174
 v25 := Tryz.zeroValue174 }
variable {α : Type} [Inhabited α]
theorem insInner_size (lt : α → α → Bool) (a : Nat) : ∀ (j : Nat) (d : Array α), (insInner lt a j d).size = d.size
 | 0, _ => rfl
 | j + 1, d => by
  unfold insInner
  split
  · rw [insInner_size lt a j, size_swp]
  · rfl
theorem insOuter_size (lt : α → α → Bool) (a b : Nat) : ∀ (t i : Nat) (d : Array α), b - i = t → (insOuter lt a b i d).size = d.size
 | 0, i, d, h => by rw [insOuter, if_neg (by omega)]
 | t + 1, i, d, h => by rw [insOuter, if_pos (by omega), insOuter_size lt a b t (i + 1) _ (by omega), insInner_size]
theorem insertionSort_size (lt : α → α → Bool) (d : Array α) (a b : Nat) : (insertionSort lt d a b).size = d.size := insOuter_size _ _ _ _ _ _ rfl
variable (enc : α → List Value) (cf : α → α → Int) (g : Nat) (cb : Array Value) (blk off cap : Nat) (d0 : Array α) (w0 : World) (eg : ∀ args w, (callFunc g args).run Tryz.prog w = .ok (.enter g args) w) (hcmp : CmpLays Tryz.prog g cb enc 2 cf blk off d0.size w0) (R : RowK enc 2 w0 blk off d0) (hsz : d0.size < 4611686018427387904)
include eg hcmp R hsz
theorem ins_walk (a b : Nat) (d : Array α) (w : World) (hs : d0.size = d.size) (S : SWK enc 2 w0 blk off d w) (hab : a ≤ b) (hb : b ≤ d.size) :
    Calls Tryz.prog 186 #[.slice (some ⟨blk, off, none⟩) d.size cap, .int .i64 a, .int .i64 b, .func (.func g) #[] cb] w fun e w' => e = .returned (.tuple #[]) ∧ SWK enc 2 w0 blk off (insertionSort (ltOf cf) d a b) w' := by
 have hC : CmpLays Tryz.prog g cb enc 2 cf blk off d.size w := fun m os dk hdk x y => by
  obtain ⟨n0, os0, rfl⟩ := S
  rw [sortWorldK_on enc 2 w0 blk off n0 m d dk os0 os R.hblk hdk]
  exact hcmp _ _ dk (by omega) x y
 refine (AnyQ.insertionSortCmpFunc lIns 2 Tryz.isAgg173 Tryz.sizeOf173 enc R.hk R.h1 cf g cb blk off cap a b d w eg hC (S.holds R.hblk R.hH hs.symm) (S.lt R.hblk) hab hb (by omega)).mono ?_
 rintro e w' ⟨rfl, n, os, rfl⟩
 exact ⟨rfl, S.on R.hblk n _ os (insertionSort_size _ _ _ _)⟩
theorem sym_walk : ∀ (f a m b : Nat) (d : Array α) (w : World), b - a ≤ f → a < m → m < b → b ≤ d.size → d0.size = d.size → SWK enc 2 w0 blk off d w →
    Calls Tryz.prog 187 #[.slice (some ⟨blk, off, none⟩) d.size cap, .int .i64 a, .int .i64 m, .int .i64 b, .func (.func g) #[] cb] w fun e w' => e = .returned (.tuple #[]) ∧ SWK enc 2 w0 blk off (symMerge (ltOf cf) f a m b d) w'
 | 0, a, m, b, d, w, hf, h1, h2, _, _, _ => by omega
 | f + 1, a, m, b, d, w, hf, h1, h2, h3, h4, h5 => by
  by_cases hm : m = a + 1
  · have := sym_one 2 stabL enc cf g cb blk off cap a m b d0 d w0 w eg hcmp R h4 h5 hm h2 h3 (by omega)
    rw [symMerge, if_pos (by omega)]
    exact this
  · by_cases hb : b = m + 1
    · have := sym_last 2 stabL enc cf g cb blk off cap a m b d0 d w0 w eg hcmp R h4 h5 (by omega) hb h3 (by omega)
      rw [symMerge, if_neg (by omega), if_pos (by omega)]
      exact this
    · exact sym_gen 2 stabL enc cf g cb blk off cap a m b d0 d w0 w eg hcmp R h4 h5 (by omega) (by omega) h3 (by omega) f (fun a m b d w => sym_walk f a m b d w) hf
set_option maxRecDepth 1000000 in
theorem stable_walk (d : Array α) (w : World) (hs : d0.size = d.size) (S : SWK enc 2 w0 blk off d w) :
    Calls Tryz.prog 166 #[.slice (some ⟨blk, off, none⟩) d.size cap, .int .i64 d.size, .func (.func g) #[] cb] w fun e w' =>
     e = .returned (.tuple #[]) ∧ SWK enc 2 w0 blk off (stableA (ltOf cf) d.size d) w' := by
 have HI := hid (fun a b d w => ins_walk enc cf g cb blk off cap d0 w0 eg hcmp R hsz a b d w)
 have HM := hid (fun a m b d w => sym_walk enc cf g cb blk off cap d0 w0 eg hcmp R hsz (b - a) a m b d w (Nat.le_refl _))
 have S0 : Aside _ := S
 have hsd : d.size < 4611686018427387904 := by omega
 obtain ⟨n, hn⟩ : ∃ n, d.size = n := ⟨_, rfl⟩
 rw [hn] at hsd hs ⊢
 have HN := hid hn
 have HS0 := hid hs
 clear hcmp S R eg hn hsz hs
 go_enter Tryz.func166, Tryz.ntmps166
 go_wp2
 go_loopg [7, 8] n (fun kx s7 s8 wr => ∃ (q : Nat) (dk : Array α), s7 = .int .i64 q ∧ s8 = .int .i64 (q + 20 : Nat) ∧ q ≤ n ∧ n - q ≤ kx ∧ Hid (dk.size = n) ∧ Aside (SWK enc 2 w0 blk off dk wr) ∧ Hid (blocksR (ltOf cf) n q dk = blocksR (ltOf cf) n 0 d))
 case atStart => exact ⟨0, d, rfl, rfl, Nat.zero_le _, by omega, HN, S0, rfl⟩
 case round =>
  obtain ⟨q, dk, rfl, rfl, hq, hkx, HD, S1, HE⟩ := hrel
  clear S0
  by_cases hlt : q + 20 ≤ n
  · have hltz : (q : Int) + 20 ≤ (n : Int) := by omega
    have hc := HI.out q (q + 20) dk wr (by rw [HD.out, HS0.out]) S1.out (by omega) (by rw [HD.out]; exact hlt)
    rw [HD.out] at hc
    have HC := hid hc
    clear hc
    go_wp2_with (go_at_call 186; refine HC.out.mono ?_; rintro e w2 ⟨rfl, S2⟩)
    go_roundg (n - (q + 20))
    case measure => omega
    case rel => exact ⟨q + 20, insertionSort (ltOf cf) dk q (q + 20), by go_num, by go_num, hlt, Nat.le_refl _, by show _ = _; rw [insertionSort_size]; exact HD.out, S2, by show _ = _; rw [← HE.out]; conv => rhs; rw [blocksR, if_pos hlt]⟩
  · have hltz : ¬ (q : Int) + 20 ≤ (n : Int) := by omega
    have hc := HI.out q n dk wr (by rw [HD.out, HS0.out]) S1.out hq (by rw [HD.out]; exact Nat.le_refl _)
    rw [HD.out] at hc
    have HC := hid hc
    clear hc
    go_wp2_with (go_at_call 186; refine HC.out.mono ?_; rintro e w2 ⟨rfl, S2⟩)
    have HP : Hid (passes (ltOf cf) n 20 (insertionSort (ltOf cf) dk q n) = stableA (ltOf cf) n d) := by
     show _ = _
     unfold stableA
     rw [← HE.out]
     conv => rhs; rw [blocksR, if_neg hlt]
    have HD2 : Hid ((insertionSort (ltOf cf) dk q n).size = n) := by show _ = _; rw [insertionSort_size]; exact HD.out
    generalize insertionSort (ltOf cf) dk q n = d1 at HP HD2 S2
    clear HD S1 HE
    obtain ⟨wo, rfl⟩ : ∃ wo : World, wo = w2 := ⟨_, rfl⟩
    go_loopg [6] (2 * n) (fun kx s6 wr => ∃ (z : Nat) (dk : Array α), s6 = .int .i64 z ∧ 20 ≤ z ∧ z ≤ 2 * n + 20 ∧ 2 * n - z ≤ kx ∧ Hid (dk.size = n) ∧ Aside (SWK enc 2 w0 blk off dk wr) ∧ Hid (passes (ltOf cf) n z dk = stableA (ltOf cf) n d))
    case atStart => exact ⟨20, d1, rfl, Nat.le_refl _, by omega, by omega, HD2, S2, HP⟩
    case round =>
     clear HP HD2 S2
     obtain ⟨z, dk, rfl, hz, hzn, hkz, HD, S1, HE⟩ := hrel
     by_cases hlz : z < n
     · have hlzz : (z : Int) < (n : Int) := by omega
       have rz : IntKind.i64.wrap (2 * (z : Int)) = 2 * (z : Int) := by rw [IntKind.wrap_i64]; omega
       obtain ⟨wo, rfl⟩ : ∃ wo : World, wo = wr := ⟨_, rfl⟩
       go_wp2
       go_loopg [7, 8] n (fun kx s7 s8 wr => ∃ (q : Nat) (dj : Array α), s7 = .int .i64 q ∧ s8 = .int .i64 (q + 2 * z : Nat) ∧ q ≤ n ∧ n - q ≤ kx ∧ Hid (dj.size = n) ∧ Aside (SWK enc 2 w0 blk off dj wr) ∧ Hid (mergePass (ltOf cf) z n q dj = mergePass (ltOf cf) z n 0 dk))
       case atStart => exact ⟨0, dk, rfl, by first | rfl | (congr 1; omega), Nat.zero_le _, by omega, HD, S1, rfl⟩
       case round =>
        clear S1
        obtain ⟨q, dj, rfl, rfl, hq, hkq, HJ, S2, HQ⟩ := hrel
        by_cases hlq : q + 2 * z ≤ n
        · have hlqz : ((q + 2 * z : Nat) : Int) ≤ (n : Int) := by omega
          have hc := HM.out q (q + z) (q + 2 * z) dj wr (by omega) (by omega) (by rw [HJ.out]; exact hlq) (by rw [HJ.out, HS0.out]) S2.out
          rw [HJ.out] at hc
          have hlqy : (q : Int) + 2 * (z : Int) ≤ (n : Int) := by omega
          have rq : IntKind.i64.wrap ((q : Int) + 2 * (z : Int) + 2 * (z : Int)) = (q : Int) + 2 * (z : Int) + 2 * (z : Int) := by rw [IntKind.wrap_i64]; omega
          have HC := hid hc
          clear hc
          go_wp2_with (go_at_call 187; refine HC.out.mono ?_; rintro e w2 ⟨rfl, S3⟩)
          go_roundg (n - (q + 2 * z))
          case measure => omega
          case rel => exact ⟨q + 2 * z, symM (ltOf cf) q (q + z) (q + 2 * z) dj, by first | go_num | (congr 1; omega), by first | go_num | (congr 1; omega), hlq, Nat.le_refl _, by show _ = _; unfold symM; rw [symMerge_size]; exact HJ.out, S3, by show _ = _; rw [← HQ.out]; conv => rhs; rw [mergePass, if_pos ⟨by omega, hlq⟩]⟩
        · have hlqz : ¬ ((q + 2 * z : Nat) : Int) ≤ (n : Int) := by omega
          have hlqy : ¬ (q : Int) + 2 * (z : Int) ≤ (n : Int) := by omega
          by_cases hlm : q + z < n
          · have hlmz : (q : Int) + (z : Int) < (n : Int) := by omega
            have hc := HM.out q (q + z) n dj wr (by omega) hlm (by rw [HJ.out]; exact Nat.le_refl _) (by rw [HJ.out, HS0.out]) S2.out
            rw [HJ.out] at hc
            have HC := hid hc
            clear hc
            go_wp2_with (go_at_call 187; refine HC.out.mono ?_; rintro e w2 ⟨rfl, S3⟩)
            go_roundg (2 * n - z * 2)
            case measure => omega
            case rel =>
             refine ⟨z * 2, symM (ltOf cf) q (q + z) n dj, by first | go_num | (congr 1; omega), by omega, by omega, Nat.le_refl _, by show _ = _; unfold symM; rw [symMerge_size]; exact HJ.out, S3, (show Hid _ from ?_)⟩
             show _ = _
             rw [← HE.out, show passes (ltOf cf) n z dk = passes (ltOf cf) n (z * 2) (mergePass (ltOf cf) z n 0 dk) by rw [passes, if_pos ⟨by omega, hlz⟩], ← HQ.out, mergePass, if_neg (fun h => hlq h.2), if_pos hlm]
          · have hlmz : ¬ (q : Int) + (z : Int) < (n : Int) := by omega
            go_wp2
            go_roundg (2 * n - z * 2)
            case measure => omega
            case rel =>
             refine ⟨z * 2, dj, by first | go_num | (congr 1; omega), by omega, by omega, Nat.le_refl _, HJ, S2, (show Hid _ from ?_)⟩
             show _ = _
             rw [← HE.out, show passes (ltOf cf) n z dk = passes (ltOf cf) n (z * 2) (mergePass (ltOf cf) z n 0 dk) by rw [passes, if_pos ⟨by omega, hlz⟩], ← HQ.out, mergePass, if_neg (fun h => hlq h.2), if_neg hlm]
     · have hlzz : ¬ (z : Int) < (n : Int) := by omega
       go_wp2
       go_end0
       refine ⟨rfl, ?_⟩
       rw [← HE.out, show passes (ltOf cf) n z dk = dk by rw [passes, if_neg (fun h => hlz h.2)]]
       exact S1.out
set_option maxRecDepth 1000000 in
theorem sortStable_walk (d : Array α) (w : World) (hs : d0.size = d.size) (S : SWK enc 2 w0 blk off d w) :
    Calls Tryz.prog 133 #[.slice (some ⟨blk, off, none⟩) d.size cap, .func (.func g) #[] cb] w fun e w' =>
     e = .returned (.tuple #[]) ∧ SWK enc 2 w0 blk off (stableA (ltOf cf) d.size d) w' := by
 have HT := hid (stable_walk enc cf g cb blk off cap d0 w0 eg hcmp R hsz d w hs S)
 clear S hcmp R eg
 go_enter Tryz.func133, Tryz.ntmps133
 go_wp2_with (go_at_call 166; refine HT.out.mono ?_; rintro e w2 ⟨rfl, S3⟩)
 go_end0
 exact ⟨rfl, S3⟩
end Go.Proofs.YthlflglkdaainaaGreatDoor
