import Derived.Test.YtgjlneedpbgfpaaDoorDig
import Derived.Test.YtgjlneedpbgfpaaDoorFind
/- Rows of bytes, read as numbers. -/
namespace Go.Proofs.YtgjlneedpbgfpaaDoor

def allB {α : Type} (f : α → Bool) : List α → Bool
  | [] => true
  | a :: r => cond (f a) (allB f r) false
theorem allB_iff {α : Type} (f : α → Bool) (l : List α) : allB f l = true ↔ ∀ a ∈ l, f a = true := by
  induction l with
  | nil => simp [allB]
  | cons a r ih =>
    rw [allB]
    cases h : f a <;> simp [h, ih]
/-- Each is below the next one. -/
def incB {α : Type} (lt : α → α → Bool) : List α → Bool
  | [] => true
  | [_] => true
  | a :: b :: r => cond (lt a b) (incB lt (b :: r)) false
theorem incB_iff {α : Type} (lt : α → α → Bool) (ht : ∀ a b c, lt a b = true → lt b c = true → lt a c = true) (l : List α) (h : incB lt l = true) : l.Pairwise (fun a b => lt a b = true) := by
  induction l with
  | nil => exact List.Pairwise.nil
  | cons a r ih =>
    cases r with
    | nil => exact List.pairwise_singleton _ _
    | cons b r =>
      rw [incB] at h
      cases hab : lt a b with
      | false => rw [hab] at h; cases h
      | true =>
        rw [hab] at h
        have ih := ih h
        refine List.Pairwise.cons (fun x hx => ?_) ih
        rcases List.mem_cons.1 hx with rfl | hx
        · exact hab
        · exact ht _ _ _ hab ((List.pairwise_cons.1 ih).1 x hx)

def dc16 : List UInt8 → List (Nat × Nat × Nat × Bool)
  | a0 :: a1 :: a2 :: a3 :: a4 :: a5 :: a6 :: a7 :: a8 :: a9 :: a10 :: a11 :: a12 :: a13 :: a14 :: f :: r => (v5 a0 a1 a2 a3 a4, v5 a5 a6 a7 a8 a9, v5 a10 a11 a12 a13 a14, Nat.beq f.toNat 99) :: dc16 r
  | _ => []
def hx16 : List UInt8 → Bool
  | a0 :: a1 :: a2 :: a3 :: a4 :: a5 :: a6 :: a7 :: a8 :: a9 :: a10 :: a11 :: a12 :: a13 :: a14 :: _ :: r => cond (allB isHex [a0, a1, a2, a3, a4, a5, a6, a7, a8, a9, a10, a11, a12, a13, a14]) (hx16 r) false
  | l => l.isEmpty
theorem ex16 (l : List UInt8) (h : 16 ≤ l.length) : ∃ a0 a1 a2 a3 a4 a5 a6 a7 a8 a9 a10 a11 a12 a13 a14 f r, l = a0 :: a1 :: a2 :: a3 :: a4 :: a5 :: a6 :: a7 :: a8 :: a9 :: a10 :: a11 :: a12 :: a13 :: a14 :: f :: r := by
  rcases l with _ | ⟨x0, l⟩
  · simp at h
  rcases l with _ | ⟨x1, l⟩
  · simp at h
  rcases l with _ | ⟨x2, l⟩
  · simp at h
  rcases l with _ | ⟨x3, l⟩
  · simp at h
  rcases l with _ | ⟨x4, l⟩
  · simp at h
  rcases l with _ | ⟨x5, l⟩
  · simp at h
  rcases l with _ | ⟨x6, l⟩
  · simp at h
  rcases l with _ | ⟨x7, l⟩
  · simp at h
  rcases l with _ | ⟨x8, l⟩
  · simp at h
  rcases l with _ | ⟨x9, l⟩
  · simp at h
  rcases l with _ | ⟨x10, l⟩
  · simp at h
  rcases l with _ | ⟨x11, l⟩
  · simp at h
  rcases l with _ | ⟨x12, l⟩
  · simp at h
  rcases l with _ | ⟨x13, l⟩
  · simp at h
  rcases l with _ | ⟨x14, l⟩
  · simp at h
  rcases l with _ | ⟨x15, l⟩
  · simp at h
  exact ⟨_, _, _, _, _, _, _, _, _, _, _, _, _, _, _, _, _, rfl⟩
def dc15 : List UInt8 → List (Nat × Nat × Nat)
  | a0 :: a1 :: a2 :: a3 :: a4 :: a5 :: a6 :: a7 :: a8 :: a9 :: a10 :: a11 :: a12 :: a13 :: a14 :: r => (v5 a0 a1 a2 a3 a4, v5 a5 a6 a7 a8 a9, v5 a10 a11 a12 a13 a14) :: dc15 r
  | _ => []
def hx15 : List UInt8 → Bool
  | a0 :: a1 :: a2 :: a3 :: a4 :: a5 :: a6 :: a7 :: a8 :: a9 :: a10 :: a11 :: a12 :: a13 :: a14 :: r => cond (allB isHex [a0, a1, a2, a3, a4, a5, a6, a7, a8, a9, a10, a11, a12, a13, a14]) (hx15 r) false
  | l => l.isEmpty
theorem ex15 (l : List UInt8) (h : 15 ≤ l.length) : ∃ a0 a1 a2 a3 a4 a5 a6 a7 a8 a9 a10 a11 a12 a13 a14 r, l = a0 :: a1 :: a2 :: a3 :: a4 :: a5 :: a6 :: a7 :: a8 :: a9 :: a10 :: a11 :: a12 :: a13 :: a14 :: r := by
  rcases l with _ | ⟨x0, l⟩
  · simp at h
  rcases l with _ | ⟨x1, l⟩
  · simp at h
  rcases l with _ | ⟨x2, l⟩
  · simp at h
  rcases l with _ | ⟨x3, l⟩
  · simp at h
  rcases l with _ | ⟨x4, l⟩
  · simp at h
  rcases l with _ | ⟨x5, l⟩
  · simp at h
  rcases l with _ | ⟨x6, l⟩
  · simp at h
  rcases l with _ | ⟨x7, l⟩
  · simp at h
  rcases l with _ | ⟨x8, l⟩
  · simp at h
  rcases l with _ | ⟨x9, l⟩
  · simp at h
  rcases l with _ | ⟨x10, l⟩
  · simp at h
  rcases l with _ | ⟨x11, l⟩
  · simp at h
  rcases l with _ | ⟨x12, l⟩
  · simp at h
  rcases l with _ | ⟨x13, l⟩
  · simp at h
  rcases l with _ | ⟨x14, l⟩
  · simp at h
  exact ⟨_, _, _, _, _, _, _, _, _, _, _, _, _, _, _, _, rfl⟩
def dc12 : List UInt8 → List (Nat × Nat × Nat)
  | a0 :: a1 :: a2 :: a3 :: a4 :: a5 :: a6 :: a7 :: a8 :: a9 :: a10 :: a11 :: r => (v5 a0 a1 a2 a3 a4, v5 a5 a6 a7 a8 a9, sh (hvb a10) a11) :: dc12 r
  | _ => []
def hx12 : List UInt8 → Bool
  | a0 :: a1 :: a2 :: a3 :: a4 :: a5 :: a6 :: a7 :: a8 :: a9 :: a10 :: a11 :: r => cond (allB isHex [a0, a1, a2, a3, a4, a5, a6, a7, a8, a9, a10, a11]) (hx12 r) false
  | l => l.isEmpty
theorem ex12 (l : List UInt8) (h : 12 ≤ l.length) : ∃ a0 a1 a2 a3 a4 a5 a6 a7 a8 a9 a10 a11 r, l = a0 :: a1 :: a2 :: a3 :: a4 :: a5 :: a6 :: a7 :: a8 :: a9 :: a10 :: a11 :: r := by
  rcases l with _ | ⟨x0, l⟩
  · simp at h
  rcases l with _ | ⟨x1, l⟩
  · simp at h
  rcases l with _ | ⟨x2, l⟩
  · simp at h
  rcases l with _ | ⟨x3, l⟩
  · simp at h
  rcases l with _ | ⟨x4, l⟩
  · simp at h
  rcases l with _ | ⟨x5, l⟩
  · simp at h
  rcases l with _ | ⟨x6, l⟩
  · simp at h
  rcases l with _ | ⟨x7, l⟩
  · simp at h
  rcases l with _ | ⟨x8, l⟩
  · simp at h
  rcases l with _ | ⟨x9, l⟩
  · simp at h
  rcases l with _ | ⟨x10, l⟩
  · simp at h
  rcases l with _ | ⟨x11, l⟩
  · simp at h
  exact ⟨_, _, _, _, _, _, _, _, _, _, _, _, _, rfl⟩

theorem rows16 (n : Nat) : ∀ l : List UInt8, l.length = 16 * n → hx16 l = true → (dc16 l).length = n ∧ ∀ i, i < n → ∃ e f, (dc16 l)[i]? = some e ∧ (l.drop (i * 16)).take 16 = five5 e.1 ++ (five5 e.2.1 ++ (five5 e.2.2.1 ++ [f])) ∧ e.2.2.2 = Nat.beq f.toNat 99 ∧ e.1 < 1048576 ∧ e.2.1 < 1048576 ∧ e.2.2.1 < 1048576 := by
  induction n with
  | zero =>
    intro l hl _
    have : l = [] := List.eq_nil_of_length_eq_zero (by omega)
    subst this
    exact ⟨rfl, fun i hi => by omega⟩
  | succ n ih =>
    intro l hl hx
    obtain ⟨a0, a1, a2, a3, a4, a5, a6, a7, a8, a9, a10, a11, a12, a13, a14, f, r, rfl⟩ := ex16 l (by omega)
    rw [hx16] at hx
    cases hb : allB isHex [a0, a1, a2, a3, a4, a5, a6, a7, a8, a9, a10, a11, a12, a13, a14] with
    | false => rw [hb] at hx; cases hx
    | true =>
    rw [hb] at hx
    have hh := (allB_iff _ _).1 hb
    have p := v5_five a0 a1 a2 a3 a4 (hh a0 (by simp)) (hh a1 (by simp)) (hh a2 (by simp)) (hh a3 (by simp)) (hh a4 (by simp))
    have q := v5_five a5 a6 a7 a8 a9 (hh a5 (by simp)) (hh a6 (by simp)) (hh a7 (by simp)) (hh a8 (by simp)) (hh a9 (by simp))
    have s := v5_five a10 a11 a12 a13 a14 (hh a10 (by simp)) (hh a11 (by simp)) (hh a12 (by simp)) (hh a13 (by simp)) (hh a14 (by simp))
    have ih := ih r (by simp at hl; omega) hx
    refine ⟨by rw [dc16, List.length_cons, ih.1], fun i hi => ?_⟩
    cases i with
    | zero =>
      refine ⟨_, f, rfl, ?_, rfl, p.2, q.2, s.2⟩
      show [a0, a1, a2, a3, a4, a5, a6, a7, a8, a9, a10, a11, a12, a13, a14, f] = five5 (v5 a0 a1 a2 a3 a4) ++ (five5 (v5 a5 a6 a7 a8 a9) ++ (five5 (v5 a10 a11 a12 a13 a14) ++ [f]))
      rw [p.1, q.1, s.1]; rfl
    | succ i =>
      have := ih.2 i (by omega)
      rw [show (i + 1) * 16 = i * 16 + 16 by omega]
      exact this

theorem rows15 (n : Nat) : ∀ l : List UInt8, l.length = 15 * n → hx15 l = true → (dc15 l).length = n ∧ ∀ i, i < n → ∃ e, (dc15 l)[i]? = some e ∧ (l.drop (i * 15)).take 15 = five5 e.1 ++ (five5 e.2.1 ++ five5 e.2.2) ∧ e.1 < 1048576 ∧ e.2.1 < 1048576 ∧ e.2.2 < 1048576 := by
  induction n with
  | zero =>
    intro l hl _
    have : l = [] := List.eq_nil_of_length_eq_zero (by omega)
    subst this
    exact ⟨rfl, fun i hi => by omega⟩
  | succ n ih =>
    intro l hl hx
    obtain ⟨a0, a1, a2, a3, a4, a5, a6, a7, a8, a9, a10, a11, a12, a13, a14, r, rfl⟩ := ex15 l (by omega)
    rw [hx15] at hx
    cases hb : allB isHex [a0, a1, a2, a3, a4, a5, a6, a7, a8, a9, a10, a11, a12, a13, a14] with
    | false => rw [hb] at hx; cases hx
    | true =>
    rw [hb] at hx
    have hh := (allB_iff _ _).1 hb
    have p := v5_five a0 a1 a2 a3 a4 (hh a0 (by simp)) (hh a1 (by simp)) (hh a2 (by simp)) (hh a3 (by simp)) (hh a4 (by simp))
    have q := v5_five a5 a6 a7 a8 a9 (hh a5 (by simp)) (hh a6 (by simp)) (hh a7 (by simp)) (hh a8 (by simp)) (hh a9 (by simp))
    have s := v5_five a10 a11 a12 a13 a14 (hh a10 (by simp)) (hh a11 (by simp)) (hh a12 (by simp)) (hh a13 (by simp)) (hh a14 (by simp))
    have ih := ih r (by simp at hl; omega) hx
    refine ⟨by rw [dc15, List.length_cons, ih.1], fun i hi => ?_⟩
    cases i with
    | zero =>
      refine ⟨_, rfl, ?_, p.2, q.2, s.2⟩
      show [a0, a1, a2, a3, a4, a5, a6, a7, a8, a9, a10, a11, a12, a13, a14] = five5 (v5 a0 a1 a2 a3 a4) ++ (five5 (v5 a5 a6 a7 a8 a9) ++ five5 (v5 a10 a11 a12 a13 a14))
      rw [p.1, q.1, s.1]; rfl
    | succ i =>
      have := ih.2 i (by omega)
      rw [show (i + 1) * 15 = i * 15 + 15 by omega]
      exact this

theorem rows12 (n : Nat) : ∀ l : List UInt8, l.length = 12 * n → hx12 l = true → (dc12 l).length = n ∧ ∀ i, i < n → ∃ e x y, (dc12 l)[i]? = some e ∧ (l.drop (i * 12)).take 12 = five5 e.1 ++ (five5 e.2.1 ++ [x, y]) ∧ isHex x = true ∧ isHex y = true ∧ val [x, y] = e.2.2 ∧ e.1 < 1048576 ∧ e.2.1 < 1048576 := by
  induction n with
  | zero =>
    intro l hl _
    have : l = [] := List.eq_nil_of_length_eq_zero (by omega)
    subst this
    exact ⟨rfl, fun i hi => by omega⟩
  | succ n ih =>
    intro l hl hx
    obtain ⟨a0, a1, a2, a3, a4, a5, a6, a7, a8, a9, a10, a11, r, rfl⟩ := ex12 l (by omega)
    rw [hx12] at hx
    cases hb : allB isHex [a0, a1, a2, a3, a4, a5, a6, a7, a8, a9, a10, a11] with
    | false => rw [hb] at hx; cases hx
    | true =>
    rw [hb] at hx
    have hh := (allB_iff _ _).1 hb
    have p := v5_five a0 a1 a2 a3 a4 (hh a0 (by simp)) (hh a1 (by simp)) (hh a2 (by simp)) (hh a3 (by simp)) (hh a4 (by simp))
    have q := v5_five a5 a6 a7 a8 a9 (hh a5 (by simp)) (hh a6 (by simp)) (hh a7 (by simp)) (hh a8 (by simp)) (hh a9 (by simp))
    have ih := ih r (by simp at hl; omega) hx
    refine ⟨by rw [dc12, List.length_cons, ih.1], fun i hi => ?_⟩
    cases i with
    | zero =>
      refine ⟨_, a10, a11, rfl, ?_, hh a10 (by simp), hh a11 (by simp), by simp [val, sh], p.2, q.2⟩
      show [a0, a1, a2, a3, a4, a5, a6, a7, a8, a9, a10, a11] = five5 (v5 a0 a1 a2 a3 a4) ++ (five5 (v5 a5 a6 a7 a8 a9) ++ [a10, a11])
      rw [p.1, q.1]; rfl
    | succ i =>
      have := ih.2 i (by omega)
      rw [show (i + 1) * 12 = i * 12 + 12 by omega]
      exact this
end Go.Proofs.YtgjlneedpbgfpaaDoor
