import Derived.Test.YtgjlneedpbgfpaaDoorLook
/- The tables as trees; what holds of all rows, checked by the kernel. -/
namespace Go.Proofs.YtgjlneedpbgfpaaDoor

/-- A tree that is searched. -/
inductive Tr (α : Type) where
  | lf : Tr α
  | nd : Tr α → α → Tr α → Tr α
def Tr.list {α : Type} : Tr α → List α
  | .lf => []
  | .nd l x r => l.list ++ x :: r.list
def bld {α : Type} : Nat → List α → Tr α × List α
  | 0, xs => (.lf, xs)
  | d + 1, xs => match bld d xs with
    | (l, []) => (l, [])
    | (l, x :: rest) => match bld d rest with
      | (r, rest') => (.nd l x r, rest')
theorem bld_list {α : Type} (d : Nat) : ∀ xs : List α, (bld d xs).1.list ++ (bld d xs).2 = xs := by
  induction d with
  | zero => intro xs; rfl
  | succ d ih =>
    intro xs
    have h := ih xs
    rw [bld]
    generalize hb : bld d xs = b at h
    obtain ⟨l, rest⟩ := b
    cases rest with
    | nil => exact h
    | cons x rest =>
      have h2 := ih rest
      dsimp only
      generalize hb2 : bld d rest = b2 at h2
      obtain ⟨r, rest'⟩ := b2
      show (Tr.nd l x r).list ++ rest' = xs
      rw [Tr.list, List.append_assoc, List.cons_append]
      rw [← h, ← h2]
def fnd {α : Type} (lo hi : α → Nat) (c : Nat) : Tr α → Option α
  | .lf => none
  | .nd l x r => cond (Nat.blt c (lo x)) (fnd lo hi c l) (cond (Nat.ble c (hi x)) (some x) (fnd lo hi c r))

theorem find_none_of {α : Type} {p : α → Bool} {l : List α} (h : ∀ x ∈ l, p x = false) : l.find? p = none := by
  rw [List.find?_eq_none]; intro x hx; rw [h x hx]; exact Bool.false_ne_true

theorem fnd_spec {α : Type} (lo hi : α → Nat) (c : Nat) (t : Tr α) (h : t.list.Pairwise (fun a b => hi a < lo b)) (hle : ∀ x ∈ t.list, lo x ≤ hi x) :
    fnd lo hi c t = t.list.find? (fun e => Nat.ble (lo e) c && Nat.ble c (hi e)) := by
  induction t with
  | lf => rfl
  | nd l x r ihl ihr =>
    rw [Tr.list] at h hle ⊢
    rw [List.pairwise_append] at h
    obtain ⟨hl, hr, hx⟩ := h
    rw [List.pairwise_cons] at hr
    have il := ihl hl (fun y hy => hle y (List.mem_append_left _ hy))
    have ir := ihr hr.2 (fun y hy => hle y (List.mem_append_right _ (List.mem_cons_of_mem _ hy)))
    have hxle := hle x (List.mem_append_right _ (by simp))
    rw [fnd, List.find?_append, List.find?_cons, ← il, ← ir]
    by_cases h1 : c < lo x
    · rw [show Nat.blt c (lo x) = true from by rw [Nat.blt_eq]; exact h1]
      have hb : (Nat.ble (lo x) c && Nat.ble c (hi x)) = false := by
        rw [show Nat.ble (lo x) c = false from by rw [← Bool.not_eq_true, Nat.ble_eq]; omega]; rfl
      have hn : fnd lo hi c r = none := by
        rw [ir]
        exact find_none_of fun y hy => by
          have := hr.1 y hy
          have := hle y (List.mem_append_right _ (List.mem_cons_of_mem _ hy))
          rw [show Nat.ble (lo y) c = false from by rw [← Bool.not_eq_true, Nat.ble_eq]; omega]; rfl
      rw [hb, hn]
      show fnd lo hi c l = (fnd lo hi c l).or none
      cases fnd lo hi c l <;> rfl
    · have h1' : Nat.blt c (lo x) = false := by rw [← Bool.not_eq_true, Nat.blt_eq]; exact h1
      rw [h1']
      have hnl : fnd lo hi c l = none := by
        rw [il]
        exact find_none_of fun y hy => by
          have := hx y hy x (by simp)
          rw [show Nat.ble c (hi y) = false from by rw [← Bool.not_eq_true, Nat.ble_eq]; omega, Bool.and_false]
      rw [hnl]
      by_cases h2 : c ≤ hi x
      · have e1 : Nat.ble (lo x) c = true := by rw [Nat.ble_eq]; omega
        rw [show Nat.ble c (hi x) = true from by rw [Nat.ble_eq]; exact h2, e1]; rfl
      · rw [show Nat.ble c (hi x) = false from by rw [← Bool.not_eq_true, Nat.ble_eq]; exact h2, Bool.and_false]; rfl

def trD (l : List (Nat × Nat × Nat × Bool)) : Tr (Nat × Nat × Nat × Bool) := (bld 12 l).1
def trP (l : List (Nat × Nat × Nat)) : Tr (Nat × Nat × Nat) := (bld 11 l).1
def trC (l : List (Nat × Nat × Nat)) : Tr (Nat × Nat × Nat) := (bld 10 l).1
def fD (l : List (Nat × Nat × Nat × Bool)) (c : Nat) : Option (Nat × Nat × Nat × Bool) := fnd (fun e => e.1) (fun e => e.1) c (trD l)
def keyN (a b : Nat) : Nat := Nat.add (Nat.mul 1048576 a) b
def fP (l : List (Nat × Nat × Nat)) (a b : Nat) : Option (Nat × Nat × Nat) := fnd (fun e => keyN e.1 e.2.1) (fun e => keyN e.1 e.2.1) (keyN a b) (trP l)
def fC (l : List (Nat × Nat × Nat)) (c : Nat) : Option (Nat × Nat × Nat) := fnd (fun e => e.1) (fun e => e.2.1) c (trC l)
def nil? {α : Type} : List α → Bool | [] => true | _ => false
def no? {α : Type} : Option α → Bool | none => true | _ => false
theorem no?_iff {α : Type} (o : Option α) : no? o = true ↔ o = none := by cases o <;> simp [no?]
theorem nil?_iff {α : Type} (l : List α) : nil? l = true ↔ l = [] := by cases l <;> simp [nil?]

/-- A pair's row is a decomposition's. -/
def ckB1 (D : List (Nat × Nat × Nat × Bool)) (e : Nat × Nat × Nat) : Bool := match fD D e.2.2 with
  | some x => Nat.beq x.2.1 e.1 && Nat.beq x.2.2.1 e.2.1 && x.2.2.2
  | none => false
/-- What is composed again is a pair's row, and no mark, nor is its first one. -/
def ckB2 (P C : List (Nat × Nat × Nat)) (e : Nat × Nat × Nat × Bool) : Bool := cond e.2.2.2
  ((match fP P e.2.1 e.2.2.1 with | some x => Nat.beq x.2.2 e.1 | none => false) && Nat.blt 0 e.2.2.1 && no? (fC C e.2.1) && no? (fC C e.1)) true
/-- The second one is not decomposed; the first one is, twice more at the most. -/
def ckB3 (D : List (Nat × Nat × Nat × Bool)) (e : Nat × Nat × Nat × Bool) : Bool := no? (fD D e.2.2.1) && (match fD D e.2.1 with
  | none => true
  | some x => match fD D x.2.1 with
    | none => true
    | some y => no? (fD D y.2.1))
def ckA (lD lP lC : List UInt8) : Bool := nil? (bld 12 (dc16 lD)).2 && nil? (bld 11 (dc15 lP)).2 && nil? (bld 10 (dc12 lC)).2 &&
  (allB (ckB1 (dc16 lD)) (dc15 lP) && allB (ckB2 (dc15 lP) (dc12 lC)) (dc16 lD) && allB (ckB3 (dc16 lD)) (dc16 lD))
theorem and6 {a b c d e f : Bool} (h : (a && b && c && (d && e && f)) = true) : a = true ∧ b = true ∧ c = true ∧ d = true ∧ e = true ∧ f = true := by
  cases a <;> cases b <;> cases c <;> cases d <;> cases e <;> cases f <;> simp_all
theorem ckA_t : ckA tD.data.toList tP.data.toList tC.data.toList = true := by decide +kernel

theorem trD_list : (trD Dl).list = Dl := by
  have h := bld_list 12 Dl
  have h0 : (bld 12 Dl).2 = [] := (nil?_iff _).1 (and6 ckA_t).1
  rw [h0, List.append_nil] at h; exact h
theorem trP_list : (trP Pl).list = Pl := by
  have h := bld_list 11 Pl
  have h0 : (bld 11 Pl).2 = [] := (nil?_iff _).1 (and6 ckA_t).2.1
  rw [h0, List.append_nil] at h; exact h
theorem trC_list : (trC Cl).list = Cl := by
  have h := bld_list 10 Cl
  have h0 : (bld 10 Cl).2 = [] := (nil?_iff _).1 (and6 ckA_t).2.2.1
  rw [h0, List.append_nil] at h; exact h

theorem fD_eq (c : Nat) : fD Dl c = dfind c := by
  have h := fnd_spec (fun e : Nat × Nat × Nat × Bool => e.1) (fun e => e.1) c (trD Dl) (by rw [trD_list]; exact D_inc) (fun _ _ => Nat.le_refl _)
  unfold fD dfind
  rw [h, trD_list]
  congr 1; funext e
  rw [Bool.eq_iff_iff, Bool.and_eq_true, Nat.ble_eq, Nat.ble_eq, Nat.beq_eq]; omega
theorem fC_eq (c : Nat) : fC Cl c = cfind c := by
  have h := fnd_spec (fun e : Nat × Nat × Nat => e.1) (fun e => e.2.1) c (trC Cl) (by rw [trC_list]; exact C_inc) (fun x hx => by rw [trC_list] at hx; exact (C_bd x hx).1)
  unfold fC cfind
  rw [h, trC_list]
theorem find_congr' {α : Type} {p q : α → Bool} : ∀ (l : List α), (∀ x ∈ l, p x = q x) → l.find? p = l.find? q
  | [], _ => rfl
  | a :: l, h => by rw [List.find?_cons, List.find?_cons, h a (by simp), find_congr' l (fun x hx => h x (List.mem_cons_of_mem _ hx))]
theorem fP_eq (a b : Nat) (hb : b < 1048576) : fP Pl a b = pfind a b := by
  have h := fnd_spec (fun e : Nat × Nat × Nat => keyN e.1 e.2.1) (fun e => keyN e.1 e.2.1) (keyN a b) (trP Pl) (by rw [trP_list]; exact P_inc) (fun _ _ => Nat.le_refl _)
  unfold fP pfind
  rw [h, trP_list]
  refine find_congr' _ fun e he => ?_
  have := P_bd e he
  rw [Bool.eq_iff_iff, Bool.and_eq_true, Bool.and_eq_true, Nat.ble_eq, Nat.ble_eq, Nat.beq_eq, Nat.beq_eq]
  unfold keyN; simp only [Nat.add_eq, Nat.mul_eq]; omega

theorem cls_zero {c : Nat} : cfind c = none ↔ cls c = 0 := by
  unfold cls
  cases h : cfind c with
  | none => simp
  | some e => have := (C_bd e (cfind_some h).1).2.2.1; simp; omega

theorem D_bd2 (e) (he : e ∈ Dl) : e.2.1 < 1048576 ∧ e.2.2.1 < 1048576 := by
  obtain ⟨i, hi⟩ := List.mem_iff_getElem?.1 he
  have := (List.getElem?_eq_some_iff.1 hi).1
  rw [Dl_len] at this
  obtain ⟨e', f, h1, _, _, _, h5, h6⟩ := D_row i this
  rw [hi] at h1; obtain rfl := Option.some.inj h1
  exact ⟨h5, h6⟩
theorem P_bd2 (e) (he : e ∈ Pl) : e.2.2 < 1048576 := by
  obtain ⟨i, hi⟩ := List.mem_iff_getElem?.1 he
  have := (List.getElem?_eq_some_iff.1 hi).1
  rw [Pl_len] at this
  obtain ⟨e', h1, _, _, _, h6⟩ := P_row i this
  rw [hi] at h1; obtain rfl := Option.some.inj h1
  exact h6

/-- A pair is what is decomposed to it, and composed again. -/
theorem pair_dec {a b : Nat} {e} (h : pfind a b = some e) : dfind e.2.2 = some (e.2.2, a, b, true) := by
  obtain ⟨h1, h2, h3⟩ := pfind_some h
  have hk : ckB1 Dl e = true := (allB_iff _ _).1 (and6 ckA_t).2.2.2.1 e h1
  unfold ckB1 at hk
  rw [fD_eq] at hk
  cases hd : dfind e.2.2 with
  | none => rw [hd] at hk; cases hk
  | some x =>
    rw [hd] at hk
    have hx := (dfind_some hd).2
    simp only [Bool.and_eq_true, Nat.beq_eq] at hk
    obtain ⟨⟨k1, k2⟩, k3⟩ := hk
    obtain ⟨x1, x2, x3, x4⟩ := x
    simp only at hx k1 k2 k3
    subst hx k1 k2 k3
    rw [h2, h3]
/-- What is composed again. -/
theorem dec_pair {c : Nat} {e} (h : dfind c = some e) (hf : e.2.2.2 = true) : (∃ x, pfind e.2.1 e.2.2.1 = some x ∧ x.2.2 = c) ∧ 0 < e.2.2.1 ∧ cls e.2.1 = 0 ∧ cls c = 0 := by
  obtain ⟨h1, h2⟩ := dfind_some h
  have hk : ckB2 Pl Cl e = true := (allB_iff _ _).1 (and6 ckA_t).2.2.2.2.1 e h1
  unfold ckB2 at hk
  rw [hf, fP_eq _ _ (D_bd2 e h1).2, fC_eq, fC_eq] at hk
  simp only [cond_true, Bool.and_eq_true, Nat.blt_eq, no?_iff] at hk
  obtain ⟨⟨⟨k1, k2⟩, k3⟩, k4⟩ := hk
  refine ⟨?_, k2, cls_zero.1 k3, by rw [← h2]; exact cls_zero.1 k4⟩
  cases hp : pfind e.2.1 e.2.2.1 with
  | none => rw [hp] at k1; cases k1
  | some x => rw [hp] at k1; exact ⟨x, rfl, by rw [← h2]; exact Nat.beq_eq.mp k1⟩
/-- How deep it goes. -/
theorem dec_deep {c : Nat} {e} (h : dfind c = some e) : dfind e.2.2.1 = none ∧ (dfind e.2.1 = none ∨ ∃ x, dfind e.2.1 = some x ∧ (dfind x.2.1 = none ∨ ∃ y, dfind x.2.1 = some y ∧ dfind y.2.1 = none)) := by
  obtain ⟨h1, h2⟩ := dfind_some h
  have hk : ckB3 Dl e = true := (allB_iff _ _).1 (and6 ckA_t).2.2.2.2.2 e h1
  unfold ckB3 at hk
  rw [fD_eq, fD_eq, Bool.and_eq_true, no?_iff] at hk
  refine ⟨hk.1, ?_⟩
  have hk := hk.2
  cases hx : dfind e.2.1 with
  | none => exact .inl rfl
  | some x =>
    rw [hx] at hk
    dsimp only at hk
    rw [fD_eq] at hk
    refine .inr ⟨x, rfl, ?_⟩
    cases hy : dfind x.2.1 with
    | none => exact .inl rfl
    | some y =>
      rw [hy] at hk
      dsimp only at hk
      rw [fD_eq, no?_iff] at hk
      exact .inr ⟨y, rfl, hk⟩
end Go.Proofs.YtgjlneedpbgfpaaDoor
