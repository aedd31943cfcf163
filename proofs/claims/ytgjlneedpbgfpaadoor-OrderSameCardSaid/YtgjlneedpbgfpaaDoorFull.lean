import Derived.Test.YtgjlneedpbgfpaaDoorHan
/- Full decompositions: what they are; what holds of all rows, checked by the kernel. -/
namespace Go.Proofs.YtgjlneedpbgfpaaDoor

def hsp (c : Nat) : List Nat := if hT c = 0 then [hL c, hV c] else [hL c, hV c, hT c]
/-- A full decomposition, so many times at the most. -/
noncomputable def fullF : Nat → Nat → List Nat
  | 0, c => if isH c then hsp c else [c]
  | n + 1, c => if isH c then hsp c else match dfind c with
    | none => [c]
    | some e => fullF n e.2.1 ++ (if e.2.2.1 = 0 then [] else fullF n e.2.2.1)
noncomputable def full (c : Nat) : List Nat := fullF 3 c

def Deep : Nat → Nat → Prop
  | 0, c => dfind c = none
  | n + 1, c => dfind c = none ∨ ∃ e, dfind c = some e ∧ Deep n e.2.1 ∧ dfind e.2.2.1 = none
theorem Deep.of_none {c : Nat} (h : dfind c = none) : ∀ n, Deep n c
  | 0 => h
  | _ + 1 => .inl h
theorem Deep.succ {n : Nat} : ∀ {c : Nat}, Deep n c → Deep (n + 1) c := by
  induction n with
  | zero => intro c h; exact .inl h
  | succ n ih =>
    intro c h
    rcases h with h | ⟨e, h1, h2, h3⟩
    · exact .inl h
    · exact .inr ⟨e, h1, ih h2, h3⟩
theorem deep3 (c : Nat) : Deep 3 c := by
  cases h : dfind c with
  | none => exact .of_none h 3
  | some e =>
    obtain ⟨k1, k2⟩ := dec_deep h
    refine .inr ⟨e, h, ?_, k1⟩
    rcases k2 with k2 | ⟨x, k2, k3⟩
    · exact .of_none k2 2
    · obtain ⟨j1, _⟩ := dec_deep k2
      refine .inr ⟨x, k2, ?_, j1⟩
      rcases k3 with k3 | ⟨y, k3, k4⟩
      · exact .of_none k3 1
      · exact .inr ⟨y, k3, k4, (dec_deep k3).1⟩

theorem fullF_none {c : Nat} (h : dfind c = none) : ∀ n, fullF n c = if isH c then hsp c else [c]
  | 0 => rfl
  | n + 1 => by rw [fullF, h]
theorem fullF_stable {n : Nat} : ∀ {c : Nat}, Deep n c → ∀ m, n ≤ m → fullF m c = fullF n c := by
  induction n with
  | zero => intro c h m _; rw [fullF_none h, fullF_none h]
  | succ n ih =>
    intro c h m hm
    obtain ⟨k, rfl⟩ : ∃ k, m = k + 1 := ⟨m - 1, by omega⟩
    rcases h with h | ⟨e, h1, h2, h3⟩
    · rw [fullF_none h, fullF_none h]
    · rw [fullF, fullF, h1]
      dsimp only
      rw [ih h2 k (by omega), fullF_none h3, fullF_none h3]
theorem fullF_full (n c : Nat) (hn : 3 ≤ n) : fullF n c = full c := fullF_stable (deep3 c) n hn
theorem full_of {n c : Nat} (h : Deep n c) (hn : n ≤ 3) : full c = fullF n c := fullF_stable h 3 hn

/-- Of a syllable; of what is not decomposed; of what is. -/
theorem full_h {c : Nat} (h : isH c = true) : full c = hsp c := by unfold full; rw [fullF, if_pos h]
theorem full_no {c : Nat} (h : isH c = false) (hd : dfind c = none) : full c = [c] := by unfold full; rw [fullF_none hd, if_neg (by rw [h]; exact Bool.false_ne_true)]
theorem full_some {c : Nat} {e} (h : isH c = false) (hd : dfind c = some e) : full c = full e.2.1 ++ (if e.2.2.1 = 0 then [] else full e.2.2.1) := by
  have hD := deep3 c
  rcases hD with h0 | ⟨e', h1, h2, h3⟩
  · rw [h0] at hd; cases hd
  · rw [h1] at hd; obtain rfl := Option.some.inj hd
    unfold full
    rw [fullF, h, h1]
    dsimp only
    rw [if_neg (by simp), fullF_stable h2 3 (by decide)]
    congr 1
    split
    · rfl
    · rw [fullF_none h3, fullF_none h3]

/-- No row names a syllable; classes name neither syllables nor their letters. -/
def ckD2 (e : Nat × Nat × Nat × Bool) : Bool := !(isH e.1) && !(isH e.2.1) && !(isH e.2.2.1) && Nat.blt e.2.2.1 65536 || (!(isH e.1) && !(isH e.2.1) && !(isH e.2.2.1))
def ckC2 (e : Nat × Nat × Nat) : Bool := (Nat.blt e.2.1 4352 || Nat.blt 4546 e.1) && (Nat.blt e.2.1 44032 || Nat.blt 55203 e.1)
/-- The full decomposition, by the tree. -/
def fullT (D : List (Nat × Nat × Nat × Bool)) : Nat → Nat → List Nat
  | 0, c => [c]
  | n + 1, c => match fD D c with
    | none => [c]
    | some e => (fullT D n e.2.1) ++ (cond (Nat.beq e.2.2.1 0) [] [e.2.2.1])
def clsT (C : List (Nat × Nat × Nat)) (c : Nat) : Nat := match fC C c with | some e => e.2.2 | none => 0
/-- Is a list in order, behind a class? -/
def inOrd (f : Nat → Nat) : Nat → List Nat → Bool
  | _, [] => true
  | k, c :: l => (Nat.beq (f c) 0 || Nat.ble k (f c)) && inOrd f (f c) l
def ckD3 (D : List (Nat × Nat × Nat × Bool)) (C : List (Nat × Nat × Nat)) (e : Nat × Nat × Nat × Bool) : Bool := inOrd (clsT C) 0 (fullT D 3 e.1)
def ckB (lD lC : List UInt8) : Bool := allB ckD2 (dc16 lD) && allB ckC2 (dc12 lC) && allB (ckD3 (dc16 lD) (dc12 lC)) (dc16 lD)
theorem ckB_t : ckB tD.data.toList tC.data.toList = true := by decide +kernel
theorem and3 {a b c : Bool} (h : (a && b && c) = true) : a = true ∧ b = true ∧ c = true := by cases a <;> cases b <;> cases c <;> simp_all

theorem D_noH {e} (he : e ∈ Dl) : isH e.1 = false ∧ isH e.2.1 = false ∧ isH e.2.2.1 = false := by
  have h := (allB_iff _ _).1 (and3 ckB_t).1 e he
  unfold ckD2 at h
  cases h1 : isH e.1 <;> cases h2 : isH e.2.1 <;> cases h3 : isH e.2.2.1 <;> simp_all
theorem dfind_h {c : Nat} (h : isH c = true) : dfind c = none := by
  cases hd : dfind c with
  | none => rfl
  | some e => obtain ⟨h1, h2⟩ := dfind_some hd; have := (D_noH h1).1; rw [h2, h] at this; cases this
theorem cls_h {c : Nat} (h : (4352 ≤ c ∧ c ≤ 4546) ∨ (44032 ≤ c ∧ c ≤ 55203)) : cls c = 0 := by
  refine cls_zero.1 ?_
  cases hd : cfind c with
  | none => rfl
  | some e =>
    obtain ⟨h1, h2, h3⟩ := cfind_some hd
    have hk := (allB_iff _ _).1 (and3 ckB_t).2.1 e h1
    unfold ckC2 at hk
    rw [Bool.and_eq_true, Bool.or_eq_true, Bool.or_eq_true, Nat.blt_eq, Nat.blt_eq, Nat.blt_eq, Nat.blt_eq] at hk
    omega

/-- What is decomposed is no syllable, nor are its parts: so its full decomposition is what the tree tells. -/
theorem fullT_eq {n : Nat} : ∀ {c : Nat}, Deep n c → isH c = false → fullT Dl n c = fullF n c := by
  induction n with
  | zero => intro c h hh; rw [fullT, fullF, hh]; rfl
  | succ n ih =>
    intro c h hh
    rw [fullT, fD_eq, fullF, hh]
    rcases h with h | ⟨e, h1, h2, h3⟩
    · rw [h]; rfl
    · rw [h1]
      have hno := D_noH (dfind_some h1).1
      dsimp only
      rw [ih h2 hno.2.1, if_neg (by simp)]
      congr 1
      by_cases hz : e.2.2.1 = 0
      · rw [if_pos hz, hz]; rfl
      · rw [if_neg hz, fullF_none h3, hno.2.2]
        rw [show Nat.beq e.2.2.1 0 = false from by rw [← Bool.not_eq_true, Nat.beq_eq]; exact hz]; rfl

theorem hsp_len (c : Nat) : 2 ≤ (hsp c).length ∧ (hsp c).length ≤ 3 := by unfold hsp; split <;> simp
theorem fullF_len {n : Nat} : ∀ {c : Nat}, Deep n c → isH c = false → (fullF n c).length ≤ n + 1 ∧ 1 ≤ (fullF n c).length := by
  induction n with
  | zero => intro c h hh; rw [fullF, hh]; simp
  | succ n ih =>
    intro c h hh
    rcases h with h | ⟨e, h1, h2, h3⟩
    · rw [fullF_none h, hh]; simp
    · have hno := D_noH (dfind_some h1).1
      rw [fullF, hh, h1]
      dsimp only
      have := ih h2 hno.2.1
      rw [if_neg (by simp), List.length_append]
      split
      · simp; omega
      · rw [fullF_none h3, hno.2.2]; simp; omega
theorem full_len (c : Nat) : 1 ≤ (full c).length ∧ (full c).length ≤ 4 := by
  cases h : isH c with
  | true => rw [full_h h]; have := hsp_len c; omega
  | false => have := fullF_len (deep3 c) h; unfold full; omega

theorem hsp_lt (c : Nat) (h : isH c = true) : ∀ x ∈ hsp c, 4352 ≤ x ∧ x ≤ 4546 := by
  have h1 := (isH_iff c).1 h
  have hl : 4352 ≤ hL c ∧ hL c ≤ 4546 := by unfold hL; omega
  have hv : 4352 ≤ hV c ∧ hV c ≤ 4546 := by unfold hV; omega
  have ht : hT c = 0 ∨ (4352 ≤ hT c ∧ hT c ≤ 4546) := by unfold hT; split <;> omega
  intro x hx
  unfold hsp at hx
  split at hx
  · simp only [List.mem_cons, List.not_mem_nil, or_false] at hx
    rcases hx with hx | hx
    · rw [hx]; exact hl
    · rw [hx]; exact hv
  · rename_i hne
    simp only [List.mem_cons, List.not_mem_nil, or_false] at hx
    rcases hx with hx | hx | hx
    · rw [hx]; exact hl
    · rw [hx]; exact hv
    · rw [hx]; exact ht.resolve_left hne
/-- All parts are small, and none is decomposed. -/
def Part (c x : Nat) : Prop := (x = c ∨ x < 1048576) ∧ dfind x = none ∧ isH x = false
theorem Part.self {c : Nat} (h : dfind c = none) (hh : isH c = false) : Part c c := ⟨.inl rfl, h, hh⟩
theorem fullF_one {c : Nat} (h : dfind c = none) (hh : isH c = false) (n : Nat) : fullF n c = [c] := by
  rw [fullF_none h, if_neg (by rw [hh]; exact Bool.false_ne_true)]
theorem fullF_mem {n : Nat} : ∀ {c : Nat}, Deep n c → isH c = false → ∀ x ∈ fullF n c, Part c x := by
  induction n with
  | zero =>
    intro c h hh x hx
    rw [fullF_one h hh, List.mem_singleton] at hx
    rw [hx]; exact .self h hh
  | succ n ih =>
    intro c h hh x hx
    rcases h with h | ⟨e, h1, h2, h3⟩
    · rw [fullF_one h hh, List.mem_singleton] at hx
      rw [hx]; exact .self h hh
    · have hno := D_noH (dfind_some h1).1
      have hb := D_bd2 e (dfind_some h1).1
      rw [fullF, hh, h1] at hx
      dsimp only at hx
      rw [if_neg (by simp)] at hx
      rcases List.mem_append.1 hx with hx | hx
      · obtain ⟨k1, k2⟩ := ih h2 hno.2.1 x hx
        exact ⟨.inr (by rcases k1 with rfl | k1 <;> omega), k2⟩
      · split at hx
        · cases hx
        · rw [fullF_one h3 hno.2.2, List.mem_singleton] at hx
          rw [hx]; exact ⟨.inr hb.2, h3, hno.2.2⟩
end Go.Proofs.YtgjlneedpbgfpaaDoor
