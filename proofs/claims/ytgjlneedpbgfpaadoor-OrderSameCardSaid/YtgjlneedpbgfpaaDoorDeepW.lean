import Derived.Test.YtgjlneedpbgfpaaDoorTree
/- The walk of UcdDeep. -/
namespace Go.Proofs.YtgjlneedpbgfpaaDoor
open Go.RowKit

/-- A character, decomposed once. -/
noncomputable def dstep (c : Nat) : List Nat := match dfind c with | some e => if e.2.2.1 = 0 then [e.2.1] else [e.2.1, e.2.2.1] | none => [c]
/-- All, decomposed once. -/
noncomputable def stepL (l : List Nat) : List Nat := l.flatMap dstep

/-- A list that is decomposed i times more at the most: only the first one still is. -/
def Dep : Nat → List Nat → Prop
  | i, l => ∃ h t, l = h :: t ∧ l.length ≤ 4 - i ∧ (∀ x ∈ t, dfind x = none) ∧ (∀ x ∈ l, x < 4294967296) ∧
    (match i with
     | 0 => dfind h = none
     | 1 => dfind h = none ∨ ∃ e, dfind h = some e ∧ dfind e.2.1 = none
     | 2 => dfind h = none ∨ ∃ e, dfind h = some e ∧ (dfind e.2.1 = none ∨ ∃ x, dfind e.2.1 = some x ∧ dfind x.2.1 = none)
     | _ => True)

theorem step_tail (t : List Nat) (h : ∀ x ∈ t, dfind x = none) : stepL t = t := by
  induction t with
  | nil => rfl
  | cons a t ih =>
    have ha : dstep a = [a] := by unfold dstep; rw [h a (by simp)]
    show dstep a ++ stepL t = a :: t
    rw [ha, ih (fun x hx => h x (List.mem_cons_of_mem _ hx))]; rfl

theorem Dep.step {i : Nat} {l : List Nat} (hi : i < 3) (h : Dep (i + 1) l) : Dep i (stepL l) := by
  obtain ⟨a, t, rfl, hl, ht, hb, hd⟩ := h
  have hs : stepL (a :: t) = dstep a ++ t := by show dstep a ++ stepL t = _; rw [step_tail t ht]
  rw [hs]
  simp only [List.length_cons] at hl
  cases ha : dfind a with
  | none =>
    have hda : dstep a = [a] := by unfold dstep; rw [ha]
    rw [hda]
    refine ⟨a, t, rfl, by simp only [List.length_append, List.length_cons, List.length_nil]; omega, ht, hb, ?_⟩
    match i, hi with
    | 0, _ => exact ha
    | 1, _ => exact .inl ha
    | 2, _ => exact .inl ha
  | some e =>
    have he := D_bd2 e (dfind_some ha).1
    obtain ⟨d1, d2⟩ := dec_deep ha
    have hcase : ∃ t', dstep a ++ t = e.2.1 :: t' ∧ t'.length ≤ t.length + 1 ∧ (∀ x ∈ t', dfind x = none) ∧ ∀ x ∈ t', x < 4294967296 := by
      unfold dstep; rw [ha]; dsimp only
      split
      · exact ⟨t, rfl, by omega, ht, fun x hx => hb x (List.mem_cons_of_mem _ hx)⟩
      · refine ⟨e.2.2.1 :: t, rfl, by simp, fun x hx => ?_, fun x hx => ?_⟩
        · rcases List.mem_cons.1 hx with rfl | hx
          · exact d1
          · exact ht x hx
        · rcases List.mem_cons.1 hx with rfl | hx
          · omega
          · exact hb x (List.mem_cons_of_mem _ hx)
    obtain ⟨t', h1, h2, h3, h4⟩ := hcase
    rw [h1]
    refine ⟨e.2.1, t', rfl, by simp only [List.length_cons]; omega, h3, fun x hx => ?_, ?_⟩
    · rcases List.mem_cons.1 hx with rfl | hx
      · omega
      · exact h4 x hx
    · match i, hi, hd with
      | 0, _, hd =>
        rcases hd with hd | ⟨e', he', hd⟩
        · rw [ha] at hd; cases hd
        · rw [ha] at he'; obtain rfl := Option.some.inj he'; exact hd
      | 1, _, hd =>
        rcases hd with hd | ⟨e', he', hd⟩
        · rw [ha] at hd; cases hd
        · rw [ha] at he'; obtain rfl := Option.some.inj he'; exact hd
      | 2, _, _ => exact d2
theorem Dep.start (c : Nat) (hc : c < 4294967296) : Dep 3 [c] := ⟨c, [], rfl, by simp, fun x hx => by simp at hx, fun x hx => by simp at hx; omega, trivial⟩
theorem Dep.all {l : List Nat} (h : Dep 0 l) : ∀ x ∈ l, dfind x = none := by
  obtain ⟨a, t, rfl, _, ht, _, hd⟩ := h
  intro x hx
  rcases List.mem_cons.1 hx with rfl | hx
  · exact hd
  · exact ht x hx

theorem stepL_snoc (l : List Nat) (x : Nat) : stepL (l ++ [x]) = stepL l ++ dstep x := by unfold stepL; rw [List.flatMap_append]; simp
theorem stepL_len (l : List Nat) : (stepL l).length ≤ 2 * l.length := by
  induction l with
  | nil => simp [stepL]
  | cons a l ih =>
    have : (dstep a).length ≤ 2 := by unfold dstep; split <;> (try split) <;> simp
    show (dstep a ++ stepL l).length ≤ _
    rw [List.length_append, List.length_cons]; omega

/-- Numbers, as they lie in a slice. -/
def u32s (l : List Nat) : List Value := l.map fun (x : Nat) => Value.int .u32 (x : Int)
theorem u32s_length (l : List Nat) : (u32s l).length = l.length := by unfold u32s; simp
theorem info_u32 : (Tryd.prog.info? 22).map (fun i => (i.zero, i.size, i.bytes)) = some (some (.int .u32 0), 1, 4) := by kernel_rfl

theorem ownsRow_gr {w w' : World} {base : Nat} {e : TypeId} {size : Nat} {v : Value} {n : Nat} {xs : List Value} (h : w.ownsRow base e size v n xs) (g : Gr w w') : w'.ownsRow base e size v n xs := by
  refine ⟨h.1, ?_⟩
  rcases h.2 with h0 | ⟨b, cap, cur, h1, h2, h3, h4⟩
  · exact .inl h0
  · refine .inr ⟨b, cap, cur, h1, h2, ?_, h4⟩
    have : b < w.heap.size := by
      rcases Nat.lt_or_ge b w.heap.size with hlt | hge
      · exact hlt
      · rw [Array.getElem?_eq_none hge] at h3; cases h3
    rw [Below.block g b this]; exact h3
theorem gr_grown {w w' : World} {row : Option Nat} {B : Nat} (hB : B ≤ w.heap.size) (hg : w.grownBy w' row) (hr : ∀ k, row = some k → B ≤ k) : Below B w w' := (Below.refl B w).grown hg hB hr
theorem row_block {w : World} {base : Nat} {e : TypeId} {size : Nat} {v : Value} {n : Nat} {xs : List Value} (h : w.ownsRow base e size v n xs) : ∀ k, v.ownBlock = some k → base ≤ k := fun k hk => (h.lt k hk).1
theorem row_form {w : World} {base : Nat} {e : TypeId} {size : Nat} {v : Value} {n : Nat} {xs : List Value} (h : w.ownsRow base e size v n xs) (hn : 0 < n) :
    ∃ g cap, v = .slice (some ⟨g, 0, none⟩) n cap ∧ base ≤ g ∧ g < w.heap.size := by
  rcases h.2 with ⟨_, h0⟩ | ⟨g, cap, cur, hv, hb, hg, _⟩
  · omega
  · refine ⟨g, cap, hv, hb, ?_⟩
    rcases Nat.lt_or_ge g w.heap.size with hlt | hge
    · exact hlt
    · rw [Array.getElem?_eq_none hge] at hg; cases hg
theorem _root_.Go.World.ownsRow.mono' {w : World} {base base' : Nat} {e : TypeId} {size : Nat} {v : Value} {n : Nat} {xs : List Value} (h : w.ownsRow base e size v n xs) (hb : base' ≤ base) : w.ownsRow base' e size v n xs := by
  refine ⟨h.1, ?_⟩
  rcases h.2 with h0 | ⟨g, cap, cur, hv, h1, h2⟩
  · exact .inl h0
  · exact .inr ⟨g, cap, cur, hv, Nat.le_trans hb h1, h2⟩
/-- An own row's element. -/
theorem row_cell {w : World} {base g cap : Nat} {l : List Nat} (h : w.ownsRow base 22 1 (.slice (some ⟨g, 0, none⟩) l.length cap) l.length (u32s l)) (k : Nat) (hk : k < l.length) : w.cell? ⟨g, k, none⟩ = some (.int .u32 ((l.getD k 0 : Nat) : Int)) := by
  rw [h.cellAt k (by omega)]
  unfold u32s
  rw [List.getElem?_map, List.getElem?_eq_getElem hk]; simp [List.getD, List.getElem?_eq_getElem hk]

theorem own_conv {w : World} {B : Nat} {e : TypeId} {v : Value} {M N K : List Nat} {n : Nat} {xs : List Value} (h : w.ownsRow B e 1 v (M.length + n) (u32s M ++ xs)) (hN : N = M ++ K) (hn : n = K.length) (hx : xs = u32s K) : w.ownsRow B e 1 v N.length (u32s N) := by
  subst hN hn hx
  rw [List.length_append, show u32s (M ++ K) = u32s M ++ u32s K by unfold u32s; rw [List.map_append]]
  exact h
theorem gr_added {wo w1 w2 : World} {o : Obj} {e : TypeId} {size n : Nat} {v : Value} {xs : List Value} (h : Gr wo w1) (hn : w1.ownsRow wo.heap.size e size v n xs) (hg : (w1.alloc o).grownBy w2 v.ownBlock) : Gr wo w2 :=
  (Below.alloc (B := wo.heap.size) h h.size o).grown hg (by have := h.size; simp; omega) (row_block hn)

end Go.Proofs.YtgjlneedpbgfpaaDoor
