import Derived.Deep.RegionHeld3
import Derived.Deep.Draws
/- A drawn region in which nothing is written: its operations may be taken in the order in which they are listed. -/
namespace Go.Proofs.YthlflglkdaainaaGreatDoor
open Go

/-- What is listed when the first i operations have come up. -/
def listedAt (n : Nat) : Nat → Array Bool
  | 0 => Array.replicate n false
  | i + 1 => (listedAt n i).setIfInBounds i true
/-- Each operation may be taken when those ahead of it have come up. -/
def seqOK (md : Region.Mode) (ops : Array Oper) : Bool :=
  Region.noSelect ops && ((List.range ops.size).all fun i => Region.free md ops (listedAt ops.size i) i && (Region.ready md ops (listedAt ops.size i)).contains i) && (Region.ready md ops (listedAt ops.size ops.size)).isEmpty
/-- The operations that are left, one behind the other. -/
def seqW (P : Program) (ops : Array Oper) (S : World → Prop) (Q : Exit → Act → World → Prop) (w : World) : List Oper → Act → Prop
  | [], a => Q .normal a w
  | o :: rest, a => ∃ v, YieldsIf P ops S o v a ∧ seqW P ops S Q w rest (a.put o.dst v)
section
variable {P : Program} {ops : Array Oper} {Q : Exit → Act → World → Prop} {md : Region.Mode} {S : World → Prop} {w : World}
theorem seqW_take {o : Oper} {rest : List Oper} {a : Act} {v : Value} (hw : Region.wanted o (yielded ops a.tmps) = true) (hy : ∀ w, S w → (execOp a.eval o).run P w = .ok (.value v) w) (h : seqW P ops S Q w rest (a.put o.dst v)) : seqW P ops S Q w (o :: rest) a :=
  ⟨v, .inl ⟨hw, hy⟩, h⟩
theorem seqW_skip {o : Oper} {rest : List Oper} {a : Act} (hw : Region.wanted o (yielded ops a.tmps) = false) (h : seqW P ops S Q w rest (a.put o.dst undef)) : seqW P ops S Q w (o :: rest) a :=
  ⟨undef, .inr ⟨hw, rfl⟩, h⟩
theorem seqW_end {a : Act} (h : Q .normal a w) : seqW P ops S Q w [] a := h
theorem seq_go (hs : Region.noSelect ops = true) (hall : ∀ i, i < ops.size → Region.free md ops (listedAt ops.size i) i = true ∧ (Region.ready md ops (listedAt ops.size i)).contains i = true) (hend : Region.ready md ops (listedAt ops.size ops.size) = []) (hS : S w) :
    ∀ (rest : List Oper) (i : Nat) (a : Act), ops.toList.drop i = rest → i + rest.length = ops.size → seqW P ops S Q w rest a → wpAnyH P md ops (NoPanic Q) S rest.length (listedAt ops.size i) a w
  | [], i, a, _, hl, h => by
    have hi : i = ops.size := by simpa using hl
    rw [hi]
    exact wpAnyH_done hend (NoPanic.normal h) 0
  | o :: rest, i, a, hd, hl, h => by
    obtain ⟨v, hy, h2⟩ := h
    have hi : i < ops.size := by simp only [List.length_cons] at hl; omega
    have ho : ops[i]? = some o := by
      have h1 : ops.toList[i]? = some o := by
        have := congrArg (fun l => l[0]?) hd
        simpa using this
      rw [← Array.getElem?_toList]; exact h1
    have hd2 : ops.toList.drop (i + 1) = rest := by
      rw [← List.drop_drop, hd]; rfl
    exact wpAnyH_take ho hs (hall i hi).1 (hall i hi).2 (fun _ _ _ h => h) hy hS (seq_go hs hall hend hS rest (i + 1) _ hd2 (by simp only [List.length_cons] at hl; omega) h2)
/-- A drawn region in which nothing is written. -/
theorem wp_region_seq {id : Nat} {a : Act} (hm : P.follows .mixedOrders = true) (hok : seqOK .any ops = true)
    (h : seqW P ops (fun W => ∃ m, W = w.drewN m) Q w.drew ops.toList a) : (Code.region id ops true).wp P Q a w := by
  unfold seqOK at hok
  simp only [Bool.and_eq_true, List.all_eq_true, List.mem_range, List.isEmpty_iff] at hok
  obtain ⟨⟨h1, h2⟩, h3⟩ := hok
  refine wp_region_noPanic (wp_region_held_drew (S := fun W => ∃ m, W = w.drewN m) hm ⟨1, rfl⟩ fun hS => ?_)
  have := seq_go (P := P) (Q := Q) (w := w.drew) h1 (fun i hi => h2 i hi) h3 hS ops.toList 0 a (by simp) (by simp) h
  rw [Array.length_toList] at this
  exact this
end
/-! ### a stretch of a drawn region in which nothing is written -/
def seqR (P : Program) (ops : Array Oper) (S : World → Prop) (K : Act → Prop) : List Oper → Act → Prop
  | [], a => K a
  | o :: rest, a => ∃ v, YieldsIf P ops S o v a ∧ seqR P ops S K rest (a.put o.dst v)
def markTo (L : Array Bool) (lo : Nat) : Nat → Array Bool
  | 0 => L
  | k + 1 => (markTo L lo k).setIfInBounds (lo + k) true
def rangeOK (md : Region.Mode) (ops : Array Oper) (L : Array Bool) (lo n : Nat) : Bool :=
  Region.noSelect ops && (List.range n).all fun k => Region.free md ops (markTo L lo k) (lo + k) && (Region.ready md ops (markTo L lo k)).contains (lo + k)
section
variable {P : Program} {ops : Array Oper} {Q : Exit → Act → World → Prop} {md : Region.Mode} {S : World → Prop} {w : World} {K : Act → Prop}
theorem seqR_take {o : Oper} {rest : List Oper} {a : Act} {v : Value} (hw : Region.wanted o (yielded ops a.tmps) = true) (hy : ∀ w, S w → (execOp a.eval o).run P w = .ok (.value v) w) (h : seqR P ops S K rest (a.put o.dst v)) : seqR P ops S K (o :: rest) a :=
  ⟨v, .inl ⟨hw, hy⟩, h⟩
theorem seqR_skip {o : Oper} {rest : List Oper} {a : Act} (hw : Region.wanted o (yielded ops a.tmps) = false) (h : seqR P ops S K rest (a.put o.dst undef)) : seqR P ops S K (o :: rest) a :=
  ⟨undef, .inr ⟨hw, rfl⟩, h⟩
theorem seqR_end {a : Act} (h : K a) : seqR P ops S K [] a := h
theorem range_go {L : Array Bool} {lo n fuel : Nat} (hs : Region.noSelect ops = true) (hall : ∀ k, k < n → Region.free md ops (markTo L lo k) (lo + k) = true ∧ (Region.ready md ops (markTo L lo k)).contains (lo + k) = true) (hn : lo + n ≤ ops.size) (hS : S w) :
    ∀ (rest : List Oper) (k : Nat) (a : Act), (ops.toList.drop (lo + k)).take (n - k) = rest → k ≤ n → seqR P ops S (fun a' => wpAnyH P md ops (NoPanic Q) S fuel (markTo L lo n) a' w) rest a → wpAnyH P md ops (NoPanic Q) S (fuel + (n - k)) (markTo L lo k) a w
  | [], k, a, hd, hk, h => by
    have hl : ((ops.toList.drop (lo + k)).take (n - k)).length = 0 := by rw [hd]; rfl
    rw [List.length_take, List.length_drop, Array.length_toList] at hl
    obtain rfl : k = n := by omega
    rw [Nat.sub_self]
    exact h
  | o :: rest, k, a, hd, hk, h => by
    obtain ⟨v, hy, h2⟩ := h
    have hl : ((ops.toList.drop (lo + k)).take (n - k)).length = rest.length + 1 := by rw [hd]; rfl
    rw [List.length_take, List.length_drop, Array.length_toList] at hl
    have hkn : k < n := by omega
    have ho : ops[lo + k]? = some o := by
      have h1 := congrArg (fun l => l[0]?) hd
      simp only [List.getElem?_take, List.getElem?_drop] at h1
      rw [if_pos (by omega)] at h1
      rw [← Array.getElem?_toList]
      simpa using h1
    have hd2 : (ops.toList.drop (lo + (k + 1))).take (n - (k + 1)) = rest := by
      have h1 := congrArg (List.drop 1) hd
      rw [List.drop_take, List.drop_drop] at h1
      simpa [Nat.add_assoc, Nat.sub_sub] using h1
    have := wpAnyH_take (fuel := fuel + (n - (k + 1))) ho hs (hall k hkn).1 (hall k hkn).2 (fun _ _ _ h => h) hy hS (range_go hs hall hn hS rest (k + 1) _ hd2 hkn h2)
    rw [show fuel + (n - k) = fuel + (n - (k + 1)) + 1 by omega]
    exact this
/-- The operations lo, lo + 1, .. of a drawn region are taken one behind the other. -/
theorem wpAnyH_range {L : Array Bool} {lo n fuel : Nat} {a : Act} (hok : rangeOK md ops L lo n = true) (hn : lo + n ≤ ops.size) (hS : S w)
    (h : seqR P ops S (fun a' => wpAnyH P md ops (NoPanic Q) S fuel (markTo L lo n) a' w) ((ops.toList.drop lo).take n) a) : wpAnyH P md ops (NoPanic Q) S (fuel + n) L a w := by
  unfold rangeOK at hok
  simp only [Bool.and_eq_true, List.all_eq_true, List.mem_range] at hok
  have := range_go (Q := Q) (fuel := fuel) hok.1 (fun k hk => hok.2 k hk) hn hS _ 0 a rfl (Nat.zero_le _) h
  simpa [markTo] using this
end
end Go.Proofs.YthlflglkdaainaaGreatDoor
