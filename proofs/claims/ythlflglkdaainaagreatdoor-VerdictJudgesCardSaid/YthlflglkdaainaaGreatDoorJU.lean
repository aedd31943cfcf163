import Derived.Deep.RegionHeld3
import Derived.Deep.Draws
/- Texts of this seat: Seq. -/
set_option maxRecDepth 100000
set_option maxHeartbeats 8000000
namespace Go.Proofs.YthlflglkdaainaaGreatDoor
open Go
def listedAt (n : Nat) : Nat → Array Bool
 | 0 => Array.replicate n false
 | i + 1 => (listedAt n i).setIfInBounds i true
def seqOK (md : Region.Mode) (ops : Array Oper) : Bool :=
 Region.noSelect ops && ((List.range ops.size).all fun i => Region.free md ops (listedAt ops.size i) i && (Region.ready md ops (listedAt ops.size i)).contains i) && (Region.ready md ops (listedAt ops.size ops.size)).isEmpty
def seqW (P : Program) (ops : Array Oper) (S : World → Prop) (Q : Exit → Act → World → Prop) (w : World) : List Oper → Act → Prop
 | [], a => Q .normal a w
 | o :: rest, a => ∃ v, YieldsIf P ops S o v a ∧ seqW P ops S Q w rest (a.put o.dst v)
section
variable {P : Program} {ops : Array Oper} {Q : Exit → Act → World → Prop} {md : Region.Mode} {S : World → Prop} {w : World}
theorem seqW_take {o : Oper} {rest : List Oper} {a : Act} {v : Value} (hw : Region.wanted o (yielded ops a.tmps) = true) (hy : ∀ w, S w → (execOp a.eval o).run P w = .ok (.value v) w) (h : seqW P ops S Q w rest (a.put o.dst v)) : seqW P ops S Q w (o :: rest) a :=
 ⟨v, .inl ⟨hw, hy⟩, h⟩
theorem seqW_end {a : Act} (h : Q .normal a w) : seqW P ops S Q w [] a := h
theorem seq_go (hs : Region.noSelect ops = true) (hall : ∀ i, i < ops.size → Region.free md ops (listedAt ops.size i) i = true ∧ (Region.ready md ops (listedAt ops.size i)).contains i = true) (hend : Region.ready md ops (listedAt ops.size ops.size) = []) (hS : S w) :
    ∀ (rest : List Oper) (i : Nat) (a : Act), ops.toList.drop i = rest → i + rest.length = ops.size → seqW P ops S Q w rest a → wpAnyH P md ops (NoPanic Q) S rest.length (listedAt ops.size i) a w
 | [], i, a, _, hl, h => by
  have hi : i = ops.size := by simpa using hl
  rw [hi]
  exact wpAnyH_done hend (NoPanic.normal h) 0
 | o :: rest, i, a, hd, hl, h => by
  obtain ⟨v, hy, h2⟩ := h
  have hi : i < ops.size := by simp only [List.length_cons] at hl; omega
  have ho : ops[i]? = some o := by
   have h1 : ops.toList[i]? = some o := by
    have := congrArg (fun l => l[0]?) hd
    simpa using this
   rw [← Array.getElem?_toList]; exact h1
  have hd2 : ops.toList.drop (i + 1) = rest := by
   rw [← List.drop_drop, hd]; rfl
  exact wpAnyH_take ho hs (hall i hi).1 (hall i hi).2 (fun _ _ _ h => h) hy hS (seq_go hs hall hend hS rest (i + 1) _ hd2 (by simp only [List.length_cons] at hl; omega) h2)
theorem wp_region_seq {id : Nat} {a : Act} (hm : P.follows .mixedOrders = true) (hok : seqOK .any ops = true)
    (h : seqW P ops (fun W => ∃ m, W = w.drewN m) Q w.drew ops.toList a) : (Code.region id ops true).wp P Q a w := by
 unfold seqOK at hok
 simp only [Bool.and_eq_true, List.all_eq_true, List.mem_range, List.isEmpty_iff] at hok
 obtain ⟨⟨h1, h2⟩, h3⟩ := hok
 refine wp_region_noPanic (wp_region_held_drew (S := fun W => ∃ m, W = w.drewN m) hm ⟨1, rfl⟩ fun hS => ?_)
 have := seq_go (P := P) (Q := Q) (w := w.drew) h1 (fun i hi => h2 i hi) h3 hS ops.toList 0 a (by simp) (by simp) h
 rw [Array.length_toList] at this
 exact this
end
end Go.Proofs.YthlflglkdaainaaGreatDoor
