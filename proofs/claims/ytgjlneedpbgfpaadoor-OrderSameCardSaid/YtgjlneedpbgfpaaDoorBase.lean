import Derived.Test.YtgjlneedpbgfpaaDoorRows
import Derived.WalkKit
import Derived.WalkSpells
import Derived.WalkLawsBesides
import Derived.Deep.QuietTactic
import Derived.BigQuiet
import Derived.Laws.EntriesVeiled
import Derived.Shelf.SlSorted.Search
namespace Go.Proofs.YtgjlneedpbgfpaaDoor
open Go.RowKit

theorem hid {p : Prop} (h : p) : Hid p := h

/-- What was there is as it was; blocks may have been laid, answers drawn. -/
def Gr (w w' : World) : Prop := Below w.heap.size w w'
theorem Gr.refl (w : World) : Gr w w := Below.refl _ _
theorem Gr.trans {a b c : World} (h : Gr a b) (k : Gr b c) : Gr a c := Below.trans h (Below.mono k h.size)
theorem Gr.size {a b : World} (h : Gr a b) : a.heap.size ≤ b.heap.size := Below.size h
theorem Gr.of_below {a b : World} (h : Below a.heap.size a b) : Gr a b := h
theorem Gr.cell {w w' : World} (h : Gr w w') {a : Addr} {v : Value} (hc : w.cell? a = some v) : w'.cell? a = some v := (Below.cell h (World.block_lt_of_cell? _ _ hc)).trans hc
theorem Gr.alloc (w : World) (o : Obj) : Gr w (w.alloc o) := (Below.refl _ w).alloc (Nat.le_refl _) o
theorem Gr.drewN (w : World) (n : Nat) : Gr w (w.drewN n) := ⟨rfl, rfl, rfl, Nat.le_refl _, fun _ _ => rfl⟩
theorem Gr.drew (w : World) : Gr w w.drew := ⟨rfl, rfl, rfl, Nat.le_refl _, fun _ _ => rfl⟩
theorem Gr.grow (w : World) (q : Nat) (os : Array Obj) : Gr w (Sort.grow (w.drewN q) os) := Proofs.below_grown_sl _ w q os (Nat.le_refl _)
theorem Gr.setCell {w w' : World} (h : Gr w w') {p : Addr} (hp : w.heap.size ≤ p.block) (u : Value) : Gr w (w'.setCell p u) := Below.setCell h hp u
theorem Gr.frozen {w w' : World} (h : Gr w w') {a : Addr} (hb : a.block < w.heap.size) : w'.frozen? a = w.frozen? a := Below.frozen h hb
end Go.Proofs.YtgjlneedpbgfpaaDoor
