import Derived.Test.YtgjlneedpbgfpaaDoorAgain
/- Copies of slices of numbers. -/
namespace Go.Proofs.YtgjlneedpbgfpaaDoor
open Go.RowKit

theorem own_empty (w : World) : (w.alloc (.cells #[] 22)).ownsRow w.heap.size 22 1 (.slice (some ⟨w.heap.size, 0, none⟩) 0 0) ([] : List Nat).length (u32s []) :=
  World.ownsRow_made w #[] 0 (Nat.le_refl _) (by unfold maxLen; omega) (by simp)

theorem wpList_copy_sl {w : World} {ops : Array Oper} {rest : List Oper} {o : Oper} {a : Act} {Q : Exit → Act → World → Prop} (hgd : o.guard = none) (s x : Operand)
    (ho : o.op = .call { callee := .builtin .append, args := #[s, x], argTypes := #[27, 27] })
    (M : List Nat) (hs : a.eval s = .slice (some ⟨w.heap.size, 0, none⟩) 0 0) (u : Value) (hx : a.eval x = u) (hM : Sl w u M) (hbig : M.length ≤ 1000000)
    (h : ∀ v' w', w'.ownsRow w.heap.size 22 1 v' M.length (u32s M) → Gr w w' → wpList Tryd.prog ops Q rest (a.put o.dst v') w') :
    wpList Tryd.prog ops Q (o :: rest) a (w.alloc (.cells #[] 22)) :=
  wpList_append_sl hgd s x ho w.heap.size _ [] M hs (own_empty w) u hx (hM.gr (Gr.alloc _ _)) (by simp; omega) (by simp) fun v' w' h1 h2 => h v' w' h1 (gr_add2 (Gr.alloc w _) (own_empty w) h2)
end Go.Proofs.YtgjlneedpbgfpaaDoor
