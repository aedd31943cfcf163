import Derived.Test.YtgjlneedpbgfpaaDoorRefList
import Derived.Laws.AppendOwnNone
/- Appending a slice of numbers that reads as a list; a slice of numbers that came in. -/
namespace Go.Proofs.YtgjlneedpbgfpaaDoor
open Go.RowKit

theorem addr_add (g o : Nat) (j : Nat) : (⟨g, o, none⟩ : Addr).add j = ⟨g, o + j, none⟩ := by
  simp only [Addr.add]
  split
  · rename_i h; subst h; rfl
  · rfl

theorem wpList_append_sl {w : World} {ops : Array Oper} {rest : List Oper} {o : Oper} {a : Act} {Q : Exit → Act → World → Prop} (hgd : o.guard = none) (s x : Operand)
    (ho : o.op = .call { callee := .builtin .append, args := #[s, x], argTypes := #[27, 27] })
    (base : Nat) (v : Value) (K M : List Nat) (hs : a.eval s = v) (hown : w.ownsRow base 22 1 v K.length (u32s K)) (u : Value) (hx : a.eval x = u) (hM : Sl w u M)
    (hbig : K.length + M.length ≤ 1000000) (hbase : base ≤ w.heap.size)
    (h : ∀ v' w', w'.ownsRow base 22 1 v' (K ++ M).length (u32s (K ++ M)) → w.grownBy w' v.ownBlock → wpList Tryd.prog ops Q rest (a.put o.dst v') w') :
    wpList Tryd.prog ops Q (o :: rest) a w := by
  obtain ⟨i0, hi, hz0, hz1, hz2⟩ := info_parts info_u32
  obtain ⟨ao, cap, rfl, h0, h2⟩ := hM
  cases ao with
  | none =>
    have hc := h0 rfl
    have hM0 : M.length = 0 := by
      rcases Nat.eq_zero_or_pos M.length with h | h
      · exact h
      · obtain ⟨g, o, e, _⟩ := h2 0 h; cases e
    have hM1 : M = [] := List.eq_nil_of_length_eq_zero hM0
    subst hM1 hc
    refine wpList_append_own_none hgd s x _ ho base 22 i0 1 Tryd.underlying27 hi v _ _ hs hown hx ?_
    have := h v w (by rw [List.append_nil]; exact hown) ⟨rfl, rfl, rfl, Nat.le_refl _, fun _ _ _ => rfl⟩
    exact this
  | some ad =>
    refine wpList_append_own _ hgd s x _ ho base 22 i0 (.int .u32 0) 1 4 Tryd.underlying27 hi hz0 hz1 hz2 rfl (by decide) v _ _ hs hown ad M.length cap (u32s M) hx (by rw [u32s_length]; omega) (fun j y hj => ?_)
      (fun x hx => by unfold u32s at hx; rw [List.mem_map] at hx; obtain ⟨y, _, rfl⟩ := hx; rfl) (by unfold maxLen; omega) (by omega) hbase ?_
    · have hjl : j < M.length := by have := (List.getElem?_eq_some_iff.1 hj).1; rwa [u32s_length] at this
      obtain ⟨g', o', e', hc⟩ := h2 j hjl
      cases e'
      unfold u32s at hj
      rw [List.getElem?_map, List.getElem?_eq_getElem hjl] at hj
      simp only [Option.map_some, Option.some.injEq] at hj
      rw [addr_add, hc, ← hj]
      simp [List.getD, hjl]
    · intro v' w' h3 h4 _
      exact h v' w' (own_conv h3 rfl rfl rfl) h4
end Go.Proofs.YtgjlneedpbgfpaaDoor
