import Derived.Test.YtgjlneedpbgfpaaDoorEach
/- The walk of decomp.each at a syllable, and at all. -/
namespace Go.Proofs.YtgjlneedpbgfpaaDoor
open Go.RowKit Go.Shelf

attribute [local go_sem] Oper.semAt_some

theorem skip_call {Q : Prop} (h : Q) : (∀ f : FuncId, (none : Option FuncId) = some f → Fence.wide.fn f) ∧ Q := ⟨fun _ e => (by cases e), h⟩
theorem undef_not {b : Bool} (h : some undef = some (Value.bool b)) : False := by unfold undef at h; cases h

set_option maxRecDepth 100000 in
set_option maxHeartbeats 2000000 in
/-- Of a syllable of two letters. -/
theorem each_two (m l n₀ N : Nat) (J Jx : List Nat → World → Prop) (hA : ∀ s A B, J s A → Gr A B → J s B) (hn : ∀ s A, J s A → n₀ ≤ A.heap.size)
    (hY : Yields (m - 1) l N n₀ J Jx) (c a b : Nat) (hs : ∀ w, Calls Tryd.prog 108 #[.int .u32 c] w fun e w' => e = .returned (.tuple #[.int .u32 a, .int .u32 b, .int .u32 0, .bool true]) ∧ Gr w w')
    (pre : List Nat) (W : World) (hJ : J pre W) (hN : pre.length + 2 ≤ N) :
    CallsIn Fence.wide m Tryd.prog 93 #[.int .u32 (c : Int), .func (.yield l) #[] #[]] W (EachPost n₀ J Jx pre [a, b] W) := by
  refine callsIn_of_wp Tryd.func93 rfl trivial ?_ rfl
  simp only [Tryd.ntmps93, List.size_toArray, List.length_cons, List.length_nil, Nat.reduceAdd, Nat.reduceSub, Array.replicate_succ, Array.replicate_zero, List.push_toArray, List.append_toArray, List.nil_append, List.cons_append]
  gi_wp2_with (first
      | (with_reducible refine skip_call ?_)
      | (exfalso; exact undef_not (by assumption))
      | (refine ⟨trivial, fun h => (by cases h), ?_⟩; gi_at_call 108; refine (callsIn_wide.2 (hs _)).mono ?_; rintro e W1 ⟨rfl, g1⟩; obtain ⟨fn1, tmps1, assign1, body1, hy1, hR1⟩ := hY pre a W1 (hA _ _ _ hJ g1) (by omega))
      | (refine ⟨fun h => (by cases h), ?_⟩; refine hR1.mono ?_; clear hR1; rintro e W2 (⟨rfl, hJ2, hb2⟩ | ⟨rfl, hx2⟩); obtain ⟨fn2, tmps2, assign2, body2, hy2, hR2⟩ := hY (pre ++ [a]) b W2 hJ2 (by simp; omega))
      | (refine ⟨fun h => (by cases h), ?_⟩; refine hR2.mono ?_; clear hR2; rintro e W3 (⟨rfl, hJ3, hb3⟩ | ⟨rfl, hx3⟩)))
  all_goals go_ret
  all_goals first
    | exact .inl ⟨rfl, by simpa [List.append_assoc] using hJ3, ((g1.mono (hn _ _ hJ)).trans hb2).trans hb3⟩
    | exact .inr ⟨rfl, [a, b], List.prefix_rfl, by simpa [List.append_assoc] using hx3⟩
    | exact .inr ⟨rfl, [a], ⟨[b], rfl⟩, hx2⟩

set_option maxRecDepth 100000 in
set_option maxHeartbeats 2000000 in
/-- Of a syllable of three letters. -/
theorem each_three (m l n₀ N : Nat) (J Jx : List Nat → World → Prop) (hA : ∀ s A B, J s A → Gr A B → J s B) (hn : ∀ s A, J s A → n₀ ≤ A.heap.size)
    (hY : Yields (m - 1) l N n₀ J Jx) (c a b t : Nat) (ht : (t : Int) ≠ 0) (hs : ∀ w, Calls Tryd.prog 108 #[.int .u32 c] w fun e w' => e = .returned (.tuple #[.int .u32 a, .int .u32 b, .int .u32 t, .bool true]) ∧ Gr w w')
    (pre : List Nat) (W : World) (hJ : J pre W) (hN : pre.length + 3 ≤ N) :
    CallsIn Fence.wide m Tryd.prog 93 #[.int .u32 (c : Int), .func (.yield l) #[] #[]] W (EachPost n₀ J Jx pre [a, b, t] W) := by
  have ht1 : ((t : Int) == 0) = false := by rw [beq_eq_false_iff_ne]; exact ht
  have ht2 : ¬ t = 0 := by omega
  refine callsIn_of_wp Tryd.func93 rfl trivial ?_ rfl
  simp only [Tryd.ntmps93, List.size_toArray, List.length_cons, List.length_nil, Nat.reduceAdd, Nat.reduceSub, Array.replicate_succ, Array.replicate_zero, List.push_toArray, List.append_toArray, List.nil_append, List.cons_append]
  gi_wp2_with (first
      | (with_reducible refine skip_call ?_)
      | (exfalso; exact undef_not (by assumption))
      | (refine ⟨trivial, fun h => (by cases h), ?_⟩; gi_at_call 108; refine (callsIn_wide.2 (hs _)).mono ?_; rintro e W1 ⟨rfl, g1⟩; obtain ⟨fn1, tmps1, assign1, body1, hy1, hR1⟩ := hY pre a W1 (hA _ _ _ hJ g1) (by omega))
      | (refine ⟨fun h => (by cases h), ?_⟩; refine hR1.mono ?_; clear hR1; rintro e W2 (⟨rfl, hJ2, hb2⟩ | ⟨rfl, hx2⟩); obtain ⟨fn2, tmps2, assign2, body2, hy2, hR2⟩ := hY (pre ++ [a]) b W2 hJ2 (by simp; omega))
      | (refine ⟨fun h => (by cases h), ?_⟩; refine hR2.mono ?_; clear hR2; rintro e W3 (⟨rfl, hJ3, hb3⟩ | ⟨rfl, hx3⟩); obtain ⟨fn3, tmps3, assign3, body3, hy3, hR3⟩ := hY (pre ++ [a] ++ [b]) t W3 hJ3 (by simp; omega))
      | (refine ⟨fun h => (by cases h), ?_⟩; refine hR3.mono ?_; clear hR3; rintro e W4 (⟨rfl, hJ4, hb4⟩ | ⟨rfl, hx4⟩)))
  all_goals go_ret
  all_goals first
    | exact .inl ⟨rfl, by simpa [List.append_assoc] using hJ4, (((g1.mono (hn _ _ hJ)).trans hb2).trans hb3).trans hb4⟩
    | exact .inr ⟨rfl, [a, b, t], List.prefix_rfl, by simpa [List.append_assoc] using hx4⟩
    | exact .inr ⟨rfl, [a, b], ⟨[t], rfl⟩, by simpa [List.append_assoc] using hx3⟩
    | exact .inr ⟨rfl, [a], ⟨[b, t], rfl⟩, hx2⟩
end Go.Proofs.YtgjlneedpbgfpaaDoor
