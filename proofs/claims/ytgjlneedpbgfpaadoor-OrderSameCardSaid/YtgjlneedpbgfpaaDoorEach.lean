import Derived.Test.YtgjlneedpbgfpaaDoorFull
import Derived.Test.YtgjlneedpbgfpaaDoorUcd
import Derived.Test.YtgjlneedpbgfpaaDoorDeepW
import Derived.RangeFuncBox
import Derived.RangeFuncLeaves
import Derived.RangeFuncKeeps
import Derived.RangeFuncBound
import Derived.Shelf.Abstract
import Derived.OwnWalkIn
import Derived.TacticsInMore
import Derived.LoopNIn
import Derived.LoopIn
import Derived.Maps.AppendAt
/- The walks of decomp.each, parts, Full. -/
namespace Go.Proofs.YtgjlneedpbgfpaaDoor
open Go.RowKit Go.Shelf

attribute [local go_sem] Oper.semAt_some

theorem room_of_none {F : Fence} (hd : F.depth = none) (k : Nat) : F.room k := fun d h => by rw [hd] at h; cases h
theorem RoundIn.anyDepth {F : Fence} (hd : F.depth = none) {m m' : Nat} {P : Program} {l : Nat} {f : FuncId} {tmps : Array Value} {assign body : Code} {w : World} {R : Ending → World → Prop}
    (h : RoundIn F m P l f tmps assign body w R) : RoundIn F m' P l f tmps assign body w R := ⟨h.1, fun c cs _ => h.2 c cs (room_of_none hd _)⟩
theorem YieldAt.anyDepth {F : Fence} (hd : F.depth = none) {m : Nat} (m' : Nat) {P : Program} {l : Nat} {args : Array Value} {W : World} {R : Ending → World → Prop} (h : YieldAt F m P l args W R) : YieldAt F m' P l args W R := by
  obtain ⟨fn, tmps, assign, body, hy, hR⟩ := h
  exact ⟨fn, tmps, assign, body, hy, RoundIn.anyDepth hd hR⟩

theorem Gr.grown {A B : World} (h : Gr A B) : A.grownBy B none := ⟨h.os, h.tape, h.output, h.size, fun k hk _ => h.block k hk⟩

/-- What a yield promises, over the outer lists. -/
def Yields (m : Nat) (l : Nat) (N n₀ : Nat) (J Jx : List Nat → World → Prop) : Prop :=
  ∀ (pre : List Nat) (x : Nat) (W : World), J pre W → pre.length < N → YieldAt Fence.wide m Tryd.prog l #[.int .u32 (x : Int)] W fun e W' =>
      (e = .returned (.bool true) ∧ J (pre ++ [x]) W' ∧ Below n₀ W W') ∨ (e = .returned (.bool false) ∧ Jx (pre ++ [x]) W')

/-- What 'each' comes to: all have come, or it was told to stop. -/
def EachPost (n₀ : Nat) (J Jx : List Nat → World → Prop) (pre : List Nat) (L : List Nat) (W : World) (e : Ending) (W' : World) : Prop :=
  (e = .returned (.bool true) ∧ J (pre ++ L) W' ∧ Below n₀ W W') ∨ (e = .returned (.bool false) ∧ ∃ q, q <+: L ∧ Jx (pre ++ q) W')

set_option maxRecDepth 100000 in
set_option maxHeartbeats 2000000 in
/-- Of what is neither a syllable nor decomposed. -/
theorem each_one (m l n₀ N : Nat) (J Jx : List Nat → World → Prop) (hA : ∀ s A B, J s A → Gr A B → J s B) (hn : ∀ s A, J s A → n₀ ≤ A.heap.size) (hZ : ∀ s A, J s A → Tz A)
    (hY : Yields (m - 1) l N n₀ J Jx) (c : Nat) (hc : c < 4294967296) (hh : isH c = false) (hd : dfind c = none) (pre : List Nat) (W : World) (hJ : J pre W) (hN : pre.length + 1 ≤ N) :
    CallsIn Fence.wide m Tryd.prog 93 #[.int .u32 (c : Int), .func (.yield l) #[] #[]] W (EachPost n₀ J Jx pre [c] W) := by
  have hs := fun w => split_no c w hh
  have hdd := fun w ht => decomp_no c hc w ht hd
  refine callsIn_of_wp Tryd.func93 rfl trivial ?_ rfl
  simp only [Tryd.ntmps93, List.size_toArray, List.length_cons, List.length_nil, Nat.reduceAdd, Nat.reduceSub, Array.replicate_succ, Array.replicate_zero, List.push_toArray, List.append_toArray, List.nil_append, List.cons_append]
  gi_wp2_with (first
      | (refine ⟨trivial, fun h => (by cases h), ?_⟩; gi_at_call 108; refine (callsIn_wide.2 (hs _)).mono ?_; rintro e W1 ⟨rfl, g1⟩)
      | (refine ⟨trivial, fun h => (by cases h), ?_⟩; gi_at_call 47; refine (callsIn_wide.2 (hdd _ (hZ _ _ (hA _ _ _ hJ g1)))).mono ?_; rintro e W2 ⟨rfl, g2⟩; obtain ⟨fn, tmps, assign, body, hy, hR⟩ := hY pre c W2 (hA _ _ _ hJ (g1.trans g2)) (by omega))
      | (refine ⟨fun h => (by cases h), ?_⟩; refine hR.mono ?_; clear hR; rintro e W3 (⟨rfl, hJ3, hb3⟩ | ⟨rfl, hx3⟩)))
  · go_ret
    exact .inl ⟨rfl, hJ3, ((g1.trans g2).mono (hn _ _ hJ)).trans hb3⟩
  · go_ret
    exact .inr ⟨rfl, [c], List.prefix_rfl, hx3⟩
end Go.Proofs.YtgjlneedpbgfpaaDoor
