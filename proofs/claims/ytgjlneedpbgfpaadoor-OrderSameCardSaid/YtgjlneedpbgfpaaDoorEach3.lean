import Derived.Test.YtgjlneedpbgfpaaDoorEach2
/- The walk of decomp.each at all characters. -/
namespace Go.Proofs.YtgjlneedpbgfpaaDoor
open Go.RowKit Go.Shelf

attribute [local go_sem] Oper.semAt_some

theorem skip_fn {Q : Prop} {k : FuncId} (h : Q) : Fence.wide.fn k ∧ Q := ⟨trivial, h⟩

set_option maxRecDepth 100000 in
set_option maxHeartbeats 2000000 in
/-- Of what is decomposed to one. -/
theorem each_dec1 (m l n₀ : Nat) (J Jx : List Nat → World → Prop) (hA : ∀ s A B, J s A → Gr A B → J s B) (hn : ∀ s A, J s A → n₀ ≤ A.heap.size) (hZ : ∀ s A, J s A → Tz A)
    (c a : Nat) (hh : isH c = false) (hdd : ∀ w, Tz w → Calls Tryd.prog 47 #[.int .u32 c] w fun e w' => e = .returned (.tuple #[.int .u32 a, .int .u32 0, .bool true]) ∧ Gr w w')
    (pre L : List Nat) (W : World) (hJ : J pre W)
    (ih : ∀ W1, J pre W1 → CallsIn Fence.wide (m - 1) Tryd.prog 93 #[.int .u32 (a : Int), .func (.yield l) #[] #[]] W1 (EachPost n₀ J Jx pre L W1)) :
    CallsIn Fence.wide m Tryd.prog 93 #[.int .u32 (c : Int), .func (.yield l) #[] #[]] W (EachPost n₀ J Jx pre L W) := by
  have hs := fun w => split_no c w hh
  refine callsIn_of_wp Tryd.func93 rfl trivial ?_ rfl
  simp only [Tryd.ntmps93, List.size_toArray, List.length_cons, List.length_nil, Nat.reduceAdd, Nat.reduceSub, Array.replicate_succ, Array.replicate_zero, List.push_toArray, List.append_toArray, List.nil_append, List.cons_append]
  gi_wp2_with (first
      | (with_reducible refine skip_call ?_)
      | (exfalso; exact undef_not (by assumption))
      | (refine ⟨trivial, fun h => (by cases h), ?_⟩; gi_at_call 108; refine (callsIn_wide.2 (hs _)).mono ?_; rintro e W1 ⟨rfl, g1⟩)
      | (refine ⟨trivial, fun h => (by cases h), ?_⟩; gi_at_call 47; refine (callsIn_wide.2 (hdd _ (hZ _ _ (hA _ _ _ hJ g1)))).mono ?_; rintro e W2 ⟨rfl, g2⟩)
      | (refine ⟨trivial, fun h => (by cases h), ?_⟩; gi_at_call 93; refine (ih _ (hA _ _ _ hJ (g1.trans g2))).mono ?_; clear ih; rintro e W3 (⟨rfl, hJ3, hb3⟩ | ⟨rfl, q, hq, hx3⟩))
      | (with_reducible refine skip_fn ?_))
  all_goals go_ret
  all_goals first
    | exact .inl ⟨rfl, hJ3, ((g1.trans g2).mono (hn _ _ hJ)).trans hb3⟩
    | exact .inr ⟨rfl, q, hq, hx3⟩

set_option maxRecDepth 100000 in
set_option maxHeartbeats 2000000 in
/-- Of what is decomposed to two. -/
theorem each_dec2 (m l n₀ : Nat) (J Jx : List Nat → World → Prop) (hA : ∀ s A B, J s A → Gr A B → J s B) (hn : ∀ s A, J s A → n₀ ≤ A.heap.size) (hZ : ∀ s A, J s A → Tz A)
    (c a b : Nat) (hb : (b : Int) ≠ 0) (hh : isH c = false) (hdd : ∀ w, Tz w → Calls Tryd.prog 47 #[.int .u32 c] w fun e w' => e = .returned (.tuple #[.int .u32 a, .int .u32 b, .bool true]) ∧ Gr w w')
    (pre L M : List Nat) (W : World) (hJ : J pre W)
    (ih : ∀ W1, J pre W1 → CallsIn Fence.wide (m - 1) Tryd.prog 93 #[.int .u32 (a : Int), .func (.yield l) #[] #[]] W1 (EachPost n₀ J Jx pre L W1))
    (ih2 : ∀ W1, J (pre ++ L) W1 → CallsIn Fence.wide (m - 1) Tryd.prog 93 #[.int .u32 (b : Int), .func (.yield l) #[] #[]] W1 (EachPost n₀ J Jx (pre ++ L) M W1)) :
    CallsIn Fence.wide m Tryd.prog 93 #[.int .u32 (c : Int), .func (.yield l) #[] #[]] W (EachPost n₀ J Jx pre (L ++ M) W) := by
  have hs := fun w => split_no c w hh
  have ht1 : ((b : Int) == 0) = false := by rw [beq_eq_false_iff_ne]; exact hb
  have ht2 : ¬ b = 0 := by omega
  refine callsIn_of_wp Tryd.func93 rfl trivial ?_ rfl
  simp only [Tryd.ntmps93, List.size_toArray, List.length_cons, List.length_nil, Nat.reduceAdd, Nat.reduceSub, Array.replicate_succ, Array.replicate_zero, List.push_toArray, List.append_toArray, List.nil_append, List.cons_append]
  gi_wp2_with (first
      | (with_reducible refine skip_call ?_)
      | (exfalso; exact undef_not (by assumption))
      | (refine ⟨trivial, fun h => (by cases h), ?_⟩; gi_at_call 108; refine (callsIn_wide.2 (hs _)).mono ?_; rintro e W1 ⟨rfl, g1⟩)
      | (refine ⟨trivial, fun h => (by cases h), ?_⟩; gi_at_call 47; refine (callsIn_wide.2 (hdd _ (hZ _ _ (hA _ _ _ hJ g1)))).mono ?_; rintro e W2 ⟨rfl, g2⟩)
      | (refine ⟨trivial, fun h => (by cases h), ?_⟩; gi_at_call 93; refine (ih _ (hA _ _ _ hJ (g1.trans g2))).mono ?_; clear ih; rintro e W3 (⟨rfl, hJ3, hb3⟩ | ⟨rfl, q, hq, hx3⟩))
      | (refine ⟨trivial, fun h => (by cases h), ?_⟩; gi_at_call 93; refine (ih2 _ hJ3).mono ?_; clear ih2; rintro e W4 (⟨rfl, hJ4, hb4⟩ | ⟨rfl, q, hq, hx4⟩))
      | (with_reducible refine skip_fn ?_))
  all_goals go_ret
  all_goals first
    | exact .inl ⟨rfl, by rw [← List.append_assoc]; exact hJ4, (((g1.trans g2).mono (hn _ _ hJ)).trans hb3).trans hb4⟩
    | exact .inr ⟨rfl, L ++ q, (List.prefix_append_right_inj L).2 hq, by rw [← List.append_assoc]; exact hx4⟩
    | exact .inr ⟨rfl, q, hq.trans (List.prefix_append L M), hx3⟩

theorem Yields.anyDepth {m m' l N n₀ : Nat} {J Jx : List Nat → World → Prop} (h : Yields m l N n₀ J Jx) : Yields m' l N n₀ J Jx := fun pre x W hj hl => YieldAt.anyDepth rfl m' (h pre x W hj hl)

/-- **decomp.each**: all of a character's full decomposition comes, in order; or a part of it, where it is told to stop. -/
theorem each_any (k l N n₀ : Nat) (J Jx : List Nat → World → Prop) (hA : ∀ s A B, J s A → Gr A B → J s B) (hn : ∀ s A, J s A → n₀ ≤ A.heap.size) (hZ : ∀ s A, J s A → Tz A)
    (hY : Yields k l N n₀ J Jx) (n : Nat) : ∀ (c m : Nat) (pre : List Nat) (W : World), Deep n c → c < 4294967296 → J pre W → pre.length + (full c).length ≤ N →
    CallsIn Fence.wide m Tryd.prog 93 #[.int .u32 (c : Int), .func (.yield l) #[] #[]] W (EachPost n₀ J Jx pre (full c) W) := by
  have hbase : ∀ (c m : Nat) (pre : List Nat) (W : World), dfind c = none → c < 4294967296 → J pre W → pre.length + (full c).length ≤ N →
      CallsIn Fence.wide m Tryd.prog 93 #[.int .u32 (c : Int), .func (.yield l) #[] #[]] W (EachPost n₀ J Jx pre (full c) W) := by
    intro c m pre W hd hc hJ hN
    cases hh : isH c with
    | false =>
      rw [full_no hh hd] at hN ⊢
      exact each_one m l n₀ N J Jx hA hn hZ hY.anyDepth c hc hh hd pre W hJ (by simpa using hN)
    | true =>
      have hs := fun w => split_yes c w hh
      rw [full_h hh] at hN ⊢
      unfold hsp at hN ⊢
      by_cases hT0 : hT c = 0
      · rw [if_pos hT0] at hN ⊢
        rw [hT0] at hs
        exact each_two m l n₀ N J Jx hA hn hY.anyDepth c _ _ hs pre W hJ (by simpa using hN)
      · rw [if_neg hT0] at hN ⊢
        exact each_three m l n₀ N J Jx hA hn hY.anyDepth c _ _ _ (by omega) hs pre W hJ (by simpa using hN)
  induction n with
  | zero => intro c m pre W hd hc hJ hN; exact hbase c m pre W hd hc hJ hN
  | succ n ihn =>
    intro c m pre W hD hc hJ hN
    rcases hD with hd | ⟨e, hd, h2, h3⟩
    · exact hbase c m pre W hd hc hJ hN
    · have hmem := dfind_some hd
      have hno := D_noH hmem.1
      have hbd := D_bd2 e hmem.1
      have hh : isH c = false := by rw [← hmem.2]; exact hno.1
      have hdd := fun w ht => decomp_yes c hc w ht e hd
      rw [full_some hh hd] at hN ⊢
      rw [List.length_append] at hN
      by_cases hz : e.2.2.1 = 0
      · rw [if_pos hz, List.append_nil]
        rw [hz] at hdd
        exact each_dec1 m l n₀ J Jx hA hn hZ c e.2.1 hh hdd pre _ W hJ (fun W1 hJ1 => ihn e.2.1 (m - 1) pre W1 h2 (by omega) hJ1 (by omega))
      · rw [if_neg hz] at hN ⊢
        exact each_dec2 m l n₀ J Jx hA hn hZ c e.2.1 e.2.2.1 (by omega) hh hdd pre _ _ W hJ (fun W1 hJ1 => ihn e.2.1 (m - 1) pre W1 h2 (by omega) hJ1 (by omega))
          (fun W1 hJ1 => hbase e.2.2.1 (m - 1) _ W1 h3 (by omega) hJ1 (by rw [List.length_append]; omega))
end Go.Proofs.YtgjlneedpbgfpaaDoor
