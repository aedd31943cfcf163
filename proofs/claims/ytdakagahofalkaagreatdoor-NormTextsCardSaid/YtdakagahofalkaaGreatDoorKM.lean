import Derived.Test.YtdakagahofalkaaGreatDoorKN
import Derived.Test.YtdakagahofalkaaGreatDoorKC
/- A pack of texts: Nx2. -/
/- Lists that are cut where a number starts; slices that are cut. -/
namespace Go.Proofs.YtdakagahofalkaaGreatDoor
open Go.RowKit Go.Lib

theorem nfc_nil : nfc [] = [] := by
  unfold nfc nfd
  rw [fullL_nil, show ordL [] = [] from List.eq_nil_of_length_eq_zero (by rw [ordL_length]; rfl), comp_nil]
theorem safeAt_starts {L : List Nat} : ∀ {j i : Nat}, safeAt L j = i → 0 < i → starts (L.getD i 0) = true ∧ i ≤ j
  | 0, i, h, hi => by rw [safeAt_zero] at h; omega
  | j + 1, i, h, hi => by
    cases hs : starts (L.getD (j + 1) 0) with
    | true => rw [safeAt_yes hs] at h; subst h; exact ⟨hs, Nat.le_refl _⟩
    | false => rw [safeAt_no hs] at h; have := safeAt_starts h hi; exact ⟨this.1, by omega⟩
theorem safe_parts {L : List Nat} {k : Nat} (h : safeL L = k) : nfc L = nfc (L.take k) ++ nfc (L.drop k) ∧ k ≤ L.length := by
  unfold safeL at h
  have hle := safeAt_le L (L.length - 1)
  rw [h] at hle
  refine ⟨?_, by omega⟩
  rcases Nat.eq_zero_or_pos k with h0 | h0
  · subst h0; rw [List.take_zero, nfc_nil, List.drop_zero]; rfl
  · obtain ⟨h1, h2⟩ := safeAt_starts h h0
    have hk : k < L.length := by omega
    have hd := drop_cons hk
    unfold starts at h1
    rw [Bool.and_eq_true, Nat.beq_eq, Nat.beq_eq] at h1
    conv => lhs; rw [← List.take_append_drop k L, hd]
    rw [hd]
    exact nfc_parts (GoodC.of h1.2 h1.1) _ _

/-- A slice of numbers that came in can be cut. -/
theorem slc_of_row {w : World} {a : Option Addr} {len cap : Nat} {zs : List Int} (h : IsRow .u32 w a len cap zs) : ∃ L : List Nat, SlC w (.slice a len cap) L ∧ Sl w (.slice a len cap) L ∧ L.length = len ∧ ∀ x ∈ L, x < 4294967296 := by
  obtain ⟨L, h1, h2, h3⟩ := sl_of_row h
  refine ⟨L, ?_, h1, h2, h3⟩
  obtain ⟨ao, cap', e, h4, h5⟩ := h1
  injection e with e1 e2 e3
  subst e1 e3
  refine ⟨a, cap, by rw [h2], ?_, ?_, h5⟩
  · rcases h with ⟨_, h, h', _⟩ | ⟨x, _, h, h', _⟩ <;> omega
  · rcases h with ⟨_, _, h', _⟩ | ⟨x, _, _, h', _⟩
    · unfold maxLen; omega
    · exact h'
def cutB (ao : Option Addr) (cap k : Nat) : Option Addr := if cap = k then ao else ao.map (·.add k)
theorem cutHi_run (ao : Option Addr) (n cap k : Nat) (hk : k ≤ cap) (hao : ao = none → cap = 0) (W : World) : (Instr.slice 31 (.slice ao n cap) none (some (.int .i64 (k : Int))) none).run Tryz.prog W = .ok (.slice ao k cap) W := by
  rw [run_slice_h (P := Tryz.prog) W 31 ao n cap (by kernel_rfl) .i64 k (by omega) (by omega)]
  have h : (sizeOf (Tryz.prog.elem 31)).run Tryz.prog W = .ok 1 W := by kernel_rfl
  rw [h]
  simp only [Result.andThen, sliced, Int.toNat_natCast]
  split
  · rfl
  · cases ao with
    | none => have := hao rfl; omega
    | some a => obtain ⟨g, o, sp⟩ := a; rfl
theorem cutLo_run (ao : Option Addr) (n cap k : Nat) (hk : k ≤ n) (W : World) : (Instr.slice 31 (.slice ao n cap) (some (.int .i64 (k : Int))) none none).run Tryz.prog W = .ok (.slice (cutB ao cap k) (n - k) (cap - k)) W := by
  rw [run_slice_l (P := Tryz.prog) W 31 ao n cap (by kernel_rfl) .i64 k (by omega) (by omega)]
  have h : (sizeOf (Tryz.prog.elem 31)).run Tryz.prog W = .ok 1 W := by kernel_rfl
  rw [h]
  simp only [Result.andThen, sliced, Int.toNat_natCast, cutB, Nat.mul_one]
theorem atRun (v : Value) (lo hi mx : Option Value) (W : World) : (Instr.sliceAt 31 v lo hi mx).run Tryz.prog W = (Instr.slice 31 v lo hi mx).run Tryz.prog W := run_sliceAt_slice (P := Tryz.prog) W 31 _ _ _ _ (by kernel_rfl)
theorem Sl.hi {w : World} {ao : Option Addr} {n cap k : Nat} {L : List Nat} (h : Sl w (.slice ao n cap) L) (hk : k ≤ L.length) : Sl w (.slice ao k cap) (L.take k) := by
  obtain ⟨a, c, e, h1, h2⟩ := h
  injection e with e1 e2 e3
  subst e1 e3
  have hl : (L.take k).length = k := by rw [List.length_take]; omega
  refine ⟨ao, cap, by rw [hl], h1, fun j hj => ?_⟩
  rw [hl] at hj
  obtain ⟨g, o, e, hc⟩ := h2 j (by omega)
  exact ⟨g, o, e, by rw [hc, List.getD, List.getD, List.getElem?_take_of_lt hj]⟩
theorem Sl.lo {w : World} {ao : Option Addr} {n cap k : Nat} {L : List Nat} (h : Sl w (.slice ao n cap) L) (hc : n ≤ cap) (hk : k ≤ L.length) : Sl w (.slice (cutB ao cap k) (n - k) (cap - k)) (L.drop k) := by
  obtain ⟨a, c, e, h1, h2⟩ := h
  injection e with e1 e2 e3
  subst e1 e2 e3
  refine ⟨cutB ao cap k, cap - k, by rw [List.length_drop], fun e => ?_, fun j hj => ?_⟩
  · unfold cutB at e
    split at e
    · omega
    · cases ao with
      | none => have := h1 rfl; omega
      | some a => cases e
  · rw [List.length_drop] at hj
    obtain ⟨g, o, e, hcl⟩ := h2 (k + j) (by omega)
    subst e
    unfold cutB
    rw [if_neg (by omega)]
    refine ⟨g, o + k, by rw [Option.map_some, adr_add], ?_⟩
    rw [Nat.add_assoc, hcl, List.getD, List.getD, List.getElem?_drop]

/-- Appending a slice of numbers that reads as a list, in a region that draws. -/
theorem step_append_sl {ops : Array Oper} {o : Oper} {a : Act} {w : World} {K : Act → World → Prop} {Q : Exit → Act → World → Prop} {E : Prop}
    (hg : o.guard = none) (s x : Operand) (hop : o.op = Op.call { callee := Callee.builtin Builtin.append, args := #[s, x], argTypes := #[31, 31] })
    (base : Nat) (v : Value) (A M : List Nat) (hs : a.eval s = v) (hown : w.ownsRow base 33 1 v A.length (u32s A)) (u : Value) (hx : a.eval x = u) (hM : Sl w u M)
    (hbig : A.length + M.length ≤ 1000000) (hbase : base ≤ w.heap.size)
    (hK : ∀ v' w', w'.ownsRow base 33 1 v' (A ++ M).length (u32s (A ++ M)) → w.grownBy w' v.ownBlock → K (a.put o.dst v') w') :
    if Region.wanted o (yielded ops a.tmps) = true then Oper.wp Tryz.prog o a w K Q else E := by
  obtain ⟨i0, hi, hz0, hz1, hz2⟩ := info_parts info_u32
  rw [if_pos (by simp [Region.wanted, hg])]
  obtain ⟨ao, cap, rfl, h0, h2⟩ := hM
  cases ao with
  | none =>
    have hc := h0 rfl
    have hM0 : M.length = 0 := by
      rcases Nat.eq_zero_or_pos M.length with h | h
      · exact h
      · obtain ⟨g, o, e, _⟩ := h2 0 h; cases e
    have hM1 : M = [] := List.eq_nil_of_length_eq_zero hM0
    subst hM1 hc
    have hrun := run_append_owned_none (P := Tryz.prog) (w := w) base 31 o.type 33 i0 1 Tryz.underlying31 hi v _ _ hown
    have := hK v w (by rw [List.append_nil]; exact hown) ⟨rfl, rfl, rfl, Nat.le_refl _, fun _ _ _ => rfl⟩
    unfold Oper.wp
    simp [execOp, hop, resolve, invoke, builtin, hs, hx, hrun, Result.andThen]
    exact this
  | some ad =>
    refine wp_append_own w s x _ hop base 33 i0 (.int .u32 0) 1 4 Tryz.underlying31 hi hz0 hz1 hz2 rfl (by decide) v _ _ hs hown ad M.length cap (u32s M) hx (by rw [u32s_length]; omega) (fun j y hj => ?_)
      (fun x hx => by unfold u32s at hx; rw [List.mem_map] at hx; obtain ⟨y, _, rfl⟩ := hx; rfl) (by unfold maxLen; omega) (by omega) hbase ?_
    · have hjl : j < M.length := by have := (List.getElem?_eq_some_iff.1 hj).1; rwa [u32s_length] at this
      obtain ⟨g', o', e', hc⟩ := h2 j hjl
      cases e'
      unfold u32s at hj
      rw [List.getElem?_map, List.getElem?_eq_getElem hjl] at hj
      simp only [Option.map_some, Option.some.injEq] at hj
      rw [addr_add, hc, ← hj]
      simp [List.getD, hjl]
    · intro v' w' h3 h4 _
      exact hK v' w' (own_conv h3 rfl rfl rfl) h4

/-- Two marks of unlike classes that are not decomposed may change places. -/
theorem marks_swap {A B : List Nat} {a b : Nat} (ha : cls a ≠ 0) (hb : cls b ≠ 0) (hab : cls a ≠ cls b) (da : dfind a = none) (db : dfind b = none) : nfd (A ++ a :: b :: B) = nfd (A ++ b :: a :: B) := by
  have ho : ∀ c, cls c ≠ 0 → dfind c = none → full c = [c] := fun c hc hd => by
    refine full_no ?_ hd
    cases h : isH c with
    | false => rfl
    | true => exact absurd (cls_h (.inr ((isH_iff c).1 h))) hc
  unfold nfd
  rw [fullL_append, fullL_append, fullL_cons, fullL_cons, fullL_cons, fullL_cons, ho a ha da, ho b hb db]
  exact (Sw.one (fullL A) a b (fullL B) ha hb hab).ord
theorem two_at {L : List Nat} {k : Nat} (h : k + 1 < L.length) : L = L.take k ++ L.getD k 0 :: L.getD (k + 1) 0 :: L.drop (k + 2) := by
  conv => lhs; rw [← List.take_append_drop k L, drop_cons (by omega : k < L.length), drop_cons h]
theorem two_set {L : List Nat} {k : Nat} (h : k + 1 < L.length) (x y : Nat) : (L.set k x).set (k + 1) y = L.take k ++ x :: y :: L.drop (k + 2) := by
  have h2 := two_at h
  have hl : (L.take k).length = k := by rw [List.length_take]; omega
  generalize L.getD k 0 = a at h2
  generalize L.getD (k + 1) 0 = b at h2
  generalize L.take k = A at *
  generalize L.drop (k + 2) = B at *
  subst h2
  rw [List.set_append_right _ _ (by omega), List.set_append_right _ _ (by omega), hl, show k - k = 0 by omega, show k + 1 - k = 1 by omega]
  rfl
theorem swap_forms {L : List Nat} {k : Nat} (h : k + 1 < L.length) (ha : cls (L.getD k 0) ≠ 0) (hb : cls (L.getD (k + 1) 0) ≠ 0) (hab : cls (L.getD k 0) ≠ cls (L.getD (k + 1) 0)) (da : dfind (L.getD k 0) = none) (db : dfind (L.getD (k + 1) 0) = none) :
    nfd ((L.set k (L.getD (k + 1) 0)).set (k + 1) (L.getD k 0)) = nfd L ∧ nfc ((L.set k (L.getD (k + 1) 0)).set (k + 1) (L.getD k 0)) = nfc L := by
  have h1 : nfd ((L.set k (L.getD (k + 1) 0)).set (k + 1) (L.getD k 0)) = nfd L := by
    rw [two_set h]
    conv => rhs; rw [two_at h]
    exact (marks_swap ha hb hab da db).symm
  refine ⟨h1, ?_⟩
  unfold nfc; rw [h1]
end Go.Proofs.YtdakagahofalkaaGreatDoor
