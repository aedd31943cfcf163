import Derived.Test.YtgjlneedpbgfpaaDoorSecond
/- The walk of the package ucd over the classes. -/
namespace Go.Proofs.YtgjlneedpbgfpaaDoor
open Go.RowKit

theorem second_any (c : Nat) (hc : c < 4294967296) (w : World) (ht : Tz w) : Calls Tryd.prog 91 #[.int .u32 c] w fun e w' => e = .returned (.bool (second c)) ∧ Gr w w' := by
  cases h : jamo c with
  | true => have := second_jamo c hc w h; unfold second; rw [h]; exact this
  | false => have := second_loop c hc w ht h; unfold second; rw [h]; exact this

set_option maxHeartbeats 400000 in
theorem end_any (i : Nat) (hi : i < 388) (w : World) : Calls Tryd.prog 77 #[.int .i64 i] w fun e w' => e = .returned (.string (tC.extract (i * 12 + 5) (i * 12 + 10))) ∧ w = w' := by
  have hs : tC.size = 4656 := C_size
  go_enter Tryd.func77, Tryd.ntmps77
  go_name_bytes T hT
  have eT : T = tC := by rw [← hT]; with_unfolding_all rfl
  subst eT
  clear hT
  go_wp2
  go_ret
  exact ⟨rfl, rfl⟩

/-- Is the row's end not below the key? -/
noncomputable def geEnd (key : ByteArray) (i : Nat) : Bool := !(Op.bytesLess (tC.extract (i * 12 + 5) (i * 12 + 10)).toList key.toList)

set_option maxHeartbeats 400000 in
theorem geEnd_any (key : ByteArray) (i : Nat) (hi : i < 388) (w : World) (b0 b1 : Nat) (h0 : w.cell? ⟨b0, 0, none⟩ = some (.string key)) (h1 : w.cell? ⟨b1, 0, none⟩ = some (.func (.func 77) #[] #[])) :
    Calls Tryd.prog 79 #[.int .i64 i, .pointer (some ⟨b1, 0, none⟩), .pointer (some ⟨b0, 0, none⟩)] w fun e w' => e = .returned (.bool (geEnd key i)) ∧ ∃ q, w' = w.drewN q := by
  go_enter Tryd.func79, Tryd.ntmps79
  go_wp2
  go_quiet ((go_at_call 77; exact Calls.quiet_of_same ((end_any i hi _).mono fun _ _ h => ⟨h.1, h.2.symm⟩)))
  go_wp2
  go_ret
  exact ⟨rfl, nq, rfl⟩

noncomputable def NC (i : Nat) : Nat := (Cl.getD i (0, 0, 0)).2.1
theorem C_end (i : Nat) (hi : i < 388) : ∃ e, Cl[i]? = some e ∧ NC i = e.2.1 ∧ (tC.extract (i * 12 + 5) (i * 12 + 10)).toList = five5 e.2.1 ∧ (tC.extract (i * 12) (i * 12 + 5)).toList = five5 e.1 ∧ e.1 < 1048576 ∧ e.2.1 < 1048576 := by
  obtain ⟨e, x, y, h1, h2, h3, h4, h5, h6, h7⟩ := C_row i hi
  rw [Lib.extract_data, show i * 12 + 12 - i * 12 = 12 by omega] at h2
  refine ⟨e, h1, by unfold NC; rw [List.getD, h1]; rfl, ?_, ?_, h6, h7⟩
  · rw [Lib.toList_data, Lib.extract_data, show i * 12 + 10 - (i * 12 + 5) = 5 by omega]
    have := congrArg (fun l => (List.drop 5 l).take 5) h2
    simp only [List.drop_take, List.take_take, List.drop_drop] at this
    exact this
  · rw [Lib.toList_data, Lib.extract_data, show i * 12 + 5 - i * 12 = 5 by omega]
    have := congrArg (List.take 5) h2
    rw [List.take_take] at this
    exact this
theorem geEnd_num (m i : Nat) (hm : m < 1048576) (hi : i < 388) : geEnd (fiveB m) i = decide (m ≤ NC i) := by
  obtain ⟨e, h1, h2, h3, h4, h5, h6⟩ := C_end i hi
  unfold geEnd
  rw [h3, fiveB_list, less_five' _ _ h6 hm, not_lt_dec, h2]

/-- How many rows end below the number. -/
noncomputable def clsIx (m : Nat) : Nat := (List.range 388).countP (fun i => !geEnd (fiveB m) i)

theorem NC_inc (i j : Nat) (hij : i < j) (hj : j < 388) : NC i < NC j := by
  obtain ⟨e, h1, h2, _⟩ := C_end i (by omega)
  obtain ⟨e', g1, g2, _⟩ := C_end j hj
  rw [h2, g2]
  have := pair_at C_inc h1 g1 hij
  have := C_bd e' (List.mem_of_getElem? g1)
  omega

theorem clsIx_cases (c : Nat) : (clsIx (min c 1048575) = 388 ∧ cfind c = none) ∨ ∃ e, clsIx (min c 1048575) < 388 ∧ Cl[clsIx (min c 1048575)]? = some e ∧ ((e.1 ≤ min c 1048575 ∧ cfind c = some e) ∨ (min c 1048575 < e.1 ∧ cfind c = none)) := by
  rw [← cfind_min c]
  generalize hm : min c 1048575 = m
  have hm' : m < 1048576 := by rw [← hm]; exact min_lt c
  -- the boundary
  have hb : ∃ i, i ≤ 388 ∧ (∀ j, j < i → NC j < m) ∧ (∀ j, i ≤ j → j < 388 → m ≤ NC j) := by
    have hi : ∀ n, n ≤ 388 → ∃ i, i ≤ n ∧ (∀ j, j < i → NC j < m) ∧ (∀ j, i ≤ j → j < n → m ≤ NC j) := by
      intro n
      induction n with
      | zero => intro _; exact ⟨0, Nat.le_refl _, fun j hj => by omega, fun j _ hj => by omega⟩
      | succ n ih =>
        intro hn
        obtain ⟨i, h1, h2, h3⟩ := ih (by omega)
        by_cases h : m ≤ NC n
        · exact ⟨i, by omega, h2, fun j hj hjn => by
            by_cases hjn' : j = n
            · subst hjn'; exact h
            · exact h3 j hj (by omega)⟩
        · refine ⟨n + 1, Nat.le_refl _, fun j hj => ?_, fun j hj hjn => by omega⟩
          by_cases hjn : j = n
          · subst hjn; omega
          · have := NC_inc j n (by omega) (by omega); omega
    exact hi 388 (Nat.le_refl _)
  obtain ⟨i, h1, h2, h3⟩ := hb
  have hix : clsIx m = i := by
    unfold clsIx
    rw [← countP_lt 388 i h1]
    refine List.countP_congr fun j hj => ?_
    have hj := List.mem_range.1 hj
    rw [geEnd_num m j hm' hj]
    have e : (!decide (m ≤ NC j)) = decide (j < i) := by
      rw [← decide_not, decide_eq_decide]
      constructor
      · intro h
        rcases Nat.lt_or_ge j i with h' | h'
        · exact h'
        · exact absurd (h3 j h' hj) h
      · intro h; have := h2 j h; omega
    rw [e]
  rw [hix]
  have low : ∀ j e, j < i → Cl[j]? = some e → e.2.1 < m := fun j e hj he => by
    obtain ⟨e', g1, g2, _⟩ := C_end j (by omega)
    rw [he] at g1; obtain rfl := Option.some.inj g1
    rw [← g2]; exact h2 j hj
  by_cases hi : i = 388
  · refine .inl ⟨hi, ?_⟩
    cases hd : cfind m with
    | none => rfl
    | some e =>
      obtain ⟨g1, g2, g3⟩ := cfind_some hd
      obtain ⟨j, hj⟩ := List.mem_iff_getElem?.1 g1
      have := (List.getElem?_eq_some_iff.1 hj).1
      rw [Cl_len] at this
      have := low j e (by omega) hj; omega
  · obtain ⟨e, g1, g2, _⟩ := C_end i (by omega)
    have hge := h3 i (Nat.le_refl _) (by omega)
    rw [g2] at hge
    refine .inr ⟨e, by omega, g1, ?_⟩
    by_cases hs : e.1 ≤ m
    · exact .inl ⟨hs, cfind_of (List.mem_of_getElem? g1) hs hge⟩
    · refine .inr ⟨by omega, ?_⟩
      cases hd : cfind m with
      | none => rfl
      | some e' =>
        obtain ⟨k1, k2, k3⟩ := cfind_some hd
        obtain ⟨j, hj⟩ := List.mem_iff_getElem?.1 k1
        rcases Nat.lt_trichotomy j i with h | rfl | h
        · have := low j e' h hj; omega
        · rw [hj] at g1; obtain rfl := Option.some.inj g1; omega
        · have := pair_at C_inc g1 hj h; omega

theorem search_class (m : Nat) (W : World) (b0 b1 : Nat) (h0 : W.cell? ⟨b0, 0, none⟩ = some (.string (fiveB m))) (h1 : W.cell? ⟨b1, 0, none⟩ = some (.func (.func 77) #[] #[])) (hm : m < 1048576) :
    Calls Tryd.prog 78 #[.int .i64 388, .func (.func 79) #[] #[.pointer (some ⟨b1, 0, none⟩), .pointer (some ⟨b0, 0, none⟩)]] W fun e w' => e = .returned (.int .i64 (clsIx m : Nat)) ∧ Gr W w' := by
  have h := Any.sort_Search lSearch 79 #[.pointer (some ⟨b1, 0, none⟩), .pointer (some ⟨b0, 0, none⟩)] 388 (geEnd (fiveB m)) W (enters_of Tryd.func79 (by kernel_rfl) rfl) (by omega) ?_ ?_
  · exact h.mono fun e w' ⟨he, q, os, hw⟩ => ⟨he, by rw [hw]; exact Gr.grow _ _ _⟩
  · intro m' os i hi
    have G := Gr.grow W m' os
    refine (geEnd_any _ i hi _ b0 b1 (G.cell h0) (G.cell h1)).mono fun e w' ⟨he, q, hw⟩ => ⟨he, q, #[], ?_⟩
    rw [hw]; exact (Sort.grow_empty _).symm
  · intro a b hab hb ha
    rw [geEnd_num m a hm (by omega), decide_eq_true_eq] at ha
    rw [geEnd_num m b hm hb, decide_eq_true_eq]
    rcases Nat.lt_or_eq_of_le hab with h | rfl
    · have := NC_inc a b h hb; omega
    · exact ha

theorem cells2 (w : World) (v0 v1 : Value) (t0 t1 : Nat) : ((w.alloc (.cells #[v0] t0)).alloc (.cells #[v1] t1)).cell? ⟨w.heap.size, 0, none⟩ = some v0 ∧ ((w.alloc (.cells #[v0] t0)).alloc (.cells #[v1] t1)).cell? ⟨w.heap.size + 1, 0, none⟩ = some v1 := by
  have s1 : (w.alloc (.cells #[v0] t0)).heap.size = w.heap.size + 1 := by simp
  refine ⟨cell_alloc_sl _ (cell_new_sl w v0 t0), ?_⟩
  have := cell_new_sl (w.alloc (.cells #[v0] t0)) v1 t1; rw [s1] at this; exact this
theorem cells2g {w W' : World} {v0 v1 : Value} {t0 t1 : Nat} (h : Gr ((w.alloc (.cells #[v0] t0)).alloc (.cells #[v1] t1)) W') : W'.cell? ⟨w.heap.size, 0, none⟩ = some v0 ∧ W'.cell? ⟨w.heap.size + 1, 0, none⟩ = some v1 ∧ Gr w W' :=
  ⟨h.cell (cells2 ..).1, h.cell (cells2 ..).2, ((Gr.alloc _ _).trans (Gr.alloc _ _)).trans h⟩

set_option maxHeartbeats 1000000 in
theorem class_all (c : Nat) (hc : c < 4294967296) (w : World) (ht : Tz w) (h : clsIx (min c 1048575) = 388 ∧ cfind c = none) : Calls Tryd.prog 46 #[.int .u32 c] w fun e w' => e = .returned (.int .i64 (cls c)) ∧ Gr w w' := by
  have hcl : cls c = 0 := by unfold cls; rw [h.2]
  have H1 := hid h.1
  have H2 := hid hcl
  have hs : tC.size = 4656 := C_size
  clear h hcl
  go_enter Tryd.func46, Tryd.ntmps46
  go_name_bytes T hT
  have eT : T = tC := by rw [← hT]; with_unfolding_all rfl
  subst eT
  clear hT
  go_wp2_with fail
  refine (five_any c hc _ ht).mono ?_
  rintro e w1 ⟨rfl, g1⟩
  go_wp2_with fail
  refine (search_class _ _ _ _ (cells2 ..).1 (cells2 ..).2 (min_lt c)).mono ?_
  rw [H1.out]
  rintro e w2 ⟨rfl, g2⟩
  obtain ⟨c0, c1, g3⟩ := cells2g g2
  clear g2
  go_wp2_with fail
  go_quiet (fail)
  go_wp2
  go_ret
  exact ⟨by rw [H2.out]; rfl, (g1.trans g3).trans (Gr.drewN _ _)⟩
end Go.Proofs.YtgjlneedpbgfpaaDoor
