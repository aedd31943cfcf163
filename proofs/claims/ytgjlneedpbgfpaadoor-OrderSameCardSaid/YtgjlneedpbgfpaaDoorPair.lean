import Derived.Test.YtgjlneedpbgfpaaDoorUcd
/- The walks of the package ucd over its pairs, and of what characters may be. -/
namespace Go.Proofs.YtgjlneedpbgfpaaDoor
open Go.RowKit

def keyP (a b : Nat) : ByteArray := fiveB a ++ fiveB b
theorem keyP_size (a b : Nat) : (keyP a b).size = 10 := by unfold keyP; rw [ByteArray.size_append]; rfl
theorem keyP_list (a b : Nat) : (keyP a b).toList = five5 a ++ five5 b := by
  rw [Lib.toList_data]; unfold keyP; rw [ByteArray.data_append, Array.toList_append]; rfl

noncomputable def NP (i : Nat) : Nat := 1048576 * (Pl.getD i (0, 0, 0)).1 + (Pl.getD i (0, 0, 0)).2.1
theorem P_head (i : Nat) (hi : i < 941) : ∃ e, Pl[i]? = some e ∧ NP i = 1048576 * e.1 + e.2.1 ∧ ((tP.extract (i * 15) (i * 15 + 15)).extract 0 10).toList = five5 e.1 ++ five5 e.2.1 ∧ e.1 < 1048576 ∧ e.2.1 < 1048576 := by
  obtain ⟨e, h1, h2, h4, h5, h6⟩ := P_row i hi
  refine ⟨e, h1, by unfold NP; rw [List.getD, h1]; rfl, ?_, h4, h5⟩
  rw [Lib.toList_data, Lib.extract_data, h2]
  rfl

theorem less_ten (x y a b : Nat) (hx : x < 1048576) (hy : y < 1048576) (ha : a < 1048576) (hb : b < 1048576) : Op.bytesLess (five5 x ++ five5 y) (five5 a ++ five5 b) = decide (1048576 * x + y < 1048576 * a + b) := by
  rw [less_five x a hx ha, less_five' y b hy hb]
  by_cases h1 : x < a
  · rw [decide_eq_true h1, decide_eq_true (show 1048576 * x + y < 1048576 * a + b by omega)]; rfl
  · by_cases h2 : x = a
    · subst h2
      rw [decide_eq_false h1, decide_eq_true rfl, Bool.false_or, Bool.true_and]
      rw [decide_eq_decide]; omega
    · rw [decide_eq_false h1, decide_eq_false h2, decide_eq_false (show ¬ 1048576 * x + y < 1048576 * a + b by omega)]; rfl

theorem find_P_facts (a b : Nat) (ha : a < 1048576) (hb : b < 1048576) : (∀ x y, x ≤ y → y < tP.size / 15 → geKey tP 15 (keyP a b) x = true → geKey tP 15 (keyP a b) y = true) ∧ ((∀ i, i < 941 → NP i ≠ 1048576 * a + b) → findRow tP 15 (keyP a b) = none) ∧ (∀ i, i < 941 → NP i = 1048576 * a + b → findRow tP 15 (keyP a b) = some i) := by
  refine findRow_num tP 15 (keyP a b) 941 NP (1048576 * a + b) (by rw [P_size]) (fun i hi => ?_) (fun i hi => ?_) (fun i j hij hj => ?_)
  · obtain ⟨e, h1, h2, h3, h4, h5⟩ := P_head i hi
    unfold geKey
    rw [keyP_size, h3, keyP_list, less_ten _ _ _ _ h4 h5 ha hb, h2, not_lt_dec]
  · obtain ⟨e, h1, h2, h3, h4, h5⟩ := P_head i hi
    rw [keyP_size, h3, keyP_list, h2]
    by_cases h : 1048576 * e.1 + e.2.1 = 1048576 * a + b
    · have q1 : e.1 = a := by omega
      have q2 : e.2.1 = b := by omega
      rw [decide_eq_true h, q1, q2]; exact beq_self_eq_true _
    · rw [decide_eq_false h]
      refine beq_eq_false_iff_ne.2 fun h' => h ?_
      obtain ⟨p1, p2⟩ := List.append_inj h' rfl
      rw [five_inj h4 ha p1, five_inj h5 hb p2]
  · have hl : Pl.length = 941 := Pl_len
    have h1 : Pl[i]? = some (Pl.getD i (0, 0, 0)) := by rw [List.getD, List.getElem?_eq_getElem (by omega)]; rfl
    have h2 : Pl[j]? = some (Pl.getD j (0, 0, 0)) := by rw [List.getD, List.getElem?_eq_getElem (by omega)]; rfl
    exact pair_at P_inc h1 h2 hij

theorem find_P_no (a b : Nat) (w : World) (h : pfind a b = none) : Calls Tryd.prog 63 #[.string tP, .int .i64 15, .string (keyP (min a 1048575) (min b 1048575))] w fun e w' => e = .returned (.tuple #[.string ⟨#[]⟩, .bool false]) ∧ Gr w w' := by
  obtain ⟨h1, h2, _⟩ := find_P_facts (min a 1048575) (min b 1048575) (min_lt a) (min_lt b)
  refine find_no 15 (.inr rfl) tP _ w (by rw [keyP_size]; omega) (by rw [P_size]; omega) h1 (h2 fun i hi hn => ?_)
  rw [← pfind_min] at h
  obtain ⟨e, g1, g2, g3, g4, g5⟩ := P_head i hi
  have := min_lt a
  have := min_lt b
  exact pfind_none h e (List.mem_of_getElem? g1) ⟨by omega, by omega⟩

/-- A row of the pairs. -/
def RowP (e : Nat × Nat × Nat) (s : ByteArray) : Prop := s.data.toList = five5 e.1 ++ (five5 e.2.1 ++ five5 e.2.2) ∧ e.1 < 1048576 ∧ e.2.1 < 1048576 ∧ e.2.2 < 1048576
def SomeRowP (e : Nat × Nat × Nat) (w : World) (x : Ending) (w' : World) : Prop := ∃ s, x = .returned (.tuple #[.string s, .bool true]) ∧ RowP e s ∧ Gr w w'

theorem find_P_yes (a b : Nat) (w : World) (e) (h : pfind a b = some e) : Calls Tryd.prog 63 #[.string tP, .int .i64 15, .string (keyP (min a 1048575) (min b 1048575))] w (SomeRowP e w) := by
  obtain ⟨h1, _, h3⟩ := find_P_facts (min a 1048575) (min b 1048575) (min_lt a) (min_lt b)
  rw [← pfind_min] at h
  obtain ⟨hm, he1, he2⟩ := pfind_some h
  obtain ⟨i, hi⟩ := List.mem_iff_getElem?.1 hm
  have hi' : i < 941 := by rw [← Pl_len]; exact (List.getElem?_eq_some_iff.1 hi).1
  obtain ⟨e', g1, g2, g3⟩ := P_row i hi'
  rw [hi] at g1
  obtain rfl := Option.some.inj g1
  have hN : NP i = 1048576 * min a 1048575 + min b 1048575 := by unfold NP; rw [List.getD, hi, ← he1, ← he2]; rfl
  exact (find_yes 15 (.inr rfl) tP _ w i (by rw [keyP_size]; omega) (by rw [P_size]; omega) h1 (h3 i hi' hN)).mono fun x w' ⟨hx, hg⟩ => ⟨_, hx, ⟨g2, g3⟩, hg⟩

theorem RowP.size {e : Nat × Nat × Nat} {s : ByteArray} (h : RowP e s) : s.size = 15 := by
  have : s.data.toList.length = 15 := by rw [h.1]; rfl
  simpa using this
theorem RowP.third {e : Nat × Nat × Nat} {s : ByteArray} (h : RowP e s) : (s.extract 10 15).data.toList = five5 e.2.2 ∧ e.2.2 < 1048576 := by
  exact ⟨by rw [Lib.extract_data, h.1]; rfl, h.2.2.2⟩

set_option maxHeartbeats 1000000 in
theorem pair_no (a b : Nat) (ha : a < 4294967296) (hb : b < 4294967296) (w : World) (ht : Tz w) (h : pfind a b = none) : Calls Tryd.prog 56 #[.int .u32 a, .int .u32 b] w fun e w' => e = .returned (.tuple #[.int .u32 0, .bool false]) ∧ Gr w w' := by
  have h' := hid h
  clear h
  go_enter Tryd.func56, Tryd.ntmps56
  go_name_bytes T hT
  have eT : T = tP := by rw [← hT]; with_unfolding_all rfl
  subst eT
  clear hT
  go_wp2_with fail
  refine (five_any a ha _ ht).mono ?_
  rintro e w1 ⟨rfl, g1⟩
  go_wp2_with fail
  refine (five_any b hb _ (ht.gr g1)).mono ?_
  rintro e w2 ⟨rfl, g2⟩
  go_wp2_with fail
  refine (find_P_no a b _ h'.out).mono ?_
  rintro e w3 ⟨rfl, g3⟩
  go_wp2
  go_ret2
  exact ⟨rfl, (g1.trans g2).trans g3⟩

set_option maxHeartbeats 1000000 in
theorem pair_yes (a b : Nat) (ha : a < 4294967296) (hb : b < 4294967296) (w : World) (ht : Tz w) (e) (h : pfind a b = some e) : Calls Tryd.prog 56 #[.int .u32 a, .int .u32 b] w fun x w' => x = .returned (.tuple #[.int .u32 e.2.2, .bool true]) ∧ Gr w w' := by
  have h' := hid h
  clear h
  go_enter Tryd.func56, Tryd.ntmps56
  go_name_bytes T hT
  have eT : T = tP := by rw [← hT]; with_unfolding_all rfl
  subst eT
  clear hT
  go_wp2_with fail
  refine (five_any a ha _ ht).mono ?_
  rintro x w1 ⟨rfl, g1⟩
  go_wp2_with fail
  refine (five_any b hb _ (ht.gr g1)).mono ?_
  rintro x w2 ⟨rfl, g2⟩
  go_wp2_with fail
  refine (find_P_yes a b _ e h'.out).mono ?_
  rintro x w3 ⟨s, rfl, hr, g3⟩
  have hs := hr.size
  go_wp2_with fail
  refine (read_five _ e.2.2 _ hr.third.1 hr.third.2).mono ?_
  rintro x w4 ⟨rfl, rfl⟩
  go_wp2
  go_ret2
  exact ⟨rfl, (g1.trans g2).trans g3⟩
end Go.Proofs.YtgjlneedpbgfpaaDoor
