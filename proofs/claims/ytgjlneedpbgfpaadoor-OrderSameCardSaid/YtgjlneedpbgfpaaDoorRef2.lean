import Derived.Test.YtgjlneedpbgfpaaDoorRef
/- The walks of the document's answer for ucd (gessoref03): what it tells of characters. -/
namespace Go.Proofs.YtgjlneedpbgfpaaDoor
open Go.RowKit

theorem ext_cut (T : ByteArray) (a n o m : Nat) (l : List UInt8) (h : (T.extract a (a + n)).data.toList = l) (ho : o + m ≤ n) : cut T (a + o) m = (l.drop o).take m := by
  rw [← h, Lib.extract_data, show a + n - a = n by omega]
  unfold cut
  rw [List.drop_take, List.drop_drop, List.take_take, Nat.min_eq_left (by omega)]

noncomputable def NC0 (i : Nat) : Nat := (Cl.getD i (0, 0, 0)).1
theorem C_cuts (i : Nat) (hi : i < 388) : ∃ e, Cl[i]? = some e ∧ NC0 i = e.1 ∧ ((∀ x ∈ cut tC (i * 12) 5, isHex x = true) ∧ val (cut tC (i * 12) 5) = e.1) ∧ ((∀ x ∈ cut tC (i * 12 + 5) 5, isHex x = true) ∧ val (cut tC (i * 12 + 5) 5) = e.2.1) ∧ ((∀ x ∈ cut tC (i * 12 + 10) 2, isHex x = true) ∧ val (cut tC (i * 12 + 10) 2) = e.2.2) := by
  obtain ⟨e, x, y, h1, h2, h3, h4, h5, h6, h7⟩ := C_row i hi
  have k1 := ext_cut tC (i * 12) 12 0 5 _ h2 (by omega)
  have k2 := ext_cut tC (i * 12) 12 5 5 _ h2 (by omega)
  have k3 := ext_cut tC (i * 12) 12 10 2 _ h2 (by omega)
  have q1 : cut tC (i * 12) 5 = five5 e.1 := k1
  have q2 : cut tC (i * 12 + 5) 5 = five5 e.2.1 := k2
  have q3 : cut tC (i * 12 + 10) 2 = [x, y] := k3
  refine ⟨e, h1, by unfold NC0; rw [List.getD, h1]; rfl, ?_, ?_, ?_⟩
  · rw [q1]; exact ⟨five_hex _ h6, val_five _ h6⟩
  · rw [q2]; exact ⟨five_hex _ h7, val_five _ h7⟩
  · rw [q3]
    refine ⟨fun z hz => ?_, h5⟩
    simp only [List.mem_cons, List.not_mem_nil, or_false] at hz
    rcases hz with rfl | rfl
    · exact h3
    · exact h4
theorem last_C (c : Nat) (hc : c < 4294967296) (w : World) : Calls Tryd.prog 69 #[.string tC, .int .i64 12, .int .u32 c] w (LastIs 388 NC0 c w) := by
  refine last_any tC 12 (by omega) 388 NC0 c hc w C_size (by omega) (fun i hi => ?_) (fun i j hij hj => ?_)
  · obtain ⟨e, h1, h2, h3, _⟩ := C_cuts i hi; rw [h2]; exact h3
  · rcases Nat.lt_or_eq_of_le hij with h | rfl
    · obtain ⟨e, h1, h2, _⟩ := C_cuts i (by omega)
      obtain ⟨e', g1, g2, _⟩ := C_cuts j hj
      rw [h2, g2]
      have := pair_at C_inc h1 g1 h
      have := C_bd e (List.mem_of_getElem? h1)
      omega
    · exact Nat.le_refl _

theorem cls_last (c l : Nat) (hl : l ≤ 388) (h1 : ∀ i, i < l → NC0 i ≤ c) (h2 : ∀ i, l ≤ i → i < 388 → c < NC0 i) : (l = 0 → cls c = 0) ∧ (∀ e, 0 < l → Cl[l - 1]? = some e → (e.2.1 < c → cls c = 0) ∧ (c ≤ e.2.1 → cls c = e.2.2)) := by
  have none : (∀ e ∈ Cl, ¬ (e.1 ≤ c ∧ c ≤ e.2.1)) → cls c = 0 := fun h => by
    unfold cls
    cases hd : cfind c with
    | none => rfl
    | some e => obtain ⟨g1, g2, g3⟩ := cfind_some hd; exact absurd ⟨g2, g3⟩ (h e g1)
  have at' : ∀ i e, Cl[i]? = some e → i < 388 ∧ NC0 i = e.1 := fun i e he => by
    have hi := (List.getElem?_eq_some_iff.1 he).1
    rw [Cl_len] at hi
    obtain ⟨e', g1, g2, _⟩ := C_cuts i hi
    rw [he] at g1; obtain rfl := Option.some.inj g1
    exact ⟨hi, g2⟩
  refine ⟨fun h0 => none fun e he hh => ?_, fun e h0 he => ⟨fun hlt => none fun e' he' hh => ?_, fun hle => ?_⟩⟩
  · obtain ⟨i, hi⟩ := List.mem_iff_getElem?.1 he
    obtain ⟨g1, g2⟩ := at' i e hi
    have := h2 i (by omega) g1
    omega
  · obtain ⟨i, hi⟩ := List.mem_iff_getElem?.1 he'
    obtain ⟨g1, g2⟩ := at' i e' hi
    rcases Nat.lt_trichotomy i (l - 1) with h | h | h
    · have := pair_at C_inc hi he h
      have g3 := (at' _ _ he).2
      have := C_bd e (List.mem_of_getElem? he)
      omega
    · subst h; rw [he] at hi; obtain rfl := Option.some.inj hi; omega
    · have := h2 i (by omega) g1; omega
  · have g3 := at' _ _ he
    have := h1 (l - 1) (by omega)
    unfold cls
    rw [cfind_of (List.mem_of_getElem? he) (by omega) hle]

set_option maxRecDepth 100000 in
set_option maxHeartbeats 1000000 in
theorem rclass_any (c : Nat) (hc : c < 4294967296) (w : World) : Calls Tryd.prog 37 #[.int .u32 c] w fun e w' => e = .returned (.int .i64 (cls c)) ∧ Gr w w' := by
  have hs : tC.size ≤ 100000 := by rw [C_size]; omega
  have hs2 : tC.size = 12 * 388 := C_size
  have HS2 := hid hs2
  clear hs2
  go_enter Tryd.func37, Tryd.ntmps37
  go_name_bytes T hT
  have eT : T = tC := by rw [← hT]; with_unfolding_all rfl
  subst eT
  clear hT
  go_wp2_with fail
  refine (last_C c hc _).mono ?_
  rintro e w1 ⟨l, rfl, hl, h1, h2, g1⟩
  obtain ⟨c1, c2⟩ := cls_last c l hl h1 h2
  have C1 := hid c1
  have C2 := hid c2
  clear c1 c2 h1 h2
  by_cases hl0 : l = 0
  · have hneg : ((l : Int) - 1) < 0 := by omega
    have HL := hid hl0
    clear hl0
    go_wp2
    go_ret
    exact ⟨by rw [C1.out HL.out]; rfl, g1⟩
  · obtain ⟨m, rfl⟩ : ∃ m, l = m + 1 := ⟨l - 1, by omega⟩
    obtain ⟨en, k1, k2, k3, k4, k5⟩ := C_cuts m (by omega)
    have hpos : ¬ (((m + 1 : Nat) : Int) - 1 < 0) := by omega
    have hm : ((m + 1 : Nat) : Int) - 1 = m := by omega
    have K3 := hid k3
    have K4 := hid k4
    have K5 := hid k5
    have K1 := hid k1
    have hb : (en.2.2 : Int) ≤ 255 := by have := C_bd en (List.mem_of_getElem? k1); omega
    clear k1 k2 k3 k4 k5
    by_cases hlt : en.2.1 < c
    all_goals
      go_wp2_with fail
      refine (number_at _ _ (m * 12 + 5) _ 5 _ (by omega) rfl hs (by omega) (by rw [HS2.out]; omega) K4.out.1 _ K4.out.2).mono ?_
      rintro e w2 ⟨rfl, rfl⟩
      first
        | (go_wp2
           go_ret
           exact ⟨by rw [(C2.out en (by omega) K1.out).1 hlt]; rfl, g1⟩)
        | (go_wp2_with fail
           refine (number_at _ _ (m * 12 + 10) _ 2 _ (by omega) rfl hs (by omega) (by rw [HS2.out]; omega) K5.out.1 _ K5.out.2).mono ?_
           rintro e w2 ⟨rfl, rfl⟩
           go_wp2
           go_ret
           exact ⟨by rw [(C2.out en (by omega) K1.out).2 (by omega)]; rfl, g1⟩)
end Go.Proofs.YtgjlneedpbgfpaaDoor
