import Derived.Test.YtgjlneedpbgfpaaDoorRef3
/- The walks of the document's answer for ucd (gessoref03): pairs, and what a character may be. -/
namespace Go.Proofs.YtgjlneedpbgfpaaDoor
open Go.RowKit

noncomputable def NP0 (i : Nat) : Nat := (Pl.getD i (0, 0, 0)).1
theorem P_cuts (i : Nat) (hi : i < 941) : ∃ e, Pl[i]? = some e ∧ NP0 i = e.1 ∧ ((∀ x ∈ cut tP (i * 15) 5, isHex x = true) ∧ val (cut tP (i * 15) 5) = e.1) ∧ ((∀ x ∈ cut tP (i * 15 + 5) 5, isHex x = true) ∧ val (cut tP (i * 15 + 5) 5) = e.2.1) ∧
    ((∀ x ∈ cut tP (i * 15 + 10) 5, isHex x = true) ∧ val (cut tP (i * 15 + 10) 5) = e.2.2) := by
  obtain ⟨e, h1, h2, h4, h5, h6⟩ := P_row i hi
  have q1 : cut tP (i * 15) 5 = five5 e.1 := ext_cut tP (i * 15) 15 0 5 _ h2 (by omega)
  have q2 : cut tP (i * 15 + 5) 5 = five5 e.2.1 := ext_cut tP (i * 15) 15 5 5 _ h2 (by omega)
  have q3 : cut tP (i * 15 + 10) 5 = five5 e.2.2 := ext_cut tP (i * 15) 15 10 5 _ h2 (by omega)
  refine ⟨e, h1, by unfold NP0; rw [List.getD, h1]; rfl, ?_, ?_, ?_⟩
  · rw [q1]; exact ⟨five_hex _ h4, val_five _ h4⟩
  · rw [q2]; exact ⟨five_hex _ h5, val_five _ h5⟩
  · rw [q3]; exact ⟨five_hex _ h6, val_five _ h6⟩
theorem P_at (i : Nat) (e) (he : Pl[i]? = some e) : i < 941 ∧ NP0 i = e.1 ∧ e.2.1 < 1048576 := by
  have hi := (List.getElem?_eq_some_iff.1 he).1
  rw [Pl_len] at hi
  obtain ⟨e', g1, g2, _⟩ := P_cuts i hi
  rw [he] at g1; obtain rfl := Option.some.inj g1
  have := P_bd e (List.mem_of_getElem? he)
  exact ⟨hi, g2, by omega⟩
theorem NP0_mono (i j : Nat) (hij : i ≤ j) (hj : j < 941) : NP0 i ≤ NP0 j := by
  rcases Nat.lt_or_eq_of_le hij with h | rfl
  · obtain ⟨e, h1, h2, _⟩ := P_cuts i (by omega)
    obtain ⟨e', g1, g2, _⟩ := P_cuts j hj
    rw [h2, g2]
    have := pair_at P_inc h1 g1 h
    have := (P_at _ _ g1).2.2
    omega
  · exact Nat.le_refl _
theorem last_P (c : Nat) (hc : c < 4294967296) (w : World) : Calls Tryd.prog 69 #[.string tP, .int .i64 15, .int .u32 c] w (LastIs 941 NP0 c w) := by
  refine last_any tP 15 (by omega) 941 NP0 c hc w P_size (by omega) (fun i hi => ?_) NP0_mono
  obtain ⟨e, h1, h2, h3, _⟩ := P_cuts i hi; rw [h2]; exact h3

/-- What 'Pair' tells. -/
noncomputable def pval (a b : Nat) : Value := match pfind a b with | some e => .tuple #[.int .u32 e.2.2, .bool true] | none => .tuple #[.int .u32 0, .bool false]

theorem pair_any (a b : Nat) (ha : a < 4294967296) (hb : b < 4294967296) (w : World) (ht : Tz w) : Calls Tryd.prog 56 #[.int .u32 a, .int .u32 b] w fun e w' => e = .returned (pval a b) ∧ Gr w w' := by
  cases h : pfind a b with
  | none => have := pair_no a b ha hb w ht h; unfold pval; rw [h]; exact this
  | some e => have := pair_yes a b ha hb w ht e h; unfold pval; rw [h]; exact this

/-- The rows from l on do not bear the pair. -/
def Gone (a b l : Nat) : Prop := ∀ i e, l ≤ i → Pl[i]? = some e → ¬ (e.1 = a ∧ e.2.1 = b)
theorem Gone.nil' {a b l : Nat} (h : Gone a b l) (h0 : ∀ i e, i < l → Pl[i]? = some e → e.1 ≠ a) : pval a b = .tuple #[.int .u32 0, .bool false] := by
  have : pfind a b = none := by
    cases hd : pfind a b with
    | none => rfl
    | some e =>
      obtain ⟨g1, g2, g3⟩ := pfind_some hd
      obtain ⟨i, hi⟩ := List.mem_iff_getElem?.1 g1
      by_cases hl : l ≤ i
      · exact absurd ⟨g2, g3⟩ (h i e hl hi)
      · exact absurd g2 (h0 i e (by omega) hi)
  unfold pval; rw [this]

set_option maxRecDepth 100000 in
set_option maxHeartbeats 2000000 in
theorem rpair_any (a b : Nat) (ha : a < 4294967296) (_hb : b < 4294967296) (w : World) : Calls Tryd.prog 58 #[.int .u32 a, .int .u32 b] w fun e w' => e = .returned (pval a b) ∧ Gr w w' := by
  have hs : tP.size ≤ 100000 := by rw [P_size]; omega
  have HS2 : Hid (tP.size = 15 * 941) := P_size
  go_enter Tryd.func58, Tryd.ntmps58
  go_name_bytes T hT
  have eT : T = tP := by rw [← hT]; with_unfolding_all rfl
  subst eT
  clear hT
  go_wp2_with fail
  refine (last_P a ha _).mono ?_
  rintro x w1 ⟨l0, rfl, hl, h1, h2, g1⟩
  have H2 := hid h2
  have H1 := hid h1
  clear h1 h2
  go_wp2_with fail
  go_loop [6] (fun v => ∃ l : Nat, v = .int .i64 ((l : Int) - 1) ∧ l ≤ l0 ∧ Hid (Gone a b l)) (fun v => (intOf v + 1).toNat)
  case atStart => exact ⟨l0, rfl, Nat.le_refl _, fun i e hi he hh => by
    obtain ⟨k1, k2, _⟩ := P_at i e he
    have := H2.out i hi k1
    omega⟩
  case round =>
    obtain ⟨l, rfl, hll, HG⟩ := hrel
    by_cases hl0 : l = 0
    · have hneg : ¬ (0 ≤ (l : Int) - 1) := by omega
      have HL := hid hl0
      clear hl0
      go_wp2
      go_ret2
      refine ⟨?_, g1⟩
      rw [HG.out.nil' fun i e hi => by have := HL.out; omega]; rfl
    · obtain ⟨m, rfl⟩ : ∃ m, l = m + 1 := ⟨l - 1, by omega⟩
      obtain ⟨en, k1, k2, k3, k4, k5⟩ := P_cuts m (by omega)
      have hm' : (((m + 1 : Nat) : Int) - 1) = m := by omega
      have hle := H1.out m (by omega)
      rw [k2] at hle
      have K1 := hid k1
      have K2 := hid k2
      have K3 := hid k3
      have K4 := hid k4
      have K5 := hid k5
      clear k1 k2 k3 k4 k5
      simp only [hm']
      clear hm'
      by_cases hq : en.1 = a
      · have hb1 : ((en.1 : Int) == a) = true := by rw [beq_iff_eq]; omega
        have HQ := hid hq
        clear hq
        by_cases hq2 : en.2.1 = b
        · have hb2 : ((en.2.1 : Int) == b) = true := by rw [beq_iff_eq]; omega
          have HQ2 := hid hq2
          clear hq2
          go_wp2_with fail
          refine (number_at _ _ (m * 15) _ 5 _ (by omega) rfl hs (by omega) (by rw [HS2.out]; omega) K3.out.1 _ K3.out.2).mono ?_
          rintro x w2 ⟨rfl, rfl⟩
          go_wp2_with fail
          refine (number_at _ _ (m * 15 + 5) _ 5 _ (by omega) rfl hs (by omega) (by rw [HS2.out]; omega) K4.out.1 _ K4.out.2).mono ?_
          rintro x w2 ⟨rfl, rfl⟩
          go_wp2_with fail
          refine (number_at _ _ (m * 15 + 10) _ 5 _ (by omega) rfl hs (by omega) (by rw [HS2.out]; omega) K5.out.1 _ K5.out.2).mono ?_
          rintro x w2 ⟨rfl, rfl⟩
          go_wp2
          go_ret2
          refine ⟨?_, g1⟩
          unfold pval
          rw [← HQ.out, ← HQ2.out, pfind_of (List.mem_of_getElem? K1.out)]; rfl
        · have hb2 : ((en.2.1 : Int) == b) = false := by rw [beq_eq_false_iff_ne]; omega
          have HQ2 := hid hq2
          clear hq2
          go_wp2_with fail
          refine (number_at _ _ (m * 15) _ 5 _ (by omega) rfl hs (by omega) (by rw [HS2.out]; omega) K3.out.1 _ K3.out.2).mono ?_
          rintro x w2 ⟨rfl, rfl⟩
          go_wp2_with fail
          refine (number_at _ _ (m * 15 + 5) _ 5 _ (by omega) rfl hs (by omega) (by rw [HS2.out]; omega) K4.out.1 _ K4.out.2).mono ?_
          rintro x w2 ⟨rfl, rfl⟩
          go_wp2
          exact ⟨⟨m, rfl, by omega, fun i e hi he hh => by
            by_cases him : i = m
            · subst him; have := K1.out; rw [he] at this; obtain rfl := Option.some.inj this; exact HQ2.out hh.2
            · exact HG.out i e (by omega) he hh⟩, by simp [intOf]⟩
      · have hb1 : ((en.1 : Int) == a) = false := by rw [beq_eq_false_iff_ne]; omega
        have hlt : en.1 < a := by omega
        clear hq hle
        go_wp2_with fail
        refine (number_at _ _ (m * 15) _ 5 _ (by omega) rfl hs (by omega) (by rw [HS2.out]; omega) K3.out.1 _ K3.out.2).mono ?_
        rintro x w2 ⟨rfl, rfl⟩
        go_wp2
        go_ret2
        refine ⟨?_, g1⟩
        rw [HG.out.nil' fun i e hi he => by
          have k1 := NP0_mono i m (by omega) (P_at _ _ K1.out).1
          rw [(P_at _ _ he).2.1, K2.out] at k1
          omega]
        rfl
end Go.Proofs.YtgjlneedpbgfpaaDoor
