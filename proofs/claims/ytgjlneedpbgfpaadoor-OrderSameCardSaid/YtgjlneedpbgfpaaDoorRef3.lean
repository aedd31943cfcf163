import Derived.Test.YtgjlneedpbgfpaaDoorRef2
/- The walks of the document's answer for ucd (gessoref03): decompositions and pairs. -/
namespace Go.Proofs.YtgjlneedpbgfpaaDoor
open Go.RowKit

theorem D_cuts (i : Nat) (hi : i < 2061) : ∃ e, Dl[i]? = some e ∧ ND i = e.1 ∧ ((∀ x ∈ cut tD (i * 16) 5, isHex x = true) ∧ val (cut tD (i * 16) 5) = e.1) ∧ ((∀ x ∈ cut tD (i * 16 + 5) 5, isHex x = true) ∧ val (cut tD (i * 16 + 5) 5) = e.2.1) ∧
    ((∀ x ∈ cut tD (i * 16 + 10) 5, isHex x = true) ∧ val (cut tD (i * 16 + 10) 5) = e.2.2.1) ∧ ∃ f, cut tD (i * 16 + 15) 1 = [f] ∧ e.2.2.2 = Nat.beq f.toNat 99 := by
  obtain ⟨e, f, h1, h2, h3, h4, h5, h6⟩ := D_row i hi
  have q1 : cut tD (i * 16) 5 = five5 e.1 := ext_cut tD (i * 16) 16 0 5 _ h2 (by omega)
  have q2 : cut tD (i * 16 + 5) 5 = five5 e.2.1 := ext_cut tD (i * 16) 16 5 5 _ h2 (by omega)
  have q3 : cut tD (i * 16 + 10) 5 = five5 e.2.2.1 := ext_cut tD (i * 16) 16 10 5 _ h2 (by omega)
  have q4 : cut tD (i * 16 + 15) 1 = [f] := ext_cut tD (i * 16) 16 15 1 _ h2 (by omega)
  refine ⟨e, h1, by unfold ND; rw [List.getD, h1]; rfl, ?_, ?_, ?_, f, q4, h3⟩
  · rw [q1]; exact ⟨five_hex _ h4, val_five _ h4⟩
  · rw [q2]; exact ⟨five_hex _ h5, val_five _ h5⟩
  · rw [q3]; exact ⟨five_hex _ h6, val_five _ h6⟩
theorem last_D (c : Nat) (hc : c < 4294967296) (w : World) : Calls Tryd.prog 69 #[.string tD, .int .i64 16, .int .u32 c] w (LastIs 2061 ND c w) := by
  refine last_any tD 16 (by omega) 2061 ND c hc w D_size (by omega) (fun i hi => ?_) (fun i j hij hj => ?_)
  · obtain ⟨e, h1, h2, h3, _⟩ := D_cuts i hi; rw [h2]; exact h3
  · rcases Nat.lt_or_eq_of_le hij with h | rfl
    · obtain ⟨e, h1, h2, _⟩ := D_cuts i (by omega)
      obtain ⟨e', g1, g2, _⟩ := D_cuts j hj
      rw [h2, g2]
      have := pair_at D_inc h1 g1 h
      omega
    · exact Nat.le_refl _

theorem D_at (i : Nat) (e) (he : Dl[i]? = some e) : i < 2061 ∧ ND i = e.1 := by
  have hi := (List.getElem?_eq_some_iff.1 he).1
  rw [Dl_len] at hi
  obtain ⟨e', g1, g2, _⟩ := D_cuts i hi
  rw [he] at g1; obtain rfl := Option.some.inj g1
  exact ⟨hi, g2⟩

theorem dfind_last (c l : Nat) (hl : l ≤ 2061) (h1 : ∀ i, i < l → ND i ≤ c) (h2 : ∀ i, l ≤ i → i < 2061 → c < ND i) : (l = 0 → dfind c = none) ∧ (∀ e, 0 < l → Dl[l - 1]? = some e → (e.1 ≠ c → dfind c = none) ∧ (e.1 = c → dfind c = some e)) := by
  refine ⟨fun h0 => ?_, fun e h0 he => ⟨fun hne => ?_, fun heq => ?_⟩⟩
  · cases hd : dfind c with
    | none => rfl
    | some e =>
      obtain ⟨g1, g2⟩ := dfind_some hd
      obtain ⟨i, hi⟩ := List.mem_iff_getElem?.1 g1
      obtain ⟨k1, k2⟩ := D_at i e hi
      have := h2 i (by omega) k1; omega
  · cases hd : dfind c with
    | none => rfl
    | some e' =>
      obtain ⟨g1, g2⟩ := dfind_some hd
      obtain ⟨i, hi⟩ := List.mem_iff_getElem?.1 g1
      obtain ⟨k1, k2⟩ := D_at i e' hi
      rcases Nat.lt_trichotomy i (l - 1) with h | h | h
      · have := pair_at D_inc hi he h
        have := h1 (l - 1) (by omega)
        have := (D_at _ _ he).2; omega
      · subst h; rw [he] at hi; obtain rfl := Option.some.inj hi; exact absurd g2 hne
      · have := h2 i (by omega) k1; omega
  · subst heq; exact dfind_of (List.mem_of_getElem? he)

/-- The row of a character: its place, or -1. -/
def RowIs (c : Nat) (w : World) (x : Ending) (w' : World) : Prop := Gr w w' ∧ ((dfind c = none ∧ x = .returned (.int .i64 (-1))) ∨ ∃ (m : Nat) (e : Nat × Nat × Nat × Bool), Dl[m]? = some e ∧ m < 2061 ∧ dfind c = some e ∧ x = .returned (.int .i64 (16 * (m : Int))))

set_option maxRecDepth 100000 in
set_option maxHeartbeats 1000000 in
theorem row_any (c : Nat) (hc : c < 4294967296) (w : World) : Calls Tryd.prog 112 #[.int .u32 c] w (RowIs c w) := by
  have hs : tD.size ≤ 100000 := by rw [D_size]; omega
  have hs2 : tD.size = 16 * 2061 := D_size
  have HS2 := hid hs2
  clear hs2
  go_enter Tryd.func112, Tryd.ntmps112
  go_name_bytes T hT
  have eT : T = tD := by rw [← hT]; with_unfolding_all rfl
  subst eT
  clear hT
  go_wp2_with fail
  refine (last_D c hc _).mono ?_
  rintro e w1 ⟨l, rfl, hl, h1, h2, g1⟩
  obtain ⟨c1, c2⟩ := dfind_last c l hl h1 h2
  have C1 := hid c1
  have C2 := hid c2
  clear c1 c2 h1 h2
  by_cases hl0 : l = 0
  · have hneg : ((l : Int) - 1) < 0 := by omega
    have HL := hid hl0
    clear hl0
    go_wp2
    go_ret
    exact ⟨g1, .inl ⟨C1.out HL.out, rfl⟩⟩
  · obtain ⟨m, rfl⟩ : ∃ m, l = m + 1 := ⟨l - 1, by omega⟩
    obtain ⟨en, k1, k2, k3, _⟩ := D_cuts m (by omega)
    have hm' : (((m + 1 : Nat) : Int) - 1) = m := by omega
    simp only [hm']
    clear hm'
    have K3 := hid k3
    have K1 := hid k1
    clear k1 k2 k3
    by_cases heq : en.1 = c
    · have hb : ((en.1 : Int) != c) = false := by rw [bne_eq_false_iff_eq]; omega
      have HQ := hid heq
      clear heq
      go_wp2_with fail
      refine (number_at _ _ (m * 16) _ 5 _ (by omega) rfl hs (by omega) (by rw [HS2.out]; omega) K3.out.1 _ K3.out.2).mono ?_
      rintro e w2 ⟨rfl, rfl⟩
      go_wp2
      go_ret
      exact ⟨g1, .inr ⟨m, en, K1.out, by omega, (C2.out en (by omega) K1.out).2 HQ.out, rfl⟩⟩
    · have hb : ((en.1 : Int) != c) = true := by rw [bne_iff_ne]; omega
      have HQ := hid heq
      clear heq
      go_wp2_with fail
      refine (number_at _ _ (m * 16) _ 5 _ (by omega) rfl hs (by omega) (by rw [HS2.out]; omega) K3.out.1 _ K3.out.2).mono ?_
      rintro e w2 ⟨rfl, rfl⟩
      go_wp2
      go_ret
      exact ⟨g1, .inl ⟨(C2.out en (by omega) K1.out).1 HQ.out, rfl⟩⟩

set_option maxRecDepth 100000 in
set_option maxHeartbeats 1000000 in
theorem rdecomp_any (c : Nat) (hc : c < 4294967296) (w : World) : Calls Tryd.prog 124 #[.int .u32 c] w fun e w' => e = .returned (dval c) ∧ Gr w w' := by
  have hs : tD.size ≤ 100000 := by rw [D_size]; omega
  have hs2 : tD.size = 16 * 2061 := D_size
  have HS2 := hid hs2
  clear hs2
  go_enter Tryd.func124, Tryd.ntmps124
  go_name_bytes T hT
  have eT : T = tD := by rw [← hT]; with_unfolding_all rfl
  subst eT
  clear hT
  go_wp2_with fail
  refine (row_any c hc _).mono ?_
  rintro x w1 ⟨g1, ⟨hd, rfl⟩ | ⟨m, e, hm, hlt, hd, rfl⟩⟩
  · have HD := hid hd
    clear hd
    go_wp2
    go_ret3
    refine ⟨?_, g1⟩
    unfold dval; rw [HD.out]; rfl
  · have HD := hid hd
    obtain ⟨en, k1, k2, k3, k4, k5, k6⟩ := D_cuts m hlt
    have ee : e = en := Option.some.inj (hm.symm.trans k1)
    subst ee
    have K4 := hid k4
    have K5 := hid k5
    clear hd hm k1 k2 k3 k4 k5 k6
    go_wp2_with fail
    refine (number_at _ _ (m * 16 + 5) _ 5 _ (by omega) rfl hs (by omega) (by rw [HS2.out]; omega) K4.out.1 _ K4.out.2).mono ?_
    rintro x w2 ⟨rfl, rfl⟩
    go_wp2_with fail
    refine (number_at _ _ (m * 16 + 10) _ 5 _ (by omega) rfl hs (by omega) (by rw [HS2.out]; omega) K5.out.1 _ K5.out.2).mono ?_
    rintro x w2 ⟨rfl, rfl⟩
    go_wp2
    go_ret3
    refine ⟨?_, g1⟩
    unfold dval; rw [HD.out]; rfl

/-- Is a character composed again? -/
noncomputable def composes (c : Nat) : Bool := match dfind c with | some e => e.2.2.2 | none => false

theorem decomp_any (c : Nat) (hc : c < 4294967296) (w : World) (ht : Tz w) : Calls Tryd.prog 47 #[.int .u32 c] w fun e w' => e = .returned (dval c) ∧ Gr w w' := by
  cases h : dfind c with
  | none => have := decomp_no c hc w ht h; unfold dval; rw [h]; exact this
  | some e => have := decomp_yes c hc w ht e h; unfold dval; rw [h]; exact this
theorem composes_any (c : Nat) (hc : c < 4294967296) (w : World) (ht : Tz w) : Calls Tryd.prog 31 #[.int .u32 c] w fun e w' => e = .returned (.bool (composes c)) ∧ Gr w w' := by
  cases h : dfind c with
  | none => have := composes_no c hc w ht h; unfold composes; rw [h]; exact this
  | some e => have := composes_yes c hc w ht e h; unfold composes; rw [h]; exact this

theorem cut_one (T : ByteArray) (a : Nat) (h : a < T.size) (f : UInt8) (hf : cut T a 1 = [f]) : T[a] = f := by
  have := cut_snoc T a 0 (by omega)
  rw [hf] at this
  have e0 : cut T a 0 = [] := by unfold cut; rw [List.take_zero]
  rw [e0] at this
  simpa using this.symm

set_option maxHeartbeats 1000000 in
theorem rcomposes_any (c : Nat) (hc : c < 4294967296) (w : World) : Calls Tryd.prog 113 #[.int .u32 c] w fun e w' => e = .returned (.bool (composes c)) ∧ Gr w w' := by
  have hs2 : tD.size = 32976 := D_size
  go_enter Tryd.func113, Tryd.ntmps113
  go_name_bytes T hT
  have eT : T = tD := by rw [← hT]; with_unfolding_all rfl
  subst eT
  clear hT
  go_wp2_with fail
  refine (row_any c hc _).mono ?_
  rintro x w1 ⟨g1, ⟨hd, rfl⟩ | ⟨m, e, hm, hlt, hd, rfl⟩⟩
  · have HD := hid hd
    clear hd
    go_wp2
    go_ret
    refine ⟨?_, g1⟩
    unfold composes; rw [HD.out]; rfl
  · have HD := hid hd
    obtain ⟨en, k1, k2, k3, k4, k5, f, k6, k7⟩ := D_cuts m hlt
    have ee : e = en := Option.some.inj (hm.symm.trans k1)
    subst ee
    have hb : 16 * m + 15 < tD.size := by omega
    have hf : tD[16 * m + 15] = f := cut_one tD _ hb f (by rw [← k6]; congr 1; omega)
    have hfl : ((tD[16 * m + 15].toNat : Int) == 99) = e.2.2.2 := by
      rw [hf, k7, Bool.eq_iff_iff, Nat.beq_eq, beq_iff_eq]; omega
    have hb1 : (16 * (m : Int) + 15) < tD.size := by omega
    clear hd hm k1 k2 k3 k4 k5 k6 hf k7 hs2
    go_wp2
    go_ret
    refine ⟨?_, g1⟩
    unfold composes; rw [HD.out]; rfl
end Go.Proofs.YtgjlneedpbgfpaaDoor
