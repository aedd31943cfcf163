import Derived.Test.YtgjlneedpbgfpaaDoorClass
/- The walk of the package ucd over the classes, where a row is found. -/
namespace Go.Proofs.YtgjlneedpbgfpaaDoor
open Go.RowKit

set_option maxHeartbeats 2000000 in
theorem class_over (c : Nat) (hc : c < 4294967296) (w : World) (ht : Tz w) (ix : Nat) (hix : clsIx (min c 1048575) = ix) (hlt : ix < 388) (e) (he : Cl[ix]? = some e) (h : min c 1048575 < e.1 ∧ cfind c = none) :
    Calls Tryd.prog 46 #[.int .u32 c] w fun e w' => e = .returned (.int .i64 (cls c)) ∧ Gr w w' := by
  have hcl : cls c = 0 := by unfold cls; rw [h.2]
  have hq : ((ix : Int) == 388) = false := by rw [beq_eq_false_iff_ne]; omega
  obtain ⟨e', k1, k2, k3, k4, k5, k6⟩ := C_end ix hlt
  have ee : e = e' := Option.some.inj (he.symm.trans k1)
  subst ee
  have hless : Op.bytesLess (tC.extract (ix * 12) (ix * 12 + 5)).toList (fiveB (min c 1048575)).toList = false := by
    rw [k4, fiveB_list, less_five' _ _ k5 (min_lt c), decide_eq_false_iff_not]; omega
  have heq : ((tC.extract (ix * 12) (ix * 12 + 5)).toList == (fiveB (min c 1048575)).toList) = false := by
    rw [k4, fiveB_list]; exact beq_eq_false_iff_ne.2 fun h' => by have := five_inj k5 (min_lt c) h'; omega
  have H1 := hid hix
  have H2 := hid hcl
  have hs : tC.size = 4656 := C_size
  clear h hcl he k1 k2 k3 k4 k5 k6 hix
  go_enter Tryd.func46, Tryd.ntmps46
  go_name_bytes T hT
  have eT : T = tC := by rw [← hT]; with_unfolding_all rfl
  subst eT
  clear hT
  go_wp2_with fail
  refine (five_any c hc _ ht).mono ?_
  rintro e w1 ⟨rfl, g1⟩
  go_wp2_with fail
  refine (search_class _ _ _ _ (cells2 ..).1 (cells2 ..).2 (min_lt c)).mono ?_
  rw [H1.out]
  rintro e w2 ⟨rfl, g2⟩
  obtain ⟨c0, c1, g3⟩ := cells2g g2
  clear g2
  go_wp2_with fail
  go_quiet (fail)
  go_wp2
  go_ret
  exact ⟨by rw [H2.out]; rfl, (g1.trans g3).trans (Gr.drewN _ _)⟩

theorem C_class (i : Nat) (hi : i < 388) (e) (he : Cl[i]? = some e) (w : World) : Calls Tryd.prog 80 #[.string (tC.extract (i * 12 + 10) ((i + 1) * 12))] w fun x w' => x = .returned (.int .u32 e.2.2) ∧ w = w' := by
  obtain ⟨e', x, y, h1, h2, h3, h4, h5, h6, h7⟩ := C_row i hi
  rw [he] at h1; obtain rfl := Option.some.inj h1
  rw [Lib.extract_data, show i * 12 + 12 - i * 12 = 12 by omega] at h2
  have hl : (tC.extract (i * 12 + 10) ((i + 1) * 12)).data.toList = [x, y] := by
    rw [Lib.extract_data, show (i + 1) * 12 - (i * 12 + 10) = 2 by omega]
    have := congrArg (fun l => List.drop 10 l) h2
    simp only [List.drop_take, List.drop_drop] at this
    exact this
  have hz : (tC.extract (i * 12 + 10) ((i + 1) * 12)).size = 2 := by rw [← len_data, hl]; rfl
  have h := read_any (tC.extract (i * 12 + 10) ((i + 1) * 12)) w (by omega) (fun z hz => by
    rw [hl] at hz
    simp only [List.mem_cons, List.not_mem_nil, or_false] at hz
    rcases hz with rfl | rfl
    · exact h3
    · exact h4)
  unfold rdS at h
  rwa [hl, h5] at h

set_option maxHeartbeats 2000000 in
theorem class_found (c : Nat) (hc : c < 4294967296) (w : World) (ht : Tz w) (ix : Nat) (hix : clsIx (min c 1048575) = ix) (hlt : ix < 388) (e) (he : Cl[ix]? = some e) (h : e.1 ≤ min c 1048575 ∧ cfind c = some e) :
    Calls Tryd.prog 46 #[.int .u32 c] w fun e w' => e = .returned (.int .i64 (cls c)) ∧ Gr w w' := by
  have hcl : cls c = e.2.2 := by unfold cls; rw [h.2]
  have hq : ((ix : Int) == 388) = false := by rw [beq_eq_false_iff_ne]; omega
  obtain ⟨e', k1, k2, k3, k4, k5, k6⟩ := C_end ix hlt
  have ee : e = e' := Option.some.inj (he.symm.trans k1)
  subst ee
  have hbd := C_bd e (List.mem_of_getElem? he)
  have hb : (e.2.2 : Int) ≤ 255 := by omega
  have H1 := hid hix
  have H2 := hid hcl
  have HE := hid he
  have hs : tC.size = 4656 := C_size
  have hle : (Op.bytesLess (tC.extract (ix * 12) (ix * 12 + 5)).toList (fiveB (min c 1048575)).toList = true ∧ ((tC.extract (ix * 12) (ix * 12 + 5)).toList == (fiveB (min c 1048575)).toList) = false) ∨
      (Op.bytesLess (tC.extract (ix * 12) (ix * 12 + 5)).toList (fiveB (min c 1048575)).toList = false ∧ ((tC.extract (ix * 12) (ix * 12 + 5)).toList == (fiveB (min c 1048575)).toList) = true) := by
    rw [k4, fiveB_list, less_five' _ _ k5 (min_lt c)]
    by_cases hlt' : e.1 < min c 1048575
    · exact .inl ⟨decide_eq_true hlt', beq_eq_false_iff_ne.2 fun h' => by have := five_inj k5 (min_lt c) h'; omega⟩
    · refine .inr ⟨decide_eq_false hlt', ?_⟩
      rw [show e.1 = min c 1048575 by omega]; exact beq_self_eq_true _
  clear h hcl he k1 k2 k3 k4 k5 k6 hix hbd
  rcases hle with ⟨hless, heq⟩ | ⟨hless, heq⟩
  all_goals
    go_enter Tryd.func46, Tryd.ntmps46
    go_name_bytes T hT
    have eT : T = tC := by rw [← hT]; with_unfolding_all rfl
    subst eT
    clear hT
    go_wp2_with fail
    refine (five_any c hc _ ht).mono ?_
    rintro x w1 ⟨rfl, g1⟩
    go_wp2_with fail
    refine (search_class _ _ _ _ (cells2 ..).1 (cells2 ..).2 (min_lt c)).mono ?_
    rw [H1.out]
    rintro x w2 ⟨rfl, g2⟩
    obtain ⟨c0, c1, g3⟩ := cells2g g2
    clear g2
    go_wp2_with fail
    go_quiet (fail)
    go_wp2_with fail
    refine (C_class ix hlt e HE.out _).mono ?_
    rintro x w3 ⟨rfl, rfl⟩
    go_wp2
    go_ret
    exact ⟨by rw [H2.out]; rfl, (g1.trans g3).trans (Gr.drewN _ _)⟩

theorem class_any (c : Nat) (hc : c < 4294967296) (w : World) (ht : Tz w) : Calls Tryd.prog 46 #[.int .u32 c] w fun e w' => e = .returned (.int .i64 (cls c)) ∧ Gr w w' := by
  rcases clsIx_cases c with h | ⟨e, h1, h2, h | h⟩
  · exact class_all c hc w ht h
  · exact class_found c hc w ht _ rfl h1 e h2 h
  · exact class_over c hc w ht _ rfl h1 e h2 h

theorem cls_le (c : Nat) : cls c ≤ 255 := by
  unfold cls
  split
  · rename_i e h; exact (C_bd e (cfind_some h).1).2.2.2
  · omega

/-- What a character may be: 0: it may stand; 1: it may not; 2: perhaps. -/
noncomputable def quick (c : Nat) : Nat := match dfind c with
  | some e => if e.2.2.2 then (if second c then 2 else 0) else 1
  | none => if second c then 2 else 0

set_option maxHeartbeats 1000000 in
theorem quick_no (c : Nat) (hc : c < 4294967296) (w : World) (ht : Tz w) (h : dfind c = none) : Calls Tryd.prog 61 #[.int .u32 c] w fun e w' => e = .returned (.int .u8 (quick c)) ∧ Gr w w' := by
  have hq : quick c = if second c then 2 else 0 := by unfold quick; rw [h]
  have HQ := hid hq
  have h' := hid h
  clear h hq
  cases hs : second c
  all_goals
    have HS := hid hs
    have hsec := fun w' (g : Gr w w') => second_any c hc w' (ht.gr g)
    rw [hs] at hsec
    have HSEC := hid hsec
    clear hs hsec
    go_enter Tryd.func61, Tryd.ntmps61
    go_name_bytes T hT
    have eT : T = tD := by rw [← hT]; with_unfolding_all rfl
    subst eT
    clear hT
    go_wp2_with (first | (go_at_call 64; refine (five_any c hc _ ht).mono ?_; rintro e w1 ⟨rfl, g1⟩) | (go_at_call 63; refine (find_D_no c _ h'.out).mono ?_; rintro e w2 ⟨rfl, g2⟩) | (go_at_call 91; refine (HSEC.out _ (g1.trans g2)).mono ?_; rintro e w3 ⟨rfl, g3⟩))
    go_ret
    exact ⟨by rw [HQ.out, HS.out]; rfl, (g1.trans g2).trans g3⟩

set_option maxHeartbeats 1000000 in
theorem quick_yes (c : Nat) (hc : c < 4294967296) (w : World) (ht : Tz w) (e) (h : dfind c = some e) : Calls Tryd.prog 61 #[.int .u32 c] w fun x w' => x = .returned (.int .u8 (quick c)) ∧ Gr w w' := by
  have hq : quick c = if e.2.2.2 then (if second c then 2 else 0) else 1 := by unfold quick; rw [h]
  have HQ := hid hq
  have h' := hid h
  clear h hq
  cases hf : e.2.2.2
  · have HF := hid hf
    clear hf
    go_enter Tryd.func61, Tryd.ntmps61
    go_name_bytes T hT
    have eT : T = tD := by rw [← hT]; with_unfolding_all rfl
    subst eT
    clear hT
    go_wp2_with (first | (go_at_call 64; refine (five_any c hc _ ht).mono ?_; rintro x w1 ⟨rfl, g1⟩) | (go_at_call 63; refine (find_D_yes c _ e h'.out).mono ?_; rintro x w2 ⟨s, rfl, hr, g2⟩; have hs := hr.size; have hfl := (hr.flag hs).2; rw [HF.out] at hfl))
    go_ret
    exact ⟨by rw [HQ.out, HF.out]; rfl, g1.trans g2⟩
  · have HF := hid hf
    clear hf
    cases hs : second c
    all_goals
      have HS := hid hs
      have hsec := fun w' (g : Gr w w') => second_any c hc w' (ht.gr g)
      rw [hs] at hsec
      have HSEC := hid hsec
      clear hs hsec
      go_enter Tryd.func61, Tryd.ntmps61
      go_name_bytes T hT
      have eT : T = tD := by rw [← hT]; with_unfolding_all rfl
      subst eT
      clear hT
      go_wp2_with (first | (go_at_call 64; refine (five_any c hc _ ht).mono ?_; rintro x w1 ⟨rfl, g1⟩) | (go_at_call 63; refine (find_D_yes c _ e h'.out).mono ?_; rintro x w2 ⟨s, rfl, hr, g2⟩; have hz := hr.size; have hfl := (hr.flag hz).2; rw [HF.out] at hfl) | (go_at_call 91; refine (HSEC.out _ (g1.trans g2)).mono ?_; rintro x w3 ⟨rfl, g3⟩))
      go_ret
      exact ⟨by rw [HQ.out, HF.out, HS.out]; rfl, (g1.trans g2).trans g3⟩

theorem quick_any (c : Nat) (hc : c < 4294967296) (w : World) (ht : Tz w) : Calls Tryd.prog 61 #[.int .u32 c] w fun x w' => x = .returned (.int .u8 (quick c)) ∧ Gr w w' := by
  cases h : dfind c with
  | none => exact quick_no c hc w ht h
  | some e => exact quick_yes c hc w ht e h

/-- Does nothing ahead matter to what is behind? -/
noncomputable def starts (c : Nat) : Bool := Nat.beq (cls c) 0 && Nat.beq (quick c) 0

set_option maxHeartbeats 1000000 in
theorem starts_any (c : Nat) (hc : c < 4294967296) (w : World) (ht : Tz w) : Calls Tryd.prog 29 #[.int .u32 c] w fun x w' => x = .returned (.bool (starts c)) ∧ Gr w w' := by
  by_cases h0 : cls c = 0
  · have hb : ((cls c : Int) == 0) = true := by rw [h0]; rfl
    have hst : starts c = ((quick c : Int) == 0) := by
      unfold starts; rw [h0]
      rw [Bool.eq_iff_iff]; simp
    have HST := hid hst
    clear hst h0
    go_enter Tryd.func29, Tryd.ntmps29
    go_wp2_with (first | (go_at_call 46; refine (class_any c hc _ ht).mono ?_; rintro x w1 ⟨rfl, g1⟩) | (go_at_call 61; refine (quick_any c hc _ (ht.gr g1)).mono ?_; rintro x w2 ⟨rfl, g2⟩))
    go_ret
    exact ⟨by rw [HST.out]; rfl, g1.trans g2⟩
  · have hb : ((cls c : Int) == 0) = false := by rw [beq_eq_false_iff_ne]; omega
    have hst : starts c = false := by
      unfold starts; rw [show Nat.beq (cls c) 0 = false from by rw [← Bool.not_eq_true, Nat.beq_eq]; exact h0]; rfl
    have HST := hid hst
    clear hst h0
    go_enter Tryd.func29, Tryd.ntmps29
    go_wp2_with (first | (go_at_call 46; refine (class_any c hc _ ht).mono ?_; rintro x w1 ⟨rfl, g1⟩) | (go_at_call 61; refine (quick_any c hc _ (ht.gr g1)).mono ?_; rintro x w2 ⟨rfl, g2⟩))
    go_ret
    exact ⟨by rw [HST.out]; rfl, g1⟩
end Go.Proofs.YtgjlneedpbgfpaaDoor
