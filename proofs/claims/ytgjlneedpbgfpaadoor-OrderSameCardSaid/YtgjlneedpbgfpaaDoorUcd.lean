import Derived.Test.YtgjlneedpbgfpaaDoorLook
import Derived.Lib.ItoaWalk
import Derived.Laws.BitsAllLaws
/- The walks of the package ucd over its tables. -/
namespace Go.Proofs.YtgjlneedpbgfpaaDoor
open Go.RowKit

theorem take5 (l m : List UInt8) (h : l.length = 5) : (l ++ m).take 5 = l := by rw [← h, List.take_left]
theorem fiveB_list (m : Nat) : (fiveB m).toList = five5 m := by rw [Lib.toList_data]; rfl
theorem not_lt_dec (a b : Nat) : (!decide (a < b)) = decide (b ≤ a) := by rw [← decide_not, decide_eq_decide]; omega

noncomputable def ND (i : Nat) : Nat := (Dl.getD i (0, 0, 0, false)).1
theorem D_head (i : Nat) (hi : i < 2061) : ((tD.extract (i * 16) (i * 16 + 16)).extract 0 5).toList = five5 (ND i) ∧ ND i < 1048576 := by
  obtain ⟨e, f, h1, h2, h3, h4, h5, h6⟩ := D_row i hi
  have hN : ND i = e.1 := by unfold ND; rw [List.getD, h1]; rfl
  rw [hN]
  refine ⟨?_, h4⟩
  rw [Lib.toList_data, Lib.extract_data, h2]
  exact take5 _ _ rfl

theorem find_D_facts (m : Nat) (hm : m < 1048576) : (∀ a b, a ≤ b → b < tD.size / 16 → geKey tD 16 (fiveB m) a = true → geKey tD 16 (fiveB m) b = true) ∧ ((∀ i, i < 2061 → ND i ≠ m) → findRow tD 16 (fiveB m) = none) ∧ (∀ i, i < 2061 → ND i = m → findRow tD 16 (fiveB m) = some i) := by
  refine findRow_num tD 16 (fiveB m) 2061 ND m (by rw [D_size]) (fun i hi => ?_) (fun i hi => ?_) (fun i j hij hj => ?_)
  · obtain ⟨h1, h2⟩ := D_head i hi
    unfold geKey
    rw [fiveB_size, h1, fiveB_list, less_five' _ _ h2 hm, not_lt_dec]
  · obtain ⟨h1, h2⟩ := D_head i hi
    rw [fiveB_size, h1, fiveB_list]
    by_cases h : ND i = m
    · rw [decide_eq_true h, h]; exact beq_self_eq_true _
    · rw [decide_eq_false h]; exact beq_eq_false_iff_ne.2 fun h' => h (five_inj h2 hm h')
  · have hl : Dl.length = 2061 := Dl_len
    have h1 : Dl[i]? = some (Dl.getD i (0, 0, 0, false)) := by rw [List.getD, List.getElem?_eq_getElem (by omega)]; rfl
    have h2 : Dl[j]? = some (Dl.getD j (0, 0, 0, false)) := by rw [List.getD, List.getElem?_eq_getElem (by omega)]; rfl
    exact pair_at D_inc h1 h2 hij

theorem min_lt (c : Nat) : min c 1048575 < 1048576 := by omega

theorem find_D_no (c : Nat) (w : World) (h : dfind c = none) : Calls Tryd.prog 63 #[.string tD, .int .i64 16, .string (fiveB (min c 1048575))] w fun e w' => e = .returned (.tuple #[.string ⟨#[]⟩, .bool false]) ∧ Gr w w' := by
  obtain ⟨h1, h2, _⟩ := find_D_facts (min c 1048575) (min_lt c)
  refine find_no 16 (.inl rfl) tD _ w (by rw [fiveB_size]; omega) (by rw [D_size]; omega) h1 (h2 fun i hi hn => ?_)
  rw [← dfind_min] at h
  have hl : Dl.length = 2061 := Dl_len
  refine dfind_none h (Dl.getD i (0, 0, 0, false)) ?_ hn
  rw [List.getD, List.getElem?_eq_getElem (by omega)]
  exact List.getElem_mem _

/-- A row of the decompositions. -/
def RowD (e : Nat × Nat × Nat × Bool) (s : ByteArray) : Prop := ∃ f, s.data.toList = five5 e.1 ++ (five5 e.2.1 ++ (five5 e.2.2.1 ++ [f])) ∧ e.2.2.2 = Nat.beq f.toNat 99 ∧ e.1 < 1048576 ∧ e.2.1 < 1048576 ∧ e.2.2.1 < 1048576
def SomeRowD (e : Nat × Nat × Nat × Bool) (w : World) (x : Ending) (w' : World) : Prop := ∃ s, x = .returned (.tuple #[.string s, .bool true]) ∧ RowD e s ∧ Gr w w'

theorem find_D_yes (c : Nat) (w : World) (e) (h : dfind c = some e) : Calls Tryd.prog 63 #[.string tD, .int .i64 16, .string (fiveB (min c 1048575))] w (SomeRowD e w) := by
  obtain ⟨h1, _, h3⟩ := find_D_facts (min c 1048575) (min_lt c)
  rw [← dfind_min] at h
  obtain ⟨hm, he⟩ := dfind_some h
  obtain ⟨i, hi⟩ := List.mem_iff_getElem?.1 hm
  have hi' : i < 2061 := by rw [← Dl_len]; exact (List.getElem?_eq_some_iff.1 hi).1
  obtain ⟨e', f, g1, g2, g3⟩ := D_row i hi'
  rw [hi] at g1
  obtain rfl := Option.some.inj g1
  have hN : ND i = min c 1048575 := by unfold ND; rw [List.getD, hi]; exact he
  exact (find_yes 16 (.inl rfl) tD _ w i (by rw [fiveB_size]; omega) (by rw [D_size]; omega) h1 (h3 i hi' hN)).mono fun x w' ⟨hx, hg⟩ => ⟨_, hx, ⟨f, g2, g3⟩, hg⟩

/-- The number that a string of digits tells. -/
def rdS (s : ByteArray) : Nat := val s.data.toList
theorem val_snoc (l : List UInt8) (c : UInt8) : val (l ++ [c]) = 16 * val l + hvb c := by unfold val; rw [List.foldl_append]; rfl
theorem foldl_sh_lt (l : List UInt8) : ∀ n, (∀ c ∈ l, isHex c = true) → l.foldl sh n < (n + 1) * 16 ^ l.length := by
  induction l with
  | nil => intro n _; simp
  | cons c l ih =>
    intro n h
    have h1 := ih (sh n c) (fun x hx => h x (List.mem_cons_of_mem _ hx))
    have h2 := (hex_dig c (h c (by simp))).2
    refine Nat.lt_of_lt_of_le h1 ?_
    rw [List.length_cons, Nat.pow_succ, Nat.mul_comm (16 ^ l.length) 16, ← Nat.mul_assoc]
    refine Nat.mul_le_mul_right _ ?_
    show Nat.add (Nat.mul 16 n) (hvb c) + 1 ≤ _
    simp only [Nat.add_eq, Nat.mul_eq]; omega
theorem val_lt (l : List UInt8) (h : ∀ c ∈ l, isHex c = true) : val l < 16 ^ l.length := by
  have := foldl_sh_lt l 0 h
  simpa [val] using this

theorem rd_step (l : List UInt8) (c : UInt8) (hl : l.length ≤ 6) (h : ∀ x ∈ l, isHex x = true) (d : Int) (hd : d = (hvb c : Int)) (hc : hvb c < 16) : bits .or .u32 ((val l : Int) * 16 % 4294967296) d = (val (l ++ [c]) : Int) := by
  have h1 := val_lt l h
  have h2 : 16 ^ l.length ≤ 16 ^ 6 := Nat.pow_le_pow_right (by omega) hl
  subst hd
  rw [val_snoc, show (val l : Int) * 16 % 4294967296 = ((2 ^ 4 * val l : Nat) : Int) by omega, u32_or_nat _ _ (by omega) (by omega), ← Nat.two_pow_add_eq_or_of_lt hc]

theorem hv_low (c : UInt8) (h : isHex c = true) (hc : (c.toNat : Int) < 97) : ((c.toNat : Int) - 48) % 256 = (hvb c : Int) := by
  have hb : Nat.ble 97 c.toNat = false := by rw [← Bool.not_eq_true, Nat.ble_eq]; omega
  unfold isHex at h
  rw [hb] at h
  simp only [Bool.or_eq_true, Bool.and_eq_true, Nat.ble_eq, Bool.false_and, Bool.false_eq_true, or_false] at h
  unfold hvb; rw [hb]; simp only [cond_false, Nat.sub_eq]; omega
theorem hv_high (c : UInt8) (h : isHex c = true) (hc : 97 ≤ (c.toNat : Int)) : ((c.toNat : Int) - 97 + 10) % 256 = (hvb c : Int) := by
  have hb : Nat.ble 97 c.toNat = true := by rw [Nat.ble_eq]; omega
  unfold isHex at h
  simp only [Bool.or_eq_true, Bool.and_eq_true, Nat.ble_eq] at h
  unfold hvb; rw [hb]; simp only [cond_true, Nat.sub_eq]; omega

theorem take_snoc (s : ByteArray) (k : Nat) (h : k < s.size) : s.data.toList.take (k + 1) = s.data.toList.take k ++ [s[k]] := by
  rw [List.take_succ_eq_append_getElem (by simpa using h)]; rfl
theorem mem_at (s : ByteArray) (k : Nat) (h : k < s.size) : s[k] ∈ s.data.toList := by
  have : s[k] = s.data.toList[k]'(by simpa using h) := rfl
  rw [this]; exact List.getElem_mem _

theorem rd_low (s : ByteArray) (k : Nat) (h : k < s.size) (hs : s.size ≤ 7) (hh : ∀ c ∈ s.data.toList, isHex c = true) (hc : (s[k].toNat : Int) < 97) :
    bits .or .u32 ((val (s.data.toList.take k) : Int) * 16 % 4294967296) (((s[k].toNat : Int) - 48) % 256) = (val (s.data.toList.take (k + 1)) : Int) := by
  have hx := hh _ (mem_at s k h)
  rw [take_snoc s k h]
  exact rd_step _ _ (by rw [List.length_take]; omega) (fun x hx => hh x (List.mem_of_mem_take hx)) _ (hv_low _ hx hc) (hex_dig _ hx).2
theorem rd_high (s : ByteArray) (k : Nat) (h : k < s.size) (hs : s.size ≤ 7) (hh : ∀ c ∈ s.data.toList, isHex c = true) (hc : 97 ≤ (s[k].toNat : Int)) :
    bits .or .u32 ((val (s.data.toList.take k) : Int) * 16 % 4294967296) (((s[k].toNat : Int) - 97 + 10) % 256) = (val (s.data.toList.take (k + 1)) : Int) := by
  have hx := hh _ (mem_at s k h)
  rw [take_snoc s k h]
  exact rd_step _ _ (by rw [List.length_take]; omega) (fun x hx => hh x (List.mem_of_mem_take hx)) _ (hv_high _ hx hc) (hex_dig _ hx).2

set_option maxHeartbeats 1000000 in
theorem read_any (s : ByteArray) (w : World) (hs : s.size ≤ 7) (hh : ∀ c ∈ s.data.toList, isHex c = true) : Calls Tryd.prog 80 #[.string s] w fun e w' => e = .returned (.int .u32 (rdS s)) ∧ w = w' := by
  have hh' := hid hh
  clear hh
  go_enter Tryd.func80, Tryd.ntmps80
  go_wp2
  go_loop [3, 4, 5, 8] (fun vn _ _ vk => ∃ k : Nat, k ≤ s.size ∧ vk = .int .i64 k ∧ vn = .int .u32 (val (s.data.toList.take k))) (fun _ _ _ vk => s.size - (intOf vk).toNat)
  case atStart => exact ⟨0, Nat.zero_le _, rfl, rfl⟩
  case round =>
    obtain ⟨k, hk, rfl, rfl⟩ := hrel
    by_cases hlt : k < s.size
    · go_wp2
      · have hc : 97 ≤ (s[k].toNat : Int) := by assumption
        exact ⟨⟨k + 1, hlt, by simp, by rw [rd_high s k hlt hs hh'.out hc]⟩, by simp [intOf]; omega⟩
      · have hc : (s[k].toNat : Int) < 97 := by assumption
        exact ⟨⟨k + 1, hlt, by simp, by rw [rd_low s k hlt hs hh'.out hc]⟩, by simp [intOf]; omega⟩
    · go_wp2
      go_ret
      have hk' : k = s.size := by omega
      have e : val (s.data.toList.take k) = rdS s := by unfold rdS; rw [hk', List.take_of_length_le (by simp)]
      exact ⟨by rw [← e]; rfl, rfl⟩

theorem RowD.size {e : Nat × Nat × Nat × Bool} {s : ByteArray} (h : RowD e s) : s.size = 16 := by
  obtain ⟨f, h, _⟩ := h
  have : s.data.toList.length = 16 := by rw [h]; rfl
  simpa using this
theorem RowD.second {e : Nat × Nat × Nat × Bool} {s : ByteArray} (h : RowD e s) : (s.extract 5 10).data.toList = five5 e.2.1 ∧ e.2.1 < 1048576 := by
  obtain ⟨f, h, _, _, h5, _⟩ := h
  exact ⟨by rw [Lib.extract_data, h]; rfl, h5⟩
theorem RowD.third {e : Nat × Nat × Nat × Bool} {s : ByteArray} (h : RowD e s) : (s.extract 10 15).data.toList = five5 e.2.2.1 ∧ e.2.2.1 < 1048576 := by
  obtain ⟨f, h, _, _, _, h5⟩ := h
  exact ⟨by rw [Lib.extract_data, h]; rfl, h5⟩

theorem RowD.hex {e : Nat × Nat × Nat × Bool} {s : ByteArray} (h : RowD e s) (a b : Nat) (hb : b ≤ 15) : ∀ c ∈ (s.extract a b).data.toList, isHex c = true := by
  obtain ⟨f, h, _, h4, h5, h6⟩ := h
  intro c hc
  rw [Lib.extract_data, h] at hc
  have h1 : c ∈ (five5 e.1 ++ (five5 e.2.1 ++ (five5 e.2.2.1 ++ [f]))).take b := by
    rw [List.mem_iff_getElem?] at hc ⊢
    obtain ⟨i, hi⟩ := hc
    refine ⟨a + i, ?_⟩
    rw [List.getElem?_take] at hi ⊢
    rw [List.getElem?_drop] at hi
    split at hi
    · rw [if_pos (by omega)]; exact hi
    · cases hi
  have h2 : c ∈ (five5 e.1 ++ (five5 e.2.1 ++ (five5 e.2.2.1 ++ [f]))).take 15 := List.mem_of_mem_take (i := b) (by rw [List.take_take, Nat.min_eq_left hb]; exact h1)
  have h3 : (five5 e.1 ++ (five5 e.2.1 ++ (five5 e.2.2.1 ++ [f]))).take 15 = five5 e.1 ++ (five5 e.2.1 ++ five5 e.2.2.1) := rfl
  rw [h3] at h2
  rcases List.mem_append.1 h2 with h | h
  · exact five_hex _ h4 c h
  · rcases List.mem_append.1 h with h | h
    · exact five_hex _ h5 c h
    · exact five_hex _ h6 c h

theorem read_five (s : ByteArray) (m : Nat) (w : World) (h : s.data.toList = five5 m) (hm : m < 1048576) : Calls Tryd.prog 80 #[.string s] w fun e w' => e = .returned (.int .u32 m) ∧ w = w' := by
  have hl : s.size = 5 := by have : s.data.toList.length = 5 := by rw [h]; rfl
                             simpa using this
  have h1 := read_any s w (by omega) (by rw [h]; exact five_hex m hm)
  unfold rdS at h1
  rwa [h, val_five m hm] at h1

set_option maxHeartbeats 1000000 in
theorem decomp_no (c : Nat) (hc : c < 4294967296) (w : World) (ht : Tz w) (h : dfind c = none) : Calls Tryd.prog 47 #[.int .u32 c] w fun e w' => e = .returned (.tuple #[.int .u32 0, .int .u32 0, .bool false]) ∧ Gr w w' := by
  have h' := hid h
  clear h
  go_enter Tryd.func47, Tryd.ntmps47
  go_name_bytes T hT
  have eT : T = tD := by rw [← hT]; with_unfolding_all rfl
  subst eT
  clear hT
  go_wp2_with (first | (go_at_call 64; refine (five_any c hc _ ht).mono ?_; rintro e w1 ⟨rfl, g1⟩) | (go_at_call 63; refine (find_D_no c _ h'.out).mono ?_; rintro e w2 ⟨rfl, g2⟩))
  go_ret3
  exact ⟨rfl, g1.trans g2⟩

set_option maxHeartbeats 1000000 in
theorem decomp_yes (c : Nat) (hc : c < 4294967296) (w : World) (ht : Tz w) (e) (h : dfind c = some e) : Calls Tryd.prog 47 #[.int .u32 c] w fun x w' => x = .returned (.tuple #[.int .u32 e.2.1, .int .u32 e.2.2.1, .bool true]) ∧ Gr w w' := by
  have h' := hid h
  clear h
  go_enter Tryd.func47, Tryd.ntmps47
  go_name_bytes T hT
  have eT : T = tD := by rw [← hT]; with_unfolding_all rfl
  subst eT
  clear hT
  go_wp2_with (first | (go_at_call 64; refine (five_any c hc _ ht).mono ?_; rintro x w1 ⟨rfl, g1⟩) | (go_at_call 63; refine (find_D_yes c _ e h'.out).mono ?_; rintro x w2 ⟨s, rfl, hr, g2⟩; have hs := hr.size))
  go_quiet ((go_at_call 80; exact Calls.quiet_of_same ((read_any _ _ (by rw [ByteArray.size_extract]; omega) (hr.hex _ _ (by omega))).mono fun _ _ h => ⟨h.1, h.2.symm⟩)))
  go_wp2
  go_ret3
  have e1 := hr.second
  have e2 := hr.third
  have q1 : rdS (s.extract 5 10) = e.2.1 := by unfold rdS; rw [e1.1, val_five _ e1.2]
  have q2 : rdS (s.extract 10 15) = e.2.2.1 := by unfold rdS; rw [e2.1, val_five _ e2.2]
  exact ⟨by rw [← q1, ← q2]; rfl, (g1.trans g2).trans (Gr.drewN _ _)⟩

/-- What 'Decomp' tells. -/
noncomputable def dval (c : Nat) : Value := match dfind c with | some e => .tuple #[.int .u32 e.2.1, .int .u32 e.2.2.1, .bool true] | none => .tuple #[.int .u32 0, .int .u32 0, .bool false]

set_option maxHeartbeats 1000000 in
theorem composes_no (c : Nat) (hc : c < 4294967296) (w : World) (ht : Tz w) (h : dfind c = none) : Calls Tryd.prog 31 #[.int .u32 c] w fun e w' => e = .returned (.bool false) ∧ Gr w w' := by
  have h' := hid h
  clear h
  go_enter Tryd.func31, Tryd.ntmps31
  go_name_bytes T hT
  have eT : T = tD := by rw [← hT]; with_unfolding_all rfl
  subst eT
  clear hT
  go_wp2_with (first | (go_at_call 64; refine (five_any c hc _ ht).mono ?_; rintro e w1 ⟨rfl, g1⟩) | (go_at_call 63; refine (find_D_no c _ h'.out).mono ?_; rintro e w2 ⟨rfl, g2⟩))
  go_ret
  exact ⟨rfl, g1.trans g2⟩

theorem RowD.flag {e : Nat × Nat × Nat × Bool} {s : ByteArray} (h : RowD e s) (hs : s.size = 16) : ((s[15].toNat : Int) == 99) = e.2.2.2 ∧ ((s[15].toNat : Int) != 99) = !e.2.2.2 := by
  obtain ⟨f, h, h2, _⟩ := h
  have h15 : s.data.toList[15]? = some f := by rw [h]; rfl
  have : s[15] = f := by
    have : s.data.toList[15]? = some s[15] := by rw [List.getElem?_eq_getElem (by simpa using hs ▸ (by omega : 15 < 16))]; rfl
    rw [h15] at this; exact (Option.some.inj this).symm
  rw [this, h2]
  have e1 : ((f.toNat : Int) == 99) = Nat.beq f.toNat 99 := by
    rw [Bool.eq_iff_iff, Nat.beq_eq, beq_iff_eq]; omega
  refine ⟨e1, ?_⟩
  rw [bne, e1]

set_option maxHeartbeats 1000000 in
theorem composes_yes (c : Nat) (hc : c < 4294967296) (w : World) (ht : Tz w) (e) (h : dfind c = some e) : Calls Tryd.prog 31 #[.int .u32 c] w fun x w' => x = .returned (.bool e.2.2.2) ∧ Gr w w' := by
  have h' := hid h
  clear h
  go_enter Tryd.func31, Tryd.ntmps31
  go_name_bytes T hT
  have eT : T = tD := by rw [← hT]; with_unfolding_all rfl
  subst eT
  clear hT
  go_wp2_with (first | (go_at_call 64; refine (five_any c hc _ ht).mono ?_; rintro x w1 ⟨rfl, g1⟩) | (go_at_call 63; refine (find_D_yes c _ e h'.out).mono ?_; rintro x w2 ⟨s, rfl, hr, g2⟩; have hs := hr.size; have hfl := (hr.flag hs).1))
  go_ret
  exact ⟨rfl, g1.trans g2⟩
end Go.Proofs.YtgjlneedpbgfpaaDoor
