import Derived.Lib.ItoaWalk
import Derived.Laws.BitsAllLaws
import Derived.Test.YthlflglkdaainaaGreatDoorPA
/- Texts of this seat: KB. -/
set_option maxRecDepth 100000
set_option maxHeartbeats 8000000
namespace Go.Proofs.YthlflglkdaainaaGreatDoor
open Go.RowKit
theorem take5 (l m : List UInt8) (h : l.length = 5) : (l ++ m).take 5 = l := by rw [← h, List.take_left]
theorem fiveB_list (m : Nat) : (fiveB m).toList = five5 m := by rw [Lib.toList_data]; rfl
theorem not_lt_dec (a b : Nat) : (!decide (a < b)) = decide (b ≤ a) := by rw [← decide_not, decide_eq_decide]; omega
noncomputable def ND (i : Nat) : Nat := (Dl.getD i (0, 0, 0, false)).1
theorem D_head (i : Nat) (hi : i < 2061) : ((tD.extract (i * 16) (i * 16 + 16)).extract 0 5).toList = five5 (ND i) ∧ ND i < 1048576 := by
 obtain ⟨e, f, h1, h2, h3, h4, h5, h6⟩ := D_row i hi
 have hN : ND i = e.1 := by unfold ND; rw [List.getD, h1]; rfl
 rw [hN]
 refine ⟨?_, h4⟩
 rw [Lib.toList_data, Lib.extract_data, h2]
 exact take5 _ _ rfl
theorem find_D_facts (m : Nat) (hm : m < 1048576) : (∀ a b, a ≤ b → b < tD.size / 16 → geKey tD 16 (fiveB m) a = true → geKey tD 16 (fiveB m) b = true) ∧ ((∀ i, i < 2061 → ND i ≠ m) → findRow tD 16 (fiveB m) = none) ∧ (∀ i, i < 2061 → ND i = m → findRow tD 16 (fiveB m) = some i) := by
 refine findRow_num tD 16 (fiveB m) 2061 ND m (by rw [D_size]) (fun i hi => ?_) (fun i hi => ?_) (fun i j hij hj => ?_)
 · obtain ⟨h1, h2⟩ := D_head i hi
   unfold geKey
   rw [fiveB_size, h1, fiveB_list, less_five' _ _ h2 hm, not_lt_dec]
 · obtain ⟨h1, h2⟩ := D_head i hi
   rw [fiveB_size, h1, fiveB_list]
   by_cases h : ND i = m
   · rw [decide_eq_true h, h]; exact beq_self_eq_true _
   · rw [decide_eq_false h]; exact beq_eq_false_iff_ne.2 fun h' => h (five_inj h2 hm h')
 · have hl : Dl.length = 2061 := Dl_len
   have h1 : Dl[i]? = some (Dl.getD i (0, 0, 0, false)) := by rw [List.getD, List.getElem?_eq_getElem (by omega)]; rfl
   have h2 : Dl[j]? = some (Dl.getD j (0, 0, 0, false)) := by rw [List.getD, List.getElem?_eq_getElem (by omega)]; rfl
   exact pair_at D_inc h1 h2 hij
theorem min_lt (c : Nat) : min c 1048575 < 1048576 := by omega
theorem find_D_no (c : Nat) (w : World) (h : dfind c = none) : Calls Tryz.prog 163 #[.string tD, .int .i64 16, .string (fiveB (min c 1048575))] w fun e w' => e = .returned (.tuple #[.string ⟨#[]⟩, .bool false]) ∧ Gr w w' := by
 obtain ⟨h1, h2, _⟩ := find_D_facts (min c 1048575) (min_lt c)
 refine find_no 16 (.inl rfl) tD _ w (by rw [fiveB_size]; omega) (by rw [D_size]; omega) h1 (h2 fun i hi hn => ?_)
 rw [← dfind_min] at h
 have hl : Dl.length = 2061 := Dl_len
 refine dfind_none h (Dl.getD i (0, 0, 0, false)) ?_ hn
 rw [List.getD, List.getElem?_eq_getElem (by omega)]
 exact List.getElem_mem _
def RowD (e : Nat × Nat × Nat × Bool) (s : ByteArray) : Prop := ∃ f, s.data.toList = five5 e.1 ++ (five5 e.2.1 ++ (five5 e.2.2.1 ++ [f])) ∧ e.2.2.2 = Nat.beq f.toNat 99 ∧ e.1 < 1048576 ∧ e.2.1 < 1048576 ∧ e.2.2.1 < 1048576
def SomeRowD (e : Nat × Nat × Nat × Bool) (w : World) (x : Ending) (w' : World) : Prop := ∃ s, x = .returned (.tuple #[.string s, .bool true]) ∧ RowD e s ∧ Gr w w'
theorem find_D_yes (c : Nat) (w : World) (e) (h : dfind c = some e) : Calls Tryz.prog 163 #[.string tD, .int .i64 16, .string (fiveB (min c 1048575))] w (SomeRowD e w) := by
 obtain ⟨h1, _, h3⟩ := find_D_facts (min c 1048575) (min_lt c)
 rw [← dfind_min] at h
 obtain ⟨hm, he⟩ := dfind_some h
 obtain ⟨i, hi⟩ := List.mem_iff_getElem?.1 hm
 have hi' : i < 2061 := by rw [← Dl_len]; exact (List.getElem?_eq_some_iff.1 hi).1
 obtain ⟨e', f, g1, g2, g3⟩ := D_row i hi'
 rw [hi] at g1
 obtain rfl := Option.some.inj g1
 have hN : ND i = min c 1048575 := by unfold ND; rw [List.getD, hi]; exact he
 exact (find_yes 16 (.inl rfl) tD _ w i (by rw [fiveB_size]; omega) (by rw [D_size]; omega) h1 (h3 i hi' hN)).mono fun x w' ⟨hx, hg⟩ => ⟨_, hx, ⟨f, g2, g3⟩, hg⟩
def rdS (s : ByteArray) : Nat := val s.data.toList
theorem val_snoc (l : List UInt8) (c : UInt8) : val (l ++ [c]) = 16 * val l + hvb c := by unfold val; rw [List.foldl_append]; rfl
theorem foldl_sh_lt (l : List UInt8) : ∀ n, (∀ c ∈ l, isHex c = true) → l.foldl sh n < (n + 1) * 16 ^ l.length := by
 induction l with
 | nil => intro n _; simp
 | cons c l ih =>
  intro n h
  have h1 := ih (sh n c) (fun x hx => h x (List.mem_cons_of_mem _ hx))
  have h2 := (hex_dig c (h c (by simp))).2
  refine Nat.lt_of_lt_of_le h1 ?_
  rw [List.length_cons, Nat.pow_succ, Nat.mul_comm (16 ^ l.length) 16, ← Nat.mul_assoc]
  refine Nat.mul_le_mul_right _ ?_
  show Nat.add (Nat.mul 16 n) (hvb c) + 1 ≤ _
  simp only [Nat.add_eq, Nat.mul_eq]; omega
theorem val_lt (l : List UInt8) (h : ∀ c ∈ l, isHex c = true) : val l < 16 ^ l.length := by
 have := foldl_sh_lt l 0 h
 simpa [val] using this
theorem rd_step (l : List UInt8) (c : UInt8) (hl : l.length ≤ 6) (h : ∀ x ∈ l, isHex x = true) (d : Int) (hd : d = (hvb c : Int)) (hc : hvb c < 16) : bits .or .u32 ((val l : Int) * 16 % 4294967296) d = (val (l ++ [c]) : Int) := by
 have h1 := val_lt l h
 have h2 : 16 ^ l.length ≤ 16 ^ 6 := Nat.pow_le_pow_right (by omega) hl
 subst hd
 rw [val_snoc, show (val l : Int) * 16 % 4294967296 = ((2 ^ 4 * val l : Nat) : Int) by omega, u32_or_nat _ _ (by omega) (by omega), ← Nat.two_pow_add_eq_or_of_lt hc]
theorem hv_low (c : UInt8) (h : isHex c = true) (hc : (c.toNat : Int) < 97) : ((c.toNat : Int) - 48) % 256 = (hvb c : Int) := by
 have hb : Nat.ble 97 c.toNat = false := by rw [← Bool.not_eq_true, Nat.ble_eq]; omega
 unfold isHex at h
 rw [hb] at h
 simp only [Bool.or_eq_true, Bool.and_eq_true, Nat.ble_eq, Bool.false_and, Bool.false_eq_true, or_false] at h
 unfold hvb; rw [hb]; simp only [cond_false, Nat.sub_eq]; omega
theorem hv_high (c : UInt8) (h : isHex c = true) (hc : 97 ≤ (c.toNat : Int)) : ((c.toNat : Int) - 97 + 10) % 256 = (hvb c : Int) := by
 have hb : Nat.ble 97 c.toNat = true := by rw [Nat.ble_eq]; omega
 unfold isHex at h
 simp only [Bool.or_eq_true, Bool.and_eq_true, Nat.ble_eq] at h
 unfold hvb; rw [hb]; simp only [cond_true, Nat.sub_eq]; omega
theorem take_snoc (s : ByteArray) (k : Nat) (h : k < s.size) : s.data.toList.take (k + 1) = s.data.toList.take k ++ [s[k]] := by
 rw [List.take_succ_eq_append_getElem (by simpa using h)]; rfl
theorem mem_at (s : ByteArray) (k : Nat) (h : k < s.size) : s[k] ∈ s.data.toList := by
 have : s[k] = s.data.toList[k]'(by simpa using h) := rfl
 rw [this]; exact List.getElem_mem _
theorem rd_low (s : ByteArray) (k : Nat) (h : k < s.size) (hs : s.size ≤ 7) (hh : ∀ c ∈ s.data.toList, isHex c = true) (hc : (s[k].toNat : Int) < 97) :
    bits .or .u32 ((val (s.data.toList.take k) : Int) * 16 % 4294967296) (((s[k].toNat : Int) - 48) % 256) = (val (s.data.toList.take (k + 1)) : Int) := by
 have hx := hh _ (mem_at s k h)
 rw [take_snoc s k h]
 exact rd_step _ _ (by rw [List.length_take]; omega) (fun x hx => hh x (List.mem_of_mem_take hx)) _ (hv_low _ hx hc) (hex_dig _ hx).2
theorem rd_high (s : ByteArray) (k : Nat) (h : k < s.size) (hs : s.size ≤ 7) (hh : ∀ c ∈ s.data.toList, isHex c = true) (hc : 97 ≤ (s[k].toNat : Int)) :
    bits .or .u32 ((val (s.data.toList.take k) : Int) * 16 % 4294967296) (((s[k].toNat : Int) - 97 + 10) % 256) = (val (s.data.toList.take (k + 1)) : Int) := by
 have hx := hh _ (mem_at s k h)
 rw [take_snoc s k h]
 exact rd_step _ _ (by rw [List.length_take]; omega) (fun x hx => hh x (List.mem_of_mem_take hx)) _ (hv_high _ hx hc) (hex_dig _ hx).2
theorem read_any (s : ByteArray) (w : World) (hs : s.size ≤ 7) (hh : ∀ c ∈ s.data.toList, isHex c = true) : Calls Tryz.prog 162 #[.string s] w fun e w' => e = .returned (.int .u32 (rdS s)) ∧ w = w' := by
 have hh' := hid hh
 clear hh
 go_enter Tryz.func162, Tryz.ntmps162
 go_wp2
 go_loop [3, 4, 5, 8] (fun vn _ _ vk => ∃ k : Nat, k ≤ s.size ∧ vk = .int .i64 k ∧ vn = .int .u32 (val (s.data.toList.take k))) (fun _ _ _ vk => s.size - (intOf vk).toNat)
 case atStart => exact ⟨0, Nat.zero_le _, rfl, rfl⟩
 case round =>
  obtain ⟨k, hk, rfl, rfl⟩ := hrel
  by_cases hlt : k < s.size
  · go_wp2
    · have hc : 97 ≤ (s[k].toNat : Int) := by assumption
      exact ⟨⟨k + 1, hlt, by simp, by rw [rd_high s k hlt hs hh'.out hc]⟩, by simp [intOf]; omega⟩
    · have hc : (s[k].toNat : Int) < 97 := by assumption
      exact ⟨⟨k + 1, hlt, by simp, by rw [rd_low s k hlt hs hh'.out hc]⟩, by simp [intOf]; omega⟩
  · go_wp2
    go_ret
    have hk' : k = s.size := by omega
    have e : val (s.data.toList.take k) = rdS s := by unfold rdS; rw [hk', List.take_of_length_le (by simp)]
    exact ⟨by rw [← e]; rfl, rfl⟩
theorem RowD.size {e : Nat × Nat × Nat × Bool} {s : ByteArray} (h : RowD e s) : s.size = 16 := by
 obtain ⟨f, h, _⟩ := h
 have : s.data.toList.length = 16 := by rw [h]; rfl
 simpa using this
theorem RowD.second {e : Nat × Nat × Nat × Bool} {s : ByteArray} (h : RowD e s) : (s.extract 5 10).data.toList = five5 e.2.1 ∧ e.2.1 < 1048576 := by
 obtain ⟨f, h, _, _, h5, _⟩ := h
 exact ⟨by rw [Lib.extract_data, h]; rfl, h5⟩
theorem RowD.third {e : Nat × Nat × Nat × Bool} {s : ByteArray} (h : RowD e s) : (s.extract 10 15).data.toList = five5 e.2.2.1 ∧ e.2.2.1 < 1048576 := by
 obtain ⟨f, h, _, _, _, h5⟩ := h
 exact ⟨by rw [Lib.extract_data, h]; rfl, h5⟩
theorem RowD.hex {e : Nat × Nat × Nat × Bool} {s : ByteArray} (h : RowD e s) (a b : Nat) (hb : b ≤ 15) : ∀ c ∈ (s.extract a b).data.toList, isHex c = true := by
 obtain ⟨f, h, _, h4, h5, h6⟩ := h
 intro c hc
 rw [Lib.extract_data, h] at hc
 have h1 : c ∈ (five5 e.1 ++ (five5 e.2.1 ++ (five5 e.2.2.1 ++ [f]))).take b := by
  rw [List.mem_iff_getElem?] at hc ⊢
  obtain ⟨i, hi⟩ := hc
  refine ⟨a + i, ?_⟩
  rw [List.getElem?_take] at hi ⊢
  rw [List.getElem?_drop] at hi
  split at hi
  · rw [if_pos (by omega)]; exact hi
  · cases hi
 have h2 : c ∈ (five5 e.1 ++ (five5 e.2.1 ++ (five5 e.2.2.1 ++ [f]))).take 15 := List.mem_of_mem_take (i := b) (by rw [List.take_take, Nat.min_eq_left hb]; exact h1)
 have h3 : (five5 e.1 ++ (five5 e.2.1 ++ (five5 e.2.2.1 ++ [f]))).take 15 = five5 e.1 ++ (five5 e.2.1 ++ five5 e.2.2.1) := rfl
 rw [h3] at h2
 rcases List.mem_append.1 h2 with h | h
 · exact five_hex _ h4 c h
 · rcases List.mem_append.1 h with h | h
   · exact five_hex _ h5 c h
   · exact five_hex _ h6 c h
theorem read_five (s : ByteArray) (m : Nat) (w : World) (h : s.data.toList = five5 m) (hm : m < 1048576) : Calls Tryz.prog 162 #[.string s] w fun e w' => e = .returned (.int .u32 m) ∧ w = w' := by
 have hl : s.size = 5 := by have : s.data.toList.length = 5 := by rw [h]; rfl
                            simpa using this
 have h1 := read_any s w (by omega) (by rw [h]; exact five_hex m hm)
 unfold rdS at h1
 rwa [h, val_five m hm] at h1
theorem decomp_no (c : Nat) (hc : c < 4294967296) (w : World) (ht : Tz w) (h : dfind c = none) : Calls Tryz.prog 200 #[.int .u32 c] w fun e w' => e = .returned (.tuple #[.int .u32 0, .int .u32 0, .bool false]) ∧ Gr w w' := by
 have h' := hid h
 clear h
 go_enter Tryz.func200, Tryz.ntmps200
 go_name_bytes T hT
 have eT : T = tD := by rw [← hT]; with_unfolding_all rfl
 subst eT
 clear hT
 go_wp2_with (first | (go_at_call 158; refine (five_any c hc _ ht).mono ?_; rintro e w1 ⟨rfl, g1⟩) | (go_at_call 163; refine (find_D_no c _ h'.out).mono ?_; rintro e w2 ⟨rfl, g2⟩))
 go_ret3
 exact ⟨rfl, g1.trans g2⟩
theorem decomp_yes (c : Nat) (hc : c < 4294967296) (w : World) (ht : Tz w) (e) (h : dfind c = some e) : Calls Tryz.prog 200 #[.int .u32 c] w fun x w' => x = .returned (.tuple #[.int .u32 e.2.1, .int .u32 e.2.2.1, .bool true]) ∧ Gr w w' := by
 have h' := hid h
 clear h
 go_enter Tryz.func200, Tryz.ntmps200
 go_name_bytes T hT
 have eT : T = tD := by rw [← hT]; with_unfolding_all rfl
 subst eT
 clear hT
 go_wp2_with (first | (go_at_call 158; refine (five_any c hc _ ht).mono ?_; rintro x w1 ⟨rfl, g1⟩) | (go_at_call 163; refine (find_D_yes c _ e h'.out).mono ?_; rintro x w2 ⟨s, rfl, hr, g2⟩; have hs := hr.size))
 go_quiet ((go_at_call 162; exact Calls.quiet_of_same ((read_any _ _ (by rw [ByteArray.size_extract]; omega) (hr.hex _ _ (by omega))).mono fun _ _ h => ⟨h.1, h.2.symm⟩)))
 go_wp2
 go_ret3
 have e1 := hr.second
 have e2 := hr.third
 have q1 : rdS (s.extract 5 10) = e.2.1 := by unfold rdS; rw [e1.1, val_five _ e1.2]
 have q2 : rdS (s.extract 10 15) = e.2.2.1 := by unfold rdS; rw [e2.1, val_five _ e2.2]
 exact ⟨by rw [← q1, ← q2]; rfl, (g1.trans g2).trans (Gr.drewN _ _)⟩
noncomputable def dval (c : Nat) : Value := match dfind c with | some e => .tuple #[.int .u32 e.2.1, .int .u32 e.2.2.1, .bool true] | none => .tuple #[.int .u32 0, .int .u32 0, .bool false]
theorem RowD.flag {e : Nat × Nat × Nat × Bool} {s : ByteArray} (h : RowD e s) (hs : s.size = 16) : ((s[15].toNat : Int) == 99) = e.2.2.2 ∧ ((s[15].toNat : Int) != 99) = !e.2.2.2 := by
 obtain ⟨f, h, h2, _⟩ := h
 have h15 : s.data.toList[15]? = some f := by rw [h]; rfl
 have : s[15] = f := by
  have : s.data.toList[15]? = some s[15] := by rw [List.getElem?_eq_getElem (by simpa using hs ▸ (by omega : 15 < 16))]; rfl
  rw [h15] at this; exact (Option.some.inj this).symm
 rw [this, h2]
 have e1 : ((f.toNat : Int) == 99) = Nat.beq f.toNat 99 := by
  rw [Bool.eq_iff_iff, Nat.beq_eq, beq_iff_eq]; omega
 refine ⟨e1, ?_⟩
 rw [bne, e1]
end Go.Proofs.YthlflglkdaainaaGreatDoor
namespace Go.Proofs.YthlflglkdaainaaGreatDoor
open Go.RowKit
def keyP (a b : Nat) : ByteArray := fiveB a ++ fiveB b
theorem keyP_size (a b : Nat) : (keyP a b).size = 10 := by unfold keyP; rw [ByteArray.size_append]; rfl
theorem keyP_list (a b : Nat) : (keyP a b).toList = five5 a ++ five5 b := by
 rw [Lib.toList_data]; unfold keyP; rw [ByteArray.data_append, Array.toList_append]; rfl
noncomputable def NP (i : Nat) : Nat := 1048576 * (Pl.getD i (0, 0, 0)).1 + (Pl.getD i (0, 0, 0)).2.1
theorem P_head (i : Nat) (hi : i < 941) : ∃ e, Pl[i]? = some e ∧ NP i = 1048576 * e.1 + e.2.1 ∧ ((tP.extract (i * 15) (i * 15 + 15)).extract 0 10).toList = five5 e.1 ++ five5 e.2.1 ∧ e.1 < 1048576 ∧ e.2.1 < 1048576 := by
 obtain ⟨e, h1, h2, h4, h5, h6⟩ := P_row i hi
 refine ⟨e, h1, by unfold NP; rw [List.getD, h1]; rfl, ?_, h4, h5⟩
 rw [Lib.toList_data, Lib.extract_data, h2]
 rfl
theorem less_ten (x y a b : Nat) (hx : x < 1048576) (hy : y < 1048576) (ha : a < 1048576) (hb : b < 1048576) : Op.bytesLess (five5 x ++ five5 y) (five5 a ++ five5 b) = decide (1048576 * x + y < 1048576 * a + b) := by
 rw [less_five x a hx ha, less_five' y b hy hb]
 by_cases h1 : x < a
 · rw [decide_eq_true h1, decide_eq_true (show 1048576 * x + y < 1048576 * a + b by omega)]; rfl
 · by_cases h2 : x = a
   · subst h2
     rw [decide_eq_false h1, decide_eq_true rfl, Bool.false_or, Bool.true_and]
     rw [decide_eq_decide]; omega
   · rw [decide_eq_false h1, decide_eq_false h2, decide_eq_false (show ¬ 1048576 * x + y < 1048576 * a + b by omega)]; rfl
theorem find_P_facts (a b : Nat) (ha : a < 1048576) (hb : b < 1048576) : (∀ x y, x ≤ y → y < tP.size / 15 → geKey tP 15 (keyP a b) x = true → geKey tP 15 (keyP a b) y = true) ∧ ((∀ i, i < 941 → NP i ≠ 1048576 * a + b) → findRow tP 15 (keyP a b) = none) ∧ (∀ i, i < 941 → NP i = 1048576 * a + b → findRow tP 15 (keyP a b) = some i) := by
 refine findRow_num tP 15 (keyP a b) 941 NP (1048576 * a + b) (by rw [P_size]) (fun i hi => ?_) (fun i hi => ?_) (fun i j hij hj => ?_)
 · obtain ⟨e, h1, h2, h3, h4, h5⟩ := P_head i hi
   unfold geKey
   rw [keyP_size, h3, keyP_list, less_ten _ _ _ _ h4 h5 ha hb, h2, not_lt_dec]
 · obtain ⟨e, h1, h2, h3, h4, h5⟩ := P_head i hi
   rw [keyP_size, h3, keyP_list, h2]
   by_cases h : 1048576 * e.1 + e.2.1 = 1048576 * a + b
   · have q1 : e.1 = a := by omega
     have q2 : e.2.1 = b := by omega
     rw [decide_eq_true h, q1, q2]; exact beq_self_eq_true _
   · rw [decide_eq_false h]
     refine beq_eq_false_iff_ne.2 fun h' => h ?_
     obtain ⟨p1, p2⟩ := List.append_inj h' rfl
     rw [five_inj h4 ha p1, five_inj h5 hb p2]
 · have hl : Pl.length = 941 := Pl_len
   have h1 : Pl[i]? = some (Pl.getD i (0, 0, 0)) := by rw [List.getD, List.getElem?_eq_getElem (by omega)]; rfl
   have h2 : Pl[j]? = some (Pl.getD j (0, 0, 0)) := by rw [List.getD, List.getElem?_eq_getElem (by omega)]; rfl
   exact pair_at P_inc h1 h2 hij
theorem find_P_no (a b : Nat) (w : World) (h : pfind a b = none) : Calls Tryz.prog 163 #[.string tP, .int .i64 15, .string (keyP (min a 1048575) (min b 1048575))] w fun e w' => e = .returned (.tuple #[.string ⟨#[]⟩, .bool false]) ∧ Gr w w' := by
 obtain ⟨h1, h2, _⟩ := find_P_facts (min a 1048575) (min b 1048575) (min_lt a) (min_lt b)
 refine find_no 15 (.inr rfl) tP _ w (by rw [keyP_size]; omega) (by rw [P_size]; omega) h1 (h2 fun i hi hn => ?_)
 rw [← pfind_min] at h
 obtain ⟨e, g1, g2, g3, g4, g5⟩ := P_head i hi
 have := min_lt a
 have := min_lt b
 exact pfind_none h e (List.mem_of_getElem? g1) ⟨by omega, by omega⟩
def RowP (e : Nat × Nat × Nat) (s : ByteArray) : Prop := s.data.toList = five5 e.1 ++ (five5 e.2.1 ++ five5 e.2.2) ∧ e.1 < 1048576 ∧ e.2.1 < 1048576 ∧ e.2.2 < 1048576
def SomeRowP (e : Nat × Nat × Nat) (w : World) (x : Ending) (w' : World) : Prop := ∃ s, x = .returned (.tuple #[.string s, .bool true]) ∧ RowP e s ∧ Gr w w'
theorem find_P_yes (a b : Nat) (w : World) (e) (h : pfind a b = some e) : Calls Tryz.prog 163 #[.string tP, .int .i64 15, .string (keyP (min a 1048575) (min b 1048575))] w (SomeRowP e w) := by
 obtain ⟨h1, _, h3⟩ := find_P_facts (min a 1048575) (min b 1048575) (min_lt a) (min_lt b)
 rw [← pfind_min] at h
 obtain ⟨hm, he1, he2⟩ := pfind_some h
 obtain ⟨i, hi⟩ := List.mem_iff_getElem?.1 hm
 have hi' : i < 941 := by rw [← Pl_len]; exact (List.getElem?_eq_some_iff.1 hi).1
 obtain ⟨e', g1, g2, g3⟩ := P_row i hi'
 rw [hi] at g1
 obtain rfl := Option.some.inj g1
 have hN : NP i = 1048576 * min a 1048575 + min b 1048575 := by unfold NP; rw [List.getD, hi, ← he1, ← he2]; rfl
 exact (find_yes 15 (.inr rfl) tP _ w i (by rw [keyP_size]; omega) (by rw [P_size]; omega) h1 (h3 i hi' hN)).mono fun x w' ⟨hx, hg⟩ => ⟨_, hx, ⟨g2, g3⟩, hg⟩
theorem RowP.size {e : Nat × Nat × Nat} {s : ByteArray} (h : RowP e s) : s.size = 15 := by
 have : s.data.toList.length = 15 := by rw [h.1]; rfl
 simpa using this
theorem RowP.third {e : Nat × Nat × Nat} {s : ByteArray} (h : RowP e s) : (s.extract 10 15).data.toList = five5 e.2.2 ∧ e.2.2 < 1048576 := by
 exact ⟨by rw [Lib.extract_data, h.1]; rfl, h.2.2.2⟩
theorem pair_no (a b : Nat) (ha : a < 4294967296) (hb : b < 4294967296) (w : World) (ht : Tz w) (h : pfind a b = none) : Calls Tryz.prog 168 #[.int .u32 a, .int .u32 b] w fun e w' => e = .returned (.tuple #[.int .u32 0, .bool false]) ∧ Gr w w' := by
 have h' := hid h
 clear h
 go_enter Tryz.func168, Tryz.ntmps168
 go_name_bytes T hT
 have eT : T = tP := by rw [← hT]; with_unfolding_all rfl
 subst eT
 clear hT
 go_wp2_with fail
 refine (five_any a ha _ ht).mono ?_
 rintro e w1 ⟨rfl, g1⟩
 go_wp2_with fail
 refine (five_any b hb _ (ht.gr g1)).mono ?_
 rintro e w2 ⟨rfl, g2⟩
 go_wp2_with fail
 refine (find_P_no a b _ h'.out).mono ?_
 rintro e w3 ⟨rfl, g3⟩
 go_wp2
 go_ret2
 exact ⟨rfl, (g1.trans g2).trans g3⟩
theorem pair_yes (a b : Nat) (ha : a < 4294967296) (hb : b < 4294967296) (w : World) (ht : Tz w) (e) (h : pfind a b = some e) : Calls Tryz.prog 168 #[.int .u32 a, .int .u32 b] w fun x w' => x = .returned (.tuple #[.int .u32 e.2.2, .bool true]) ∧ Gr w w' := by
 have h' := hid h
 clear h
 go_enter Tryz.func168, Tryz.ntmps168
 go_name_bytes T hT
 have eT : T = tP := by rw [← hT]; with_unfolding_all rfl
 subst eT
 clear hT
 go_wp2_with fail
 refine (five_any a ha _ ht).mono ?_
 rintro x w1 ⟨rfl, g1⟩
 go_wp2_with fail
 refine (five_any b hb _ (ht.gr g1)).mono ?_
 rintro x w2 ⟨rfl, g2⟩
 go_wp2_with fail
 refine (find_P_yes a b _ e h'.out).mono ?_
 rintro x w3 ⟨s, rfl, hr, g3⟩
 have hs := hr.size
 go_wp2_with fail
 refine (read_five _ e.2.2 _ hr.third.1 hr.third.2).mono ?_
 rintro x w4 ⟨rfl, rfl⟩
 go_wp2
 go_ret2
 exact ⟨rfl, (g1.trans g2).trans g3⟩
end Go.Proofs.YthlflglkdaainaaGreatDoor
namespace Go.Proofs.YthlflglkdaainaaGreatDoor
open Go.RowKit
def jamo (c : Nat) : Bool := (Nat.ble 4449 c && Nat.ble c 4469) || (Nat.ble 4520 c && Nat.ble c 4546)
noncomputable def second (c : Nat) : Bool := jamo c || Pl.any (fun e => Nat.beq e.2.1 c)
theorem len_data (R : ByteArray) : R.data.toList.length = R.size := Array.length_toList
def strOf : Value → ByteArray | .string s => s | _ => ⟨#[]⟩
theorem second_jamo (c : Nat) (hc : c < 4294967296) (w : World) (h : jamo c = true) : Calls Tryz.prog 164 #[.int .u32 c] w fun e w' => e = .returned (.bool true) ∧ Gr w w' := by
 unfold jamo at h
 rw [Bool.or_eq_true, Bool.and_eq_true, Bool.and_eq_true, Nat.ble_eq, Nat.ble_eq, Nat.ble_eq, Nat.ble_eq] at h
 rcases h with h | h
 · have h1 : 4449 ≤ (c : Int) := by omega
   have h2 : (c : Int) ≤ 4469 := by omega
   clear h
   go_enter Tryz.func164, Tryz.ntmps164
   go_wp2
   go_ret
   exact ⟨rfl, Gr.refl _⟩
 · have h1 : 4520 ≤ (c : Int) := by omega
   have h2 : (c : Int) ≤ 4546 := by omega
   clear h
   go_enter Tryz.func164, Tryz.ntmps164
   go_wp2
   go_ret
   exact ⟨rfl, Gr.refl _⟩
def Left (c k : Nat) (R : ByteArray) : Prop := k ≤ 941 ∧ R.data.toList = tP.data.toList.drop (k * 15) ∧ ∀ i, i < k → ∀ e, Pl[i]? = some e → e.2.1 ≠ c
theorem Left.size {c k : Nat} {R : ByteArray} (h : Left c k R) : R.size = 15 * (941 - k) := by
 have h1 : R.data.toList.length = 15 * (941 - k) := by rw [h.2.1, List.length_drop, P_len]; omega
 simpa using h1
theorem Left.cut {c k : Nat} {R : ByteArray} (h : Left c k R) (hk : k < 941) : ∃ e, Pl[k]? = some e ∧ (R.extract 5 10).toList = five5 e.2.1 ∧ e.2.1 < 1048576 := by
 obtain ⟨e, h1, h2, h4, h5, h6⟩ := P_row k hk
 refine ⟨e, h1, ?_, h5⟩
 rw [Lib.toList_data, Lib.extract_data, h.2.1]
 rw [Lib.extract_data, show k * 15 + 15 - k * 15 = 15 by omega] at h2
 have : (tP.data.toList.drop (k * 15)).take 10 = five5 e.1 ++ five5 e.2.1 := by
  have := congrArg (List.take 10) h2
  rw [List.take_take] at this
  exact this
 rw [show 10 - 5 = 5 from rfl]
 have h3 := congrArg (List.drop 5) this
 rw [List.drop_take] at h3
 rw [h3]; rfl
theorem Left.next {c k : Nat} {R : ByteArray} (h : Left c k R) (hk : k < 941) (hne : ∀ e, Pl[k]? = some e → e.2.1 ≠ c) : Left c (k + 1) (R.extract 15 R.size) := by
 refine ⟨by omega, ?_, fun i hi e he => ?_⟩
 · have hs : R.size = R.data.toList.length := by simp
   rw [Lib.extract_data, List.take_of_length_le (by rw [List.length_drop, hs]; omega), h.2.1, List.drop_drop]; congr 1; omega
 · by_cases h' : i = k
   · subst h'; exact hne e he
   · exact h.2.2 i (by omega) e he
theorem second_loop (c : Nat) (hc : c < 4294967296) (w : World) (ht : Tz w) (h : jamo c = false) : Calls Tryz.prog 164 #[.int .u32 c] w fun e w' => e = .returned (.bool (Pl.any (fun e => Nat.beq e.2.1 c))) ∧ Gr w w' := by
 have hany : ∀ b, (b = true ↔ ∃ e ∈ Pl, e.2.1 = c) → Pl.any (fun e => Nat.beq e.2.1 c) = b := by
  intro b hb
  rw [Bool.eq_iff_iff, hb, List.any_eq_true]
  constructor
  · rintro ⟨e, he, h⟩; exact ⟨e, he, Nat.beq_eq.mp h⟩
  · rintro ⟨e, he, h⟩; exact ⟨e, he, Nat.beq_eq.mpr h⟩
 have HA := hid hany
 clear hany
 have h4 : (¬ (4449 ≤ (c : Int) ∧ (c : Int) ≤ 4469)) ∧ ¬ (4520 ≤ (c : Int) ∧ (c : Int) ≤ 4546) := by
  unfold jamo at h
  rw [Bool.or_eq_false_iff, Bool.and_eq_false_iff, Bool.and_eq_false_iff] at h
  simp only [← Bool.not_eq_true, Nat.ble_eq] at h
  omega
 have h5 : (c : Int) < 4449 ∨ (4469 < (c : Int) ∧ (c : Int) < 4520) ∨ 4546 < (c : Int) := by omega
 clear h h4
 have key : ∀ m, m = min c 1048575 → m < 1048576 ∧ ∀ e ∈ Pl, (e.2.1 = c ↔ e.2.1 = m) := by
  intro m hm; refine ⟨by omega, fun e he => ?_⟩
  have := P_bd e he; omega
 have KEY := hid key
 clear key
 rcases h5 with h1 | ⟨h1, h2⟩ | h1
 all_goals
  go_enter Tryz.func164, Tryz.ntmps164
  go_name_bytes T hT
  have eT : T = tP := by rw [← hT]; with_unfolding_all rfl
  subst eT
  clear hT
  go_wp2_with (go_at_call 158; refine (five_any c hc _ ht).mono ?_; rintro e w1 ⟨rfl, g1⟩)
  go_loop [4] (fun v => ∃ (k : Nat) (R : ByteArray), v = .string R ∧ R.size ≤ 20000 ∧ Hid (Left c k R)) (fun v => (strOf v).size)
  case atStart => exact ⟨0, tP, rfl, by rw [P_size]; omega, ⟨by omega, by simp, fun i hi => by omega⟩⟩
  case round =>
   obtain ⟨k, R, rfl, hR, HL⟩ := hrel
   have hsz := HL.out.size
   by_cases hk : k < 941
   · obtain ⟨e, h10, h11, h12⟩ := HL.out.cut hk
     have hne : R.toList.isEmpty = false := by
      rw [Lib.toList_data, List.isEmpty_eq_false_iff]; intro h0
      have : R.data.toList.length = 0 := by rw [h0]; rfl
      rw [len_data] at this; omega
     have h15 : 15 ≤ R.size := by omega
     have HS := hid hsz
     clear hsz
     by_cases hm : e.2.1 = min c 1048575
     · have hq : ((R.extract 5 10).toList == (fiveB (min c 1048575)).toList) = true := by rw [h11, fiveB_list, hm]; exact beq_self_eq_true _
       have HM := hid hm
       have H10 := hid h10
       clear hm h10 h11
       go_wp2
       go_ret
       refine ⟨?_, g1⟩
       rw [HA.out true ⟨fun _ => ⟨e, List.mem_of_getElem? H10.out, ((KEY.out _ rfl).2 e (List.mem_of_getElem? H10.out)).2 HM.out⟩, fun _ => rfl⟩]; rfl
     · have hq : ((R.extract 5 10).toList == (fiveB (min c 1048575)).toList) = false := by
         rw [h11, fiveB_list]; exact beq_eq_false_iff_ne.2 fun h' => hm (five_inj h12 (KEY.out _ rfl).1 h')
       have HM := hid hm
       have H10 := hid h10
       clear hm h10 h11
       go_wp2
       exact ⟨⟨k + 1, _, rfl, by simp; omega, HL.out.next hk (fun e' he' => by rw [H10.out] at he'; obtain rfl := Option.some.inj he'; exact fun h' => HM.out (((KEY.out _ rfl).2 e (List.mem_of_getElem? H10.out)).1 h'))⟩, by simp [strOf]; omega⟩
   · have hne : R.toList = [] := by
       rw [Lib.toList_data]; apply List.eq_nil_of_length_eq_zero; rw [len_data]; omega
     have hne2 : R.toList.isEmpty = true := by rw [hne]; rfl
     clear hsz
     go_wp2
     go_ret
     refine ⟨?_, g1⟩
     rw [HA.out false ⟨fun h => (by cases h), fun ⟨e, he, hce⟩ => ?_⟩]
     · rfl
     · obtain ⟨i, hi⟩ := List.mem_iff_getElem?.1 he
       have := (List.getElem?_eq_some_iff.1 hi).1
       rw [Pl_len] at this
       exact absurd hce (HL.out.2.2 i (by omega) e hi)
end Go.Proofs.YthlflglkdaainaaGreatDoor
namespace Go.Proofs.YthlflglkdaainaaGreatDoor
open Go.RowKit
theorem second_any (c : Nat) (hc : c < 4294967296) (w : World) (ht : Tz w) : Calls Tryz.prog 164 #[.int .u32 c] w fun e w' => e = .returned (.bool (second c)) ∧ Gr w w' := by
 cases h : jamo c with
 | true => have := second_jamo c hc w h; unfold second; rw [h]; exact this
 | false => have := second_loop c hc w ht h; unfold second; rw [h]; exact this
theorem end_any (i : Nat) (hi : i < 388) (w : World) : Calls Tryz.prog 159 #[.int .i64 i] w fun e w' => e = .returned (.string (tC.extract (i * 12 + 5) (i * 12 + 10))) ∧ w = w' := by
 have hs : tC.size = 4656 := C_size
 go_enter Tryz.func159, Tryz.ntmps159
 go_name_bytes T hT
 have eT : T = tC := by rw [← hT]; with_unfolding_all rfl
 subst eT
 clear hT
 go_wp2
 go_ret
 exact ⟨rfl, rfl⟩
noncomputable def geEnd (key : ByteArray) (i : Nat) : Bool := !(Op.bytesLess (tC.extract (i * 12 + 5) (i * 12 + 10)).toList key.toList)
theorem geEnd_any (key : ByteArray) (i : Nat) (hi : i < 388) (w : World) (b0 b1 : Nat) (h0 : w.cell? ⟨b0, 0, none⟩ = some (.string key)) (h1 : w.cell? ⟨b1, 0, none⟩ = some (.func (.func 159) #[] #[])) :
    Calls Tryz.prog 161 #[.int .i64 i, .pointer (some ⟨b1, 0, none⟩), .pointer (some ⟨b0, 0, none⟩)] w fun e w' => e = .returned (.bool (geEnd key i)) ∧ ∃ q, w' = w.drewN q := by
 go_enter Tryz.func161, Tryz.ntmps161
 go_wp2
 go_quiet ((go_at_call 159; exact Calls.quiet_of_same ((end_any i hi _).mono fun _ _ h => ⟨h.1, h.2.symm⟩)))
 go_wp2
 go_ret
 exact ⟨rfl, nq, rfl⟩
noncomputable def NC (i : Nat) : Nat := (Cl.getD i (0, 0, 0)).2.1
theorem C_end (i : Nat) (hi : i < 388) : ∃ e, Cl[i]? = some e ∧ NC i = e.2.1 ∧ (tC.extract (i * 12 + 5) (i * 12 + 10)).toList = five5 e.2.1 ∧ (tC.extract (i * 12) (i * 12 + 5)).toList = five5 e.1 ∧ e.1 < 1048576 ∧ e.2.1 < 1048576 := by
 obtain ⟨e, x, y, h1, h2, h3, h4, h5, h6, h7⟩ := C_row i hi
 rw [Lib.extract_data, show i * 12 + 12 - i * 12 = 12 by omega] at h2
 refine ⟨e, h1, by unfold NC; rw [List.getD, h1]; rfl, ?_, ?_, h6, h7⟩
 · rw [Lib.toList_data, Lib.extract_data, show i * 12 + 10 - (i * 12 + 5) = 5 by omega]
   have := congrArg (fun l => (List.drop 5 l).take 5) h2
   simp only [List.drop_take, List.take_take, List.drop_drop] at this
   exact this
 · rw [Lib.toList_data, Lib.extract_data, show i * 12 + 5 - i * 12 = 5 by omega]
   have := congrArg (List.take 5) h2
   rw [List.take_take] at this
   exact this
theorem geEnd_num (m i : Nat) (hm : m < 1048576) (hi : i < 388) : geEnd (fiveB m) i = decide (m ≤ NC i) := by
 obtain ⟨e, h1, h2, h3, h4, h5, h6⟩ := C_end i hi
 unfold geEnd
 rw [h3, fiveB_list, less_five' _ _ h6 hm, not_lt_dec, h2]
noncomputable def clsIx (m : Nat) : Nat := (List.range 388).countP (fun i => !geEnd (fiveB m) i)
theorem NC_inc (i j : Nat) (hij : i < j) (hj : j < 388) : NC i < NC j := by
 obtain ⟨e, h1, h2, _⟩ := C_end i (by omega)
 obtain ⟨e', g1, g2, _⟩ := C_end j hj
 rw [h2, g2]
 have := pair_at C_inc h1 g1 hij
 have := C_bd e' (List.mem_of_getElem? g1)
 omega
theorem clsIx_cases (c : Nat) : (clsIx (min c 1048575) = 388 ∧ cfind c = none) ∨ ∃ e, clsIx (min c 1048575) < 388 ∧ Cl[clsIx (min c 1048575)]? = some e ∧ ((e.1 ≤ min c 1048575 ∧ cfind c = some e) ∨ (min c 1048575 < e.1 ∧ cfind c = none)) := by
 rw [← cfind_min c]
 generalize hm : min c 1048575 = m
 have hm' : m < 1048576 := by rw [← hm]; exact min_lt c
 -- the boundary
 have hb : ∃ i, i ≤ 388 ∧ (∀ j, j < i → NC j < m) ∧ (∀ j, i ≤ j → j < 388 → m ≤ NC j) := by
  have hi : ∀ n, n ≤ 388 → ∃ i, i ≤ n ∧ (∀ j, j < i → NC j < m) ∧ (∀ j, i ≤ j → j < n → m ≤ NC j) := by
   intro n
   induction n with
   | zero => intro _; exact ⟨0, Nat.le_refl _, fun j hj => by omega, fun j _ hj => by omega⟩
   | succ n ih =>
    intro hn
    obtain ⟨i, h1, h2, h3⟩ := ih (by omega)
    by_cases h : m ≤ NC n
    · exact ⟨i, by omega, h2, fun j hj hjn => by
        by_cases hjn' : j = n
        · subst hjn'; exact h
        · exact h3 j hj (by omega)⟩
    · refine ⟨n + 1, Nat.le_refl _, fun j hj => ?_, fun j hj hjn => by omega⟩
      by_cases hjn : j = n
      · subst hjn; omega
      · have := NC_inc j n (by omega) (by omega); omega
  exact hi 388 (Nat.le_refl _)
 obtain ⟨i, h1, h2, h3⟩ := hb
 have hix : clsIx m = i := by
  unfold clsIx
  rw [← countP_lt 388 i h1]
  refine List.countP_congr fun j hj => ?_
  have hj := List.mem_range.1 hj
  rw [geEnd_num m j hm' hj]
  have e : (!decide (m ≤ NC j)) = decide (j < i) := by
   rw [← decide_not, decide_eq_decide]
   constructor
   · intro h
     rcases Nat.lt_or_ge j i with h' | h'
     · exact h'
     · exact absurd (h3 j h' hj) h
   · intro h; have := h2 j h; omega
  rw [e]
 rw [hix]
 have low : ∀ j e, j < i → Cl[j]? = some e → e.2.1 < m := fun j e hj he => by
  obtain ⟨e', g1, g2, _⟩ := C_end j (by omega)
  rw [he] at g1; obtain rfl := Option.some.inj g1
  rw [← g2]; exact h2 j hj
 by_cases hi : i = 388
 · refine .inl ⟨hi, ?_⟩
   cases hd : cfind m with
   | none => rfl
   | some e =>
    obtain ⟨g1, g2, g3⟩ := cfind_some hd
    obtain ⟨j, hj⟩ := List.mem_iff_getElem?.1 g1
    have := (List.getElem?_eq_some_iff.1 hj).1
    rw [Cl_len] at this
    have := low j e (by omega) hj; omega
 · obtain ⟨e, g1, g2, _⟩ := C_end i (by omega)
   have hge := h3 i (Nat.le_refl _) (by omega)
   rw [g2] at hge
   refine .inr ⟨e, by omega, g1, ?_⟩
   by_cases hs : e.1 ≤ m
   · exact .inl ⟨hs, cfind_of (List.mem_of_getElem? g1) hs hge⟩
   · refine .inr ⟨by omega, ?_⟩
     cases hd : cfind m with
     | none => rfl
     | some e' =>
      obtain ⟨k1, k2, k3⟩ := cfind_some hd
      obtain ⟨j, hj⟩ := List.mem_iff_getElem?.1 k1
      rcases Nat.lt_trichotomy j i with h | rfl | h
      · have := low j e' h hj; omega
      · rw [hj] at g1; obtain rfl := Option.some.inj g1; omega
      · have := pair_at C_inc g1 hj h; omega
theorem search_class (m : Nat) (W : World) (b0 b1 : Nat) (h0 : W.cell? ⟨b0, 0, none⟩ = some (.string (fiveB m))) (h1 : W.cell? ⟨b1, 0, none⟩ = some (.func (.func 159) #[] #[])) (hm : m < 1048576) :
    Calls Tryz.prog 160 #[.int .i64 388, .func (.func 161) #[] #[.pointer (some ⟨b1, 0, none⟩), .pointer (some ⟨b0, 0, none⟩)]] W fun e w' => e = .returned (.int .i64 (clsIx m : Nat)) ∧ Gr W w' := by
 have h := Any.sort_Search lSearch 161 #[.pointer (some ⟨b1, 0, none⟩), .pointer (some ⟨b0, 0, none⟩)] 388 (geEnd (fiveB m)) W (enters_of Tryz.func161 (by kernel_rfl) rfl) (by omega) ?_ ?_
 · exact h.mono fun e w' ⟨he, q, os, hw⟩ => ⟨he, by rw [hw]; exact Gr.grow _ _ _⟩
 · intro m' os i hi
   have G := Gr.grow W m' os
   refine (geEnd_any _ i hi _ b0 b1 (G.cell h0) (G.cell h1)).mono fun e w' ⟨he, q, hw⟩ => ⟨he, q, #[], ?_⟩
   rw [hw]; exact (Sort.grow_empty _).symm
 · intro a b hab hb ha
   rw [geEnd_num m a hm (by omega), decide_eq_true_eq] at ha
   rw [geEnd_num m b hm hb, decide_eq_true_eq]
   rcases Nat.lt_or_eq_of_le hab with h | rfl
   · have := NC_inc a b h hb; omega
   · exact ha
theorem cells2 (w : World) (v0 v1 : Value) (t0 t1 : Nat) : ((w.alloc (.cells #[v0] t0)).alloc (.cells #[v1] t1)).cell? ⟨w.heap.size, 0, none⟩ = some v0 ∧ ((w.alloc (.cells #[v0] t0)).alloc (.cells #[v1] t1)).cell? ⟨w.heap.size + 1, 0, none⟩ = some v1 := by
 have s1 : (w.alloc (.cells #[v0] t0)).heap.size = w.heap.size + 1 := by simp
 refine ⟨cell_alloc_sl _ (cell_new_sl w v0 t0), ?_⟩
 have := cell_new_sl (w.alloc (.cells #[v0] t0)) v1 t1; rw [s1] at this; exact this
theorem cells2g {w W' : World} {v0 v1 : Value} {t0 t1 : Nat} (h : Gr ((w.alloc (.cells #[v0] t0)).alloc (.cells #[v1] t1)) W') : W'.cell? ⟨w.heap.size, 0, none⟩ = some v0 ∧ W'.cell? ⟨w.heap.size + 1, 0, none⟩ = some v1 ∧ Gr w W' :=
 ⟨h.cell (cells2 ..).1, h.cell (cells2 ..).2, ((Gr.alloc _ _).trans (Gr.alloc _ _)).trans h⟩
theorem class_all (c : Nat) (hc : c < 4294967296) (w : World) (ht : Tz w) (h : clsIx (min c 1048575) = 388 ∧ cfind c = none) : Calls Tryz.prog 129 #[.int .u32 c] w fun e w' => e = .returned (.int .i64 (cls c)) ∧ Gr w w' := by
 have hcl : cls c = 0 := by unfold cls; rw [h.2]
 have H1 := hid h.1
 have H2 := hid hcl
 have hs : tC.size = 4656 := C_size
 clear h hcl
 go_enter Tryz.func129, Tryz.ntmps129
 go_name_bytes T hT
 have eT : T = tC := by rw [← hT]; with_unfolding_all rfl
 subst eT
 clear hT
 go_wp2_with fail
 refine (five_any c hc _ ht).mono ?_
 rintro e w1 ⟨rfl, g1⟩
 go_wp2_with fail
 refine (search_class _ _ _ _ (cells2 ..).1 (cells2 ..).2 (min_lt c)).mono ?_
 rw [H1.out]
 rintro e w2 ⟨rfl, g2⟩
 obtain ⟨c0, c1, g3⟩ := cells2g g2
 clear g2
 go_wp2_with fail
 go_quiet (fail)
 go_wp2
 go_ret
 exact ⟨by rw [H2.out]; rfl, (g1.trans g3).trans (Gr.drewN _ _)⟩
end Go.Proofs.YthlflglkdaainaaGreatDoor
namespace Go.Proofs.YthlflglkdaainaaGreatDoor
open Go.RowKit
theorem class_over (c : Nat) (hc : c < 4294967296) (w : World) (ht : Tz w) (ix : Nat) (hix : clsIx (min c 1048575) = ix) (hlt : ix < 388) (e) (he : Cl[ix]? = some e) (h : min c 1048575 < e.1 ∧ cfind c = none) :
    Calls Tryz.prog 129 #[.int .u32 c] w fun e w' => e = .returned (.int .i64 (cls c)) ∧ Gr w w' := by
 have hcl : cls c = 0 := by unfold cls; rw [h.2]
 have hq : ((ix : Int) == 388) = false := by rw [beq_eq_false_iff_ne]; omega
 obtain ⟨e', k1, k2, k3, k4, k5, k6⟩ := C_end ix hlt
 have ee : e = e' := Option.some.inj (he.symm.trans k1)
 subst ee
 have hless : Op.bytesLess (tC.extract (ix * 12) (ix * 12 + 5)).toList (fiveB (min c 1048575)).toList = false := by
  rw [k4, fiveB_list, less_five' _ _ k5 (min_lt c), decide_eq_false_iff_not]; omega
 have heq : ((tC.extract (ix * 12) (ix * 12 + 5)).toList == (fiveB (min c 1048575)).toList) = false := by
  rw [k4, fiveB_list]; exact beq_eq_false_iff_ne.2 fun h' => by have := five_inj k5 (min_lt c) h'; omega
 have H1 := hid hix
 have H2 := hid hcl
 have hs : tC.size = 4656 := C_size
 clear h hcl he k1 k2 k3 k4 k5 k6 hix
 go_enter Tryz.func129, Tryz.ntmps129
 go_name_bytes T hT
 have eT : T = tC := by rw [← hT]; with_unfolding_all rfl
 subst eT
 clear hT
 go_wp2_with fail
 refine (five_any c hc _ ht).mono ?_
 rintro e w1 ⟨rfl, g1⟩
 go_wp2_with fail
 refine (search_class _ _ _ _ (cells2 ..).1 (cells2 ..).2 (min_lt c)).mono ?_
 rw [H1.out]
 rintro e w2 ⟨rfl, g2⟩
 obtain ⟨c0, c1, g3⟩ := cells2g g2
 clear g2
 go_wp2_with fail
 go_quiet (fail)
 go_wp2
 go_ret
 exact ⟨by rw [H2.out]; rfl, (g1.trans g3).trans (Gr.drewN _ _)⟩
theorem C_class (i : Nat) (hi : i < 388) (e) (he : Cl[i]? = some e) (w : World) : Calls Tryz.prog 162 #[.string (tC.extract (i * 12 + 10) ((i + 1) * 12))] w fun x w' => x = .returned (.int .u32 e.2.2) ∧ w = w' := by
 obtain ⟨e', x, y, h1, h2, h3, h4, h5, h6, h7⟩ := C_row i hi
 rw [he] at h1; obtain rfl := Option.some.inj h1
 rw [Lib.extract_data, show i * 12 + 12 - i * 12 = 12 by omega] at h2
 have hl : (tC.extract (i * 12 + 10) ((i + 1) * 12)).data.toList = [x, y] := by
  rw [Lib.extract_data, show (i + 1) * 12 - (i * 12 + 10) = 2 by omega]
  have := congrArg (fun l => List.drop 10 l) h2
  simp only [List.drop_take, List.drop_drop] at this
  exact this
 have hz : (tC.extract (i * 12 + 10) ((i + 1) * 12)).size = 2 := by rw [← len_data, hl]; rfl
 have h := read_any (tC.extract (i * 12 + 10) ((i + 1) * 12)) w (by omega) (fun z hz => by
  rw [hl] at hz
  simp only [List.mem_cons, List.not_mem_nil, or_false] at hz
  rcases hz with rfl | rfl
  · exact h3
  · exact h4)
 unfold rdS at h
 rwa [hl, h5] at h
theorem class_found (c : Nat) (hc : c < 4294967296) (w : World) (ht : Tz w) (ix : Nat) (hix : clsIx (min c 1048575) = ix) (hlt : ix < 388) (e) (he : Cl[ix]? = some e) (h : e.1 ≤ min c 1048575 ∧ cfind c = some e) :
    Calls Tryz.prog 129 #[.int .u32 c] w fun e w' => e = .returned (.int .i64 (cls c)) ∧ Gr w w' := by
 have hcl : cls c = e.2.2 := by unfold cls; rw [h.2]
 have hq : ((ix : Int) == 388) = false := by rw [beq_eq_false_iff_ne]; omega
 obtain ⟨e', k1, k2, k3, k4, k5, k6⟩ := C_end ix hlt
 have ee : e = e' := Option.some.inj (he.symm.trans k1)
 subst ee
 have hbd := C_bd e (List.mem_of_getElem? he)
 have hb : (e.2.2 : Int) ≤ 255 := by omega
 have H1 := hid hix
 have H2 := hid hcl
 have HE := hid he
 have hs : tC.size = 4656 := C_size
 have hle : (Op.bytesLess (tC.extract (ix * 12) (ix * 12 + 5)).toList (fiveB (min c 1048575)).toList = true ∧ ((tC.extract (ix * 12) (ix * 12 + 5)).toList == (fiveB (min c 1048575)).toList) = false) ∨
     (Op.bytesLess (tC.extract (ix * 12) (ix * 12 + 5)).toList (fiveB (min c 1048575)).toList = false ∧ ((tC.extract (ix * 12) (ix * 12 + 5)).toList == (fiveB (min c 1048575)).toList) = true) := by
  rw [k4, fiveB_list, less_five' _ _ k5 (min_lt c)]
  by_cases hlt' : e.1 < min c 1048575
  · exact .inl ⟨decide_eq_true hlt', beq_eq_false_iff_ne.2 fun h' => by have := five_inj k5 (min_lt c) h'; omega⟩
  · refine .inr ⟨decide_eq_false hlt', ?_⟩
    rw [show e.1 = min c 1048575 by omega]; exact beq_self_eq_true _
 clear h hcl he k1 k2 k3 k4 k5 k6 hix hbd
 rcases hle with ⟨hless, heq⟩ | ⟨hless, heq⟩
 all_goals
  go_enter Tryz.func129, Tryz.ntmps129
  go_name_bytes T hT
  have eT : T = tC := by rw [← hT]; with_unfolding_all rfl
  subst eT
  clear hT
  go_wp2_with fail
  refine (five_any c hc _ ht).mono ?_
  rintro x w1 ⟨rfl, g1⟩
  go_wp2_with fail
  refine (search_class _ _ _ _ (cells2 ..).1 (cells2 ..).2 (min_lt c)).mono ?_
  rw [H1.out]
  rintro x w2 ⟨rfl, g2⟩
  obtain ⟨c0, c1, g3⟩ := cells2g g2
  clear g2
  go_wp2_with fail
  go_quiet (fail)
  go_wp2_with fail
  refine (C_class ix hlt e HE.out _).mono ?_
  rintro x w3 ⟨rfl, rfl⟩
  go_wp2
  go_ret
  exact ⟨by rw [H2.out]; rfl, (g1.trans g3).trans (Gr.drewN _ _)⟩
theorem class_any (c : Nat) (hc : c < 4294967296) (w : World) (ht : Tz w) : Calls Tryz.prog 129 #[.int .u32 c] w fun e w' => e = .returned (.int .i64 (cls c)) ∧ Gr w w' := by
 rcases clsIx_cases c with h | ⟨e, h1, h2, h | h⟩
 · exact class_all c hc w ht h
 · exact class_found c hc w ht _ rfl h1 e h2 h
 · exact class_over c hc w ht _ rfl h1 e h2 h
theorem cls_le (c : Nat) : cls c ≤ 255 := by
 unfold cls
 split
 · rename_i e h; exact (C_bd e (cfind_some h).1).2.2.2
 · omega
noncomputable def quick (c : Nat) : Nat := match dfind c with
 | some e => if e.2.2.2 then (if second c then 2 else 0) else 1
 | none => if second c then 2 else 0
theorem quick_no (c : Nat) (hc : c < 4294967296) (w : World) (ht : Tz w) (h : dfind c = none) : Calls Tryz.prog 130 #[.int .u32 c] w fun e w' => e = .returned (.int .u8 (quick c)) ∧ Gr w w' := by
 have hq : quick c = if second c then 2 else 0 := by unfold quick; rw [h]
 have HQ := hid hq
 have h' := hid h
 clear h hq
 cases hs : second c
 all_goals
  have HS := hid hs
  have hsec := fun w' (g : Gr w w') => second_any c hc w' (ht.gr g)
  rw [hs] at hsec
  have HSEC := hid hsec
  clear hs hsec
  go_enter Tryz.func130, Tryz.ntmps130
  go_name_bytes T hT
  have eT : T = tD := by rw [← hT]; with_unfolding_all rfl
  subst eT
  clear hT
  go_wp2_with (first | (go_at_call 158; refine (five_any c hc _ ht).mono ?_; rintro e w1 ⟨rfl, g1⟩) | (go_at_call 163; refine (find_D_no c _ h'.out).mono ?_; rintro e w2 ⟨rfl, g2⟩) | (go_at_call 164; refine (HSEC.out _ (g1.trans g2)).mono ?_; rintro e w3 ⟨rfl, g3⟩))
  go_ret
  exact ⟨by rw [HQ.out, HS.out]; rfl, (g1.trans g2).trans g3⟩
theorem quick_yes (c : Nat) (hc : c < 4294967296) (w : World) (ht : Tz w) (e) (h : dfind c = some e) : Calls Tryz.prog 130 #[.int .u32 c] w fun x w' => x = .returned (.int .u8 (quick c)) ∧ Gr w w' := by
 have hq : quick c = if e.2.2.2 then (if second c then 2 else 0) else 1 := by unfold quick; rw [h]
 have HQ := hid hq
 have h' := hid h
 clear h hq
 cases hf : e.2.2.2
 · have HF := hid hf
   clear hf
   go_enter Tryz.func130, Tryz.ntmps130
   go_name_bytes T hT
   have eT : T = tD := by rw [← hT]; with_unfolding_all rfl
   subst eT
   clear hT
   go_wp2_with (first | (go_at_call 158; refine (five_any c hc _ ht).mono ?_; rintro x w1 ⟨rfl, g1⟩) | (go_at_call 163; refine (find_D_yes c _ e h'.out).mono ?_; rintro x w2 ⟨s, rfl, hr, g2⟩; have hs := hr.size; have hfl := (hr.flag hs).2; rw [HF.out] at hfl))
   go_ret
   exact ⟨by rw [HQ.out, HF.out]; rfl, g1.trans g2⟩
 · have HF := hid hf
   clear hf
   cases hs : second c
   all_goals
    have HS := hid hs
    have hsec := fun w' (g : Gr w w') => second_any c hc w' (ht.gr g)
    rw [hs] at hsec
    have HSEC := hid hsec
    clear hs hsec
    go_enter Tryz.func130, Tryz.ntmps130
    go_name_bytes T hT
    have eT : T = tD := by rw [← hT]; with_unfolding_all rfl
    subst eT
    clear hT
    go_wp2_with (first | (go_at_call 158; refine (five_any c hc _ ht).mono ?_; rintro x w1 ⟨rfl, g1⟩) | (go_at_call 163; refine (find_D_yes c _ e h'.out).mono ?_; rintro x w2 ⟨s, rfl, hr, g2⟩; have hz := hr.size; have hfl := (hr.flag hz).2; rw [HF.out] at hfl) | (go_at_call 164; refine (HSEC.out _ (g1.trans g2)).mono ?_; rintro x w3 ⟨rfl, g3⟩))
    go_ret
    exact ⟨by rw [HQ.out, HF.out, HS.out]; rfl, (g1.trans g2).trans g3⟩
theorem quick_any (c : Nat) (hc : c < 4294967296) (w : World) (ht : Tz w) : Calls Tryz.prog 130 #[.int .u32 c] w fun x w' => x = .returned (.int .u8 (quick c)) ∧ Gr w w' := by
 cases h : dfind c with
 | none => exact quick_no c hc w ht h
 | some e => exact quick_yes c hc w ht e h
end Go.Proofs.YthlflglkdaainaaGreatDoor
