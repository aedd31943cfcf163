import Derived.Test.YtgjlneedpbgfpaaDoorClass2
/- The walks of the document's answer for ucd (gessoref03). -/
namespace Go.Proofs.YtgjlneedpbgfpaaDoor
open Go.RowKit

theorem hv_low' (c : UInt8) (h : isHex c = true) (hc : (c.toNat : Int) < 97) : (c.toNat : Int) - 48 = (hvb c : Int) := by
  have hb : Nat.ble 97 c.toNat = false := by rw [← Bool.not_eq_true, Nat.ble_eq]; omega
  unfold isHex at h
  rw [hb] at h
  simp only [Bool.or_eq_true, Bool.and_eq_true, Nat.ble_eq, Bool.false_and, Bool.false_eq_true, or_false] at h
  unfold hvb; rw [hb]; simp only [cond_false, Nat.sub_eq]; omega
theorem hv_high' (c : UInt8) (_h : isHex c = true) (hc : 97 ≤ (c.toNat : Int)) : (c.toNat : Int) - 97 + 10 = (hvb c : Int) := by
  have hb : Nat.ble 97 c.toNat = true := by rw [Nat.ble_eq]; omega
  unfold hvb; rw [hb]; simp only [cond_true, Nat.sub_eq]; omega
theorem hex_rng (c : UInt8) (h : isHex c = true) : ((c.toNat : Int) < 97 ∧ 48 ≤ (c.toNat : Int)) ∨ (97 ≤ (c.toNat : Int) ∧ (c.toNat : Int) ≤ 102) := by
  unfold isHex at h
  simp only [Bool.or_eq_true, Bool.and_eq_true, Nat.ble_eq] at h
  omega

set_option maxHeartbeats 400000 in
theorem digit_any (c : UInt8) (h : isHex c = true) (w : World) : Calls Tryd.prog 98 #[.int .u8 c.toNat] w fun e w' => e = .returned (.int .u32 (hvb c)) ∧ w = w' := by
  rcases hex_rng c h with ⟨h1, h2⟩ | ⟨h1, h2⟩
  · have e1 := hid (hv_low' c h h1)
    clear h
    go_enter Tryd.func98, Tryd.ntmps98
    go_wp2
    go_ret
    exact ⟨by rw [← e1.out]; rfl, rfl⟩
  · have e1 := hid (hv_high' c h h1)
    clear h
    go_enter Tryd.func98, Tryd.ntmps98
    go_wp2
    go_ret
    exact ⟨by rw [← e1.out]; rfl, rfl⟩

theorem val_bd (l : List UInt8) (h : ∀ c ∈ l, isHex c = true) (hl : l.length ≤ 6) : val l ≤ 16777215 := by
  have h1 := val_lt l h
  have h2 : 16 ^ l.length ≤ 16 ^ 6 := Nat.pow_le_pow_right (by omega) hl
  omega

/-- The bytes of a string from a place on. -/
def cut (s : ByteArray) (a n : Nat) : List UInt8 := (s.data.toList.drop a).take n
theorem cut_snoc (s : ByteArray) (a k : Nat) (h : a + k < s.size) : cut s a (k + 1) = cut s a k ++ [s[a + k]] := by
  unfold cut
  rw [List.take_succ_eq_append_getElem (by rw [List.length_drop, len_data]; omega), List.getElem_drop]; rfl
theorem cut_length (s : ByteArray) (a k : Nat) (h : a + k ≤ s.size) : (cut s a k).length = k := by
  unfold cut; rw [List.length_take, List.length_drop, len_data]; omega
theorem cut_mem (s : ByteArray) (a k n : Nat) (h : k ≤ n) : ∀ c ∈ cut s a k, c ∈ cut s a n := by
  intro c hc; unfold cut at *
  rw [← Nat.min_eq_left h, ← List.take_take] at hc
  exact List.mem_of_mem_take hc

set_option maxHeartbeats 1000000 in
theorem number_any (s : ByteArray) (a n : Nat) (w : World) (hs : s.size ≤ 100000) (hn : n ≤ 6) (han : a + n ≤ s.size) (hh : ∀ c ∈ cut s a n, isHex c = true) :
    Calls Tryd.prog 70 #[.string s, .int .i64 a, .int .i64 n] w fun e w' => e = .returned (.int .u32 (val (cut s a n))) ∧ w = w' := by
  have HH := hid hh
  clear hh
  go_enter Tryd.func70, Tryd.ntmps70
  go_wp2
  go_loop [7, 8] (fun vx vi => ∃ k : Nat, k ≤ n ∧ vi = .int .i64 ((a + k : Nat) : Int) ∧ vx = .int .u32 (val (cut s a k))) (fun _ vi => a + n - (intOf vi).toNat)
  case atStart => exact ⟨0, Nat.zero_le _, rfl, rfl⟩
  case round =>
    obtain ⟨k, hk, rfl, rfl⟩ := hrel
    have hb : (val (cut s a k) : Int) ≤ 16777215 := by have := val_bd (cut s a k) (fun c hc => HH.out c (cut_mem s a k n hk c hc)) (by rw [cut_length s a k (by omega)]; omega); omega
    by_cases hlt : k < n
    · have hx : isHex s[a + k] = true := HH.out _ (cut_mem s a (k + 1) n hlt _ (by rw [cut_snoc s a k (by omega)]; simp))
      have hd := (hex_dig _ hx).2
      have hd' : (hvb s[a + k] : Int) < 16 := by omega
      have HX := hid hx
      clear hx hd
      go_wp2_with (go_at_call 98; refine (digit_any _ HX.out _).mono ?_; rintro e w1 ⟨rfl, rfl⟩)
      exact ⟨⟨k + 1, hlt, by simp; omega, by congr 1; rw [cut_snoc s a k (by omega), val_snoc]; rfl⟩, by simp [intOf]; omega⟩
    · have hk' : n = k := by omega
      go_wp2
      go_ret
      exact ⟨rfl, rfl⟩

theorem number_at (T : ByteArray) (z : Int) (a : Nat) (j : Int) (n : Nat) (w : World) (hz : z = (a : Int)) (hj : j = (n : Int)) (hs : T.size ≤ 100000) (hn : n ≤ 6) (han : a + n ≤ T.size) (hh : ∀ c ∈ cut T a n, isHex c = true) (v : Nat) (hv : val (cut T a n) = v) :
    Calls Tryd.prog 70 #[.string T, .int .i64 z, .int .i64 j] w fun e w' => e = .returned (.int .u32 v) ∧ w = w' := by
  subst hz hj hv
  exact number_any T a n w hs hn han hh

/-- The last row whose number is not above the one that is asked. -/
def LastIs (n : Nat) (N : Nat → Nat) (c : Nat) (w : World) (e : Ending) (w' : World) : Prop := ∃ l : Nat, e = .returned (.int .i64 ((l : Int) - 1)) ∧ l ≤ n ∧ (∀ i, i < l → N i ≤ c) ∧ (∀ i, l ≤ i → i < n → c < N i) ∧ Gr w w'

set_option maxHeartbeats 2000000 in
theorem last_any (T : ByteArray) (k : Nat) (hk : k = 16 ∨ k = 15 ∨ k = 12) (n : Nat) (N : Nat → Nat) (c : Nat) (_hc : c < 4294967296) (w : World) (hT : T.size = k * n) (hn : n ≤ 2061) (hh : ∀ i, i < n → (∀ x ∈ cut T (i * k) 5, isHex x = true) ∧ val (cut T (i * k) 5) = N i)
    (hm : ∀ i j, i ≤ j → j < n → N i ≤ N j) : Calls Tryd.prog 69 #[.string T, .int .i64 k, .int .u32 c] w (LastIs n N c w) := by
  have HH := hid hh
  have HM := hid hm
  have hq : (T.size : Int) / (k : Int) = n := by rw [hT]; rcases hk with rfl | rfl | rfl <;> omega
  have hsz : T.size ≤ 32976 := by rw [hT]; rcases hk with rfl | rfl | rfl <;> omega
  have HT := hid hT
  clear hh hm hT
  rcases hk with rfl | rfl | rfl
  all_goals
    simp only [Int.cast_ofNat_Int] at hq ⊢
    have HQ := hid hq
    have hw : IntKind.i64.wrap ((n : Int)) = n := IntWalk.i64_in _ (by omega)
    go_enter Tryd.func69, Tryd.ntmps69
    go_wp2
    go_quiet (fail)
    go_wp2
    clear hq hw
    go_loop [7, 8] (fun vl vh => ∃ (l h : Nat), vl = .int .i64 ((l : Int) - 1) ∧ vh = .int .i64 h ∧ l ≤ h ∧ h ≤ n ∧ Hid ((∀ i, i < l → N i ≤ c) ∧ ∀ i, h ≤ i → i < n → c < N i)) (fun vl vh => (intOf vh - intOf vl).toNat)
    case atStart => exact ⟨0, n, rfl, rfl, by omega, by omega, ⟨fun i hi => by omega, fun i h1 h2 => by omega⟩⟩
    case round =>
      obtain ⟨l, h, rfl, rfl, hlh, hhn, HI⟩ := hrel
      by_cases hlt : l < h
      · have hm1 : l ≤ (l + h - 1) / 2 ∧ (l + h - 1) / 2 < h := by omega
        obtain ⟨m, hm⟩ : ∃ m, m = (l + h - 1) / 2 := ⟨_, rfl⟩
        rw [← hm] at hm1
        have hm2 : ((l : Int) - 1 + h) / 2 = m := by omega
        have HM2 := hid hm2
        clear hm hm2
        obtain ⟨hx, hv⟩ := HH.out m (by omega)
        have HX := hid hx
        have HV := hid hv
        clear hx hv
        by_cases hN : N m ≤ c
        all_goals
          go_wp2_with fail
          simp only [HM2.out]
          refine (number_at T _ _ _ 5 _ (by omega) rfl (by omega) (by omega) (by have := HT.out; omega) HX.out _ HV.out).mono ?_
          rintro e w1 ⟨rfl, rfl⟩
          go_wp2
          first
            | exact ⟨⟨m + 1, h, by simp, rfl, by omega, hhn, ⟨fun i hi => Nat.le_trans (HM.out i m (by omega) (by omega)) hN, HI.out.2⟩⟩, by simp [intOf]; omega⟩
            | exact ⟨⟨l, m, rfl, rfl, by omega, by omega, ⟨HI.out.1, fun i h1 h2 => Nat.lt_of_lt_of_le (Nat.lt_of_not_le hN) (HM.out m i h1 h2)⟩⟩, by simp [intOf]; omega⟩
      · go_wp2
        go_ret
        have e : h = l := by omega
        exact ⟨l, rfl, by omega, HI.out.1, e ▸ HI.out.2, Gr.drewN _ _⟩
end Go.Proofs.YtgjlneedpbgfpaaDoor
