import Derived.Test.YthlflglkdaainaaGreatDoorGB
/- Texts of this seat: KR. -/
set_option maxRecDepth 100000
set_option maxHeartbeats 16000000
namespace Go.Proofs.YthlflglkdaainaaGreatDoor
open Go.RowKit
theorem afb (c : UInt8) (h : isHex c = true) (hc : (c.toNat : Int) < 97) : (c.toNat : Int) - 48 = (hvb c : Int) := by
 have hb : Nat.ble 97 c.toNat = false := by rw [← Bool.not_eq_true, Nat.ble_eq]; omega
 unfold isHex at h
 rw [hb] at h
 simp only [Bool.or_eq_true, Bool.and_eq_true, Nat.ble_eq, Bool.false_and, Bool.false_eq_true, or_false] at h
 unfold hvb; rw [hb]; simp only [cond_false, Nat.sub_eq]; omega
theorem abZ (c : UInt8) (_h : isHex c = true) (hc : 97 ≤ (c.toNat : Int)) : (c.toNat : Int) - 97 + 10 = (hvb c : Int) := by
 have hb : Nat.ble 97 c.toNat = true := by rw [Nat.ble_eq]; omega
 unfold hvb; rw [hb]; simp only [cond_true, Nat.sub_eq]; omega
theorem afc (c : UInt8) (h : isHex c = true) : ((c.toNat : Int) < 97 ∧ 48 ≤ (c.toNat : Int)) ∨ (97 ≤ (c.toNat : Int) ∧ (c.toNat : Int) ≤ 102) := by
 unfold isHex at h
 simp only [Bool.or_eq_true, Bool.and_eq_true, Nat.ble_eq] at h
 omega
theorem Yt (c : UInt8) (h : isHex c = true) (w : World) : Calls Tryz.prog 209 #[.int .u8 c.toNat] w fun e w' => e = .returned (.int .u32 (hvb c)) ∧ w = w' := by
 rcases afc c h with ⟨h1, h2⟩ | ⟨h1, h2⟩
 · have e1 := hid (afb c h h1)
   clear h
   go_enter Tryz.func209, Tryz.ntmps209
   go_wp2
   go_ret
   exact ⟨by rw [← e1.out]; rfl, rfl⟩
 · have e1 := hid (abZ c h h1)
   clear h
   go_enter Tryz.func209, Tryz.ntmps209
   go_wp2
   go_ret
   exact ⟨by rw [← e1.out]; rfl, rfl⟩
theorem ahN (l : List UInt8) (h : ∀ c ∈ l, isHex c = true) (hl : l.length ≤ 6) : val l ≤ 16777215 := by
 have h1 := ZA l h
 have h2 : 16 ^ l.length ≤ 16 ^ 6 := Nat.pow_le_pow_right (by omega) hl
 omega
def cut (s : ByteArray) (a n : Nat) : List UInt8 := (s.data.toList.drop a).take n
theorem Qs (s : ByteArray) (a k : Nat) (h : a + k < s.size) : cut s a (k + 1) = cut s a k ++ [s[a + k]] := by
 unfold cut
 rw [List.take_succ_eq_append_getElem (by rw [List.length_drop, vO]; omega), List.getElem_drop]; rfl
theorem SX (s : ByteArray) (a k : Nat) (h : a + k ≤ s.size) : (cut s a k).length = k := by
 unfold cut; rw [List.length_take, List.length_drop, vO]; omega
theorem Wn (s : ByteArray) (a k n : Nat) (h : k ≤ n) : ∀ c ∈ cut s a k, c ∈ cut s a n := by
 intro c hc; unfold cut at *
 rw [← Nat.min_eq_left h, ← List.take_take] at hc
 exact List.mem_of_mem_take hc
theorem SY (s : ByteArray) (a n : Nat) (w : World) (hs : s.size ≤ 100000) (hn : n ≤ 6) (han : a + n ≤ s.size) (hh : ∀ c ∈ cut s a n, isHex c = true) :
    Calls Tryz.prog 195 #[.string s, .int .i64 a, .int .i64 n] w fun e w' => e = .returned (.int .u32 (val (cut s a n))) ∧ w = w' := by
 have HH := hid hh
 clear hh
 go_enter Tryz.func195, Tryz.ntmps195
 go_wp2
 go_loop [7, 8] (fun vx vi => ∃ k : Nat, k ≤ n ∧ vi = .int .i64 ((a + k : Nat) : Int) ∧ vx = .int .u32 (val (cut s a k))) (fun _ vi => a + n - (intOf vi).toNat)
 case atStart => exact ⟨0, Nat.zero_le _, rfl, rfl⟩
 case round =>
  obtain ⟨k, hk, rfl, rfl⟩ := hrel
  have hb : (val (cut s a k) : Int) ≤ 16777215 := by have := ahN (cut s a k) (fun c hc => HH.out c (Wn s a k n hk c hc)) (by rw [SX s a k (by omega)]; omega); omega
  by_cases hlt : k < n
  · have hx : isHex s[a + k] = true := HH.out _ (Wn s a (k + 1) n hlt _ (by rw [Qs s a k (by omega)]; simp))
    have hd := (oU _ hx).2
    have hd' : (hvb s[a + k] : Int) < 16 := by omega
    have HX := hid hx
    clear hx hd
    go_wp2_with (go_at_call 209; refine (Yt _ HX.out _).mono ?_; rintro e w1 ⟨rfl, rfl⟩)
    exact ⟨⟨k + 1, hlt, by simp; omega, by congr 1; rw [Qs s a k (by omega), OB]; rfl⟩, by simp [intOf]; omega⟩
  · have hk' : n = k := by omega
    go_wp2
    go_ret
    exact ⟨rfl, rfl⟩
theorem gq (T : ByteArray) (z : Int) (a : Nat) (j : Int) (n : Nat) (w : World) (hz : z = (a : Int)) (hj : j = (n : Int)) (hs : T.size ≤ 100000) (hn : n ≤ 6) (han : a + n ≤ T.size) (hh : ∀ c ∈ cut T a n, isHex c = true) (v : Nat) (hv : val (cut T a n) = v) :
    Calls Tryz.prog 195 #[.string T, .int .i64 z, .int .i64 j] w fun e w' => e = .returned (.int .u32 v) ∧ w = w' := by
 subst hz hj hv
 exact SY T a n w hs hn han hh
def NZ (n : Nat) (N : Nat → Nat) (c : Nat) (w : World) (e : Ending) (w' : World) : Prop := ∃ l : Nat, e = .returned (.int .i64 ((l : Int) - 1)) ∧ l ≤ n ∧ (∀ i, i < l → N i ≤ c) ∧ (∀ i, l ≤ i → i < n → c < N i) ∧ Gr w w'
theorem last_any (T : ByteArray) (k : Nat) (hk : k = 16 ∨ k = 15 ∨ k = 12) (n : Nat) (N : Nat → Nat) (c : Nat) (_hc : c < 4294967296) (w : World) (hT : T.size = k * n) (hn : n ≤ 2061) (hh : ∀ i, i < n → (∀ x ∈ cut T (i * k) 5, isHex x = true) ∧ val (cut T (i * k) 5) = N i)
    (hm : ∀ i j, i ≤ j → j < n → N i ≤ N j) : Calls Tryz.prog 194 #[.string T, .int .i64 k, .int .u32 c] w (NZ n N c w) := by
 have HH := hid hh
 have HM := hid hm
 have hq : (T.size : Int) / (k : Int) = n := by rw [hT]; rcases hk with rfl | rfl | rfl <;> omega
 have hsz : T.size ≤ 32976 := by rw [hT]; rcases hk with rfl | rfl | rfl <;> omega
 have HT := hid hT
 clear hh hm hT
 rcases hk with rfl | rfl | rfl
 all_goals
  simp only [Int.cast_ofNat_Int] at hq ⊢
  have HQ := hid hq
  have hw : IntKind.i64.wrap ((n : Int)) = n := IntWalk.i64_in _ (by omega)
  go_enter Tryz.func194, Tryz.ntmps194
  go_wp2
  go_quiet (fail)
  go_wp2
  clear hq hw
  go_loop [7, 8] (fun vl vh => ∃ (l h : Nat), vl = .int .i64 ((l : Int) - 1) ∧ vh = .int .i64 h ∧ l ≤ h ∧ h ≤ n ∧ Hid ((∀ i, i < l → N i ≤ c) ∧ ∀ i, h ≤ i → i < n → c < N i)) (fun vl vh => (intOf vh - intOf vl).toNat)
  case atStart => exact ⟨0, n, rfl, rfl, by omega, by omega, ⟨fun i hi => by omega, fun i h1 h2 => by omega⟩⟩
  case round =>
   obtain ⟨l, h, rfl, rfl, hlh, hhn, HI⟩ := hrel
   by_cases hlt : l < h
   · have hm1 : l ≤ (l + h - 1) / 2 ∧ (l + h - 1) / 2 < h := by omega
     obtain ⟨m, hm⟩ : ∃ m, m = (l + h - 1) / 2 := ⟨_, rfl⟩
     rw [← hm] at hm1
     have hm2 : ((l : Int) - 1 + h) / 2 = m := by omega
     have HM2 := hid hm2
     clear hm hm2
     obtain ⟨hx, hv⟩ := HH.out m (by omega)
     have HX := hid hx
     have HV := hid hv
     clear hx hv
     by_cases hN : N m ≤ c
     all_goals
      go_wp2_with fail
      simp only [HM2.out]
      refine (gq T _ _ _ 5 _ (by omega) rfl (by omega) (by omega) (by have := HT.out; omega) HX.out _ HV.out).mono ?_
      rintro e w1 ⟨rfl, rfl⟩
      go_wp2
      first
       | exact ⟨⟨m + 1, h, by simp, rfl, by omega, hhn, ⟨fun i hi => Nat.le_trans (HM.out i m (by omega) (by omega)) hN, HI.out.2⟩⟩, by simp [intOf]; omega⟩
       | exact ⟨⟨l, m, rfl, rfl, by omega, by omega, ⟨HI.out.1, fun i h1 h2 => Nat.lt_of_lt_of_le (Nat.lt_of_not_le hN) (HM.out m i h1 h2)⟩⟩, by simp [intOf]; omega⟩
   · go_wp2
     go_ret
     have e : h = l := by omega
     exact ⟨l, rfl, by omega, HI.out.1, e ▸ HI.out.2, Gr.drewN _ _⟩
theorem nU (T : ByteArray) (a n o m : Nat) (l : List UInt8) (h : (T.extract a (a + n)).data.toList = l) (ho : o + m ≤ n) : cut T (a + o) m = (l.drop o).take m := by
 rw [← h, Lib.extract_data, show a + n - a = n by omega]
 unfold cut
 rw [List.drop_take, List.drop_drop, List.take_take, Nat.min_eq_left (by omega)]
noncomputable def NC0 (i : Nat) : Nat := (Cl.getD i (0, 0, 0)).1
theorem Ia (i : Nat) (hi : i < 388) : ∃ e, Cl[i]? = some e ∧ NC0 i = e.1 ∧ ((∀ x ∈ cut tC (i * 12) 5, isHex x = true) ∧ val (cut tC (i * 12) 5) = e.1) ∧ ((∀ x ∈ cut tC (i * 12 + 5) 5, isHex x = true) ∧ val (cut tC (i * 12 + 5) 5) = e.2.1) ∧ ((∀ x ∈ cut tC (i * 12 + 10) 2, isHex x = true) ∧ val (cut tC (i * 12 + 10) 2) = e.2.2) := by
 obtain ⟨e, x, y, h1, h2, h3, h4, h5, h6, h7⟩ := ZH i hi
 have k1 := nU tC (i * 12) 12 0 5 _ h2 (by omega)
 have k2 := nU tC (i * 12) 12 5 5 _ h2 (by omega)
 have k3 := nU tC (i * 12) 12 10 2 _ h2 (by omega)
 have q1 : cut tC (i * 12) 5 = aZ e.1 := k1
 have q2 : cut tC (i * 12 + 5) 5 = aZ e.2.1 := k2
 have q3 : cut tC (i * 12 + 10) 2 = [x, y] := k3
 refine ⟨e, h1, by unfold NC0; rw [List.getD, h1]; rfl, ?_, ?_, ?_⟩
 · rw [q1]; exact ⟨jl _ h6, jT _ h6⟩
 · rw [q2]; exact ⟨jl _ h7, jT _ h7⟩
 · rw [q3]
   refine ⟨fun z hz => ?_, h5⟩
   simp only [List.mem_cons, List.not_mem_nil, or_false] at hz
   rcases hz with rfl | rfl
   · exact h3
   · exact h4
theorem ahO (c : Nat) (hc : c < 4294967296) (w : World) : Calls Tryz.prog 194 #[.string tC, .int .i64 12, .int .u32 c] w (NZ 388 NC0 c w) := by
 refine last_any tC 12 (by omega) 388 NC0 c hc w yN (by omega) (fun i hi => ?_) (fun i j hij hj => ?_)
 · obtain ⟨e, h1, h2, h3, _⟩ := Ia i hi; rw [h2]; exact h3
 · rcases Nat.lt_or_eq_of_le hij with h | rfl
   · obtain ⟨e, h1, h2, _⟩ := Ia i (by omega)
     obtain ⟨e', g1, g2, _⟩ := Ia j hj
     rw [h2, g2]
     have := jg FH h1 g1 h
     have := Iw e (List.mem_of_getElem? h1)
     omega
   · exact Nat.le_refl _
theorem acd (c l : Nat) (hl : l ≤ 388) (h1 : ∀ i, i < l → NC0 i ≤ c) (h2 : ∀ i, l ≤ i → i < 388 → c < NC0 i) : (l = 0 → cls c = 0) ∧ (∀ e, 0 < l → Cl[l - 1]? = some e → (e.2.1 < c → cls c = 0) ∧ (c ≤ e.2.1 → cls c = e.2.2)) := by
 have none : (∀ e ∈ Cl, ¬ (e.1 ≤ c ∧ c ≤ e.2.1)) → cls c = 0 := fun h => by
  unfold cls
  cases hd : jd c with
  | none => rfl
  | some e => obtain ⟨g1, g2, g3⟩ := jU hd; exact absurd ⟨g2, g3⟩ (h e g1)
 have at' : ∀ i e, Cl[i]? = some e → i < 388 ∧ NC0 i = e.1 := fun i e he => by
  have hi := (List.getElem?_eq_some_iff.1 he).1
  rw [ZJ] at hi
  obtain ⟨e', g1, g2, _⟩ := Ia i hi
  rw [he] at g1; obtain rfl := Option.some.inj g1
  exact ⟨hi, g2⟩
 refine ⟨fun h0 => none fun e he hh => ?_, fun e h0 he => ⟨fun hlt => none fun e' he' hh => ?_, fun hle => ?_⟩⟩
 · obtain ⟨i, hi⟩ := List.mem_iff_getElem?.1 he
   obtain ⟨g1, g2⟩ := at' i e hi
   have := h2 i (by omega) g1
   omega
 · obtain ⟨i, hi⟩ := List.mem_iff_getElem?.1 he'
   obtain ⟨g1, g2⟩ := at' i e' hi
   rcases Nat.lt_trichotomy i (l - 1) with h | h | h
   · have := jg FH hi he h
     have g3 := (at' _ _ he).2
     have := Iw e (List.mem_of_getElem? he)
     omega
   · subst h; rw [he] at hi; obtain rfl := Option.some.inj hi; omega
   · have := h2 i (by omega) g1; omega
 · have g3 := at' _ _ he
   have := h1 (l - 1) (by omega)
   unfold cls
   rw [OL (List.mem_of_getElem? he) (by omega) hle]
theorem ql (c : Nat) (hc : c < 4294967296) (w : World) : Calls Tryz.prog 173 #[.int .u32 c] w fun e w' => e = .returned (.int .i64 (cls c)) ∧ Gr w w' := by
 have hs : tC.size ≤ 100000 := by rw [yN]; omega
 have hs2 : tC.size = 12 * 388 := yN
 have HS2 := hid hs2
 clear hs2
 go_enter Tryz.func173, Tryz.ntmps173
 go_name_bytes T hT
 have eT : T = tC := by rw [← hT]; with_unfolding_all rfl
 subst eT
 clear hT
 go_wp2_with fail
 refine (ahO c hc _).mono ?_
 rintro e w1 ⟨l, rfl, hl, h1, h2, g1⟩
 obtain ⟨c1, c2⟩ := acd c l hl h1 h2
 have C1 := hid c1
 have C2 := hid c2
 clear c1 c2 h1 h2
 by_cases hl0 : l = 0
 · have hneg : ((l : Int) - 1) < 0 := by omega
   have HL := hid hl0
   clear hl0
   go_wp2
   go_ret
   exact ⟨by rw [C1.out HL.out]; rfl, g1⟩
 · obtain ⟨m, rfl⟩ : ∃ m, l = m + 1 := ⟨l - 1, by omega⟩
   obtain ⟨en, k1, k2, k3, k4, k5⟩ := Ia m (by omega)
   have hpos : ¬ (((m + 1 : Nat) : Int) - 1 < 0) := by omega
   have hm : ((m + 1 : Nat) : Int) - 1 = m := by omega
   have K3 := hid k3
   have K4 := hid k4
   have K5 := hid k5
   have K1 := hid k1
   have hb : (en.2.2 : Int) ≤ 255 := by have := Iw en (List.mem_of_getElem? k1); omega
   clear k1 k2 k3 k4 k5
   by_cases hlt : en.2.1 < c
   all_goals
    go_wp2_with fail
    refine (gq _ _ (m * 12 + 5) _ 5 _ (by omega) rfl hs (by omega) (by rw [HS2.out]; omega) K4.out.1 _ K4.out.2).mono ?_
    rintro e w2 ⟨rfl, rfl⟩
    first
     | (go_wp2
        go_ret
        exact ⟨by rw [(C2.out en (by omega) K1.out).1 hlt]; rfl, g1⟩)
     | (go_wp2_with fail
        refine (gq _ _ (m * 12 + 10) _ 2 _ (by omega) rfl hs (by omega) (by rw [HS2.out]; omega) K5.out.1 _ K5.out.2).mono ?_
        rintro e w2 ⟨rfl, rfl⟩
        go_wp2
        go_ret
        exact ⟨by rw [(C2.out en (by omega) K1.out).2 (by omega)]; rfl, g1⟩)
theorem CZ (i : Nat) (hi : i < 2061) : ∃ e, Dl[i]? = some e ∧ ND i = e.1 ∧ ((∀ x ∈ cut tD (i * 16) 5, isHex x = true) ∧ val (cut tD (i * 16) 5) = e.1) ∧ ((∀ x ∈ cut tD (i * 16 + 5) 5, isHex x = true) ∧ val (cut tD (i * 16 + 5) 5) = e.2.1) ∧
    ((∀ x ∈ cut tD (i * 16 + 10) 5, isHex x = true) ∧ val (cut tD (i * 16 + 10) 5) = e.2.2.1) ∧ ∃ f, cut tD (i * 16 + 15) 1 = [f] ∧ e.2.2.2 = Nat.beq f.toNat 99 := by
 obtain ⟨e, f, h1, h2, h3, h4, h5, h6⟩ := Vs i hi
 have q1 : cut tD (i * 16) 5 = aZ e.1 := nU tD (i * 16) 16 0 5 _ h2 (by omega)
 have q2 : cut tD (i * 16 + 5) 5 = aZ e.2.1 := nU tD (i * 16) 16 5 5 _ h2 (by omega)
 have q3 : cut tD (i * 16 + 10) 5 = aZ e.2.2.1 := nU tD (i * 16) 16 10 5 _ h2 (by omega)
 have q4 : cut tD (i * 16 + 15) 1 = [f] := nU tD (i * 16) 16 15 1 _ h2 (by omega)
 refine ⟨e, h1, by unfold ND; rw [List.getD, h1]; rfl, ?_, ?_, ?_, f, q4, h3⟩
 · rw [q1]; exact ⟨jl _ h4, jT _ h4⟩
 · rw [q2]; exact ⟨jl _ h5, jT _ h5⟩
 · rw [q3]; exact ⟨jl _ h6, jT _ h6⟩
theorem ahP (c : Nat) (hc : c < 4294967296) (w : World) : Calls Tryz.prog 194 #[.string tD, .int .i64 16, .int .u32 c] w (NZ 2061 ND c w) := by
 refine last_any tD 16 (by omega) 2061 ND c hc w vN (by omega) (fun i hi => ?_) (fun i j hij hj => ?_)
 · obtain ⟨e, h1, h2, h3, _⟩ := CZ i hi; rw [h2]; exact h3
 · rcases Nat.lt_or_eq_of_le hij with h | rfl
   · obtain ⟨e, h1, h2, _⟩ := CZ i (by omega)
     obtain ⟨e', g1, g2, _⟩ := CZ j hj
     rw [h2, g2]
     have := jg Ji h1 g1 h
     omega
   · exact Nat.le_refl _
theorem ahQ (i : Nat) (e) (he : Dl[i]? = some e) : i < 2061 ∧ ND i = e.1 := by
 have hi := (List.getElem?_eq_some_iff.1 he).1
 rw [Fh] at hi
 obtain ⟨e', g1, g2, _⟩ := CZ i hi
 rw [he] at g1; obtain rfl := Option.some.inj g1
 exact ⟨hi, g2⟩
theorem Tc (c l : Nat) (hl : l ≤ 2061) (h1 : ∀ i, i < l → ND i ≤ c) (h2 : ∀ i, l ≤ i → i < 2061 → c < ND i) : (l = 0 → bD c = none) ∧ (∀ e, 0 < l → Dl[l - 1]? = some e → (e.1 ≠ c → bD c = none) ∧ (e.1 = c → bD c = some e)) := by
 refine ⟨fun h0 => ?_, fun e h0 he => ⟨fun hne => ?_, fun heq => ?_⟩⟩
 · cases hd : bD c with
   | none => rfl
   | some e =>
    obtain ⟨g1, g2⟩ := bU hd
    obtain ⟨i, hi⟩ := List.mem_iff_getElem?.1 g1
    obtain ⟨k1, k2⟩ := ahQ i e hi
    have := h2 i (by omega) k1; omega
 · cases hd : bD c with
   | none => rfl
   | some e' =>
    obtain ⟨g1, g2⟩ := bU hd
    obtain ⟨i, hi⟩ := List.mem_iff_getElem?.1 g1
    obtain ⟨k1, k2⟩ := ahQ i e' hi
    rcases Nat.lt_trichotomy i (l - 1) with h | h | h
    · have := jg Ji hi he h
      have := h1 (l - 1) (by omega)
      have := (ahQ _ _ he).2; omega
    · subst h; rw [he] at hi; obtain rfl := Option.some.inj hi; exact absurd g2 hne
    · have := h2 i (by omega) k1; omega
 · subst heq; exact aan (List.mem_of_getElem? he)
def ajx (c : Nat) (w : World) (x : Ending) (w' : World) : Prop := Gr w w' ∧ ((bD c = none ∧ x = .returned (.int .i64 (-1))) ∨ ∃ (m : Nat) (e : Nat × Nat × Nat × Bool), Dl[m]? = some e ∧ m < 2061 ∧ bD c = some e ∧ x = .returned (.int .i64 (16 * (m : Int))))
theorem afd (c : Nat) (hc : c < 4294967296) (w : World) : Calls Tryz.prog 222 #[.int .u32 c] w (ajx c w) := by
 have hs : tD.size ≤ 100000 := by rw [vN]; omega
 have hs2 : tD.size = 16 * 2061 := vN
 have HS2 := hid hs2
 clear hs2
 go_enter Tryz.func222, Tryz.ntmps222
 go_name_bytes T hT
 have eT : T = tD := by rw [← hT]; with_unfolding_all rfl
 subst eT
 clear hT
 go_wp2_with fail
 refine (ahP c hc _).mono ?_
 rintro e w1 ⟨l, rfl, hl, h1, h2, g1⟩
 obtain ⟨c1, c2⟩ := Tc c l hl h1 h2
 have C1 := hid c1
 have C2 := hid c2
 clear c1 c2 h1 h2
 by_cases hl0 : l = 0
 · have hneg : ((l : Int) - 1) < 0 := by omega
   have HL := hid hl0
   clear hl0
   go_wp2
   go_ret
   exact ⟨g1, .inl ⟨C1.out HL.out, rfl⟩⟩
 · obtain ⟨m, rfl⟩ : ∃ m, l = m + 1 := ⟨l - 1, by omega⟩
   obtain ⟨en, k1, k2, k3, _⟩ := CZ m (by omega)
   have hm' : (((m + 1 : Nat) : Int) - 1) = m := by omega
   simp only [hm']
   clear hm'
   have K3 := hid k3
   have K1 := hid k1
   clear k1 k2 k3
   by_cases heq : en.1 = c
   · have hb : ((en.1 : Int) != c) = false := by rw [bne_eq_false_iff_eq]; omega
     have HQ := hid heq
     clear heq
     go_wp2_with fail
     refine (gq _ _ (m * 16) _ 5 _ (by omega) rfl hs (by omega) (by rw [HS2.out]; omega) K3.out.1 _ K3.out.2).mono ?_
     rintro e w2 ⟨rfl, rfl⟩
     go_wp2
     go_ret
     exact ⟨g1, .inr ⟨m, en, K1.out, by omega, (C2.out en (by omega) K1.out).2 HQ.out, rfl⟩⟩
   · have hb : ((en.1 : Int) != c) = true := by rw [bne_iff_ne]; omega
     have HQ := hid heq
     clear heq
     go_wp2_with fail
     refine (gq _ _ (m * 16) _ 5 _ (by omega) rfl hs (by omega) (by rw [HS2.out]; omega) K3.out.1 _ K3.out.2).mono ?_
     rintro e w2 ⟨rfl, rfl⟩
     go_wp2
     go_ret
     exact ⟨g1, .inl ⟨(C2.out en (by omega) K1.out).1 HQ.out, rfl⟩⟩
theorem vG (c : Nat) (hc : c < 4294967296) (w : World) : Calls Tryz.prog 217 #[.int .u32 c] w fun e w' => e = .returned (dval c) ∧ Gr w w' := by
 have hs : tD.size ≤ 100000 := by rw [vN]; omega
 have hs2 : tD.size = 16 * 2061 := vN
 have HS2 := hid hs2
 clear hs2
 go_enter Tryz.func217, Tryz.ntmps217
 go_name_bytes T hT
 have eT : T = tD := by rw [← hT]; with_unfolding_all rfl
 subst eT
 clear hT
 go_wp2_with fail
 refine (afd c hc _).mono ?_
 rintro x w1 ⟨g1, ⟨hd, rfl⟩ | ⟨m, e, hm, hlt, hd, rfl⟩⟩
 · have HD := hid hd
   clear hd
   go_wp2
   go_ret3
   refine ⟨?_, g1⟩
   unfold dval; rw [HD.out]; rfl
 · have HD := hid hd
   obtain ⟨en, k1, k2, k3, k4, k5, k6⟩ := CZ m hlt
   have ee : e = en := Option.some.inj (hm.symm.trans k1)
   subst ee
   have K4 := hid k4
   have K5 := hid k5
   clear hd hm k1 k2 k3 k4 k5 k6
   go_wp2_with fail
   refine (gq _ _ (m * 16 + 5) _ 5 _ (by omega) rfl hs (by omega) (by rw [HS2.out]; omega) K4.out.1 _ K4.out.2).mono ?_
   rintro x w2 ⟨rfl, rfl⟩
   go_wp2_with fail
   refine (gq _ _ (m * 16 + 10) _ 5 _ (by omega) rfl hs (by omega) (by rw [HS2.out]; omega) K5.out.1 _ K5.out.2).mono ?_
   rintro x w2 ⟨rfl, rfl⟩
   go_wp2
   go_ret3
   refine ⟨?_, g1⟩
   unfold dval; rw [HD.out]; rfl
noncomputable def composes (c : Nat) : Bool := match bD c with | some e => e.2.2.2 | none => false
noncomputable def NP0 (i : Nat) : Nat := (Pl.getD i (0, 0, 0)).1
theorem Ib (i : Nat) (hi : i < 941) : ∃ e, Pl[i]? = some e ∧ NP0 i = e.1 ∧ ((∀ x ∈ cut tP (i * 15) 5, isHex x = true) ∧ val (cut tP (i * 15) 5) = e.1) ∧ ((∀ x ∈ cut tP (i * 15 + 5) 5, isHex x = true) ∧ val (cut tP (i * 15 + 5) 5) = e.2.1) ∧
    ((∀ x ∈ cut tP (i * 15 + 10) 5, isHex x = true) ∧ val (cut tP (i * 15 + 10) 5) = e.2.2) := by
 obtain ⟨e, h1, h2, h4, h5, h6⟩ := OD i hi
 have q1 : cut tP (i * 15) 5 = aZ e.1 := nU tP (i * 15) 15 0 5 _ h2 (by omega)
 have q2 : cut tP (i * 15 + 5) 5 = aZ e.2.1 := nU tP (i * 15) 15 5 5 _ h2 (by omega)
 have q3 : cut tP (i * 15 + 10) 5 = aZ e.2.2 := nU tP (i * 15) 15 10 5 _ h2 (by omega)
 refine ⟨e, h1, by unfold NP0; rw [List.getD, h1]; rfl, ?_, ?_, ?_⟩
 · rw [q1]; exact ⟨jl _ h4, jT _ h4⟩
 · rw [q2]; exact ⟨jl _ h5, jT _ h5⟩
 · rw [q3]; exact ⟨jl _ h6, jT _ h6⟩
theorem afe (i : Nat) (e) (he : Pl[i]? = some e) : i < 941 ∧ NP0 i = e.1 ∧ e.2.1 < 1048576 := by
 have hi := (List.getElem?_eq_some_iff.1 he).1
 rw [Fz] at hi
 obtain ⟨e', g1, g2, _⟩ := Ib i hi
 rw [he] at g1; obtain rfl := Option.some.inj g1
 have := adD e (List.mem_of_getElem? he)
 exact ⟨hi, g2, by omega⟩
theorem Qu (i j : Nat) (hij : i ≤ j) (hj : j < 941) : NP0 i ≤ NP0 j := by
 rcases Nat.lt_or_eq_of_le hij with h | rfl
 · obtain ⟨e, h1, h2, _⟩ := Ib i (by omega)
   obtain ⟨e', g1, g2, _⟩ := Ib j hj
   rw [h2, g2]
   have := jg OE h1 g1 h
   have := (afe _ _ g1).2.2
   omega
 · exact Nat.le_refl _
theorem ahR (c : Nat) (hc : c < 4294967296) (w : World) : Calls Tryz.prog 194 #[.string tP, .int .i64 15, .int .u32 c] w (NZ 941 NP0 c w) := by
 refine last_any tP 15 (by omega) 941 NP0 c hc w yM (by omega) (fun i hi => ?_) Qu
 obtain ⟨e, h1, h2, h3, _⟩ := Ib i hi; rw [h2]; exact h3
noncomputable def IV (a b : Nat) : Value := match iO a b with | some e => .tuple #[.int .u32 e.2.2, .bool true] | none => .tuple #[.int .u32 0, .bool false]
def Gone (a b l : Nat) : Prop := ∀ i e, l ≤ i → Pl[i]? = some e → ¬ (e.1 = a ∧ e.2.1 = b)
theorem Gone.nil' {a b l : Nat} (h : Gone a b l) (h0 : ∀ i e, i < l → Pl[i]? = some e → e.1 ≠ a) : IV a b = .tuple #[.int .u32 0, .bool false] := by
 have : iO a b = none := by
  cases hd : iO a b with
  | none => rfl
  | some e =>
   obtain ⟨g1, g2, g3⟩ := iL hd
   obtain ⟨i, hi⟩ := List.mem_iff_getElem?.1 g1
   by_cases hl : l ≤ i
   · exact absurd ⟨g2, g3⟩ (h i e hl hi)
   · exact absurd g2 (h0 i e (by omega) hi)
 unfold IV; rw [this]
theorem Yu (a b : Nat) (ha : a < 4294967296) (_hb : b < 4294967296) (w : World) : Calls Tryz.prog 193 #[.int .u32 a, .int .u32 b] w fun e w' => e = .returned (IV a b) ∧ Gr w w' := by
 have hs : tP.size ≤ 100000 := by rw [yM]; omega
 have HS2 : Hid (tP.size = 15 * 941) := yM
 go_enter Tryz.func193, Tryz.ntmps193
 go_name_bytes T hT
 have eT : T = tP := by rw [← hT]; with_unfolding_all rfl
 subst eT
 clear hT
 go_wp2_with fail
 refine (ahR a ha _).mono ?_
 rintro x w1 ⟨l0, rfl, hl, h1, h2, g1⟩
 have H2 := hid h2
 have H1 := hid h1
 clear h1 h2
 go_wp2_with fail
 go_loop [6] (fun v => ∃ l : Nat, v = .int .i64 ((l : Int) - 1) ∧ l ≤ l0 ∧ Hid (Gone a b l)) (fun v => (intOf v + 1).toNat)
 case atStart => exact ⟨l0, rfl, Nat.le_refl _, fun i e hi he hh => by
  obtain ⟨k1, k2, _⟩ := afe i e he
  have := H2.out i hi k1
  omega⟩
 case round =>
  obtain ⟨l, rfl, hll, HG⟩ := hrel
  by_cases hl0 : l = 0
  · have hneg : ¬ (0 ≤ (l : Int) - 1) := by omega
    have HL := hid hl0
    clear hl0
    go_wp2
    go_ret2
    refine ⟨?_, g1⟩
    rw [HG.out.nil' fun i e hi => by have := HL.out; omega]; rfl
  · obtain ⟨m, rfl⟩ : ∃ m, l = m + 1 := ⟨l - 1, by omega⟩
    obtain ⟨en, k1, k2, k3, k4, k5⟩ := Ib m (by omega)
    have hm' : (((m + 1 : Nat) : Int) - 1) = m := by omega
    have hle := H1.out m (by omega)
    rw [k2] at hle
    have K1 := hid k1
    have K2 := hid k2
    have K3 := hid k3
    have K4 := hid k4
    have K5 := hid k5
    clear k1 k2 k3 k4 k5
    simp only [hm']
    clear hm'
    by_cases hq : en.1 = a
    · have hb1 : ((en.1 : Int) == a) = true := by rw [beq_iff_eq]; omega
      have HQ := hid hq
      clear hq
      by_cases hq2 : en.2.1 = b
      · have hb2 : ((en.2.1 : Int) == b) = true := by rw [beq_iff_eq]; omega
        have HQ2 := hid hq2
        clear hq2
        go_wp2_with fail
        refine (gq _ _ (m * 15) _ 5 _ (by omega) rfl hs (by omega) (by rw [HS2.out]; omega) K3.out.1 _ K3.out.2).mono ?_
        rintro x w2 ⟨rfl, rfl⟩
        go_wp2_with fail
        refine (gq _ _ (m * 15 + 5) _ 5 _ (by omega) rfl hs (by omega) (by rw [HS2.out]; omega) K4.out.1 _ K4.out.2).mono ?_
        rintro x w2 ⟨rfl, rfl⟩
        go_wp2_with fail
        refine (gq _ _ (m * 15 + 10) _ 5 _ (by omega) rfl hs (by omega) (by rw [HS2.out]; omega) K5.out.1 _ K5.out.2).mono ?_
        rintro x w2 ⟨rfl, rfl⟩
        go_wp2
        go_ret2
        refine ⟨?_, g1⟩
        unfold IV
        rw [← HQ.out, ← HQ2.out, aao (List.mem_of_getElem? K1.out)]; rfl
      · have hb2 : ((en.2.1 : Int) == b) = false := by rw [beq_eq_false_iff_ne]; omega
        have HQ2 := hid hq2
        clear hq2
        go_wp2_with fail
        refine (gq _ _ (m * 15) _ 5 _ (by omega) rfl hs (by omega) (by rw [HS2.out]; omega) K3.out.1 _ K3.out.2).mono ?_
        rintro x w2 ⟨rfl, rfl⟩
        go_wp2_with fail
        refine (gq _ _ (m * 15 + 5) _ 5 _ (by omega) rfl hs (by omega) (by rw [HS2.out]; omega) K4.out.1 _ K4.out.2).mono ?_
        rintro x w2 ⟨rfl, rfl⟩
        go_wp2
        exact ⟨⟨m, rfl, by omega, fun i e hi he hh => by
         by_cases him : i = m
         · subst him; have := K1.out; rw [he] at this; obtain rfl := Option.some.inj this; exact HQ2.out hh.2
         · exact HG.out i e (by omega) he hh⟩, by simp [intOf]⟩
    · have hb1 : ((en.1 : Int) == a) = false := by rw [beq_eq_false_iff_ne]; omega
      have hlt : en.1 < a := by omega
      clear hq hle
      go_wp2_with fail
      refine (gq _ _ (m * 15) _ 5 _ (by omega) rfl hs (by omega) (by rw [HS2.out]; omega) K3.out.1 _ K3.out.2).mono ?_
      rintro x w2 ⟨rfl, rfl⟩
      go_wp2
      go_ret2
      refine ⟨?_, g1⟩
      rw [HG.out.nil' fun i e hi he => by
       have k1 := Qu i m (by omega) (afe _ _ K1.out).1
       rw [(afe _ _ he).2.1, K2.out] at k1
       omega]
      rfl
theorem ace (c : Nat) : quick c = if (bD c).isSome ∧ composes c = false then 1 else if second c then 2 else 0 := by
 unfold quick composes
 cases bD c with
 | none => simp
 | some e => simp; cases e.2.2.2 <;> simp
end Go.Proofs.YthlflglkdaainaaGreatDoor
