import Derived.Lib.EndianBits
import Derived.Lib.ValidAsc
import Derived.Laws.BitsAllLaws
import Derived.Shelf.Unicode.DecodeSlow
import Derived.BigQuiet
import Derived.Deep.LoopGhost
import Derived.Deep.DeepMust
import Derived.Deep.DeepBigQuietO
import Derived.Deep.CutBlock
import Derived.Deep.DeepCutAuto
import Derived.Test.YthlflglkdaainaaGreatDoorPA
/- Texts of this seat: KV. -/
set_option maxRecDepth 100000
set_option maxHeartbeats 8000000
namespace Go.Proofs.YthlflglkdaainaaGreatDoor
open Go.RowKit Go.Lib
def SB (w : World) (v : Value) (t : ByteArray) : Prop := ∃ ao, v = .slice ao t.size t.size ∧ ∀ j, j < t.size → ∃ g o, ao = some ⟨g, o, none⟩ ∧ w.cell? ⟨g, o + j, none⟩ = some (.int .u8 ((t.get! j).toNat : Int))
theorem SB.gr {w w' : World} {v : Value} {t : ByteArray} (h : SB w v t) (g : Gr w w') : SB w' v t := by
 obtain ⟨ao, h1, h2⟩ := h
 exact ⟨ao, h1, fun j hj => by obtain ⟨b, o, h3, h4⟩ := h2 j hj; exact ⟨b, o, h3, g.cell h4⟩⟩
def cutK (n k g o : Nat) : Option Addr := if n = k then some ⟨g, o, none⟩ else some ⟨g, o + k, none⟩
theorem cutK_lt {n k : Nat} (h : k < n) (g o : Nat) : cutK n k g o = some ⟨g, o + k, none⟩ := by unfold cutK; rw [if_neg (by omega)]
theorem get_ext (t : ByteArray) (k j : Nat) : (t.extract k t.size).get! j = t.get! (k + j) := by
 rw [← getD_get!', ← getD_get!', ext_list, List.getD, List.getD, List.getElem?_drop]
theorem SB.ext {w : World} {g o : Nat} {t : ByteArray} {n : Nat} (h : SB w (.slice (some ⟨g, o, none⟩) n n) t) (k : Nat) (hk : k ≤ t.size) : SB w (.slice (cutK n k g o) (n - k) (n - k)) (t.extract k t.size) := by
 obtain ⟨ao, h1, h2⟩ := h
 injection h1 with e1 e2 e3
 subst e1 e2
 refine ⟨cutK t.size k g o, by rw [ext_size], fun j hj => ?_⟩
 rw [ext_size] at hj
 obtain ⟨g', o', e, hc⟩ := h2 (k + j) (by omega)
 cases e
 rw [cutK, if_neg (by omega)]
 exact ⟨g, o + k, rfl, by rw [Nat.add_assoc, hc, get_ext t k j]⟩
theorem SB.at {w : World} {g o n m : Nat} {t : ByteArray} (h : SB w (.slice (some ⟨g, o, none⟩) n m) t) {j : Nat} (hj : j < t.size) : w.cell? ⟨g, o + j, none⟩ = some (.int .u8 ((t.get! j).toNat : Int)) := by
 obtain ⟨ao, h1, h2⟩ := h
 injection h1 with e1 e2 e3
 subst e1
 obtain ⟨g', o', e, hc⟩ := h2 j hj
 cases e
 exact hc
theorem adr_add (g o : Nat) (j : Nat) : (⟨g, o, none⟩ : Addr).add j = ⟨g, o + j, none⟩ := by
 simp only [Addr.add]
 split
 · rename_i h; subst h; rfl
 · rfl
theorem cutK_run (g o n k : Nat) (hk : k ≤ n) (W : World) : (Instr.slice 46 (.slice (some ⟨g, o, none⟩) n n) (some (.int .i64 (k : Int))) none none).run Tryz.prog W = .ok (.slice (cutK n k g o) (n - k) (n - k)) W := by
 rw [run_slice_l (P := Tryz.prog) W 46 (some ⟨g, o, none⟩) n n (by kernel_rfl) .i64 k (by omega) (by omega)]
 have h : (sizeOf (Tryz.prog.elem 46)).run Tryz.prog W = .ok 1 W := by kernel_rfl
 rw [h]
 simp only [Result.andThen, sliced, cutK, Int.toNat_natCast]
 by_cases hc : n = k
 · rw [if_pos hc, if_pos hc]
 · rw [if_neg hc, if_neg hc]
   rw [Option.map_some, Nat.mul_one, adr_add]
theorem cutKAt_run (g o n k : Nat) (hk : k ≤ n) (W : World) : (Instr.sliceAt 46 (.slice (some ⟨g, o, none⟩) n n) (some (.int .i64 (k : Int))) none none).run Tryz.prog W = .ok (.slice (cutK n k g o) (n - k) (n - k)) W := by
 rw [run_sliceAt_slice (P := Tryz.prog) W 46 _ _ _ _ (by kernel_rfl)]
 exact cutK_run g o n k hk W
def leAt (t : ByteArray) : Nat := leNat [t.get! 0, t.get! 1, t.get! 2, t.get! 3, t.get! 4, t.get! 5, t.get! 6, t.get! 7]
theorem word_any (g o n : Nat) (t : ByteArray) (w : World) (h8 : 8 ≤ n) (hv : SB w (.slice (some ⟨g, o, none⟩) n n) t) :
    Calls Tryz.prog 126 #[.slice (some ⟨g, o, none⟩) n n] w fun e w' => e = .returned (.int .u64 (leAt t)) ∧ ∃ q, w' = w.drewN q := by
 have hn : n = t.size := by obtain ⟨ao, h1, _⟩ := hv; injection h1
 unfold leAt
 have c0 := hv.at (j := 0) (by omega)
 have c1 := hv.at (j := 1) (by omega)
 have c2 := hv.at (j := 2) (by omega)
 have c3 := hv.at (j := 3) (by omega)
 have c4 := hv.at (j := 4) (by omega)
 have c5 := hv.at (j := 5) (by omega)
 have c6 := hv.at (j := 6) (by omega)
 have c7 := hv.at (j := 7) (by omega)
 have h0 : (t.get! 0).toNat < 256 := (t.get! 0).toNat_lt
 have h1 : (t.get! 1).toNat < 256 := (t.get! 1).toNat_lt
 have h2 : (t.get! 2).toNat < 256 := (t.get! 2).toNat_lt
 have h3 : (t.get! 3).toNat < 256 := (t.get! 3).toNat_lt
 have h4 : (t.get! 4).toNat < 256 := (t.get! 4).toNat_lt
 have h5 : (t.get! 5).toNat < 256 := (t.get! 5).toNat_lt
 have h6 : (t.get! 6).toNat < 256 := (t.get! 6).toNat_lt
 have h7 : (t.get! 7).toNat < 256 := (t.get! 7).toNat_lt
 generalize t.get! 0 = x0 at *
 generalize t.get! 1 = x1 at *
 generalize t.get! 2 = x2 at *
 generalize t.get! 3 = x3 at *
 generalize t.get! 4 = x4 at *
 generalize t.get! 5 = x5 at *
 generalize t.get! 6 = x6 at *
 generalize t.get! 7 = x7 at *
 rw [Nat.add_zero] at c0
 have hval : ((leNat [x0, x1, x2, x3, x4, x5, x6, x7] : Nat) : Int) = (x0.toNat : Int) + (x1.toNat : Int) * 256 + (x2.toNat : Int) * 65536 + (x3.toNat : Int) * 16777216 + (x4.toNat : Int) * 4294967296 + (x5.toNat : Int) * 1099511627776 + (x6.toNat : Int) * 281474976710656 + (x7.toNat : Int) * 72057594037927936 := by
  simp only [leNat]
  push_cast
  omega
 have q0 : (0 : Int) < (n : Int) := by omega
 have q1 : (1 : Int) < (n : Int) := by omega
 have q2 : (2 : Int) < (n : Int) := by omega
 have q3 : (3 : Int) < (n : Int) := by omega
 have q4 : (4 : Int) < (n : Int) := by omega
 have q5 : (5 : Int) < (n : Int) := by omega
 have q6 : (6 : Int) < (n : Int) := by omega
 have q7 : (7 : Int) < (n : Int) := by omega
 clear hn hv h8
 go_enter Tryz.func126, Tryz.ntmps126
 go_wp2
 go_quiet (fail)
 go_wp2
 go_ret
 refine ⟨?_, _, rfl⟩
 simp (disch := omega) only [u64_or8, u64_or16, u64_or24, u64_or32, u64_or40, u64_or48, u64_or56]
 rw [hval]
 rfl
end Go.Proofs.YthlflglkdaainaaGreatDoor
namespace Go.Proofs.YthlflglkdaainaaGreatDoor
open Go.RowKit Go.Lib
abbrev Ut (w : World) : Prop := Utf8Tabs 0 1 w
theorem Ut.gr {w w' : World} (h : Ut w) (g : Gr w w') : Ut w' := Utf8Tabs_below h g
theorem and7 : ∀ X : Fin 256, bits .and .u8 ((X.val : Nat) : Int) 7 = ((X.val % 8 : Nat) : Int) := by decide
theorem le_lt (t : ByteArray) : leAt t < 18446744073709551616 := word_lt t
theorem le_asc (t : ByteArray) (h : 8 ≤ t.size) : leAt t &&& 9259542123273814144 = 0 ↔ Asc t 8 := word_asc t h
set_option maxHeartbeats 16000000 in
set_option maxRecDepth 1000000 in
theorem Valid_any (ao : Option Addr) (n cap : Nat) (t0 : ByteArray) (w : World) (hn : t0.size = n) (hcap : n ≤ cap) (hz : n ≤ 1000000) (hv : ∀ j, j < t0.size → ∃ g o, ao = some ⟨g, o, none⟩ ∧ w.cell? ⟨g, o + j, none⟩ = some (.int .u8 ((t0.get! j).toNat : Int))) (hT : Ut w) :
    Calls Tryz.prog 92 #[.slice ao n cap] w fun e w' => e = .returned (.bool (validD t0.data.toList)) ∧ Gr w w' := by
 obtain ⟨ANS, hANS⟩ : ∃ ANS, validD t0.data.toList = ANS := ⟨_, rfl⟩
 rw [hANS]
 have hcut0 : ∀ W, (Instr.slice 46 (.slice ao n cap) none (some (.int .i64 (n : Int))) (some (.int .i64 (n : Int)))).run Tryz.prog W = .ok (.slice ao n n) W := fun W => by
  rw [run_slice_hm (P := Tryz.prog) W 46 ao n cap (by kernel_rfl) .i64 .i64 n n (by omega) (by omega) (by omega)]
  have h : (sizeOf (Tryz.prog.elem 46)).run Tryz.prog W = .ok 1 W := by kernel_rfl
  rw [h]
  simp only [Result.andThen, sliced, Int.toNat_natCast]
  split
  · rfl
  · obtain ⟨g, o, rfl, _⟩ := hv 0 (by omega)
    rfl
 have HS : Hid (SB w (.slice ao n n) t0) := ⟨ao, by rw [hn], hv⟩
 have HA := hid hANS
 have HN := hid hn
 have HT := hid hT
 clear hANS hv hT hn
 go_enter Tryz.func92, Tryz.ntmps92
 go_wp2
 go_loopg [0] (n + 1) (fun gk s0 wx => Gr w wx ∧ ∃ (t : ByteArray) (m : Nat) (aq : Option Addr), s0 = .slice aq m m ∧ Hid (SB w (.slice aq m m) t) ∧ Hid (validD t.data.toList = ANS) ∧ Hid (t.size = m) ∧ m < gk ∧ m ≤ n)
 case atStart => exact ⟨Gr.refl _, t0, n, ao, rfl, HS, HA, HN, by omega, Nat.le_refl _⟩
 case round =>
  obtain ⟨hbw, t, m, aq, rfl, HSt, HV, HM, hg, hmn⟩ := hrel
  clear HA HS HN
  have hTr := HT.out.gr hbw
  by_cases h0 : 0 < m
  · obtain ⟨g', rfl⟩ : ∃ g', gk = g' + 1 := ⟨gk - 1, by omega⟩
    have h0z : (0 : Int) < (m : Int) := by omega
    have hmb : (m : Int) ≤ 1000000 := by omega
    obtain ⟨g, o, rfl⟩ : ∃ g o, aq = some ⟨g, o, none⟩ := by
     obtain ⟨a', e, hc⟩ := HSt.out
     injection e with e1 e2 e3
     subst e1
     obtain ⟨g, o, e, _⟩ := hc 0 (by rw [HM.out]; exact h0)
     exact ⟨g, o, e⟩
    have hat := fun {j : Nat} (hj : j < m) => hbw.cell (HSt.out.at (j := j) (by rw [HM.out]; exact hj))
    have hx0c := hat h0
    rw [Nat.add_zero] at hx0c
    obtain ⟨x0, hx0⟩ : ∃ x0, t.get! 0 = x0 := ⟨_, rfl⟩
    rw [hx0] at hx0c
    have hx0lt : x0.toNat < 256 := x0.toNat_lt
    by_cases hasc : x0.toNat < 128
    · as_aux_lemma =>
      have hascz : (x0.toNat : Int) < 128 := by omega
      have a1 : Asc t 1 := asc_one t (by rw [HM.out]; exact h0) (by rw [hx0]; exact hasc)
      obtain ⟨t1, ht1⟩ : ∃ t1, t.extract 1 t.size = t1 := ⟨_, rfl⟩
      have hcut1 : ∀ W, (Instr.slice 46 (.slice (some ⟨g, o, none⟩) m m) (some (.int .i64 1)) none none).run Tryz.prog W = .ok (.slice (cutK m 1 g o) (m - 1) (m - 1)) W := fun W => cutK_run g o m 1 (by omega) W
      obtain ⟨m1, hm1⟩ : ∃ m1, m - 1 = m1 := ⟨_, rfl⟩
      rw [hm1] at hcut1
      have HS1 : Hid (SB w (.slice (cutK m 1 g o) m1 m1) t1) := by have := HSt.out.ext 1 (by rw [HM.out]; omega); rwa [ht1, hm1] at this
      have HM1 : Hid (t1.size = m1) := by show _ = _; rw [← ht1, ext_size, HM.out]; exact hm1
      have HV1 : Hid (validD t1.data.toList = ANS) := by show _ = _; rw [← ht1, valid_skip t 1 a1]; exact HV.out
      have hm1lt : m1 < g' := by omega
      have hm1n : m1 ≤ n := by omega
      have hm1z : (m1 : Int) ≤ 1000000 := by omega
      have HH := hid hm1
      clear hTr HT hm1 a1 ht1 hat HSt HV HM hx0
      by_cases c8 : 8 < m1
      · have c8z : (8 : Int) < (m1 : Int) := by omega
        rw [cutK_lt (by have := HH.out; omega)] at hcut1 HS1
        obtain ⟨A1, hA1⟩ : ∃ A1, leAt t1 = A1 := ⟨_, rfl⟩
        have lA1 : A1 < 18446744073709551616 := hA1 ▸ le_lt t1
        have cW1 := hid (fun W (k : Gr w W) => by have := word_any g (o + 1) m1 t1 W (by omega) (HS1.out.gr k); rwa [hA1] at this)
        have kA1 := le_asc t1 (by rw [HM1.out]; omega)
        rw [hA1] at kA1
        have hand1 : bits .and .u64 (A1 : Int) 9259542123273814144 = ((A1 &&& 9259542123273814144 : Nat) : Int) := u64_and_nat A1 9259542123273814144 lA1 (by omega)
        obtain ⟨Z1, hZ1⟩ : ∃ Z1, A1 &&& 9259542123273814144 = Z1 := ⟨_, rfl⟩
        rw [hZ1] at hand1 kA1
        clear hZ1 hA1
        by_cases hz1 : Z1 = 0
        · as_aux_lemma =>
          have hz1b : ((Z1 : Int) == 0) = true := by simp [hz1]
          have a8 : Asc t1 8 := kA1.1 hz1
          obtain ⟨t2, ht2⟩ : ∃ t2, t1.extract 8 t1.size = t2 := ⟨_, rfl⟩
          have hcut2 : ∀ W, (Instr.slice 46 (.slice (some ⟨g, o + 1, none⟩) m1 m1) (some (.int .i64 8)) none none).run Tryz.prog W = .ok (.slice (cutK m1 8 g (o + 1)) (m1 - 8) (m1 - 8)) W := fun W => cutK_run g (o + 1) m1 8 (by omega) W
          rw [cutK_lt (by omega)] at hcut2
          obtain ⟨m2, hm2⟩ : ∃ m2, m1 - 8 = m2 := ⟨_, rfl⟩
          obtain ⟨o2, ho2⟩ : ∃ o2, o + 1 + 8 = o2 := ⟨_, rfl⟩
          rw [hm2, ho2] at hcut2
          have HS2 : Hid (SB w (.slice (some ⟨g, o2, none⟩) m2 m2) t2) := by have := HS1.out.ext 8 (by rw [HM1.out]; omega); rwa [ht2, hm2, cutK_lt (by omega), ho2] at this
          have HM2 : Hid (t2.size = m2) := by show _ = _; rw [← ht2, ext_size, HM1.out]; exact hm2
          have HV2 : Hid (validD t2.data.toList = ANS) := by show _ = _; rw [← ht2, valid_skip t1 8 a8]; exact HV1.out
          have hm2lt : m2 < g' := by omega
          have hm2n : m2 ≤ n := by omega
          have hm2z : (m2 : Int) ≤ 1000000 := by omega
          clear kA1 a8 HV1 ht2 HS1 HM1 hm2 ho2
          go_wp2_with (go_at_call 126; refine (cW1.out _ hbw).mono ?_; clear cW1; rintro e W1 ⟨rfl, q1, rfl⟩)
          have hb1 : Gr w (wr.drewN q1) := hbw.trans (Gr.drewN _ _)
          generalize wr.drewN q1 = wq at hb1 ⊢
          clear hbw hcut1 hand1 lA1 hx0c
          by_cases c16 : 16 < m2
          · have c16z : (16 : Int) < (m2 : Int) := by omega
            obtain ⟨t2b, ht2b⟩ : ∃ t2b, t2.extract 8 t2.size = t2b := ⟨_, rfl⟩
            have hcutb : ∀ W, (Instr.sliceAt 46 (.slice (some ⟨g, o2, none⟩) m2 m2) (some (.int .i64 8)) none none).run Tryz.prog W = .ok (.slice (cutK m2 8 g o2) (m2 - 8) (m2 - 8)) W := fun W => cutKAt_run g o2 m2 8 (by omega) W
            have hcutb' : ∀ W, (Instr.slice 46 (.slice (some ⟨g, o2, none⟩) m2 m2) (some (.int .i64 8)) none none).run Tryz.prog W = .ok (.slice (cutK m2 8 g o2) (m2 - 8) (m2 - 8)) W := fun W => cutK_run g o2 m2 8 (by omega) W
            rw [cutK_lt (by omega)] at hcutb hcutb'
            obtain ⟨mb, hmb'⟩ : ∃ mb, m2 - 8 = mb := ⟨_, rfl⟩
            rw [hmb'] at hcutb hcutb'
            have HSb : Hid (SB w (.slice (some ⟨g, o2 + 8, none⟩) mb mb) t2b) := by have := HS2.out.ext 8 (by rw [HM2.out]; omega); rwa [ht2b, hmb', cutK_lt (by omega)] at this
            have HMb : Hid (t2b.size = mb) := by show _ = _; rw [← ht2b, ext_size, HM2.out]; exact hmb'
            obtain ⟨A2, hA2⟩ : ∃ A2, leAt t2 = A2 := ⟨_, rfl⟩
            have lA2 : A2 < 18446744073709551616 := hA2 ▸ le_lt t2
            have cW2 := hid (fun W (k : Gr w W) => by have := word_any g o2 m2 t2 W (by omega) (HS2.out.gr k); rwa [hA2] at this)
            have kA2 := le_asc t2 (by rw [HM2.out]; omega)
            rw [hA2] at kA2
            obtain ⟨A3, hA3⟩ : ∃ A3, leAt t2b = A3 := ⟨_, rfl⟩
            have lA3 : A3 < 18446744073709551616 := hA3 ▸ le_lt t2b
            have cW3 := hid (fun W (k : Gr w W) => by have := word_any g (o2 + 8) mb t2b W (by omega) (HSb.out.gr k); rwa [hA3] at this)
            have kA3 := le_asc t2b (by rw [HMb.out]; omega)
            rw [hA3] at kA3
            have hor2 : bits .or .u64 (A2 : Int) (A3 : Int) = ((A2 ||| A3 : Nat) : Int) := u64_or_nat A2 A3 lA2 lA3
            have lor2 : A2 ||| A3 < 18446744073709551616 := Nat.or_lt_two_pow (n := 64) lA2 lA3
            have hand2 : bits .and .u64 ((A2 ||| A3 : Nat) : Int) 9259542123273814144 = (((A2 ||| A3) &&& 9259542123273814144 : Nat) : Int) := u64_and_nat _ 9259542123273814144 lor2 (by omega)
            have k2 : (A2 ||| A3) &&& 9259542123273814144 = 0 → Asc t2 16 := fun h0' => by
             obtain ⟨e1, e2⟩ := (or_mask A2 A3 _).1 h0'
             exact asc_add t2 8 8 (kA2.1 e1) (by rw [ht2b]; exact kA3.1 e2)
            obtain ⟨O2, hO2⟩ : ∃ O2, A2 ||| A3 = O2 := ⟨_, rfl⟩
            rw [hO2] at hor2 hand2 k2
            obtain ⟨Z2, hZ2⟩ : ∃ Z2, O2 &&& 9259542123273814144 = Z2 := ⟨_, rfl⟩
            rw [hZ2] at hand2 k2
            clear kA2 kA3 lor2 hO2 hZ2 hA2 hA3 ht2b HSb HMb hmb'
            by_cases hz2 : Z2 = 0
            · as_aux_lemma =>
              have hz2b : ((Z2 : Int) == 0) = true := by simp [hz2]
              have a16 := k2 hz2
              obtain ⟨t3, ht3⟩ : ∃ t3, t2.extract 16 t2.size = t3 := ⟨_, rfl⟩
              have hcut3 : ∀ W, (Instr.slice 46 (.slice (some ⟨g, o2, none⟩) m2 m2) (some (.int .i64 16)) none none).run Tryz.prog W = .ok (.slice (cutK m2 16 g o2) (m2 - 16) (m2 - 16)) W := fun W => cutK_run g o2 m2 16 (by omega) W
              rw [cutK_lt (by omega)] at hcut3
              obtain ⟨m3, hm3⟩ : ∃ m3, m2 - 16 = m3 := ⟨_, rfl⟩
              rw [hm3] at hcut3
              have HS3 : Hid (SB w (.slice (some ⟨g, o2 + 16, none⟩) m3 m3) t3) := by have := HS2.out.ext 16 (by rw [HM2.out]; omega); rwa [ht3, hm3, cutK_lt (by omega)] at this
              have HM3 : Hid (t3.size = m3) := by show _ = _; rw [← ht3, ext_size, HM2.out]; exact hm3
              have HV3 : Hid (validD t3.data.toList = ANS) := by show _ = _; rw [← ht3, valid_skip t2 16 a16]; exact HV2.out
              have hm3lt : m3 < g' := by omega
              have hm3n : m3 ≤ n := by omega
              clear k2 a16 HV2 HS2 HM2 ht3
              go_big_quiet (first | (with_reducible refine Calls.quiet_of (cW2.out _ (hb1.trans (Gr.drewN _ _)))) | (with_reducible refine Calls.quiet_of (cW3.out _ (hb1.trans (Gr.drewN _ _)))))
              have hb2 : Gr w (wq.drewN nq) := hb1.trans (Gr.drewN _ _)
              generalize wq.drewN nq = wq2 at hb2 ⊢
              clear cW2 cW3 hb1 hcutb hcutb' hcut2 hor2 hand2 lA2 lA3
              go_wp2
              clear hcut3 hm3
              go_loopg [0] (m3 + 1) (fun g2 s0 wx => Gr w wx ∧ ∃ (u : ByteArray) (k ou : Nat), s0 = .slice (some ⟨g, ou, none⟩) k k ∧ Hid (SB w (.slice (some ⟨g, ou, none⟩) k k) u) ∧ Hid (validD u.data.toList = ANS) ∧ Hid (u.size = k) ∧ k < g2 ∧ k ≤ m3)
              case atStart => exact ⟨hb2, t3, m3, _, rfl, HS3, HV3, HM3, by omega, Nat.le_refl _⟩
              case round =>
               as_aux_lemma =>
               obtain ⟨hbu, u, k, ou, rfl, HSu, HVu, HMu, hgu, hut⟩ := hrel
               clear HS3 HV3 HM3
               by_cases c32 : 32 < k
               · obtain ⟨g3, rfl⟩ : ∃ g3, gk = g3 + 1 := ⟨gk - 1, by omega⟩
                 have c32z : (32 : Int) < (k : Int) := by omega
                 have hkz : (k : Int) ≤ 1000000 := by omega
                 obtain ⟨ub, hub⟩ : ∃ ub, u.extract 8 u.size = ub := ⟨_, rfl⟩
                 have hcb : ∀ W, (Instr.sliceAt 46 (.slice (some ⟨g, ou, none⟩) k k) (some (.int .i64 8)) none none).run Tryz.prog W = .ok (.slice (cutK k 8 g ou) (k - 8) (k - 8)) W := fun W => cutKAt_run g ou k 8 (by omega) W
                 have hcb' : ∀ W, (Instr.slice 46 (.slice (some ⟨g, ou, none⟩) k k) (some (.int .i64 8)) none none).run Tryz.prog W = .ok (.slice (cutK k 8 g ou) (k - 8) (k - 8)) W := fun W => cutK_run g ou k 8 (by omega) W
                 rw [cutK_lt (by omega)] at hcb hcb'
                 obtain ⟨kb, hkb⟩ : ∃ kb, k - 8 = kb := ⟨_, rfl⟩
                 rw [hkb] at hcb hcb'
                 have HSb : Hid (SB w (.slice (some ⟨g, ou + 8, none⟩) kb kb) ub) := by have := HSu.out.ext 8 (by rw [HMu.out]; omega); rwa [hub, hkb, cutK_lt (by omega)] at this
                 have HMb : Hid (ub.size = kb) := by show _ = _; rw [← hub, ext_size, HMu.out]; exact hkb
                 obtain ⟨uc, huc⟩ : ∃ uc, u.extract 16 u.size = uc := ⟨_, rfl⟩
                 have hcc : ∀ W, (Instr.sliceAt 46 (.slice (some ⟨g, ou, none⟩) k k) (some (.int .i64 16)) none none).run Tryz.prog W = .ok (.slice (cutK k 16 g ou) (k - 16) (k - 16)) W := fun W => cutKAt_run g ou k 16 (by omega) W
                 have hcc' : ∀ W, (Instr.slice 46 (.slice (some ⟨g, ou, none⟩) k k) (some (.int .i64 16)) none none).run Tryz.prog W = .ok (.slice (cutK k 16 g ou) (k - 16) (k - 16)) W := fun W => cutK_run g ou k 16 (by omega) W
                 rw [cutK_lt (by omega)] at hcc hcc'
                 obtain ⟨kc, hkc⟩ : ∃ kc, k - 16 = kc := ⟨_, rfl⟩
                 rw [hkc] at hcc hcc'
                 have HSc : Hid (SB w (.slice (some ⟨g, ou + 16, none⟩) kc kc) uc) := by have := HSu.out.ext 16 (by rw [HMu.out]; omega); rwa [huc, hkc, cutK_lt (by omega)] at this
                 have HMc : Hid (uc.size = kc) := by show _ = _; rw [← huc, ext_size, HMu.out]; exact hkc
                 obtain ⟨ud, hud⟩ : ∃ ud, u.extract 24 u.size = ud := ⟨_, rfl⟩
                 have hcd : ∀ W, (Instr.sliceAt 46 (.slice (some ⟨g, ou, none⟩) k k) (some (.int .i64 24)) none none).run Tryz.prog W = .ok (.slice (cutK k 24 g ou) (k - 24) (k - 24)) W := fun W => cutKAt_run g ou k 24 (by omega) W
                 have hcd' : ∀ W, (Instr.slice 46 (.slice (some ⟨g, ou, none⟩) k k) (some (.int .i64 24)) none none).run Tryz.prog W = .ok (.slice (cutK k 24 g ou) (k - 24) (k - 24)) W := fun W => cutK_run g ou k 24 (by omega) W
                 rw [cutK_lt (by omega)] at hcd hcd'
                 obtain ⟨kd, hkd⟩ : ∃ kd, k - 24 = kd := ⟨_, rfl⟩
                 rw [hkd] at hcd hcd'
                 have HSd : Hid (SB w (.slice (some ⟨g, ou + 24, none⟩) kd kd) ud) := by have := HSu.out.ext 24 (by rw [HMu.out]; omega); rwa [hud, hkd, cutK_lt (by omega)] at this
                 have HMd : Hid (ud.size = kd) := by show _ = _; rw [← hud, ext_size, HMu.out]; exact hkd
                 obtain ⟨B0, hB0⟩ : ∃ B0, leAt u = B0 := ⟨_, rfl⟩
                 have lB0 : B0 < 18446744073709551616 := hB0 ▸ le_lt u
                 have cB0 := hid (fun W (kk : Gr w W) => by have := word_any g ou k u W (by omega) (HSu.out.gr kk); rwa [hB0] at this)
                 have kB0 := le_asc u (by rw [HMu.out]; omega)
                 rw [hB0] at kB0
                 obtain ⟨B1, hB1⟩ : ∃ B1, leAt ub = B1 := ⟨_, rfl⟩
                 have lB1 : B1 < 18446744073709551616 := hB1 ▸ le_lt ub
                 have cB1 := hid (fun W (kk : Gr w W) => by have := word_any g (ou + 8) kb ub W (by omega) (HSb.out.gr kk); rwa [hB1] at this)
                 have kB1 := le_asc ub (by rw [HMb.out]; omega)
                 rw [hB1] at kB1
                 obtain ⟨B2, hB2⟩ : ∃ B2, leAt uc = B2 := ⟨_, rfl⟩
                 have lB2 : B2 < 18446744073709551616 := hB2 ▸ le_lt uc
                 have cB2 := hid (fun W (kk : Gr w W) => by have := word_any g (ou + 16) kc uc W (by omega) (HSc.out.gr kk); rwa [hB2] at this)
                 have kB2 := le_asc uc (by rw [HMc.out]; omega)
                 rw [hB2] at kB2
                 obtain ⟨B3, hB3⟩ : ∃ B3, leAt ud = B3 := ⟨_, rfl⟩
                 have lB3 : B3 < 18446744073709551616 := hB3 ▸ le_lt ud
                 have cB3 := hid (fun W (kk : Gr w W) => by have := word_any g (ou + 24) kd ud W (by omega) (HSd.out.gr kk); rwa [hB3] at this)
                 have kB3 := le_asc ud (by rw [HMd.out]; omega)
                 rw [hB3] at kB3
                 have ho1 : bits .or .u64 (B0 : Int) (B1 : Int) = ((B0 ||| B1 : Nat) : Int) := u64_or_nat B0 B1 lB0 lB1
                 have ho2 : bits .or .u64 (B2 : Int) (B3 : Int) = ((B2 ||| B3 : Nat) : Int) := u64_or_nat B2 B3 lB2 lB3
                 have lo1 : B0 ||| B1 < 18446744073709551616 := Nat.or_lt_two_pow (n := 64) lB0 lB1
                 have lo2 : B2 ||| B3 < 18446744073709551616 := Nat.or_lt_two_pow (n := 64) lB2 lB3
                 have ho3 : bits .or .u64 ((B0 ||| B1 : Nat) : Int) ((B2 ||| B3 : Nat) : Int) = (((B0 ||| B1) ||| (B2 ||| B3) : Nat) : Int) := u64_or_nat _ _ lo1 lo2
                 have lo3 : (B0 ||| B1) ||| (B2 ||| B3) < 18446744073709551616 := Nat.or_lt_two_pow (n := 64) lo1 lo2
                 have hand3 : bits .and .u64 (((B0 ||| B1) ||| (B2 ||| B3) : Nat) : Int) 9259542123273814144 = ((((B0 ||| B1) ||| (B2 ||| B3)) &&& 9259542123273814144 : Nat) : Int) := u64_and_nat _ 9259542123273814144 lo3 (by omega)
                 have k3 : ((B0 ||| B1) ||| (B2 ||| B3)) &&& 9259542123273814144 = 0 → Asc u 32 := fun h0' => by
                  obtain ⟨e01, e23⟩ := (or_mask _ _ _).1 h0'
                  obtain ⟨e0, e1⟩ := (or_mask _ _ _).1 e01
                  obtain ⟨e2, e3⟩ := (or_mask _ _ _).1 e23
                  have s16 : Asc u 16 := asc_add u 8 8 (kB0.1 e0) (by rw [hub]; exact kB1.1 e1)
                  have s24 : Asc u 24 := asc_add u 16 8 s16 (by rw [huc]; exact kB2.1 e2)
                  exact asc_add u 24 8 s24 (by rw [hud]; exact kB3.1 e3)
                 obtain ⟨P1, hP1⟩ : ∃ P1, B0 ||| B1 = P1 := ⟨_, rfl⟩
                 obtain ⟨P2, hP2⟩ : ∃ P2, B2 ||| B3 = P2 := ⟨_, rfl⟩
                 rw [hP1, hP2] at ho3 hand3 k3
                 rw [hP1] at ho1
                 rw [hP2] at ho2
                 obtain ⟨P3, hP3⟩ : ∃ P3, P1 ||| P2 = P3 := ⟨_, rfl⟩
                 rw [hP3] at ho3 hand3 k3
                 obtain ⟨Z3, hZ3⟩ : ∃ Z3, P3 &&& 9259542123273814144 = Z3 := ⟨_, rfl⟩
                 rw [hZ3] at hand3 k3
                 clear kB0 kB1 kB2 kB3 lo1 lo2 lo3 hP1 hP2 hP3 hZ3 hB0 hB1 hB2 hB3 hub huc hud HSb HSc HSd HMb HMc HMd hkb hkc hkd
                 by_cases hz3 : Z3 = 0
                 · as_aux_lemma =>
                   have hz3b : ((Z3 : Int) == 0) = true := by simp [hz3]
                   have a32 := k3 hz3
                   obtain ⟨u2, hu2⟩ : ∃ u2, u.extract 32 u.size = u2 := ⟨_, rfl⟩
                   have hcu : ∀ W, (Instr.slice 46 (.slice (some ⟨g, ou, none⟩) k k) (some (.int .i64 32)) none none).run Tryz.prog W = .ok (.slice (cutK k 32 g ou) (k - 32) (k - 32)) W := fun W => cutK_run g ou k 32 (by omega) W
                   rw [cutK_lt (by omega)] at hcu
                   obtain ⟨ku, hku⟩ : ∃ ku, k - 32 = ku := ⟨_, rfl⟩
                   rw [hku] at hcu
                   have HSv : Hid (SB w (.slice (some ⟨g, ou + 32, none⟩) ku ku) u2) := by have := HSu.out.ext 32 (by rw [HMu.out]; omega); rwa [hu2, hku, cutK_lt (by omega)] at this
                   have HMv : Hid (u2.size = ku) := by show _ = _; rw [← hu2, ext_size, HMu.out]; exact hku
                   have HVv : Hid (validD u2.data.toList = ANS) := by show _ = _; rw [← hu2, valid_skip u 32 a32]; exact HVu.out
                   have HK := hid hku
                   clear k3 a32 HVu HMu hu2 hku
                   go_wp2_with fail
                   go_big_quiet (first | (with_reducible refine Calls.quiet_of (cB0.out _ (hbu.trans (Gr.drewN _ _)))) | (with_reducible refine Calls.quiet_of (cB1.out _ (hbu.trans (Gr.drewN _ _)))) | (with_reducible refine Calls.quiet_of (cB2.out _ (hbu.trans (Gr.drewN _ _)))) | (with_reducible refine Calls.quiet_of (cB3.out _ (hbu.trans (Gr.drewN _ _)))))
                   go_wp2
                   go_roundg g3
                   case measure => omega
                   case rel => exact ⟨hbu.trans (Gr.drewN _ _), u2, ku, _, rfl, HSv, HVv, HMv, by have := HK.out; omega, by have := HK.out; omega⟩
                 · as_aux_lemma =>
                   have hz3b : ((Z3 : Int) == 0) = false := by simp; omega
                   go_wp2_with fail
                   go_big_quiet (first | (with_reducible refine Calls.quiet_of (cB0.out _ (hbu.trans (Gr.drewN _ _)))) | (with_reducible refine Calls.quiet_of (cB1.out _ (hbu.trans (Gr.drewN _ _)))) | (with_reducible refine Calls.quiet_of (cB2.out _ (hbu.trans (Gr.drewN _ _)))) | (with_reducible refine Calls.quiet_of (cB3.out _ (hbu.trans (Gr.drewN _ _)))))
                   go_wp2
                   go_roundg g'
                   case measure => omega
                   case rel => exact ⟨hbu.trans (Gr.drewN _ _), u, k, _, rfl, HSu, HVu, HMu, by omega, by omega⟩
               · have c32z : ¬ ((32 : Int) < (k : Int)) := by omega
                 have c32b : decide ((32 : Int) < (k : Int)) = false := decide_eq_false c32z
                 go_wp2_with fail
                 go_big_quiet (fail)
                 go_wp2
                 go_roundg g'
                 case measure => omega
                 case rel => exact ⟨hbu.trans (Gr.drewN _ _), u, k, _, rfl, HSu, HVu, HMu, by omega, by omega⟩
            · have hz2b : ((Z2 : Int) == 0) = false := by simp; omega
              go_big_quiet (first | (with_reducible refine Calls.quiet_of (cW2.out _ (hb1.trans (Gr.drewN _ _)))) | (with_reducible refine Calls.quiet_of (cW3.out _ (hb1.trans (Gr.drewN _ _)))))
              go_wp2
              go_roundg g'
              case measure => omega
              case rel => exact ⟨hb1.trans (Gr.drewN _ _), t2, m2, _, rfl, HS2, HV2, HM2, by omega, by omega⟩
          · have c16z : ¬ ((16 : Int) < (m2 : Int)) := by omega
            have c16b : decide ((16 : Int) < (m2 : Int)) = false := decide_eq_false c16z
            go_big_quiet (fail)
            go_wp2
            go_roundg g'
            case measure => omega
            case rel => exact ⟨hb1.trans (Gr.drewN _ _), t2, m2, _, rfl, HS2, HV2, HM2, by omega, by omega⟩
        · have hz1b : ((Z1 : Int) == 0) = false := by simp; omega
          go_wp2_with (go_at_call 126; refine (cW1.out _ hbw).mono ?_; clear cW1; rintro e W1 ⟨rfl, q1, rfl⟩)
          go_roundg g'
          case measure => omega
          case rel => exact ⟨hbw.trans (Gr.drewN _ _), t1, m1, _, rfl, HS1, HV1, HM1, by omega, by omega⟩
      · have c8z : ¬ ((8 : Int) < (m1 : Int)) := by omega
        obtain ⟨a1, ha1⟩ : ∃ a1, cutK m 1 g o = a1 := ⟨_, rfl⟩
        rw [ha1] at hcut1 HS1
        clear ha1
        go_wp2
        go_roundg g'
        case measure => omega
        case rel => exact ⟨hbw, t1, m1, _, rfl, HS1, HV1, HM1, by omega, by omega⟩
    · have hge : 128 ≤ x0.toNat := by omega
      have hascz : ¬ ((x0.toNat : Int) < 128) := by omega
      obtain ⟨x1, hx1⟩ : ∃ x1, t.get! 1 = x1 := ⟨_, rfl⟩
      obtain ⟨x2, hx2⟩ : ∃ x2, t.get! 2 = x2 := ⟨_, rfl⟩
      obtain ⟨x3, hx3⟩ : ∃ x3, t.get! 3 = x3 := ⟨_, rfl⟩
      have l1 := x1.toNat_lt; have l2 := x2.toNat_lt; have l3 := x3.toNat_lt
      have hne : t.data.toList ≠ [] := fun h => by have := HM.out; rw [size_eq, h] at this; simp at this; omega
      have hlead := validD_lead t.data.toList hne (by rw [getD_get!', hx0]; exact hge)
      rw [getD_get!', getD_get!', getD_get!', getD_get!', hx0, hx1, hx2, hx3, ← size_eq, HV.out, HM.out] at hlead
      have hc0 := hTr.1 x0.toNat hx0lt
      have hXlt : firstT x0.toNat < 256 := by rcases firstT_cases x0.toNat with h | h | h | h | h | h | h | h | h <;> omega
      obtain ⟨X, hX⟩ : ∃ X, firstT x0.toNat = X := ⟨_, rfl⟩
      rw [hX] at hc0 hXlt hlead
      have h7 := and7 ⟨X, hXlt⟩
      simp only at h7
      have ha0 : wr.cell? ⟨1, X / 16 * 2, none⟩ = some (.int .u8 (accLo (X / 16))) := by rw [Nat.mul_comm]; exact (hTr.2 (X / 16) (by omega)).1
      have ha1 : wr.cell? ⟨1, X / 16 * 2 + 1, none⟩ = some (.int .u8 (accHi (X / 16))) := by rw [Nat.mul_comm]; exact (hTr.2 (X / 16) (by omega)).2
      obtain ⟨LO, hLO⟩ : ∃ LO, accLo (X / 16) = LO := ⟨_, rfl⟩
      obtain ⟨HI, hHI⟩ : ∃ HI, accHi (X / 16) = HI := ⟨_, rfl⟩
      rw [hLO] at ha0 hlead
      rw [hHI] at ha1 hlead
      obtain ⟨SZ, hSZ⟩ : ∃ SZ, X % 8 = SZ := ⟨_, rfl⟩
      rw [hSZ] at hlead
      clear hTr HT hX hLO hHI hne
      by_cases s2 : SZ = 2
      · as_aux_lemma =>
        subst s2
        have hSZz : (X : Int) % 8 = 2 := by omega
        simp only [checkN, Nat.reduceEqDiff, if_true, if_false] at hlead
        go_upto_region 18 with fail
        obtain ⟨WA, hWA⟩ : ∃ WA, wr.alloc (.cells #[.int .u8 (LO : Int), .int .u8 (HI : Int)] 163) = WA := ⟨_, rfl⟩
        have hgA : Gr wr WA := hWA ▸ Gr.alloc _ _
        have hl0 : WA.cell? ⟨wr.heap.size, 0, none⟩ = some (.int .u8 (LO : Int)) := by rw [← hWA]; simp [World.cell?_alloc_new]
        have hl1 : WA.cell? ⟨wr.heap.size, 1, none⟩ = some (.int .u8 (HI : Int)) := by rw [← hWA]; simp [World.cell?_alloc_new]
        rw [hWA]
        have hbA : Gr w WA := hbw.trans hgA
        clear hWA
        go_cut [103] from 85 to 103 (fun c wx => c = .bool (decide (m < 2 ∨ x1.toNat < LO ∨ HI < x1.toNat)) ∧ Gr w wx)
        case first =>
         as_aux_lemma =>
         by_cases q0 : m < 2
         · have q0z : (m : Int) < 2 := by omega
           go_big_quiet (fail)
           go_wp2
           go_meet
           exact ⟨congrArg Value.bool (decide_eq_true (p := m < 2 ∨ x1.toNat < LO ∨ HI < x1.toNat) (by omega)).symm, hbA.trans (Gr.drewN _ _)⟩
         · have q0z : ¬ ((m : Int) < 2) := by omega
           have hz1 : (1 : Int) < (m : Int) := by omega
           have hs1 := hgA.cell (hat (j := 1) (by omega))
           rw [hx1] at hs1
           by_cases q1 : x1.toNat < LO
           · have q1z : (x1.toNat : Int) < (LO : Int) := by omega
             go_big_quiet (fail)
             go_wp2
             go_meet
             exact ⟨congrArg Value.bool (decide_eq_true (p := m < 2 ∨ x1.toNat < LO ∨ HI < x1.toNat) (by omega)).symm, hbA.trans (Gr.drewN _ _)⟩
           · have q1z : ¬ ((x1.toNat : Int) < (LO : Int)) := by omega
             by_cases q2 : HI < x1.toNat
             · have q2z : (HI : Int) < (x1.toNat : Int) := by omega
               go_big_quiet (fail)
               go_wp2
               go_meet
               exact ⟨congrArg Value.bool (decide_eq_true (p := m < 2 ∨ x1.toNat < LO ∨ HI < x1.toNat) (by omega)).symm, hbA.trans (Gr.drewN _ _)⟩
             · have q2z : ¬ ((HI : Int) < (x1.toNat : Int)) := by omega
               go_big_quiet (fail)
               go_wp2
               go_meet
               exact ⟨congrArg Value.bool (decide_eq_false (p := m < 2 ∨ x1.toNat < LO ∨ HI < x1.toNat) (by omega)).symm, hbA.trans (Gr.drewN _ _)⟩
        case rest =>
         as_aux_lemma =>
         obtain ⟨rfl, hbc⟩ := hcut
         by_cases hb : m < 2 ∨ x1.toNat < LO ∨ HI < x1.toNat
         · have hbd : decide (m < 2 ∨ x1.toNat < LO ∨ HI < x1.toNat) = true := decide_eq_true hb
           rw [if_pos hb] at hlead
           go_wp2
           all_goals (go_ret; exact ⟨by first | rfl | rw [hlead], hbc⟩)
         · have hbd : decide (m < 2 ∨ x1.toNat < LO ∨ HI < x1.toNat) = false := decide_eq_false hb
           rw [if_neg hb] at hlead
           have hcu : ∀ W, (Instr.slice 46 (.slice (some ⟨g, o, none⟩) m m) (some (.int .i64 2)) none none).run Tryz.prog W = .ok (.slice (cutK m 2 g o) (m - 2) (m - 2)) W := fun W => cutK_run g o m 2 (by omega) W
           obtain ⟨u2, hu2⟩ : ∃ u2, t.extract 2 t.size = u2 := ⟨_, rfl⟩
           obtain ⟨ku, hku⟩ : ∃ ku, m - 2 = ku := ⟨_, rfl⟩
           obtain ⟨au, hau⟩ : ∃ au, cutK m 2 g o = au := ⟨_, rfl⟩
           rw [hku, hau] at hcu
           have HSv : Hid (SB w (.slice au ku ku) u2) := by have := HSt.out.ext 2 (by rw [HM.out]; omega); rwa [hu2, hku, hau] at this
           have HMv : Hid (u2.size = ku) := by show _ = _; rw [← hu2, ext_size, HM.out]; exact hku
           have HVv : Hid (validD u2.data.toList = ANS) := by show _ = _; rw [← hu2, ext_list]; exact hlead.symm
           have HK : Hid (ku < g' ∧ ku ≤ n) := by show _ ∧ _; omega
           clear hu2 hau hku hlead HSt HV HM
           go_wp2
           go_roundg g'
           case measure => omega
           case rel => exact ⟨hbc, u2, ku, _, rfl, HSv, HVv, HMv, HK.out.1, HK.out.2⟩
      by_cases s3 : SZ = 3
      · as_aux_lemma =>
        subst s3
        have hSZz : (X : Int) % 8 = 3 := by omega
        simp only [checkN, Nat.reduceEqDiff, if_true, if_false] at hlead
        go_upto_region 22 with fail
        obtain ⟨WA, hWA⟩ : ∃ WA, wr.alloc (.cells #[.int .u8 (LO : Int), .int .u8 (HI : Int)] 163) = WA := ⟨_, rfl⟩
        have hgA : Gr wr WA := hWA ▸ Gr.alloc _ _
        have hl0 : WA.cell? ⟨wr.heap.size, 0, none⟩ = some (.int .u8 (LO : Int)) := by rw [← hWA]; simp [World.cell?_alloc_new]
        have hl1 : WA.cell? ⟨wr.heap.size, 1, none⟩ = some (.int .u8 (HI : Int)) := by rw [← hWA]; simp [World.cell?_alloc_new]
        rw [hWA]
        have hbA : Gr w WA := hbw.trans hgA
        clear hWA
        go_cut [138] from 108 to 138 (fun c wx => c = .bool (decide (m < 3 ∨ x1.toNat < LO ∨ HI < x1.toNat ∨ x2.toNat < 128 ∨ 191 < x2.toNat)) ∧ Gr w wx)
        case first =>
         as_aux_lemma =>
         by_cases q0 : m < 3
         · have q0z : (m : Int) < 3 := by omega
           go_big_quiet (fail)
           go_wp2
           go_meet
           exact ⟨congrArg Value.bool (decide_eq_true (p := m < 3 ∨ x1.toNat < LO ∨ HI < x1.toNat ∨ x2.toNat < 128 ∨ 191 < x2.toNat) (by omega)).symm, hbA.trans (Gr.drewN _ _)⟩
         · have q0z : ¬ ((m : Int) < 3) := by omega
           have hz1 : (1 : Int) < (m : Int) := by omega
           have hs1 := hgA.cell (hat (j := 1) (by omega))
           rw [hx1] at hs1
           have hz2 : (2 : Int) < (m : Int) := by omega
           have hs2 := hgA.cell (hat (j := 2) (by omega))
           rw [hx2] at hs2
           by_cases q1 : x1.toNat < LO
           · have q1z : (x1.toNat : Int) < (LO : Int) := by omega
             go_big_quiet (fail)
             go_wp2
             go_meet
             exact ⟨congrArg Value.bool (decide_eq_true (p := m < 3 ∨ x1.toNat < LO ∨ HI < x1.toNat ∨ x2.toNat < 128 ∨ 191 < x2.toNat) (by omega)).symm, hbA.trans (Gr.drewN _ _)⟩
           · have q1z : ¬ ((x1.toNat : Int) < (LO : Int)) := by omega
             by_cases q2 : HI < x1.toNat
             · have q2z : (HI : Int) < (x1.toNat : Int) := by omega
               go_big_quiet (fail)
               go_wp2
               go_meet
               exact ⟨congrArg Value.bool (decide_eq_true (p := m < 3 ∨ x1.toNat < LO ∨ HI < x1.toNat ∨ x2.toNat < 128 ∨ 191 < x2.toNat) (by omega)).symm, hbA.trans (Gr.drewN _ _)⟩
             · have q2z : ¬ ((HI : Int) < (x1.toNat : Int)) := by omega
               by_cases q3 : x2.toNat < 128
               · have q3z : (x2.toNat : Int) < 128 := by omega
                 go_big_quiet (fail)
                 go_wp2
                 go_meet
                 exact ⟨congrArg Value.bool (decide_eq_true (p := m < 3 ∨ x1.toNat < LO ∨ HI < x1.toNat ∨ x2.toNat < 128 ∨ 191 < x2.toNat) (by omega)).symm, hbA.trans (Gr.drewN _ _)⟩
               · have q3z : ¬ ((x2.toNat : Int) < 128) := by omega
                 by_cases q4 : 191 < x2.toNat
                 · have q4z : (191 : Int) < (x2.toNat : Int) := by omega
                   go_big_quiet (fail)
                   go_wp2
                   go_meet
                   exact ⟨congrArg Value.bool (decide_eq_true (p := m < 3 ∨ x1.toNat < LO ∨ HI < x1.toNat ∨ x2.toNat < 128 ∨ 191 < x2.toNat) (by omega)).symm, hbA.trans (Gr.drewN _ _)⟩
                 · have q4z : ¬ ((191 : Int) < (x2.toNat : Int)) := by omega
                   go_big_quiet (fail)
                   go_wp2
                   go_meet
                   exact ⟨congrArg Value.bool (decide_eq_false (p := m < 3 ∨ x1.toNat < LO ∨ HI < x1.toNat ∨ x2.toNat < 128 ∨ 191 < x2.toNat) (by omega)).symm, hbA.trans (Gr.drewN _ _)⟩
        case rest =>
         as_aux_lemma =>
         obtain ⟨rfl, hbc⟩ := hcut
         by_cases hb : m < 3 ∨ x1.toNat < LO ∨ HI < x1.toNat ∨ x2.toNat < 128 ∨ 191 < x2.toNat
         · have hbd : decide (m < 3 ∨ x1.toNat < LO ∨ HI < x1.toNat ∨ x2.toNat < 128 ∨ 191 < x2.toNat) = true := decide_eq_true hb
           rw [if_pos hb] at hlead
           go_wp2
           all_goals (go_ret; exact ⟨by first | rfl | rw [hlead], hbc⟩)
         · have hbd : decide (m < 3 ∨ x1.toNat < LO ∨ HI < x1.toNat ∨ x2.toNat < 128 ∨ 191 < x2.toNat) = false := decide_eq_false hb
           rw [if_neg hb] at hlead
           have hcu : ∀ W, (Instr.slice 46 (.slice (some ⟨g, o, none⟩) m m) (some (.int .i64 3)) none none).run Tryz.prog W = .ok (.slice (cutK m 3 g o) (m - 3) (m - 3)) W := fun W => cutK_run g o m 3 (by omega) W
           obtain ⟨u2, hu2⟩ : ∃ u2, t.extract 3 t.size = u2 := ⟨_, rfl⟩
           obtain ⟨ku, hku⟩ : ∃ ku, m - 3 = ku := ⟨_, rfl⟩
           obtain ⟨au, hau⟩ : ∃ au, cutK m 3 g o = au := ⟨_, rfl⟩
           rw [hku, hau] at hcu
           have HSv : Hid (SB w (.slice au ku ku) u2) := by have := HSt.out.ext 3 (by rw [HM.out]; omega); rwa [hu2, hku, hau] at this
           have HMv : Hid (u2.size = ku) := by show _ = _; rw [← hu2, ext_size, HM.out]; exact hku
           have HVv : Hid (validD u2.data.toList = ANS) := by show _ = _; rw [← hu2, ext_list]; exact hlead.symm
           have HK : Hid (ku < g' ∧ ku ≤ n) := by show _ ∧ _; omega
           clear hu2 hau hku hlead HSt HV HM
           go_wp2
           go_roundg g'
           case measure => omega
           case rel => exact ⟨hbc, u2, ku, _, rfl, HSv, HVv, HMv, HK.out.1, HK.out.2⟩
      by_cases s4 : SZ = 4
      · as_aux_lemma =>
        subst s4
        have hSZz : (X : Int) % 8 = 4 := by omega
        simp only [checkN, Nat.reduceEqDiff, if_true, if_false] at hlead
        go_upto_region 26 with fail
        obtain ⟨WA, hWA⟩ : ∃ WA, wr.alloc (.cells #[.int .u8 (LO : Int), .int .u8 (HI : Int)] 163) = WA := ⟨_, rfl⟩
        have hgA : Gr wr WA := hWA ▸ Gr.alloc _ _
        have hl0 : WA.cell? ⟨wr.heap.size, 0, none⟩ = some (.int .u8 (LO : Int)) := by rw [← hWA]; simp [World.cell?_alloc_new]
        have hl1 : WA.cell? ⟨wr.heap.size, 1, none⟩ = some (.int .u8 (HI : Int)) := by rw [← hWA]; simp [World.cell?_alloc_new]
        rw [hWA]
        have hbA : Gr w WA := hbw.trans hgA
        clear hWA
        go_cut [185] from 143 to 185 (fun c wx => c = .bool (decide (m < 4 ∨ x1.toNat < LO ∨ HI < x1.toNat ∨ x2.toNat < 128 ∨ 191 < x2.toNat ∨ x3.toNat < 128 ∨ 191 < x3.toNat)) ∧ Gr w wx)
        case first =>
         as_aux_lemma =>
         by_cases q0 : m < 4
         · have q0z : (m : Int) < 4 := by omega
           go_big_quiet (fail)
           go_wp2
           go_meet
           exact ⟨congrArg Value.bool (decide_eq_true (p := m < 4 ∨ x1.toNat < LO ∨ HI < x1.toNat ∨ x2.toNat < 128 ∨ 191 < x2.toNat ∨ x3.toNat < 128 ∨ 191 < x3.toNat) (by omega)).symm, hbA.trans (Gr.drewN _ _)⟩
         · have q0z : ¬ ((m : Int) < 4) := by omega
           have hz1 : (1 : Int) < (m : Int) := by omega
           have hs1 := hgA.cell (hat (j := 1) (by omega))
           rw [hx1] at hs1
           have hz2 : (2 : Int) < (m : Int) := by omega
           have hs2 := hgA.cell (hat (j := 2) (by omega))
           rw [hx2] at hs2
           have hz3 : (3 : Int) < (m : Int) := by omega
           have hs3 := hgA.cell (hat (j := 3) (by omega))
           rw [hx3] at hs3
           by_cases q1 : x1.toNat < LO
           · have q1z : (x1.toNat : Int) < (LO : Int) := by omega
             go_big_quiet (fail)
             go_wp2
             go_meet
             exact ⟨congrArg Value.bool (decide_eq_true (p := m < 4 ∨ x1.toNat < LO ∨ HI < x1.toNat ∨ x2.toNat < 128 ∨ 191 < x2.toNat ∨ x3.toNat < 128 ∨ 191 < x3.toNat) (by omega)).symm, hbA.trans (Gr.drewN _ _)⟩
           · have q1z : ¬ ((x1.toNat : Int) < (LO : Int)) := by omega
             by_cases q2 : HI < x1.toNat
             · have q2z : (HI : Int) < (x1.toNat : Int) := by omega
               go_big_quiet (fail)
               go_wp2
               go_meet
               exact ⟨congrArg Value.bool (decide_eq_true (p := m < 4 ∨ x1.toNat < LO ∨ HI < x1.toNat ∨ x2.toNat < 128 ∨ 191 < x2.toNat ∨ x3.toNat < 128 ∨ 191 < x3.toNat) (by omega)).symm, hbA.trans (Gr.drewN _ _)⟩
             · have q2z : ¬ ((HI : Int) < (x1.toNat : Int)) := by omega
               by_cases q3 : x2.toNat < 128
               · have q3z : (x2.toNat : Int) < 128 := by omega
                 go_big_quiet (fail)
                 go_wp2
                 go_meet
                 exact ⟨congrArg Value.bool (decide_eq_true (p := m < 4 ∨ x1.toNat < LO ∨ HI < x1.toNat ∨ x2.toNat < 128 ∨ 191 < x2.toNat ∨ x3.toNat < 128 ∨ 191 < x3.toNat) (by omega)).symm, hbA.trans (Gr.drewN _ _)⟩
               · have q3z : ¬ ((x2.toNat : Int) < 128) := by omega
                 by_cases q4 : 191 < x2.toNat
                 · have q4z : (191 : Int) < (x2.toNat : Int) := by omega
                   go_big_quiet (fail)
                   go_wp2
                   go_meet
                   exact ⟨congrArg Value.bool (decide_eq_true (p := m < 4 ∨ x1.toNat < LO ∨ HI < x1.toNat ∨ x2.toNat < 128 ∨ 191 < x2.toNat ∨ x3.toNat < 128 ∨ 191 < x3.toNat) (by omega)).symm, hbA.trans (Gr.drewN _ _)⟩
                 · have q4z : ¬ ((191 : Int) < (x2.toNat : Int)) := by omega
                   by_cases q5 : x3.toNat < 128
                   · have q5z : (x3.toNat : Int) < 128 := by omega
                     go_big_quiet (fail)
                     go_wp2
                     go_meet
                     exact ⟨congrArg Value.bool (decide_eq_true (p := m < 4 ∨ x1.toNat < LO ∨ HI < x1.toNat ∨ x2.toNat < 128 ∨ 191 < x2.toNat ∨ x3.toNat < 128 ∨ 191 < x3.toNat) (by omega)).symm, hbA.trans (Gr.drewN _ _)⟩
                   · have q5z : ¬ ((x3.toNat : Int) < 128) := by omega
                     by_cases q6 : 191 < x3.toNat
                     · have q6z : (191 : Int) < (x3.toNat : Int) := by omega
                       go_big_quiet (fail)
                       go_wp2
                       go_meet
                       exact ⟨congrArg Value.bool (decide_eq_true (p := m < 4 ∨ x1.toNat < LO ∨ HI < x1.toNat ∨ x2.toNat < 128 ∨ 191 < x2.toNat ∨ x3.toNat < 128 ∨ 191 < x3.toNat) (by omega)).symm, hbA.trans (Gr.drewN _ _)⟩
                     · have q6z : ¬ ((191 : Int) < (x3.toNat : Int)) := by omega
                       go_big_quiet (fail)
                       go_wp2
                       go_meet
                       exact ⟨congrArg Value.bool (decide_eq_false (p := m < 4 ∨ x1.toNat < LO ∨ HI < x1.toNat ∨ x2.toNat < 128 ∨ 191 < x2.toNat ∨ x3.toNat < 128 ∨ 191 < x3.toNat) (by omega)).symm, hbA.trans (Gr.drewN _ _)⟩
        case rest =>
         as_aux_lemma =>
         obtain ⟨rfl, hbc⟩ := hcut
         by_cases hb : m < 4 ∨ x1.toNat < LO ∨ HI < x1.toNat ∨ x2.toNat < 128 ∨ 191 < x2.toNat ∨ x3.toNat < 128 ∨ 191 < x3.toNat
         · have hbd : decide (m < 4 ∨ x1.toNat < LO ∨ HI < x1.toNat ∨ x2.toNat < 128 ∨ 191 < x2.toNat ∨ x3.toNat < 128 ∨ 191 < x3.toNat) = true := decide_eq_true hb
           rw [if_pos hb] at hlead
           go_wp2
           all_goals (go_ret; exact ⟨by first | rfl | rw [hlead], hbc⟩)
         · have hbd : decide (m < 4 ∨ x1.toNat < LO ∨ HI < x1.toNat ∨ x2.toNat < 128 ∨ 191 < x2.toNat ∨ x3.toNat < 128 ∨ 191 < x3.toNat) = false := decide_eq_false hb
           rw [if_neg hb] at hlead
           have hcu : ∀ W, (Instr.slice 46 (.slice (some ⟨g, o, none⟩) m m) (some (.int .i64 4)) none none).run Tryz.prog W = .ok (.slice (cutK m 4 g o) (m - 4) (m - 4)) W := fun W => cutK_run g o m 4 (by omega) W
           obtain ⟨u2, hu2⟩ : ∃ u2, t.extract 4 t.size = u2 := ⟨_, rfl⟩
           obtain ⟨ku, hku⟩ : ∃ ku, m - 4 = ku := ⟨_, rfl⟩
           obtain ⟨au, hau⟩ : ∃ au, cutK m 4 g o = au := ⟨_, rfl⟩
           rw [hku, hau] at hcu
           have HSv : Hid (SB w (.slice au ku ku) u2) := by have := HSt.out.ext 4 (by rw [HM.out]; omega); rwa [hu2, hku, hau] at this
           have HMv : Hid (u2.size = ku) := by show _ = _; rw [← hu2, ext_size, HM.out]; exact hku
           have HVv : Hid (validD u2.data.toList = ANS) := by show _ = _; rw [← hu2, ext_list]; exact hlead.symm
           have HK : Hid (ku < g' ∧ ku ≤ n) := by show _ ∧ _; omega
           clear hu2 hau hku hlead HSt HV HM
           go_wp2
           go_roundg g'
           case measure => omega
           case rel => exact ⟨hbc, u2, ku, _, rfl, HSv, HVv, HMv, HK.out.1, HK.out.2⟩
      · have e2 : ¬ ((X : Int) % 8 = 2) := by omega
        have e3 : ¬ ((X : Int) % 8 = 3) := by omega
        have e4 : ¬ ((X : Int) % 8 = 4) := by omega
        have e2b : (((X : Int) % 8) == 2) = false := by simp; omega
        have e3b : (((X : Int) % 8) == 3) = false := by simp; omega
        have e4b : (((X : Int) % 8) == 4) = false := by simp; omega
        simp only [checkN, s2, s3, s4, if_false] at hlead
        go_wp2
        all_goals (go_ret; exact ⟨by first | rfl | rw [hlead], hbw.trans (Gr.alloc _ _)⟩)
  · have h0z : ¬ ((0 : Int) < (m : Int)) := by omega
    have ht0 : t.data.toList = [] := List.eq_nil_of_length_eq_zero (by rw [← size_eq, HM.out]; omega)
    have hv := HV.out
    rw [ht0, validD_nil] at hv
    subst hv
    go_wp2
    go_ret
    exact ⟨rfl, hbw⟩
end Go.Proofs.YthlflglkdaainaaGreatDoor
