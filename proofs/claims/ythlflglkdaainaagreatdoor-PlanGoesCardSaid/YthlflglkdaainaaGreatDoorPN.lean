import Derived.BigQuiet
import Derived.Deep.DeepCutAuto
import Derived.Lib.ValidAsc
import Derived.Lib.RuneBytes
import Derived.Laws.AppendOwn
import Derived.Maps.AppendAt
import Derived.Lib.OthersKept
import Derived.Laws.BytesArg
import Derived.RangeFuncCalls
import Derived.Lay
import Derived.PinnedBridge
import Derived.LaidOnce
import Derived.Lib.LaidU8T
import Derived.Test.YthlflglkdaainaaGreatDoorPC
import Derived.Test.YthlflglkdaainaaGreatDoorPD
import Derived.Test.YthlflglkdaainaaGreatDoorPL
import Derived.Test.YthlflglkdaainaaGreatDoorPR
import Derived.Test.YthlflglkdaainaaGreatDoorPV
/- Texts of this seat: KN. -/
set_option maxRecDepth 100000
set_option maxHeartbeats 8000000
namespace Go.Proofs.YthlflglkdaainaaGreatDoor
open Go.RowKit
noncomputable def qkB (p : Nat) (l : List Nat) : Bool := inOrd cls p l && l.all (fun c => Nat.beq (quick c) 0)
theorem qkB_nil (p : Nat) : qkB p [] = true := rfl
theorem qkB_ok {p c : Nat} {t : List Nat} (h : ¬ (cls c ≠ 0 ∧ cls c < p)) (hq : quick c = 0) : qkB p (c :: t) = qkB (cls c) t := by
 unfold qkB
 rw [inOrd_true h, List.all_cons, hq]; rfl
theorem qkB_o {p c : Nat} {t : List Nat} (h : cls c ≠ 0 ∧ cls c < p) : qkB p (c :: t) = false := by unfold qkB; rw [inOrd_false h]; rfl
theorem qkB_q {p c : Nat} {t : List Nat} (h : quick c ≠ 0) : qkB p (c :: t) = false := by
 unfold qkB
 rw [List.all_cons, show Nat.beq (quick c) 0 = false by rw [← Bool.not_eq_true, Nat.beq_eq]; exact h]; simp
theorem qkB_nfc {l : List Nat} (h : qkB 0 l = true) : nfc l = l := by
 unfold qkB at h
 rw [Bool.and_eq_true, List.all_eq_true] at h
 exact nfc_quick l h.1 fun c hc => by have := h.2 c hc; rwa [Nat.beq_eq] at this
theorem nquick_any (v : Value) (L : List Nat) (w : World) (ht : Tz w) (hv : Sl w v L) (hb : ∀ x ∈ L, x < 4294967296) (hl : L.length ≤ 1000000) : Calls Tryz.prog 97 #[v] w fun e w' => e = .returned (.bool (qkB 0 L)) ∧ Gr w w' := by
 obtain ⟨ao, ca, rfl, _, hA⟩ := hv
 obtain ⟨n, hn⟩ : ∃ n, L.length = n := ⟨_, rfl⟩
 rw [hn] at hA ⊢
 have hnb : (n : Int) ≤ 1000000 := by omega
 have HN := hid hn
 have HA := hid hA
 have HB := hid hb
 obtain ⟨r, hr⟩ : ∃ r, qkB 0 L = r := ⟨_, rfl⟩
 rw [hr]
 have HR := hid hr
 clear hn hA hb hl hr
 go_enter Tryz.func97, Tryz.ntmps97
 go_wp2_with fail
 go_loopw [3, 9] (fun s3 s9 wr => ∃ k last : Nat, k ≤ n ∧ s9 = .int .i64 k ∧ s3 = .int .i64 last ∧ Hid (qkB last (L.drop k) = r) ∧ Gr w wr) (fun _ s9 _ => n - (intOf s9).toNat)
 case atStart => exact ⟨0, 0, Nat.zero_le _, rfl, rfl, HR, Gr.refl _⟩
 case round =>
  obtain ⟨k, last, hk, rfl, rfl, HE, hgk⟩ := hrel
  clear HR
  by_cases hlt : k < n
  · have hltz : (k : Int) < n := by omega
    obtain ⟨g, off, rfl, hcell⟩ := HA.out k hlt
    have hcell := hgk.cell hcell
    have hkL : k < L.length := by rw [HN.out]; exact hlt
    have hx : L.getD k 0 < 4294967296 := by
     rw [List.getD, List.getElem?_eq_getElem hkL]; exact HB.out _ (List.getElem_mem _)
    have HC := class_any (L.getD k 0) hx wr (ht.gr hgk)
    have HQ := fun W (k' : Gr w W) => quick_any (L.getD k 0) hx W (ht.gr k')
    have hE := HE.out
    rw [drop_cons hkL] at hE
    have HE := hid hE
    clear hx hE
    generalize L.getD k 0 = x at hcell HC HQ HE
    obtain ⟨p, hp⟩ : ∃ p, cls x = p := ⟨_, rfl⟩
    obtain ⟨q, hq⟩ : ∃ q, quick x = q := ⟨_, rfl⟩
    rw [hp] at HC
    rw [hq] at HQ
    have HC := hid HC
    have HP := hid hp
    have HQ0 := hid hq
    clear hp hq
    by_cases hp0 : p = 0
    · have y1 : (p : Int) = 0 := by omega
      have y2 : ((p : Int) != 0) = false := by rw [y1]; rfl
      by_cases hq0 : q = 0
      · have z1 : (q : Int) = 0 := by omega
        rw [z1] at HQ
        have HE2 : Hid (qkB p (L.drop (k + 1)) = r) := by show _ = _; rw [← HE.out, qkB_ok (by rw [HP.out]; omega) (by rw [HQ0.out]; exact hq0), HP.out]
        have HQ := hid HQ
        clear hq0 z1
        go_wp2_with (first
         | (go_at_call 129; refine HC.out.mono ?_; clear HC; rintro e w1 ⟨rfl, g1⟩; have G1 := hgk.trans g1)
         | (go_at_call 130; refine (HQ.out w1 G1).mono ?_; rintro e w2 ⟨rfl, g2⟩; have G2 := G1.trans g2))
        go_roundw
        case rel => exact ⟨k + 1, p, hlt, by go_num, (by first | rfl | rw [y1]), HE2, G2⟩
        case measure => simp [intOf]; omega
      · obtain ⟨z1, z2⟩ : ¬ (q : Int) = 0 ∧ ((q : Int) != 0) = true := by
          have : ¬ (q : Int) = 0 := by omega
          exact ⟨this, by rw [bne_iff_ne]; exact this⟩
        have HR : Hid (r = false) := by show _ = _; rw [← HE.out, qkB_q (by rw [HQ0.out]; exact hq0)]
        have HQ := hid HQ
        clear hq0
        go_wp2_with (first
         | (go_at_call 129; refine HC.out.mono ?_; clear HC; rintro e w1 ⟨rfl, g1⟩; have G1 := hgk.trans g1)
         | (go_at_call 130; refine (HQ.out w1 G1).mono ?_; rintro e w2 ⟨rfl, g2⟩; have G2 := G1.trans g2))
        go_ret
        rw [HR.out]
        exact ⟨rfl, G2⟩
    · have y1 : ¬ (p : Int) = 0 := by omega
      have y2 : ((p : Int) != 0) = true := by rw [bne_iff_ne]; exact y1
      by_cases hpl : p < last
      · have y3 : (p : Int) < last := by omega
        have y4 : decide ((p : Int) < last) = true := decide_eq_true y3
        have HRF : Hid (r = false) := by show _ = _; rw [← HE.out, qkB_o (by rw [HP.out]; exact ⟨hp0, hpl⟩)]
        clear hp0 hpl HQ
        go_wp2_with (go_at_call 129; refine HC.out.mono ?_; clear HC; rintro e w1 ⟨rfl, g1⟩; have G1 := hgk.trans g1)
        go_ret
        rw [HRF.out]
        exact ⟨rfl, G1⟩
      · have y3 : ¬ (p : Int) < last := by omega
        have y4 : decide ((p : Int) < last) = false := decide_eq_false y3
        by_cases hq0 : q = 0
        · have z1 : (q : Int) = 0 := by omega
          rw [z1] at HQ
          have HE2 : Hid (qkB p (L.drop (k + 1)) = r) := by show _ = _; rw [← HE.out, qkB_ok (by rw [HP.out]; omega) (by rw [HQ0.out]; exact hq0), HP.out]
          have HQ := hid HQ
          clear hq0 z1
          go_wp2_with (first
           | (go_at_call 129; refine HC.out.mono ?_; clear HC; rintro e w1 ⟨rfl, g1⟩; have G1 := hgk.trans g1)
           | (go_at_call 130; refine (HQ.out w1 G1).mono ?_; rintro e w2 ⟨rfl, g2⟩; have G2 := G1.trans g2))
          go_roundw
          case rel => exact ⟨k + 1, p, hlt, by go_num, (by first | rfl | rw [y1]), HE2, G2⟩
          case measure => simp [intOf]; omega
        · obtain ⟨z1, z2⟩ : ¬ (q : Int) = 0 ∧ ((q : Int) != 0) = true := by
            have : ¬ (q : Int) = 0 := by omega
            exact ⟨this, by rw [bne_iff_ne]; exact this⟩
          have HR : Hid (r = false) := by show _ = _; rw [← HE.out, qkB_q (by rw [HQ0.out]; exact hq0)]
          have HQ := hid HQ
          clear hq0
          go_wp2_with (first
           | (go_at_call 129; refine HC.out.mono ?_; clear HC; rintro e w1 ⟨rfl, g1⟩; have G1 := hgk.trans g1)
           | (go_at_call 130; refine (HQ.out w1 G1).mono ?_; rintro e w2 ⟨rfl, g2⟩; have G2 := G1.trans g2))
          go_ret
          rw [HR.out]
          exact ⟨rfl, G2⟩
  · have hltz : ¬ (k : Int) < n := by omega
    have HRT : Hid (r = true) := by show _ = _; rw [← HE.out, List.drop_of_length_le (by rw [HN.out]; omega), qkB_nil]
    go_wp2_with fail
    go_ret
    rw [HRT.out]
    exact ⟨rfl, hgk⟩
end Go.Proofs.YthlflglkdaainaaGreatDoor
namespace Go.Proofs.YthlflglkdaainaaGreatDoor
open Go.RowKit
theorem chain3_any (v : Value) (L : List Nat) (w : World) (ht : Tz w) (hv : Sl w v L) (hb : ∀ x ∈ L, x < 4294967296) (hl : L.length ≤ 20000) (g : Nat) (hc0 : w.cell? ⟨g, 0, none⟩ = some (.func (.func 100) #[] #[])) (hc1 : w.cell? ⟨g, 1, none⟩ = some (.func (.func 101) #[] #[])) (hc2 : w.cell? ⟨g, 2, none⟩ = some (.func (.func 102) #[] #[])) :
    Calls Tryz.prog 99 #[v, .slice (some ⟨g, 0, none⟩) 3 3] w (RowOf (nfc L) w) := by
 obtain ⟨A, D, C, E, nf⟩ := NF.of hb
 have lA := nf.lA
 have lD := nf.lD
 have HL := fun W v (t : Tz W) (s : Sl W v L) => List_any v L W t s hb (by omega)
 have HO := fun W v (t : Tz W) (s : Sl W v A) => Order_any v A W t s nf.sA (by omega)
 have HC := fun W v (t : Tz W) (s : Sl W v D) => Compose_any v D W t s nf.sD (by omega)
 rw [nf.full] at HL
 rw [nf.ord] at HO
 rw [nf.comp] at HC
 have hD : nfd L = D := by unfold nfd; rw [nf.full, nf.ord]
 have hC : nfc L = C := by unfold nfc; rw [hD, nf.comp]
 rw [hC]
 have HL := hid HL
 have HO := hid HO
 have HC := hid HC
 have HV := hid hv
 clear nf lA lD hD hC hb hl hv
 go_enter Tryz.func99, Tryz.ntmps99
 go_wp2_with fail
 go_loopw [0, 9] (fun s0 s9 wr => (s9 = .int .i64 0 ∧ s0 = v ∧ wr = w) ∨ (s9 = .int .i64 1 ∧ Hid (wr.ownsRow w.heap.size 134 1 s0 A.length (u32s A)) ∧ Gr w wr) ∨ (s9 = .int .i64 2 ∧ Hid (wr.ownsRow w.heap.size 134 1 s0 D.length (u32s D)) ∧ Gr w wr) ∨ (s9 = .int .i64 3 ∧ Hid (wr.ownsRow w.heap.size 134 1 s0 C.length (u32s C)) ∧ Gr w wr)) (fun _ s9 _ => 4 - (intOf s9).toNat)
 case atStart => exact .inl ⟨rfl, rfl, rfl⟩
 case round =>
  rcases hrel with ⟨rfl, rfl, rfl⟩ | ⟨rfl, HR, hg⟩ | ⟨rfl, HR, hg⟩ | ⟨rfl, HR, hg⟩
  · go_wp2_with (go_at_call 100; refine (HL.out _ _ ht HV.out).mono ?_; rintro e w1 ⟨v1, rfl, hv1, g1⟩; have HV1 := hid hv1; clear hv1)
    go_roundw
    case rel => exact .inr (.inl ⟨rfl, HV1, g1⟩)
    case measure => simp [intOf]
  · have hd1 := hg.cell hc1
    go_wp2_with (go_at_call 101; refine (HO.out wr _ (ht.gr hg) (Sl.of_row HR.out)).mono ?_; rintro e w1 ⟨v1, rfl, hv1, g1⟩; have HV1 := hid hv1; clear hv1)
    go_roundw
    case rel => exact .inr (.inr (.inl ⟨rfl, hid (HV1.out.mono' hg.size), hg.trans g1⟩))
    case measure => simp [intOf]
  · have hd2 := hg.cell hc2
    go_wp2_with (go_at_call 102; refine (HC.out wr _ (ht.gr hg) (Sl.of_row HR.out)).mono ?_; rintro e w1 ⟨v1, rfl, hv1, g1⟩; have HV1 := hid hv1; clear hv1)
    go_roundw
    case rel => exact .inr (.inr (.inr (⟨rfl, hid (HV1.out.mono' hg.size), hg.trans g1⟩)))
    case measure => simp [intOf]
  · go_wp2_with fail
    go_ret
    exact ⟨_, rfl, HR.out, hg⟩
theorem Clone_row (v : Value) (L : List Nat) (w : World) (hv : Sl w v L) (hl : L.length ≤ 1000000) : Calls Tryz.prog 98 #[v] w (RowOf L w) := by
 have S0 := hid hv
 obtain ⟨ao, ca, rfl, h0, hA⟩ := hv
 cases ao with
 | none =>
  have hL : L = [] := List.eq_nil_of_length_eq_zero (by
   rcases Nat.eq_zero_or_pos L.length with h | h
   · exact h
   · obtain ⟨g, o, e, _⟩ := hA 0 h; cases e)
  subst hL
  have hc := h0 rfl
  subst hc
  clear S0 hA h0 hl
  have hq : ∀ W, Sem.run Tryz.prog (binOp BinOp.eql 108 (.slice none 0 0) (.slice none 0 0)) W = .ok (.bool true) W := fun W => isnil_sl none 0 0 W
  go_enter Tryz.func98, Tryz.ntmps98
  go_wp2
  go_ret
  exact ⟨_, rfl, World.ownsRow_nil _ _ _ _, Gr.refl _⟩
 | some a =>
  clear hA h0
  have hq : ∀ W, Sem.run Tryz.prog (binOp BinOp.eql 108 (.slice (some a) L.length ca) (.slice none 0 0)) W = .ok (.bool false) W := fun W => isnil_sl (some a) _ _ W
  go_enter Tryz.func98, Tryz.ntmps98
  go_wp2_with (at_builtin; refine wpList_copy_sl rfl _ _ rfl L rfl _ rfl S0.out hl ?_; intro vi wi hvi gi; have HVI := hid hvi; clear hvi)
  go_ret
  exact ⟨vi, rfl, HVI.out, gi⟩
theorem NFC_any (v : Value) (L : List Nat) (w : World) (ht : Tz w) (hv : Sl w v L) (hb : ∀ x ∈ L, x < 4294967296) (hl : L.length ≤ 20000) : Calls Tryz.prog 70 #[v] w (RowOf (nfc L) w) := by
 have HQ := nquick_any v L w ht hv hb (by omega)
 obtain ⟨r, hr⟩ : ∃ r, qkB 0 L = r := ⟨_, rfl⟩
 rw [hr] at HQ
 cases r with
 | true =>
  have HC := hid (fun W (g : Gr w W) => Clone_row v L W (hv.gr g) (by omega))
  rw [qkB_nfc hr]
  have HQ := hid HQ
  clear hv hb hl hr
  go_enter Tryz.func70, Tryz.ntmps70
  go_wp2_with (first
   | (go_at_call 97; refine HQ.out.mono ?_; clear HQ; rintro e w1 ⟨rfl, g1⟩)
   | (go_at_call 98; refine (HC.out w1 g1).mono ?_; clear HC; rintro e w2 ⟨v2, rfl, hv2, g2⟩; have HV2 := hid hv2; clear hv2))
  go_ret
  exact ⟨_, rfl, HV2.out.mono' g1.size, g1.trans g2⟩
 | false =>
  have H := hid (fun W (k : Gr w W) => chain3_any v L (W.alloc (.cells #[.func (.func 100) #[] #[], .func (.func 101) #[] #[], .func (.func 102) #[] #[]] 113)) ((ht.gr k).gr (Gr.alloc _ _)) ((hv.gr k).gr (Gr.alloc _ _)) hb hl W.heap.size (by simp [World.cell?_alloc_new]) (by simp [World.cell?_alloc_new]) (by simp [World.cell?_alloc_new]))
  have HQ := hid HQ
  clear hv hb hl hr
  go_enter Tryz.func70, Tryz.ntmps70
  go_wp2_with (first
   | (go_at_call 97; refine HQ.out.mono ?_; clear HQ; rintro e w1 ⟨rfl, g1⟩)
   | (go_at_call 99; refine (H.out w1 g1).mono ?_; clear H; rintro e w2 ⟨v2, rfl, hv2, g2⟩; have HV2 := hid hv2; clear hv2))
  go_ret
  exact ⟨_, rfl, HV2.out.mono' (g1.trans (Gr.alloc w1 _)).size, (g1.trans (Gr.alloc _ _)).trans g2⟩
end Go.Proofs.YthlflglkdaainaaGreatDoor
namespace Go.Proofs.YthlflglkdaainaaGreatDoor
open Go.RowKit
theorem nfd_len (L : List Nat) : (nfd L).length ≤ 4 * L.length := by
 unfold nfd; rw [ordL_length]; exact (fullL_len L).2
end Go.Proofs.YthlflglkdaainaaGreatDoor
namespace Go.Proofs.YthlflglkdaainaaGreatDoor
open Go.RowKit
end Go.Proofs.YthlflglkdaainaaGreatDoor
namespace Go.Proofs.YthlflglkdaainaaGreatDoor
open Go.RowKit
end Go.Proofs.YthlflglkdaainaaGreatDoor
namespace Go.Proofs.YthlflglkdaainaaGreatDoor
open Go.RowKit Go.Shelf
attribute [local go_sem] Oper.semAt_some
end Go.Proofs.YthlflglkdaainaaGreatDoor
namespace Go.Proofs.YthlflglkdaainaaGreatDoor
open Go.RowKit
end Go.Proofs.YthlflglkdaainaaGreatDoor
namespace Go.Proofs.YthlflglkdaainaaGreatDoor
open Go.Lib
def isCp (c : Nat) : Prop := c < 55296 ∨ (57343 < c ∧ c ≤ 1114111)
instance : DecidablePred isCp := fun c => by unfold isCp; infer_instance
def wid (c : Nat) : Nat := if c < 128 then 1 else if c < 2048 then 2 else if c < 65536 then 3 else 4
def encN (c : Nat) : List UInt8 :=
 if c < 128 then [UInt8.ofNat c]
 else if c < 2048 then [UInt8.ofNat (192 + c / 64), UInt8.ofNat (128 + c % 64)]
 else if c < 65536 then [UInt8.ofNat (224 + c / 4096), UInt8.ofNat (128 + c / 64 % 64), UInt8.ofNat (128 + c % 64)]
 else [UInt8.ofNat (240 + c / 262144), UInt8.ofNat (128 + c / 4096 % 64), UInt8.ofNat (128 + c / 64 % 64), UInt8.ofNat (128 + c % 64)]
theorem encN_len (c : Nat) : (encN c).length = wid c := by unfold encN wid; repeat' split
                                                           all_goals rfl
theorem wid_pos (c : Nat) : 1 ≤ wid c ∧ wid c ≤ 4 := by unfold wid; repeat' split
                                                        all_goals omega
theorem u8_of (n : Nat) (h : n < 256) : (UInt8.ofNat n).toNat = n := by simp [UInt8.toNat_ofNat']; omega
theorem encN_rune {c : Nat} (h : isCp c) : encN c = encodeRune (c : Int) := by
 unfold isCp at h
 have tb : ∀ (z : Int) (n : Nat), z = (n : Int) → n < 256 → z.toNat.toUInt8 = UInt8.ofNat n := fun z n e _ => by subst e; rfl
 unfold encN encodeRune
 split
 · rw [encodeRuneZ_one (by omega) (by omega)]
   simp only [List.map_cons, List.map_nil]; rw [tb _ c rfl (by omega)]
 · split
   · rw [encodeRuneZ_two (by omega) (by omega)]
     simp only [List.map_cons, List.map_nil]
     rw [tb (192 + (c : Int) / 64) (192 + c / 64) (by omega) (by omega), tb (128 + (c : Int) % 64) (128 + c % 64) (by omega) (by omega)]
   · split
     · rw [encodeRuneZ_three (by omega)]
       simp only [List.map_cons, List.map_nil]
       rw [tb (224 + (c : Int) / 4096) (224 + c / 4096) (by omega) (by omega), tb (128 + (c : Int) / 64 % 64) (128 + c / 64 % 64) (by omega) (by omega), tb (128 + (c : Int) % 64) (128 + c % 64) (by omega) (by omega)]
     · rw [encodeRuneZ_four (by omega) (by omega)]
       simp only [List.map_cons, List.map_nil]
       rw [tb (240 + (c : Int) / 262144) (240 + c / 262144) (by omega) (by omega), tb (128 + (c : Int) / 4096 % 64) (128 + c / 4096 % 64) (by omega) (by omega), tb (128 + (c : Int) / 64 % 64) (128 + c / 64 % 64) (by omega) (by omega), tb (128 + (c : Int) % 64) (128 + c % 64) (by omega) (by omega)]
theorem dec_enc {c : Nat} (h : isCp c) (t : List UInt8) : decodeL (encN c ++ t) = (c, wid c) := by
 unfold isCp at h
 rw [decodeL_N]
 unfold encN wid
 split
 · rename_i h1
   simp only [List.cons_append, List.nil_append, List.getD_cons_zero]
   rw [u8_of _ (by omega)]
   unfold decodeN
   rw [if_pos h1]
 · split
   · rename_i h0 h1
     simp only [List.cons_append, List.nil_append, List.getD_cons_zero, List.getD_cons_succ, List.length_cons]
     rw [u8_of _ (by omega), u8_of _ (by omega)]
     unfold decodeN
     rw [if_neg (by omega), if_pos (by omega), if_pos (by omega)]
     congr 1; omega
   · split
     · rename_i h00 h0 h1
       simp only [List.cons_append, List.nil_append, List.getD_cons_zero, List.getD_cons_succ, List.length_cons]
       rw [u8_of _ (by omega), u8_of _ (by omega), u8_of _ (by omega)]
       unfold decodeN
       rw [if_neg (by omega), if_neg (by omega), if_pos (by omega), if_pos (by omega)]
       congr 1; omega
     · rename_i h000 h00 h0
       simp only [List.cons_append, List.nil_append, List.getD_cons_zero, List.getD_cons_succ, List.length_cons]
       rw [u8_of _ (by omega), u8_of _ (by omega), u8_of _ (by omega), u8_of _ (by omega)]
       unfold decodeN
       rw [if_neg (by omega), if_neg (by omega), if_neg (by omega), if_pos (by omega), if_pos (by omega)]
       congr 1; omega
theorem dec_ok {l : List UInt8} (hne : l ≠ []) (hv : ¬ ((decodeL l).1 = 65533 ∧ (decodeL l).2 = 1)) : isCp (decodeL l).1 ∧ encN (decodeL l).1 = l.take (decodeL l).2 ∧ (decodeL l).2 = wid (decodeL l).1 ∧ (decodeL l).2 ≤ l.length := by
 have hle := decodeL_le l hne
 have hed := encode_decode l hne hv
 have ho : isCp (decodeL l).1 := by
  rw [decodeL_N] at hv ⊢
  have k0 := (l.getD 0 0).toNat_lt
  unfold isCp
  rcases decodeN_shape l.length (l.getD 0 0).toNat (l.getD 1 0).toNat (l.getD 2 0).toNat (l.getD 3 0).toNat with ⟨c, e⟩ | ⟨c1, c2, c3, cv, e⟩ | ⟨c1, c2, c3, c4, cv, cs, e⟩ | ⟨c1, c2, c3, c4, c5, cv, cw, e⟩ | e
  · rw [e]; dsimp only; omega
  · rw [e]; dsimp only; omega
  · rw [e]; dsimp only; omega
  · rw [e]; dsimp only; omega
  · rw [e] at hv; exact absurd ⟨rfl, rfl⟩ hv
 rw [← encN_rune ho] at hed
 refine ⟨ho, hed, ?_, hle⟩
 have := congrArg List.length hed
 rw [encN_len, List.length_take, Nat.min_eq_left hle] at this
 exact this.symm
def codesG : Nat → List UInt8 → Option (List Nat)
 | 0, _ => some []
 | n + 1, l => if l = [] then some [] else if (decodeL l).1 = 65533 ∧ (decodeL l).2 = 1 then none else (codesG n (l.drop (decodeL l).2)).map ((decodeL l).1 :: ·)
def codes (l : List UInt8) : Option (List Nat) := codesG l.length l
theorem codes_nil : codes [] = some [] := rfl
theorem codesG_nil : ∀ n, codesG n [] = some []
 | 0 => rfl
 | _ + 1 => by simp [codesG]
theorem codesG_fuel : ∀ (n m : Nat) (l : List UInt8), l.length ≤ n → l.length ≤ m → codesG n l = codesG m l
 | 0, m, l, hn, _ => by
  have : l = [] := List.eq_nil_of_length_eq_zero (by omega)
  subst this; rw [codesG_nil, codesG_nil]
 | n + 1, 0, l, _, hm => by
  have : l = [] := List.eq_nil_of_length_eq_zero (by omega)
  subst this; rw [codesG_nil, codesG_nil]
 | n + 1, m + 1, l, hn, hm => by
  unfold codesG
  by_cases hne : l = []
  · simp [hne]
  · have hw := decodeL_width l
    have hl : 0 < l.length := List.length_pos_iff.2 hne
    rw [if_neg hne, if_neg hne, codesG_fuel n m (l.drop (decodeL l).2) (by rw [List.length_drop]; omega) (by rw [List.length_drop]; omega)]
theorem codes_step (l : List UInt8) (hne : l ≠ []) : codes l = if (decodeL l).1 = 65533 ∧ (decodeL l).2 = 1 then none else (codes (l.drop (decodeL l).2)).map ((decodeL l).1 :: ·) := by
 have hl : 0 < l.length := List.length_pos_iff.2 hne
 have hw := decodeL_width l
 obtain ⟨n, hn⟩ : ∃ n, l.length = n + 1 := ⟨l.length - 1, by omega⟩
 unfold codes
 rw [hn]
 show (if l = [] then some [] else _) = _
 rw [if_neg hne, codesG_fuel n (l.drop (decodeL l).2).length _ (by rw [List.length_drop]; omega) (Nat.le_refl _)]
theorem codes_valid : ∀ (n : Nat) (l : List UInt8), l.length ≤ n → validD l = (codes l).isSome
 | 0, l, h => by
  have : l = [] := List.eq_nil_of_length_eq_zero (by omega)
  subst this; rfl
 | n + 1, l, h => by
  by_cases hne : l = []
  · subst hne; rfl
  · have hw := decodeL_width l
    have hl : 0 < l.length := List.length_pos_iff.2 hne
    rw [validD_step l hne, codes_step l hne]
    split
    · rfl
    · rw [codes_valid n _ (by rw [List.length_drop]; omega), Option.isSome_map]
theorem valid_codes (l : List UInt8) : validD l = (codes l).isSome := codes_valid _ l (Nat.le_refl _)
def bytesL (l : List Nat) : List UInt8 := l.flatMap encN
theorem bytesL_cons (c : Nat) (l : List Nat) : bytesL (c :: l) = encN c ++ bytesL l := by unfold bytesL; rw [List.flatMap_cons]
theorem bytesL_append (a b : List Nat) : bytesL (a ++ b) = bytesL a ++ bytesL b := by unfold bytesL; rw [List.flatMap_append]
def OkL (l : List Nat) : Prop := ∀ c ∈ l, isCp c
theorem codes_bytes : ∀ (l : List Nat), OkL l → codes (bytesL l) = some l
 | [], _ => rfl
 | c :: l, h => by
  have hc := h c (by simp)
  have hne : bytesL (c :: l) ≠ [] := fun e => by
   have := congrArg List.length e
   rw [bytesL_cons, List.length_append, encN_len] at this
   have := wid_pos c
   simp at *; omega
  rw [codes_step _ hne]
  rw [bytesL_cons, dec_enc hc]
  have hn : ¬ (c = 65533 ∧ wid c = 1) := by rintro ⟨rfl, h2⟩; revert h2; decide
  rw [if_neg hn]
  dsimp only
  rw [show (encN c ++ bytesL l).drop (wid c) = bytesL l by rw [← encN_len, List.drop_left], codes_bytes l fun x hx => h x (List.mem_cons_of_mem _ hx)]
  rfl
theorem bytes_codes' : ∀ (n : Nat) (b : List UInt8) (l : List Nat), b.length ≤ n → codes b = some l → bytesL l = b ∧ OkL l
 | 0, b, l, hb, h => by
  have : b = [] := List.eq_nil_of_length_eq_zero (by omega)
  subst this
  rw [codes_nil] at h
  obtain rfl := Option.some.inj h
  exact ⟨rfl, fun c hc => by cases hc⟩
 | n + 1, b, l, hb, h => by
  by_cases hne : b = []
  · subst hne
    rw [codes_nil] at h
    obtain rfl := Option.some.inj h
    exact ⟨rfl, fun c hc => by cases hc⟩
  · have hw := decodeL_width b
    have hl : 0 < b.length := List.length_pos_iff.2 hne
    rw [codes_step b hne] at h
    split at h
    · cases h
    · rename_i hv
      obtain ⟨k1, k2, k3, k4⟩ := dec_ok hne hv
      obtain ⟨t, ht, rfl⟩ := Option.map_eq_some_iff.1 h
      obtain ⟨i1, i2⟩ := bytes_codes' n _ t (by rw [List.length_drop]; omega) ht
      refine ⟨by rw [bytesL_cons, k2, i1, List.take_append_drop], fun c hc => ?_⟩
      rcases List.mem_cons.1 hc with rfl | hc
      · exact k1
      · exact i2 c hc
theorem bytes_codes {b : List UInt8} {l : List Nat} (h : codes b = some l) : bytesL l = b ∧ OkL l := bytes_codes' _ b l (Nat.le_refl _) h
theorem codes_len {b : List UInt8} {l : List Nat} (h : codes b = some l) : l.length ≤ b.length := by
 obtain ⟨h1, h2⟩ := bytes_codes h
 rw [← h1]
 clear h h1 h2
 induction l with
 | nil => simp
 | cons c l ih => rw [bytesL_cons, List.length_append, encN_len, List.length_cons]; have := wid_pos c; omega
theorem isCp_small {c : Nat} (h : isCp c) : c < 4294967296 := by unfold isCp at h; omega
end Go.Proofs.YthlflglkdaainaaGreatDoor
namespace Go.Proofs.YthlflglkdaainaaGreatDoor
def isCpB (c : Nat) : Bool := Nat.blt c 55296 || (Nat.blt 57343 c && Nat.ble c 1114111)
theorem isCpB_iff (c : Nat) : isCpB c = true ↔ isCp c := by
 unfold isCpB isCp; rw [Bool.or_eq_true, Bool.and_eq_true, Nat.blt_eq, Nat.blt_eq, Nat.ble_eq]
def widB (c : Nat) : Nat := cond (Nat.blt c 128) 1 (cond (Nat.blt c 2048) 2 (cond (Nat.blt c 65536) 3 4))
theorem blt_f {a b : Nat} (h : ¬ a < b) : Nat.blt a b = false := by rw [← Bool.not_eq_true, Nat.blt_eq]; exact h
theorem blt_t {a b : Nat} (h : a < b) : Nat.blt a b = true := by rw [Nat.blt_eq]; exact h
theorem widB_eq (c : Nat) : widB c = wid c := by
 unfold widB wid
 by_cases h1 : c < 128
 · rw [blt_t h1, if_pos h1]; rfl
 · rw [blt_f h1, if_neg h1]
   by_cases h2 : c < 2048
   · rw [blt_t h2, if_pos h2]; rfl
   · rw [blt_f h2, if_neg h2]
     by_cases h3 : c < 65536
     · rw [blt_t h3, if_pos h3]; rfl
     · rw [blt_f h3, if_neg h3]; rfl
def sumB : List Nat → Nat
 | [] => 0
 | c :: l => Nat.add (widB c) (sumB l)
def plainC (c : Nat) : Bool := Nat.beq c 46 || Nat.beq c 103 || Nat.beq c 101 || Nat.beq c 115 || Nat.beq c 111 || Nat.beq c 126
def ckU1 (D : List (Nat × Nat × Nat × Bool)) (e : Nat × Nat × Nat × Bool) : Bool :=
 Nat.ble (sumB (fullT D 3 e.1)) (3 * widB e.1) && (isCpB e.2.1 && isCpB e.2.2.1) && (allB (fun x => !(Nat.beq x 0) && !(Nat.beq x 47)) (fullT D 3 e.1)) && !(allB plainC (fullT D 3 e.1))
def ckU2 (e : Nat × Nat × Nat) : Bool := Nat.ble (widB e.2.2) (Nat.add (widB e.1) (widB e.2.1)) && isCpB e.2.2
def ckU (lD lP : List UInt8) : Bool := allB (ckU1 (dc16 lD)) (dc16 lD) && allB ckU2 (dc15 lP)
theorem ckU_t : ckU tD.data.toList tP.data.toList = true := by decide +kernel
theorem ckU_1 : ∀ e ∈ Dl, ckU1 Dl e = true := by
 have h := ckU_t; unfold ckU at h; rw [Bool.and_eq_true] at h
 exact (allB_iff _ _).1 h.1
theorem ckU_2 : ∀ e ∈ Pl, wid e.2.2 ≤ wid e.1 + wid e.2.1 ∧ isCp e.2.2 := by
 have h := ckU_t; unfold ckU at h; rw [Bool.and_eq_true] at h
 intro e he
 have := (allB_iff _ _).1 h.2 e he
 unfold ckU2 at this
 rw [Bool.and_eq_true, Nat.ble_eq, isCpB_iff, widB_eq, widB_eq, widB_eq] at this
 exact this
def widL : List Nat → Nat
 | [] => 0
 | c :: l => wid c + widL l
theorem widL_append (a b : List Nat) : widL (a ++ b) = widL a + widL b := by
 induction a with
 | nil => simp [widL]
 | cons c a ih => rw [List.cons_append, widL, widL, ih]; omega
theorem widL_perm {a b : List Nat} (h : a.Perm b) : widL a = widL b := by
 induction h with
 | nil => rfl
 | cons x _ ih => rw [widL, widL, ih]
 | swap x y l => simp only [widL]; omega
 | trans _ _ h1 h2 => rw [h1, h2]
theorem sumB_eq (l : List Nat) : sumB l = widL l := by
 induction l with
 | nil => rfl
 | cons c l ih => rw [sumB, widL, ih, widB_eq]; rfl
theorem bytesL_len (l : List Nat) : (bytesL l).length = widL l := by
 induction l with
 | nil => rfl
 | cons c l ih => rw [bytesL_cons, List.length_append, encN_len, ih, widL]
theorem row_facts {c : Nat} {e} (hd : dfind c = some e) : widL (full c) ≤ 3 * wid c ∧ (∀ x ∈ full c, x ≠ 0 ∧ x ≠ 47) ∧ ¬ (∀ x ∈ full c, plainC x = true) := by
 obtain ⟨he, hc⟩ := dfind_some hd
 have hh : isH c = false := by have := (D_noH he).1; rwa [hc] at this
 have h := ckU_1 e he
 unfold ckU1 at h
 rw [hc, show fullT Dl 3 c = full c from fullT_eq (deep3 c) hh] at h
 rw [Bool.and_eq_true, Bool.and_eq_true, Bool.and_eq_true, Nat.ble_eq, sumB_eq, widB_eq, allB_iff, Bool.not_eq_true'] at h
 refine ⟨h.1.1.1, fun x hx => ?_, fun hall => ?_⟩
 · have := h.1.2 x hx
   rw [Bool.and_eq_true, Bool.not_eq_true', Bool.not_eq_true', ← Bool.not_eq_true, ← Bool.not_eq_true, Nat.beq_eq, Nat.beq_eq] at this
   exact this
 · rw [(allB_iff _ _).2 hall] at h; exact absurd h.2 (by decide)
theorem wid_hangul {c : Nat} (h : 4352 ≤ c ∧ c ≤ 65535) : wid c = 3 := by unfold wid; rw [if_neg (by omega), if_neg (by omega), if_pos (by omega)]
theorem full_wid (c : Nat) : widL (full c) ≤ 3 * wid c := by
 cases hh : isH c with
 | true =>
  rw [full_h hh]
  have hi := (isH_iff c).1 hh
  rw [wid_hangul (by omega)]
  have hm := hsp_lt c hh
  have hl := (hsp_len c).2
  generalize hsp c = l at hm hl
  have : ∀ (l : List Nat), (∀ x ∈ l, 4352 ≤ x ∧ x ≤ 4546) → widL l = 3 * l.length := by
   intro l
   induction l with
   | nil => intro _; rfl
   | cons a l ih =>
    intro h
    rw [widL, ih fun x hx => h x (List.mem_cons_of_mem _ hx), wid_hangul (by have := h a (by simp); omega), List.length_cons]; omega
  rw [this l hm]; omega
 | false =>
  cases hd : dfind c with
  | none => rw [full_no hh hd]; simp only [widL]; have := wid_pos c; omega
  | some e => exact (row_facts hd).1
theorem fullL_wid : ∀ (l : List Nat), widL (fullL l) ≤ 3 * widL l
 | [] => Nat.le_refl _
 | c :: l => by rw [fullL_cons, widL_append, widL]; have := full_wid c; have := fullL_wid l; omega
theorem nfd_wid (l : List Nat) : widL (nfd l) ≤ 3 * widL l := by unfold nfd; rw [widL_perm (ordL_perm _)]; exact fullL_wid l
theorem two_wid {a b x : Nat} (h : two a b = some x) : wid x ≤ wid a + wid b ∧ isCp x := by
 unfold two at h
 cases hj : joinH a b with
 | some y =>
  rw [hj] at h
  obtain rfl := Option.some.inj h
  rcases joinH_some hj with ⟨h1, h2, rfl⟩ | ⟨h1, h2, h3, rfl⟩
  · rw [isL_iff] at h1; rw [isV_iff] at h2
    rw [wid_hangul (c := a) (by omega), wid_hangul (by omega)]
    refine ⟨by omega, ?_⟩
    unfold isCp; omega
  · rw [isH_iff] at h1; rw [isT_iff] at h3
    rw [wid_hangul (c := a) (by omega), wid_hangul (by omega)]
    refine ⟨by omega, ?_⟩
    unfold isCp; omega
 | none =>
  rw [hj] at h
  cases hp : pfind a b with
  | none => rw [hp] at h; cases h
  | some e =>
   rw [hp] at h
   obtain rfl := Option.some.inj h
   obtain ⟨h1, h2, h3⟩ := pfind_some hp
   have := ckU_2 e h1
   rwa [h2, h3] at this
theorem compG_wid : ∀ (t : List Nat) (st : Nat) (marks : List Nat) (last : Nat), widL (compG t st marks last) ≤ wid st + widL marks + widL t
 | [], st, marks, last => by rw [compG_nil]; simp only [widL]; omega
 | c :: t, st, marks, last => by
  cases h : tryTwo st marks last c with
  | some x => rw [compG_some h]; have := compG_wid t x marks last; have := (two_wid (tryTwo_some h).1).1; simp only [widL]; omega
  | none =>
   by_cases hc : cls c = 0
   · rw [compG_s h hc]; have := compG_wid t c [] 0; simp only [widL, List.cons_append, widL_append] at this ⊢; omega
   · rw [compG_m h hc]; have := compG_wid t st (marks ++ [c]) (cls c); simp only [widL, widL_append] at this ⊢; omega
theorem comp_wid : ∀ (l : List Nat), widL (comp l) ≤ widL l
 | [] => by rw [comp_nil]; exact Nat.le_refl _
 | c :: t => by
  by_cases hc : cls c = 0
  · rw [comp_s hc]; have := compG_wid t c [] 0; simp only [widL] at this ⊢; omega
  · rw [comp_m hc]; have := comp_wid t; simp only [widL]; omega
theorem nfc_wid (l : List Nat) : widL (nfc l) ≤ 3 * widL l := Nat.le_trans (comp_wid _) (nfd_wid l)
theorem fullF_ok {n : Nat} : ∀ {c : Nat}, Deep n c → isH c = false → isCp c → OkL (fullF n c) := by
 induction n with
 | zero => intro c h hh hc x hx; rw [fullF_one h hh, List.mem_singleton] at hx; rw [hx]; exact hc
 | succ n ih =>
  intro c h hh hc x hx
  rcases h with h | ⟨e, h1, h2, h3⟩
  · rw [fullF_one h hh, List.mem_singleton] at hx; rw [hx]; exact hc
  · have he := (dfind_some h1).1
    have hno := D_noH he
    have hk := ckU_1 e he
    unfold ckU1 at hk
    rw [Bool.and_eq_true, Bool.and_eq_true, Bool.and_eq_true, Bool.and_eq_true, isCpB_iff, isCpB_iff] at hk
    rw [fullF, hh, h1] at hx
    dsimp only at hx
    rw [if_neg (by simp)] at hx
    rcases List.mem_append.1 hx with hx | hx
    · exact ih h2 hno.2.1 hk.1.1.2.1 x hx
    · split at hx
      · cases hx
      · rw [fullF_one h3 hno.2.2, List.mem_singleton] at hx; rw [hx]; exact hk.1.1.2.2
theorem full_ok {c : Nat} (hc : isCp c) : OkL (full c) := by
 cases hh : isH c with
 | true => rw [full_h hh]; intro x hx; have := hsp_lt c hh x hx; unfold isCp; omega
 | false => exact fullF_ok (deep3 c) hh hc
theorem fullL_ok {l : List Nat} (h : OkL l) : OkL (fullL l) := fun x hx => by
 unfold fullL at hx
 obtain ⟨c, hc, hx⟩ := List.mem_flatMap.1 hx
 exact full_ok (h c hc) x hx
theorem nfd_ok {l : List Nat} (h : OkL l) : OkL (nfd l) := fun x hx => fullL_ok h x (ordL_mem.1 hx)
theorem comp_ok {l : List Nat} (h : OkL l) : OkL (comp l) := fun x hx => by
 rcases comp_mem l x hx with h1 | ⟨a, b, h1⟩
 · exact h x h1
 · exact (two_wid h1).2
theorem nfc_ok {l : List Nat} (h : OkL l) : OkL (nfc l) := comp_ok (nfd_ok h)
theorem OkL.small {l : List Nat} (h : OkL l) : ∀ x ∈ l, x < 4294967296 := fun x hx => isCp_small (h x hx)
noncomputable def textB (b : List UInt8) : Option (List UInt8) := (codes b).map fun l => bytesL (nfc l)
theorem textB_some {b c : List UInt8} (h : textB b = some c) : ∃ l, codes b = some l ∧ c = bytesL (nfc l) ∧ codes c = some (nfc l) ∧ textB c = some c ∧ c.length ≤ 3 * b.length := by
 unfold textB at h
 obtain ⟨l, h1, h2⟩ := Option.map_eq_some_iff.1 h
 obtain ⟨h3, h4⟩ := bytes_codes h1
 have hc : codes c = some (nfc l) := by rw [← h2]; exact codes_bytes _ (nfc_ok h4)
 refine ⟨l, h1, h2.symm, hc, ?_, ?_⟩
 · unfold textB; rw [hc, Option.map_some, nfc_nfc, h2]
 · rw [← h2, bytesL_len, ← h3, bytesL_len]; exact nfc_wid l
end Go.Proofs.YthlflglkdaainaaGreatDoor
namespace Go.Proofs.YthlflglkdaainaaGreatDoor
open Go.RowKit Go.Lib
theorem info_u8 : (Tryz.prog.info? 5).map (fun i => (i.zero, i.size, i.bytes)) = some (some (.int .u8 0), 1, 1) := by kernel_rfl
theorem rune_two (B : Nat) (v : Value) (n : Nat) (xs : List Value) (r : Int) (h0 : 128 ≤ r) (h1 : r ≤ 2047) (w : World) (hown : w.ownsRow B 5 1 v n xs) (hlen : n ≤ 100000000) (hBw : B ≤ w.heap.size) :
    Calls Tryz.prog 128 #[v, .int .i32 r] w fun e w' => ∃ v', e = .returned v' ∧ w'.ownsRow B 5 1 v' (n + 2) (xs ++ [.int .u8 (192 + r / 64), .int .u8 (128 + r % 64)]) ∧ ∃ o, (w.alloc o).grownBy w' v.ownBlock := by
 obtain ⟨i0, hi, hz0, hz1, hz2⟩ := info_parts info_u8
 go_enter Tryz.func128, Tryz.ntmps128
 go_wp2_with (at_builtin; refine wpList_append_own _ rfl _ _ 46 rfl B 5 i0 (.int .u8 0) 1 1 Tryz.underlying46 hi hz0 hz1 hz2 rfl (by decide) _ _ _ rfl (hown.alloc _) ⟨w.heap.size, 0, none⟩ 2 2 [.int .u8 (192 + r / 64), .int .u8 (128 + r % 64)] rfl rfl ?c1 ?c2 ?c3 ?c4 ?c5 ?_)
 case c1 =>
  intro j u hj
  match j, hj with
  | 0, hj => simp at hj; subst hj; simp [Addr.add]
  | 1, hj => simp at hj; subst hj; simp [Addr.add]
  | (j + 2), hj => simp at hj
 case c2 => intro u hu; simp at hu; rcases hu with rfl | rfl <;> rfl
 case c3 => unfold maxLen; omega
 case c4 => omega
 case c5 => simp; omega
 intro v' w2 hown' hgrow _
 go_wp2
 go_ret
 exact ⟨_, rfl, hown', _, hgrow⟩
theorem rune_thl (B : Nat) (v : Value) (n : Nat) (xs : List Value) (r : Int) (h0 : 2048 ≤ r) (h1 : r < 55296) (w : World) (hown : w.ownsRow B 5 1 v n xs) (hlen : n ≤ 100000000) (hBw : B ≤ w.heap.size) :
    Calls Tryz.prog 128 #[v, .int .i32 r] w fun e w' => ∃ v', e = .returned v' ∧ w'.ownsRow B 5 1 v' (n + 3) (xs ++ [.int .u8 (224 + r / 4096), .int .u8 (128 + r / 64 % 64), .int .u8 (128 + r % 64)]) ∧ ∃ o, (w.alloc o).grownBy w' v.ownBlock := by
 obtain ⟨i0, hi, hz0, hz1, hz2⟩ := info_parts info_u8
 go_enter Tryz.func128, Tryz.ntmps128
 go_wp2_with (at_builtin; refine wpList_append_own _ rfl _ _ 46 rfl B 5 i0 (.int .u8 0) 1 1 Tryz.underlying46 hi hz0 hz1 hz2 rfl (by decide) _ _ _ rfl (hown.alloc _) ⟨w.heap.size, 0, none⟩ 3 3 [.int .u8 (224 + r / 4096), .int .u8 (128 + r / 64 % 64), .int .u8 (128 + r % 64)] rfl rfl ?c1 ?c2 ?c3 ?c4 ?c5 ?_)
 case c1 =>
  intro j u hj
  match j, hj with
  | 0, hj => simp at hj; subst hj; simp [Addr.add]
  | 1, hj => simp at hj; subst hj; simp [Addr.add]
  | 2, hj => simp at hj; subst hj; simp [Addr.add]
  | (j + 3), hj => simp at hj
 case c2 => intro u hu; simp at hu; rcases hu with rfl | rfl | rfl <;> rfl
 case c3 => unfold maxLen; omega
 case c4 => omega
 case c5 => simp; omega
 intro v' w2 hown' hgrow _
 go_wp2
 go_ret
 exact ⟨_, rfl, hown', _, hgrow⟩
theorem rune_thh (B : Nat) (v : Value) (n : Nat) (xs : List Value) (r : Int) (h0 : 57343 < r) (h1 : r ≤ 65535) (w : World) (hown : w.ownsRow B 5 1 v n xs) (hlen : n ≤ 100000000) (hBw : B ≤ w.heap.size) :
    Calls Tryz.prog 128 #[v, .int .i32 r] w fun e w' => ∃ v', e = .returned v' ∧ w'.ownsRow B 5 1 v' (n + 3) (xs ++ [.int .u8 (224 + r / 4096), .int .u8 (128 + r / 64 % 64), .int .u8 (128 + r % 64)]) ∧ ∃ o, (w.alloc o).grownBy w' v.ownBlock := by
 obtain ⟨i0, hi, hz0, hz1, hz2⟩ := info_parts info_u8
 go_enter Tryz.func128, Tryz.ntmps128
 go_wp2_with (at_builtin; refine wpList_append_own _ rfl _ _ 46 rfl B 5 i0 (.int .u8 0) 1 1 Tryz.underlying46 hi hz0 hz1 hz2 rfl (by decide) _ _ _ rfl (hown.alloc _) ⟨w.heap.size, 0, none⟩ 3 3 [.int .u8 (224 + r / 4096), .int .u8 (128 + r / 64 % 64), .int .u8 (128 + r % 64)] rfl rfl ?c1 ?c2 ?c3 ?c4 ?c5 ?_)
 case c1 =>
  intro j u hj
  match j, hj with
  | 0, hj => simp at hj; subst hj; simp [Addr.add]
  | 1, hj => simp at hj; subst hj; simp [Addr.add]
  | 2, hj => simp at hj; subst hj; simp [Addr.add]
  | (j + 3), hj => simp at hj
 case c2 => intro u hu; simp at hu; rcases hu with rfl | rfl | rfl <;> rfl
 case c3 => unfold maxLen; omega
 case c4 => omega
 case c5 => simp; omega
 intro v' w2 hown' hgrow _
 go_wp2
 go_ret
 exact ⟨_, rfl, hown', _, hgrow⟩
theorem rune_fou (B : Nat) (v : Value) (n : Nat) (xs : List Value) (r : Int) (h0 : 65536 ≤ r) (h1 : r ≤ 1114111) (w : World) (hown : w.ownsRow B 5 1 v n xs) (hlen : n ≤ 100000000) (hBw : B ≤ w.heap.size) :
    Calls Tryz.prog 128 #[v, .int .i32 r] w fun e w' => ∃ v', e = .returned v' ∧ w'.ownsRow B 5 1 v' (n + 4) (xs ++ [.int .u8 (240 + r / 262144), .int .u8 (128 + r / 4096 % 64), .int .u8 (128 + r / 64 % 64), .int .u8 (128 + r % 64)]) ∧ ∃ o, (w.alloc o).grownBy w' v.ownBlock := by
 obtain ⟨i0, hi, hz0, hz1, hz2⟩ := info_parts info_u8
 go_enter Tryz.func128, Tryz.ntmps128
 go_wp2_with (at_builtin; refine wpList_append_own _ rfl _ _ 46 rfl B 5 i0 (.int .u8 0) 1 1 Tryz.underlying46 hi hz0 hz1 hz2 rfl (by decide) _ _ _ rfl (hown.alloc _) ⟨w.heap.size, 0, none⟩ 4 4 [.int .u8 (240 + r / 262144), .int .u8 (128 + r / 4096 % 64), .int .u8 (128 + r / 64 % 64), .int .u8 (128 + r % 64)] rfl rfl ?c1 ?c2 ?c3 ?c4 ?c5 ?_)
 case c1 =>
  intro j u hj
  match j, hj with
  | 0, hj => simp at hj; subst hj; simp [Addr.add]
  | 1, hj => simp at hj; subst hj; simp [Addr.add]
  | 2, hj => simp at hj; subst hj; simp [Addr.add]
  | 3, hj => simp at hj; subst hj; simp [Addr.add]
  | (j + 4), hj => simp at hj
 case c2 => intro u hu; simp at hu; rcases hu with rfl | rfl | rfl | rfl <;> rfl
 case c3 => unfold maxLen; omega
 case c4 => omega
 case c5 => simp; omega
 intro v' w2 hown' hgrow _
 go_wp2
 go_ret
 exact ⟨_, rfl, hown', _, hgrow⟩
theorem rune_asc (B : Nat) (v : Value) (n : Nat) (xs : List Value) (r : Int) (h0 : 0 ≤ r) (h1 : r ≤ 127) (w : World) (hown : w.ownsRow B 5 1 v n xs) (hlen : n ≤ 100000000) (hBw : B ≤ w.heap.size) :
    Calls Tryz.prog 96 #[v, .int .i32 r] w fun e w' => ∃ v', e = .returned v' ∧ w'.ownsRow B 5 1 v' (n + 1) (xs ++ [.int .u8 r]) ∧ ∃ o, (w.alloc o).grownBy w' v.ownBlock := by
 obtain ⟨i0, hi, hz0, hz1, hz2⟩ := info_parts info_u8
 go_enter Tryz.func96, Tryz.ntmps96
 go_wp2_with (at_builtin; refine wpList_append_own _ rfl _ _ 46 rfl B 5 i0 (.int .u8 0) 1 1 Tryz.underlying46 hi hz0 hz1 hz2 rfl (by decide) _ _ _ rfl (hown.alloc _) ⟨w.heap.size, 0, none⟩ 1 1 [.int .u8 r] rfl rfl ?c1 ?c2 ?c3 ?c4 ?c5 ?_)
 case c1 =>
  intro j u hj
  match j, hj with
  | 0, hj => simp at hj; subst hj; simp [Addr.add]
  | (j + 1), hj => simp at hj
 case c2 => intro u hu; simp at hu; rcases hu with rfl; rfl
 case c3 => unfold maxLen; omega
 case c4 => omega
 case c5 => simp; omega
 intro v' w2 hown' hgrow _
 go_wp2
 go_ret
 exact ⟨_, rfl, hown', _, hgrow⟩
theorem AppendRune_any (B : Nat) (v : Value) (K : List UInt8) (c : Nat) (hc : isCp c) (w : World) (hown : w.ownsRow B 5 1 v K.length (byteCells K)) (hlen : K.length ≤ 100000000) (hBw : B ≤ w.heap.size) :
    Calls Tryz.prog 96 #[v, .int .i32 (c : Int)] w fun e w' => ∃ v', e = .returned v' ∧ w'.ownsRow B 5 1 v' (K ++ encN c).length (byteCells (K ++ encN c)) ∧ ∃ o, (w.alloc o).grownBy w' v.ownBlock := by
 have hcell : byteCells (encN c) = runeCells (c : Int) := by rw [encN_rune hc, byteCells_encodeRune]
 have hj : byteCells (K ++ encN c) = byteCells K ++ runeCells (c : Int) := by rw [← hcell]; simp [byteCells]
 have hk : (K ++ encN c).length = K.length + (runeCells (c : Int)).length := by rw [← hcell]; simp [byteCells]
 rw [hj, hk]
 unfold isCp at hc
 by_cases h0 : c < 128
 · rw [show runeCells (c : Int) = [.int .u8 (c : Int)] by simp only [runeCells]; rw [encodeRuneZ_one (by omega) (by omega)]; rfl]
   exact rune_asc B v K.length _ c (by omega) (by omega) w hown hlen hBw
 · have H : Calls Tryz.prog 128 #[v, .int .i32 (c : Int)] w fun e w' => ∃ v', e = .returned v' ∧ w'.ownsRow B 5 1 v' (K.length + (runeCells (c : Int)).length) (byteCells K ++ runeCells (c : Int)) ∧ ∃ o, (w.alloc o).grownBy w' v.ownBlock := by
     by_cases h1 : c < 2048
     · rw [show runeCells (c : Int) = [.int .u8 (192 + (c : Int) / 64), .int .u8 (128 + (c : Int) % 64)] by simp only [runeCells]; rw [encodeRuneZ_two (by omega) (by omega)]; rfl]
       exact rune_two B v K.length _ c (by omega) (by omega) w hown hlen hBw
     · by_cases h2 : c < 65536
       · rw [show runeCells (c : Int) = [.int .u8 (224 + (c : Int) / 4096), .int .u8 (128 + (c : Int) / 64 % 64), .int .u8 (128 + (c : Int) % 64)] by simp only [runeCells]; rw [encodeRuneZ_three (by omega)]; rfl]
         by_cases h3 : c < 55296
         · exact rune_thl B v K.length _ c (by omega) (by omega) w hown hlen hBw
         · exact rune_thh B v K.length _ c (by omega) (by omega) w hown hlen hBw
       · rw [show runeCells (c : Int) = [.int .u8 (240 + (c : Int) / 262144), .int .u8 (128 + (c : Int) / 4096 % 64), .int .u8 (128 + (c : Int) / 64 % 64), .int .u8 (128 + (c : Int) % 64)] by simp only [runeCells]; rw [encodeRuneZ_four (by omega) (by omega)]; rfl]
         exact rune_fou B v K.length _ c (by omega) (by omega) w hown hlen hBw
   have h127 : ¬ (c : Int) ≤ 127 := by omega
   have hcb : (c : Int) ≤ 1114111 := by omega
   have HH := hid H
   clear H hj hk hcell hown hlen hBw hc h0
   go_enter Tryz.func96, Tryz.ntmps96
   go_wp2_with (go_at_call 128; refine HH.out.mono ?_; clear HH; rintro e w1 ⟨v1, rfl, h1, h2⟩; have H1 := hid h1; have H2 := hid h2; clear h1 h2)
   go_ret
   exact ⟨_, rfl, H1.out, H2.out⟩
theorem ValidRune_any (c : Nat) (hc : c < 1114112) (w : World) : Calls Tryz.prog 127 #[.int .i32 (c : Int)] w fun e w' => e = .returned (.bool (decide (isCp c))) ∧ w = w' := by
 by_cases h1 : c < 55296
 · have h1z : (c : Int) < 55296 := by omega
   have h0z : (0 : Int) ≤ (c : Int) := by omega
   rw [decide_eq_true (show isCp c by unfold isCp; omega)]
   clear h1
   go_enter Tryz.func127, Tryz.ntmps127
   go_wp2
   go_ret
   exact ⟨rfl, rfl⟩
 · have h1z : ¬ (c : Int) < 55296 := by omega
   have h1d : decide ((c : Int) < 55296) = false := decide_eq_false h1z
   have h0z : (0 : Int) ≤ (c : Int) := by omega
   by_cases h2 : 57343 < c
   · have h2z : (57343 : Int) < (c : Int) := by omega
     have h3z : (c : Int) ≤ 1114111 := by omega
     rw [decide_eq_true (show isCp c by unfold isCp; omega)]
     clear h1 h2 hc
     go_enter Tryz.func127, Tryz.ntmps127
     go_wp2
     go_ret
     exact ⟨rfl, rfl⟩
   · have h2z : ¬ (57343 : Int) < (c : Int) := by omega
     have h2d : decide ((57343 : Int) < (c : Int)) = false := decide_eq_false h2z
     rw [decide_eq_false (show ¬ isCp c by unfold isCp; omega)]
     clear h1 h2 hc
     go_enter Tryz.func127, Tryz.ntmps127
     go_wp2
     go_ret
     exact ⟨rfl, rfl⟩
theorem point_ok (c : Nat) (hc : isCp c) (w : World) : Calls Tryz.prog 95 #[.int .u32 (c : Int)] w fun e w' => e = .returned (.tuple #[.int .i32 (c : Int), .bool true]) ∧ w = w' := by
 have hlt : c < 1114112 := by unfold isCp at hc; omega
 have H := hid (ValidRune_any c hlt w)
 have hd := decide_eq_true hc
 have h1z : ¬ (1114111 : Int) < (c : Int) := by omega
 have h2z : (c : Int) ≤ 1114111 := by omega
 have H2 : Hid (Calls Tryz.prog 127 #[.int .i32 (c : Int)] w fun e w' => e = .returned (.bool true) ∧ w = w') := by have := H.out; rw [hd] at this; exact this
 clear H hd hlt hc
 go_enter Tryz.func95, Tryz.ntmps95
 go_wp2_with (go_at_call 127; refine H2.out.mono ?_; clear H2; rintro e w1 ⟨rfl, rfl⟩)
 go_ret2
 exact ⟨rfl, rfl⟩
end Go.Proofs.YthlflglkdaainaaGreatDoor
namespace Go.Proofs.YthlflglkdaainaaGreatDoor
open Go.RowKit Go.Lib
def Bs (w : World) (v : Value) (b : List UInt8) : Prop := ∃ (ao : Option Addr) (cap : Nat), v = .slice ao b.length cap ∧ b.length ≤ cap ∧ cap ≤ maxLen ∧ (ao = none → cap = 0) ∧ ∀ k, k < b.length → ∃ g o, ao = some ⟨g, o, none⟩ ∧ w.cell? ⟨g, o + k, none⟩ = some (.int .u8 ((b.getD k 0).toNat : Int))
theorem Bs.gr {w w' : World} {v : Value} {b : List UInt8} (h : Bs w v b) (g : Gr w w') : Bs w' v b := by
 obtain ⟨ao, cap, h1, h3, h4, h5, h2⟩ := h
 exact ⟨ao, cap, h1, h3, h4, h5, fun j hj => by obtain ⟨b, o, h3, h4⟩ := h2 j hj; exact ⟨b, o, h3, g.cell h4⟩⟩
def strB (b : List UInt8) : ByteArray := ⟨b.toArray⟩
theorem strB_list (b : List UInt8) : (strB b).data.toList = b := by simp [strB]
theorem strB_size (b : List UInt8) : (strB b).size = b.length := by rw [size_eq, strB_list]
theorem strB_get (b : List UInt8) (j : Nat) : (strB b).get! j = b.getD j 0 := by rw [← getD_get!', strB_list]
theorem strOf_eq (b : List UInt8) : strOfNums (b.map fun x => (x.toNat : Int)) = strB b := by
 unfold strOfNums strB
 congr 2
 rw [List.map_map]
 conv => rhs; rw [← List.map_id b]
 refine List.map_congr_left fun x _ => ?_
 simp
theorem Bs.conv {w : World} {v : Value} {b : List UInt8} (h : Bs w v b) (src dst : TypeId) (hs : Tryz.prog.underlying src = some (.slice 5)) (hd : Tryz.prog.underlying dst = some .string) : (convert src dst v).run Tryz.prog w = .ok (.string (strB b)) w := by
 obtain ⟨ao, cap, rfl, h3, h4, h5, h2⟩ := h
 cases b with
 | nil =>
  cases ao with
  | none => exact run_convert_bytes_nil w src 5 hs Tryz.underlying5 _ _ dst hd
  | some a =>
   obtain ⟨g, o, sp⟩ := a
   rw [run_convert_bytes_string w src dst 5 _ _ cap hs Tryz.underlying5 hd, run_bytesToString w _ _ cap [] (by exact run_loadCells_list w _ [] (fun j v hj => by simp at hj))]
   rfl
 | cons x t =>
  obtain ⟨g, o, rfl, _⟩ := h2 0 (by simp)
  rw [run_convert_bytes_arg w src 5 hs Tryz.underlying5 g o _ cap ((x :: t).map fun x => (x.toNat : Int)) (by simp) (fun i hi => by
   obtain ⟨g', o', e, hc⟩ := h2 i hi
   cases e
   rw [hc, List.getD, List.getD, List.getElem?_map, List.getElem?_eq_getElem hi]; rfl) dst hd, strOf_eq]
theorem iter_kept {w w' : World} {k : Nat} {s : ByteArray} {p : Nat} {B : Nat} {e : TypeId} {size n : Nat} {v : Value} {xs : List Value} (hk : w.heap[k]? = some (.stringIter s p)) (hr : w.ownsRow B e size v n xs) (hg : w.grownBy w' v.ownBlock) : w'.heap[k]? = some (.stringIter s p) := by
 rw [hg.block k (Array.getElem?_eq_some_iff.1 hk).1 ?_]
 · exact hk
 · intro h
   rcases hr.2 with ⟨rfl, _⟩ | ⟨g, cap, cur, h1, _, h2, _⟩
   · simp [Value.ownBlock] at h
   · subst h1
     simp only [Value.ownBlock, Option.some.injEq] at h
     subst h
     rw [h2] at hk; cases hk
theorem iter_alloc {w : World} {k : Nat} {s : ByteArray} {p : Nat} (hk : w.heap[k]? = some (.stringIter s p)) (o : Obj) : (w.alloc o).heap[k]? = some (.stringIter s p) := (Below.heap_alloc w o k (Array.getElem?_eq_some_iff.1 hk).1).trans hk
theorem row_iterAt {w : World} {k : Nat} {s : ByteArray} {p : Nat} {B : Nat} {e : TypeId} {size n : Nat} {v : Value} {xs : List Value} (hk : w.heap[k]? = some (.stringIter s p)) (hr : w.ownsRow B e size v n xs) (q : Nat) : (w.iterAt k s q).ownsRow B e size v n xs := by
 refine ⟨hr.1, ?_⟩
 rcases hr.2 with h | ⟨g, cap, cur, h1, h2, h3, rest⟩
 · exact .inl h
 · refine .inr ⟨g, cap, cur, h1, h2, (iterAt_other w k g s q ?_).trans h3, rest⟩
   intro e; rw [e, hk] at h3; cases h3
def CodesEnd (b : List UInt8) (w : World) (e : Ending) (w' : World) : Prop :=
 ((codes b = none ∧ e = .returned (.tuple #[.slice none 0 0, .int .i64 6])) ∨ ∃ L v', codes b = some L ∧ e = .returned (.tuple #[v', .int .i64 0]) ∧ w'.ownsRow w.heap.size 134 1 v' L.length (u32s L)) ∧ Gr w w'
theorem Codes_any (v : Value) (b : List UInt8) (w : World) (hu : Ut w) (hv : Bs w v b) (hl : b.length ≤ 100000) : Calls Tryz.prog 67 #[v] w (CodesEnd b w) := by
 obtain ⟨i0, hi, hz0, hz1, hz2⟩ := info_parts info_u32
 have HBs := hid hv
 have HC := fun (W : World) (g : Gr w W) => (hv.gr g).conv 46 9 Tryz.underlying46 Tryz.underlying9
 obtain ⟨ao, cap, rfl, h3, h4, h5, h2⟩ := hv
 have HV := Valid_any ao b.length cap (strB b) w (strB_size b) h3 (by omega) (fun j hj => by rw [strB_size] at hj; obtain ⟨g, o, e, hc⟩ := h2 j hj; exact ⟨g, o, e, by rw [strB_get]; exact hc⟩) hu
 rw [strB_list, valid_codes] at HV
 cases hc : codes b with
 | none =>
  rw [hc] at HV
  have HV := hid HV
  have HN := hid hc
  clear hc HBs HC h2 h3 h4 h5 hu
  go_enter Tryz.func67, Tryz.ntmps67
  go_wp2_with (go_at_call 92; refine HV.out.mono ?_; clear HV; rintro e w1 ⟨rfl, g1⟩)
  go_ret2
  exact ⟨.inl ⟨HN.out, rfl⟩, g1⟩
 | some L =>
  rw [hc] at HV
  have HV := hid HV
  have HN := hid hc
  have HLL := hid (codes_len hc)
  clear hc h2 h3 h4 h5 hu
  obtain ⟨nb, hnb⟩ : ∃ nb, b.length = nb := ⟨_, rfl⟩
  have HNB := hid hnb
  rw [hnb] at HV HC hl ⊢
  clear hnb HBs
  obtain ⟨S, hS⟩ : ∃ S, strB b = S := ⟨_, rfl⟩
  rw [hS] at HC
  have HSz : Hid (S.size = nb) := by show _ = _; rw [← hS, strB_size]; exact HNB.out
  have HSl : Hid (S.data.toList = b) := by show _ = _; rw [← hS, strB_list]
  clear hS
  go_enter Tryz.func67, Tryz.ntmps67
  go_wp2_with fail
  refine HV.out.mono ?_
  rintro e w1 ⟨rfl, g1⟩
  have hconv := HC w1 g1
  clear HV HC
  go_wp2_with fail
  have hn0 : Gr w (w1.iter S 0) := g1.trans (Gr.alloc _ _)
  go_loopg [4] (nb + 1) (fun gk s4 wr => ∃ (O R : List Nat) (pos : Nat), Hid (wr.ownsRow w.heap.size 134 1 s4 O.length (u32s O)) ∧ wr.heap[w1.heap.size]? = some (.stringIter S pos) ∧ Gr w wr ∧ Hid (codes (S.data.toList.drop pos) = some R ∧ O ++ R = L) ∧ pos ≤ nb ∧ nb < gk + pos)
  case atStart => exact ⟨[], L, 0, World.ownsRow_nil _ _ _ _, World.iter_heap _ _ _, hn0, ⟨by rw [List.drop_zero, HSl.out]; exact HN.out, rfl⟩, Nat.zero_le _, by omega⟩
  case round =>
   obtain ⟨O, R, pos, HO, hit, hgr, HR, hpos, hgk⟩ := hrel
   clear hn0
   by_cases hlt : pos < nb
   · obtain ⟨g', rfl⟩ : ∃ g', gk = g' + 1 := ⟨gk - 1, by omega⟩
     have hlt' : pos < S.size := by rw [HSz.out]; exact hlt
     have hnx : ∀ ty, (Instr.next (.pointer (some ⟨w1.heap.size, 0, none⟩)) true ty).run Tryz.prog wr = _ := fun ty => run_next_any_at wr w1.heap.size S pos ty hit hlt'
     have hne : S.data.toList.drop pos ≠ [] := fun e => by have := congrArg List.length e; rw [List.length_drop, ← size_eq] at this; simp at this; omega
     have hst := codes_step _ hne
     rw [HR.out.1] at hst
     have hdd := decodeL_drop S pos
     rw [← hdd] at hnx
     obtain ⟨d, hd⟩ : ∃ d, decodeL (S.data.toList.drop pos) = d := ⟨_, rfl⟩
     rw [hd] at hnx hst
     split at hst
     · cases hst
     · rename_i hbad
       obtain ⟨T, hT, hRT⟩ := Option.map_eq_some_iff.1 hst.symm
       have hok := dec_ok hne (by rw [hd]; exact hbad)
       rw [hd] at hok
       obtain ⟨ho1, ho2, ho3, ho4⟩ := hok
       obtain ⟨x, y⟩ := d
       simp only at hnx hT hRT ho1 ho2 ho3 ho4
       have hxs := isCp_small ho1
       have hx1 : x ≤ 1114111 := by unfold isCp at ho1; omega
       have hwp := wid_pos x
       rw [List.length_drop, ← size_eq, HSz.out] at ho4
       have HT : Hid (codes (S.data.toList.drop (pos + y)) = some T ∧ (O ++ [x]) ++ T = L) := ⟨by rw [← List.drop_drop]; exact hT, by rw [List.append_assoc, List.singleton_append, hRT]; exact HR.out.2⟩
       have HOl : Hid (O.length ≤ 100000) := by
        show _ ≤ _
        have := congrArg List.length HR.out.2
        have h2 := HLL.out
        have h3 := HNB.out
        rw [List.length_append] at this
        omega
       have hit2 := iterAt_heap wr w1.heap.size S pos (pos + y) hit
       have hg2 : Gr w (wr.iterAt w1.heap.size S (pos + y)) := below_iterAt hgr (k := w1.heap.size) g1.size S (pos + y)
       have HO2 := hid (row_iterAt hit HO.out (pos + y))
       obtain ⟨Wa, hWa⟩ : ∃ Wa, wr.iterAt w1.heap.size S (pos + y) = Wa := ⟨_, rfl⟩
       rw [hWa] at hnx hit2 hg2 HO2
       have HY : Hid (pos + y ≤ nb ∧ nb < g' + (pos + y)) := by show _ ∧ _; omega
       clear hbad hst hd hdd hT hRT ho1 ho2 ho3 ho4 hne hit HO HR hWa hlt' hwp hgr
       have hxz : (x : Int) < 4294967296 := by omega
       go_wp2_with (at_builtin; refine wpList_append_own _ rfl _ _ 108 rfl w.heap.size 134 i0 (.int .u32 0) 1 4 Tryz.underlying108 hi hz0 hz1 hz2 rfl (by decide) _ _ _ rfl (HO2.out.alloc _) ⟨Wa.heap.size, 0, none⟩ 1 1 [.int .u32 (x : Int)] rfl rfl (cell_one_new _ _ _) (by simp [Value.oneCell']) (by have := HOl.out; unfold maxLen; omega) (by have := HOl.out; omega) (by have := hg2.size; simp; omega) ?_; intro v' w2 hown' hgrow _; have HO3 := hid (own_conv (K := [x]) hown' rfl rfl rfl); have G3 := gr_added hg2 HO2.out hgrow; have hit3 := iter_kept (iter_alloc hit2 _) (HO2.out.alloc _) hgrow; clear hown' hgrow)
       go_roundg g'
       case measure => omega
       case rel => exact ⟨O ++ [x], T, pos + y, HO3, hit3, G3, HT, HY.out.1, HY.out.2⟩
   · obtain rfl : pos = nb := by omega
     have hnx : ∀ ty, (Instr.next (.pointer (some ⟨w1.heap.size, 0, none⟩)) true ty).run Tryz.prog wr = _ := fun ty => run_next_end_at wr w1.heap.size S pos ty hit (by rw [HSz.out]; omega)
     have hR0 := HR.out
     rw [List.drop_of_length_le (by rw [← size_eq, HSz.out]; exact Nat.le_refl _), codes_nil] at hR0
     obtain ⟨hR1, hR2⟩ := hR0
     obtain rfl := Option.some.inj hR1
     rw [List.append_nil] at hR2
     subst hR2
     clear hR1
     go_wp2_with fail
     go_ret2
     exact ⟨.inr ⟨O, _, HN.out, rfl, HO.out⟩, hgr⟩
theorem Bytes_any (v : Value) (L : List Nat) (w : World) (hv : Sl w v L) (ok : OkL L) (hl : L.length ≤ 1000000) : Calls Tryz.prog 69 #[v] w fun e w' => ∃ v', e = .returned (.tuple #[v', .int .i64 0]) ∧ w'.ownsRow w.heap.size 5 1 v' (bytesL L).length (byteCells (bytesL L)) ∧ Gr w w' := by
 obtain ⟨ao, ca, rfl, _, hA⟩ := hv
 obtain ⟨n, hn⟩ : ∃ n, L.length = n := ⟨_, rfl⟩
 rw [hn] at hA hl ⊢
 have hnb : (n : Int) ≤ 1000000 := by omega
 have HN := hid hn
 have HA := hid hA
 have HOK := hid ok
 clear hn hA ok hl
 go_enter Tryz.func69, Tryz.ntmps69
 go_wp2_with fail
 go_loopw [4, 11] (fun s4 s11 wr => ∃ (k : Nat), k ≤ n ∧ s11 = .int .i64 k ∧ Hid (wr.ownsRow w.heap.size 5 1 s4 (bytesL (L.take k)).length (byteCells (bytesL (L.take k)))) ∧ Gr w wr) (fun _ s _ => n - (intOf s).toNat)
 case atStart => exact ⟨0, Nat.zero_le _, rfl, World.ownsRow_nil _ _ _ _, Gr.refl _⟩
 case round =>
  obtain ⟨k, hk, rfl, HO, hgk⟩ := hrel
  by_cases hlt : k < n
  · have hltz : (k : Int) < n := by omega
    obtain ⟨g, off, rfl, hcell⟩ := HA.out k hlt
    have hcell := hgk.cell hcell
    have hkL : k < L.length := by rw [HN.out]; exact hlt
    have hx : isCp (L.getD k 0) := by
     rw [List.getD, List.getElem?_eq_getElem hkL]; exact HOK.out _ (List.getElem_mem _)
    have htk : L.take (k + 1) = L.take k ++ [L.getD k 0] := by rw [List.take_add_one, List.getD, List.getElem?_eq_getElem hkL]; rfl
    generalize L.getD k 0 = x at hcell hx htk
    have HP := hid (point_ok x hx wr)
    have hlen : (bytesL (L.take k)).length ≤ 4 * k := by
     rw [bytesL_len]
     have h1 : ∀ l : List Nat, widL l ≤ 4 * l.length := by
      intro l
      induction l with
      | nil => exact Nat.le_refl _
      | cons a l ih => rw [widL, List.length_cons]; have := wid_pos a; omega
     have := h1 (L.take k)
     rw [List.length_take] at this
     omega
    have HR := fun u (h : wr.ownsRow w.heap.size 5 1 u (bytesL (L.take k)).length (byteCells (bytesL (L.take k)))) => AppendRune_any w.heap.size u (bytesL (L.take k)) x hx wr h (by omega) hgk.size
    have hb : bytesL (L.take (k + 1)) = bytesL (L.take k) ++ encN x := by rw [htk, bytesL_append]; simp [bytesL]
    rw [← hb] at HR
    have HR := hid HR
    clear hb htk hx hlen
    go_wp2_with (first
     | (go_at_call 95; refine HP.out.mono ?_; clear HP; rintro e w1 ⟨rfl, rfl⟩)
     | (go_at_call 96; refine (HR.out _ HO.out).mono ?_; clear HR; rintro e w2 ⟨v2, rfl, h2, h3⟩; have H2 := hid h2; have G2 := (by obtain ⟨o, h3⟩ := h3; exact gr_added hgk HO.out h3 : Gr w w2); clear h2 h3))
    go_roundw
    case rel => exact ⟨k + 1, hlt, by go_num, H2, G2⟩
    case measure => simp [intOf]; omega
  · have hltz : ¬ (k : Int) < n := by omega
    have HF : Hid (L.take k = L) := List.take_of_length_le (by rw [HN.out]; omega)
    go_wp2_with fail
    go_ret2
    refine ⟨_, rfl, ?_, hgk⟩
    have := HO.out
    rwa [HF.out] at this
def TextEnd (b : List UInt8) (w : World) (e : Ending) (w' : World) : Prop :=
 ((textB b = none ∧ e = .returned (.tuple #[.slice none 0 0, .int .i64 6])) ∨ ∃ c v', textB b = some c ∧ e = .returned (.tuple #[v', .int .i64 0]) ∧ w'.ownsRow w.heap.size 5 1 v' c.length (byteCells c)) ∧ Gr w w'
theorem Text_any (v : Value) (b : List UInt8) (w : World) (ht : Tz w) (hu : Ut w) (hv : Bs w v b) (hl : b.length ≤ 20000) : Calls Tryz.prog 34 #[v] w (TextEnd b w) := by
 have HC := hid (Codes_any v b w hu hv (by omega))
 cases hc : codes b with
 | none =>
  have H0 : Hid (Calls Tryz.prog 67 #[v] w fun e w' => e = .returned (.tuple #[.slice none 0 0, .int .i64 6]) ∧ Gr w w') := HC.out.mono fun e w' h => by
   rcases h with ⟨⟨_, h1⟩ | ⟨L, _, h1, _⟩, h2⟩
   · exact ⟨h1, h2⟩
   · rw [hc] at h1; cases h1
  have HT : Hid (textB b = none) := by show _ = _; unfold textB; rw [hc]; rfl
  clear HC hc hv hl
  go_enter Tryz.func34, Tryz.ntmps34
  go_wp2_with (go_at_call 67; refine H0.out.mono ?_; clear H0; rintro e w1 ⟨rfl, g1⟩)
  go_ret2
  exact ⟨.inl ⟨HT.out, rfl⟩, g1⟩
 | some L =>
  have H0 : Hid (Calls Tryz.prog 67 #[v] w fun e w' => ∃ v', e = .returned (.tuple #[v', .int .i64 0]) ∧ w'.ownsRow w.heap.size 134 1 v' L.length (u32s L) ∧ Gr w w') := HC.out.mono fun e w' h => by
   rcases h with ⟨⟨h1, _⟩ | ⟨L', v', h1, h2, h3⟩, h4⟩
   · rw [hc] at h1; cases h1
   · rw [hc] at h1; obtain rfl := Option.some.inj h1; exact ⟨v', h2, h3, h4⟩
  have hok := (bytes_codes hc).2
  have hlen := codes_len hc
  have H1 := fun W a (t : Tz W) (s : Sl W a L) => NFC_any a L W t s hok.small (by omega)
  have h8 : (nfc L).length ≤ 1000000 := by have := nfc_length L; have := nfd_len L; omega
  have H2 := fun W a (s : Sl W a (nfc L)) => Bytes_any a (nfc L) W s (nfc_ok hok) h8
  have HT : textB b = some (bytesL (nfc L)) := by unfold textB; rw [hc]; rfl
  obtain ⟨M, hM⟩ : ∃ M, nfc L = M := ⟨_, rfl⟩
  rw [hM] at H1 H2 HT
  obtain ⟨c, hcc⟩ : ∃ c, bytesL M = c := ⟨_, rfl⟩
  rw [hcc] at H2 HT
  have H1 := hid H1
  have H2 := hid H2
  have HT := hid HT
  clear HC hc hv hl hok hlen h8 hM hcc
  go_enter Tryz.func34, Tryz.ntmps34
  go_wp2_with (first
   | (go_at_call 67; refine H0.out.mono ?_; clear H0; rintro e w1 ⟨v1, rfl, h1, g1⟩; have S1 := hid (Sl.of_row h1); clear h1)
   | (go_at_call 70; refine (H1.out w1 v1 (ht.gr g1) S1.out).mono ?_; clear H1; rintro e w2 ⟨v2, rfl, h2, g2⟩; have S2 := hid (Sl.of_row h2); clear h2)
   | (go_at_call 69; refine (H2.out w2 v2 S2.out).mono ?_; clear H2; rintro e w3 ⟨v3, rfl, h3, g3⟩; have R3 := hid h3; clear h3))
  go_ret2
  exact ⟨.inr ⟨c, _, HT.out, rfl, R3.out.mono' (g1.trans g2).size⟩, (g1.trans g2).trans g3⟩
end Go.Proofs.YthlflglkdaainaaGreatDoor
namespace Go.Proofs.YthlflglkdaainaaGreatDoor
open Go.RowKit Go.Shelf
attribute [local go_sem] Oper.semAt_some
end Go.Proofs.YthlflglkdaainaaGreatDoor
namespace Go.Proofs.YthlflglkdaainaaGreatDoor
open Go.RowKit Go.Lib
end Go.Proofs.YthlflglkdaainaaGreatDoor
namespace Go.Proofs.YthlflglkdaainaaGreatDoor
open Go.ChangeShapes Go.WideShapes Go.ChangeAt Go.RowKit Go.Lib Go.Shelf
abbrev laid5 : List (String × DataW Unit) := [("math/bits.deBruijn32tab", Rows.laid_math_bits_deBruijn32tab), ("math/bits.deBruijn64tab", Rows.laid_math_bits_deBruijn64tab), ("internal/strconv.uint64pow10", Rows.laid_internal_strconv_uint64pow10), ("unicode/utf8.acceptRanges", Rows.laid_unicode_utf8_acceptRanges), ("unicode/utf8.first", Rows.laid_unicode_utf8_first)]
def ren5 : Ren := { f := id, t := fun n => if n = 5 then 5 else if n = 119 then 161 else if n = 138 then 163 else if n = 139 then 164 else n, g := fun n => if n = 3 then 0 else if n = 4 then 1 else n }
theorem types5 : U8Types Tryz.prog ren5 := ⟨by kernel_rfl, by kernel_rfl, by kernel_rfl, by kernel_rfl⟩
theorem extra5 : U8Extra Tryz.prog ren5 := ⟨by kernel_rfl, by kernel_rfl, by kernel_rfl, by kernel_rfl, by kernel_rfl, by kernel_rfl, by kernel_rfl⟩
theorem accept_eq : (Rows.laid_unicode_utf8_acceptRanges : DataW Unit) = acceptData := by kernel_rfl
theorem of_laid5 {W : World} (h : laidMetH Tryz.prog laid5 W) : Tz W ∧ Ut W := by
 rw [MakeChecks.laidMetH_plain _ _ _ (by kernel_rfl)] at h
 constructor
 · have h1 := h.tail
   have ht : Lib.TabIs Tryz.prog W "math/bits.deBruijn64tab" .u8 [0, 1, 56, 2, 57, 49, 28, 3, 61, 58, 42, 50, 38, 29, 17, 4, 62, 47, 59, 36, 45, 43, 51, 22, 53, 39, 33, 30, 24, 18, 12, 5, 63, 55, 48, 27, 60, 41, 37, 16, 46, 35, 44, 21, 52, 32, 23, 11, 54, 26, 40, 15, 34, 20, 31, 10, 25, 14, 19, 9, 13, 8, 7, 6] :=
    Lib.tabIs_of_head g64 ty64 Tryz.underlying237 Tryz.underlying5 (by kernel_rfl) (by kernel_rfl) h1
   exact ht.cell g64 15 (by decide)
 · have h3 : VarReads Tryz.prog W "unicode/utf8.first" firstData := Pinned.utf8First_eq ▸ Lib.laidMet.reads h (by simp [Rows.laid_unicode_utf8_first])
   have h4 : VarReads Tryz.prog W "unicode/utf8.acceptRanges" acceptData := accept_eq ▸ Lib.laidMet.reads h (by simp)
   exact utf8Tabs_of_readsT types5 extra5 h3 h4
theorem met5 (os : Os) (args : Array Value) : laidMetH Tryz.prog laid5 ((World.laidAll Tryz.prog os laid5).forCall (fun _ _ => 0) ⟨#[], args, []⟩).memory := by
 rw [MakeChecks.laidMetH_plain _ _ _ (by kernel_rfl)]
 exact laidMet_laidAll _ (by kernel_rfl) (by kernel_rfl)
end Go.Proofs.YthlflglkdaainaaGreatDoor
namespace Go.Proofs.YthlflglkdaainaaGreatDoor
open Go.RowKit Go.Lib
end Go.Proofs.YthlflglkdaainaaGreatDoor
