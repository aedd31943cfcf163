import Derived.BigQuiet
import Derived.Deep.DeepCutAuto
import Derived.Lib.ValidAsc
import Derived.Lib.RuneBytes
import Derived.Laws.AppendOwn
import Derived.Maps.AppendAt
import Derived.Lib.OthersKept
import Derived.Laws.BytesArg
import Derived.RangeFuncCalls
import Derived.Lay
import Derived.PinnedBridge
import Derived.LaidOnce
import Derived.Lib.LaidU8T
import Derived.Test.YthlflglkdaainaaGreatDoorGC
import Derived.Test.YthlflglkdaainaaGreatDoorGD
import Derived.Test.YthlflglkdaainaaGreatDoorGL
import Derived.Test.YthlflglkdaainaaGreatDoorGR
import Derived.Test.YthlflglkdaainaaGreatDoorGV
/- Texts of this seat: KN. -/
set_option maxRecDepth 100000
set_option maxHeartbeats 16000000
namespace Go.Proofs.YthlflglkdaainaaGreatDoor
open Go.RowKit
noncomputable def qkB (p : Nat) (l : List Nat) : Bool := dU cls p l && l.all (fun c => Nat.beq (quick c) 0)
theorem adp (p : Nat) : qkB p [] = true := rfl
theorem Zh {p c : Nat} {t : List Nat} (h : ¬ (cls c ≠ 0 ∧ cls c < p)) (hq : quick c = 0) : qkB p (c :: t) = qkB (cls c) t := by
 unfold qkB
 rw [QT h, List.all_cons, hq]; rfl
theorem aiG {p c : Nat} {t : List Nat} (h : cls c ≠ 0 ∧ cls c < p) : qkB p (c :: t) = false := by unfold qkB; rw [Ot h]; rfl
theorem afq {p c : Nat} {t : List Nat} (h : quick c ≠ 0) : qkB p (c :: t) = false := by
 unfold qkB
 rw [List.all_cons, show Nat.beq (quick c) 0 = false by rw [← Bool.not_eq_true, Nat.beq_eq]; exact h]; simp
theorem adq {l : List Nat} (h : qkB 0 l = true) : nfc l = l := by
 unfold qkB at h
 rw [Bool.and_eq_true, List.all_eq_true] at h
 exact WO l h.1 fun c hc => by have := h.2 c hc; rwa [Nat.beq_eq] at this
theorem QU (v : Value) (L : List Nat) (w : World) (ht : Tz w) (hv : Sl w v L) (hb : ∀ x ∈ L, x < 4294967296) (hl : L.length ≤ 1000000) : Calls Tryz.prog 97 #[v] w fun e w' => e = .returned (.bool (qkB 0 L)) ∧ Gr w w' := by
 obtain ⟨ao, ca, rfl, _, hA⟩ := hv
 obtain ⟨n, hn⟩ : ∃ n, L.length = n := ⟨_, rfl⟩
 rw [hn] at hA ⊢
 have hnb : (n : Int) ≤ 1000000 := by omega
 have HN := hid hn
 have HA := hid hA
 have HB := hid hb
 obtain ⟨r, hr⟩ : ∃ r, qkB 0 L = r := ⟨_, rfl⟩
 rw [hr]
 have HR := hid hr
 clear hn hA hb hl hr
 go_enter Tryz.func97, Tryz.ntmps97
 go_wp2_with fail
 go_loopw [3, 9] (fun s3 s9 wr => ∃ k last : Nat, k ≤ n ∧ s9 = .int .i64 k ∧ s3 = .int .i64 last ∧ Hid (qkB last (L.drop k) = r) ∧ Gr w wr) (fun _ s9 _ => n - (intOf s9).toNat)
 case atStart => exact ⟨0, 0, Nat.zero_le _, rfl, rfl, HR, Gr.refl _⟩
 case round =>
  obtain ⟨k, last, hk, rfl, rfl, HE, hgk⟩ := hrel
  clear HR
  by_cases hlt : k < n
  · have hltz : (k : Int) < n := by omega
    obtain ⟨g, off, rfl, hcell⟩ := HA.out k hlt
    have hcell := hgk.cell hcell
    have hkL : k < L.length := by rw [HN.out]; exact hlt
    have hx : L.getD k 0 < 4294967296 := by
     rw [List.getD, List.getElem?_eq_getElem hkL]; exact HB.out _ (List.getElem_mem _)
    have HC := xu (L.getD k 0) hx wr (ht.gr hgk)
    have HQ := fun W (k' : Gr w W) => WQ (L.getD k 0) hx W (ht.gr k')
    have hE := HE.out
    rw [drop_cons hkL] at hE
    have HE := hid hE
    clear hx hE
    generalize L.getD k 0 = x at hcell HC HQ HE
    obtain ⟨p, hp⟩ : ∃ p, cls x = p := ⟨_, rfl⟩
    obtain ⟨q, hq⟩ : ∃ q, quick x = q := ⟨_, rfl⟩
    rw [hp] at HC
    rw [hq] at HQ
    have HC := hid HC
    have HP := hid hp
    have HQ0 := hid hq
    clear hp hq
    by_cases hp0 : p = 0
    · have y1 : (p : Int) = 0 := by omega
      have y2 : ((p : Int) != 0) = false := by rw [y1]; rfl
      by_cases hq0 : q = 0
      · have z1 : (q : Int) = 0 := by omega
        rw [z1] at HQ
        have HE2 : Hid (qkB p (L.drop (k + 1)) = r) := by show _ = _; rw [← HE.out, Zh (by rw [HP.out]; omega) (by rw [HQ0.out]; exact hq0), HP.out]
        have HQ := hid HQ
        clear hq0 z1
        go_wp2_with (first
         | (go_at_call 129; refine HC.out.mono ?_; clear HC; rintro e w1 ⟨rfl, g1⟩; have G1 := hgk.trans g1)
         | (go_at_call 130; refine (HQ.out w1 G1).mono ?_; rintro e w2 ⟨rfl, g2⟩; have G2 := G1.trans g2))
        go_roundw
        case rel => exact ⟨k + 1, p, hlt, by go_num, (by first | rfl | rw [y1]), HE2, G2⟩
        case measure => simp [intOf]; omega
      · obtain ⟨z1, z2⟩ : ¬ (q : Int) = 0 ∧ ((q : Int) != 0) = true := by
          have : ¬ (q : Int) = 0 := by omega
          exact ⟨this, by rw [bne_iff_ne]; exact this⟩
        have HR : Hid (r = false) := by show _ = _; rw [← HE.out, afq (by rw [HQ0.out]; exact hq0)]
        have HQ := hid HQ
        clear hq0
        go_wp2_with (first
         | (go_at_call 129; refine HC.out.mono ?_; clear HC; rintro e w1 ⟨rfl, g1⟩; have G1 := hgk.trans g1)
         | (go_at_call 130; refine (HQ.out w1 G1).mono ?_; rintro e w2 ⟨rfl, g2⟩; have G2 := G1.trans g2))
        go_ret
        rw [HR.out]
        exact ⟨rfl, G2⟩
    · have y1 : ¬ (p : Int) = 0 := by omega
      have y2 : ((p : Int) != 0) = true := by rw [bne_iff_ne]; exact y1
      by_cases hpl : p < last
      · have y3 : (p : Int) < last := by omega
        have y4 : decide ((p : Int) < last) = true := decide_eq_true y3
        have HRF : Hid (r = false) := by show _ = _; rw [← HE.out, aiG (by rw [HP.out]; exact ⟨hp0, hpl⟩)]
        clear hp0 hpl HQ
        go_wp2_with (go_at_call 129; refine HC.out.mono ?_; clear HC; rintro e w1 ⟨rfl, g1⟩; have G1 := hgk.trans g1)
        go_ret
        rw [HRF.out]
        exact ⟨rfl, G1⟩
      · have y3 : ¬ (p : Int) < last := by omega
        have y4 : decide ((p : Int) < last) = false := decide_eq_false y3
        by_cases hq0 : q = 0
        · have z1 : (q : Int) = 0 := by omega
          rw [z1] at HQ
          have HE2 : Hid (qkB p (L.drop (k + 1)) = r) := by show _ = _; rw [← HE.out, Zh (by rw [HP.out]; omega) (by rw [HQ0.out]; exact hq0), HP.out]
          have HQ := hid HQ
          clear hq0 z1
          go_wp2_with (first
           | (go_at_call 129; refine HC.out.mono ?_; clear HC; rintro e w1 ⟨rfl, g1⟩; have G1 := hgk.trans g1)
           | (go_at_call 130; refine (HQ.out w1 G1).mono ?_; rintro e w2 ⟨rfl, g2⟩; have G2 := G1.trans g2))
          go_roundw
          case rel => exact ⟨k + 1, p, hlt, by go_num, (by first | rfl | rw [y1]), HE2, G2⟩
          case measure => simp [intOf]; omega
        · obtain ⟨z1, z2⟩ : ¬ (q : Int) = 0 ∧ ((q : Int) != 0) = true := by
            have : ¬ (q : Int) = 0 := by omega
            exact ⟨this, by rw [bne_iff_ne]; exact this⟩
          have HR : Hid (r = false) := by show _ = _; rw [← HE.out, afq (by rw [HQ0.out]; exact hq0)]
          have HQ := hid HQ
          clear hq0
          go_wp2_with (first
           | (go_at_call 129; refine HC.out.mono ?_; clear HC; rintro e w1 ⟨rfl, g1⟩; have G1 := hgk.trans g1)
           | (go_at_call 130; refine (HQ.out w1 G1).mono ?_; rintro e w2 ⟨rfl, g2⟩; have G2 := G1.trans g2))
          go_ret
          rw [HR.out]
          exact ⟨rfl, G2⟩
  · have hltz : ¬ (k : Int) < n := by omega
    have HRT : Hid (r = true) := by show _ = _; rw [← HE.out, List.drop_of_length_le (by rw [HN.out]; omega), adp]
    go_wp2_with fail
    go_ret
    rw [HRT.out]
    exact ⟨rfl, hgk⟩
theorem QV (v : Value) (L : List Nat) (w : World) (ht : Tz w) (hv : Sl w v L) (hb : ∀ x ∈ L, x < 4294967296) (hl : L.length ≤ 20000) (g : Nat) (hc0 : w.cell? ⟨g, 0, none⟩ = some (.func (.func 100) #[] #[])) (hc1 : w.cell? ⟨g, 1, none⟩ = some (.func (.func 101) #[] #[])) (hc2 : w.cell? ⟨g, 2, none⟩ = some (.func (.func 102) #[] #[])) :
    Calls Tryz.prog 99 #[v, .slice (some ⟨g, 0, none⟩) 3 3] w (RowOf (nfc L) w) := by
 obtain ⟨A, D, C, E, nf⟩ := NF.of hb
 have lA := nf.lA
 have lD := nf.lD
 have HL := fun W v (t : Tz W) (s : Sl W v L) => Ze v L W t s hb (by omega)
 have HO := fun W v (t : Tz W) (s : Sl W v A) => WR v A W t s nf.sA (by omega)
 have HC := fun W v (t : Tz W) (s : Sl W v D) => Ou v D W t s nf.sD (by omega)
 rw [nf.full] at HL
 rw [nf.ord] at HO
 rw [nf.comp] at HC
 have hD : nfd L = D := by unfold nfd; rw [nf.full, nf.ord]
 have hC : nfc L = C := by unfold nfc; rw [hD, nf.comp]
 rw [hC]
 have HL := hid HL
 have HO := hid HO
 have HC := hid HC
 have HV := hid hv
 clear nf lA lD hD hC hb hl hv
 go_enter Tryz.func99, Tryz.ntmps99
 go_wp2_with fail
 go_loopw [0, 9] (fun s0 s9 wr => (s9 = .int .i64 0 ∧ s0 = v ∧ wr = w) ∨ (s9 = .int .i64 1 ∧ Hid (wr.ownsRow w.heap.size 134 1 s0 A.length (bZ A)) ∧ Gr w wr) ∨ (s9 = .int .i64 2 ∧ Hid (wr.ownsRow w.heap.size 134 1 s0 D.length (bZ D)) ∧ Gr w wr) ∨ (s9 = .int .i64 3 ∧ Hid (wr.ownsRow w.heap.size 134 1 s0 C.length (bZ C)) ∧ Gr w wr)) (fun _ s9 _ => 4 - (intOf s9).toNat)
 case atStart => exact .inl ⟨rfl, rfl, rfl⟩
 case round =>
  rcases hrel with ⟨rfl, rfl, rfl⟩ | ⟨rfl, HR, hg⟩ | ⟨rfl, HR, hg⟩ | ⟨rfl, HR, hg⟩
  · go_wp2_with (go_at_call 100; refine (HL.out _ _ ht HV.out).mono ?_; rintro e w1 ⟨v1, rfl, hv1, g1⟩; have HV1 := hid hv1; clear hv1)
    go_roundw
    case rel => exact .inr (.inl ⟨rfl, HV1, g1⟩)
    case measure => simp [intOf]
  · have hd1 := hg.cell hc1
    go_wp2_with (go_at_call 101; refine (HO.out wr _ (ht.gr hg) (Sl.jB HR.out)).mono ?_; rintro e w1 ⟨v1, rfl, hv1, g1⟩; have HV1 := hid hv1; clear hv1)
    go_roundw
    case rel => exact .inr (.inr (.inl ⟨rfl, hid (HV1.out.mono' hg.size), hg.trans g1⟩))
    case measure => simp [intOf]
  · have hd2 := hg.cell hc2
    go_wp2_with (go_at_call 102; refine (HC.out wr _ (ht.gr hg) (Sl.jB HR.out)).mono ?_; rintro e w1 ⟨v1, rfl, hv1, g1⟩; have HV1 := hid hv1; clear hv1)
    go_roundw
    case rel => exact .inr (.inr (.inr (⟨rfl, hid (HV1.out.mono' hg.size), hg.trans g1⟩)))
    case measure => simp [intOf]
  · go_wp2_with fail
    go_ret
    exact ⟨_, rfl, HR.out, hg⟩
theorem WS (v : Value) (L : List Nat) (w : World) (hv : Sl w v L) (hl : L.length ≤ 1000000) : Calls Tryz.prog 98 #[v] w (RowOf L w) := by
 have S0 := hid hv
 obtain ⟨ao, ca, rfl, h0, hA⟩ := hv
 cases ao with
 | none =>
  have hL : L = [] := List.eq_nil_of_length_eq_zero (by
   rcases Nat.eq_zero_or_pos L.length with h | h
   · exact h
   · obtain ⟨g, o, e, _⟩ := hA 0 h; cases e)
  subst hL
  have hc := h0 rfl
  subst hc
  clear S0 hA h0 hl
  have hq : ∀ W, Sem.run Tryz.prog (binOp BinOp.eql 108 (.slice none 0 0) (.slice none 0 0)) W = .ok (.bool true) W := fun W => Ae none 0 0 W
  go_enter Tryz.func98, Tryz.ntmps98
  go_wp2
  go_ret
  exact ⟨_, rfl, World.ownsRow_nil _ _ _ _, Gr.refl _⟩
 | some a =>
  clear hA h0
  have hq : ∀ W, Sem.run Tryz.prog (binOp BinOp.eql 108 (.slice (some a) L.length ca) (.slice none 0 0)) W = .ok (.bool false) W := fun W => Ae (some a) _ _ W
  go_enter Tryz.func98, Tryz.ntmps98
  go_wp2_with (at_builtin; refine pW rfl _ _ rfl L rfl _ rfl S0.out hl ?_; intro vi wi hvi gi; have HVI := hid hvi; clear hvi)
  go_ret
  exact ⟨vi, rfl, HVI.out, gi⟩
theorem adr (v : Value) (L : List Nat) (w : World) (ht : Tz w) (hv : Sl w v L) (hb : ∀ x ∈ L, x < 4294967296) (hl : L.length ≤ 20000) : Calls Tryz.prog 70 #[v] w (RowOf (nfc L) w) := by
 have HQ := QU v L w ht hv hb (by omega)
 obtain ⟨r, hr⟩ : ∃ r, qkB 0 L = r := ⟨_, rfl⟩
 rw [hr] at HQ
 cases r with
 | true =>
  have HC := hid (fun W (g : Gr w W) => WS v L W (hv.gr g) (by omega))
  rw [adq hr]
  have HQ := hid HQ
  clear hv hb hl hr
  go_enter Tryz.func70, Tryz.ntmps70
  go_wp2_with (first
   | (go_at_call 97; refine HQ.out.mono ?_; clear HQ; rintro e w1 ⟨rfl, g1⟩)
   | (go_at_call 98; refine (HC.out w1 g1).mono ?_; clear HC; rintro e w2 ⟨v2, rfl, hv2, g2⟩; have HV2 := hid hv2; clear hv2))
  go_ret
  exact ⟨_, rfl, HV2.out.mono' g1.size, g1.trans g2⟩
 | false =>
  have H := hid (fun W (k : Gr w W) => QV v L (W.alloc (.cells #[.func (.func 100) #[] #[], .func (.func 101) #[] #[], .func (.func 102) #[] #[]] 113)) ((ht.gr k).gr (Gr.alloc _ _)) ((hv.gr k).gr (Gr.alloc _ _)) hb hl W.heap.size (by simp [World.cell?_alloc_new]) (by simp [World.cell?_alloc_new]) (by simp [World.cell?_alloc_new]))
  have HQ := hid HQ
  clear hv hb hl hr
  go_enter Tryz.func70, Tryz.ntmps70
  go_wp2_with (first
   | (go_at_call 97; refine HQ.out.mono ?_; clear HQ; rintro e w1 ⟨rfl, g1⟩)
   | (go_at_call 99; refine (H.out w1 g1).mono ?_; clear H; rintro e w2 ⟨v2, rfl, hv2, g2⟩; have HV2 := hid hv2; clear hv2))
  go_ret
  exact ⟨_, rfl, HV2.out.mono' (g1.trans (Gr.alloc w1 _)).size, (g1.trans (Gr.alloc _ _)).trans g2⟩
theorem MC (L : List Nat) : (nfd L).length ≤ 4 * L.length := by
 unfold nfd; rw [qO]; exact (pG L).2
theorem Zi (v : Value) (L : List Nat) (w : World) (hv : Sl w v L) (hb : ∀ x ∈ L, x < 4294967296) (hl : L.length ≤ 20000) : Calls Tryz.prog 140 #[v] w (RowOf (nfd L) w) := by
 have lA := (pG L).2
 have HL := hid (WL v L w hv hb (by omega))
 have HO := fun W a (s : Sl W a (bT L)) => QW a (bT L) W s (fun x hx => (qN hb x hx).2) (by omega)
 obtain ⟨D, hD⟩ : ∃ D, nfd L = D := ⟨_, rfl⟩
 rw [show fO (bT L) = D from hD] at HO
 rw [hD]
 have HO := hid HO
 clear hv hb hl lA hD
 go_enter Tryz.func140, Tryz.ntmps140
 go_wp2_with (first
  | (go_at_call 175; refine HL.out.mono ?_; clear HL; rintro e w1 ⟨v1, rfl, hv1, g1⟩; have HV1 := hid (Sl.jB hv1); clear hv1)
  | (go_at_call 174; refine (HO.out w1 v1 HV1.out).mono ?_; clear HO; rintro e w2 ⟨v2, rfl, hv2, g2⟩; have HV2 := hid hv2; clear hv2))
 go_ret
 exact ⟨_, rfl, HV2.out.mono' g1.size, g1.trans g2⟩
theorem Zd (v : Value) (L : List Nat) (w : World) (hv : Sl w v L) (hb : ∀ x ∈ L, x < 4294967296) (hl : L.length ≤ 20000) : Calls Tryz.prog 105 #[v] w (RowOf (nfc L) w) := by
 have lA := MC L
 have HL := hid (Zi v L w hv hb hl)
 have HC := fun W a (s : Sl W a (nfd L)) => MH a (nfd L) W s (fun x hx => (qN hb x (su.1 hx)).2) (by omega)
 obtain ⟨D, hD⟩ : ∃ D, nfc L = D := ⟨_, rfl⟩
 rw [show comp (nfd L) = D from hD] at HC
 rw [hD]
 have HC := hid HC
 clear hv hb hl lA hD
 go_enter Tryz.func105, Tryz.ntmps105
 go_wp2_with (first
  | (go_at_call 140; refine HL.out.mono ?_; clear HL; rintro e w1 ⟨v1, rfl, hv1, g1⟩; have HV1 := hid (Sl.jB hv1); clear hv1)
  | (go_at_call 139; refine (HC.out w1 v1 HV1.out).mono ?_; clear HC; rintro e w2 ⟨v2, rfl, hv2, g2⟩; have HV2 := hid hv2; clear hv2))
 go_ret
 exact ⟨_, rfl, HV2.out.mono' g1.size, g1.trans g2⟩
open Go.RowKit Go.Shelf
attribute [local go_sem] Oper.semAt_some
open Go.Lib
def fB (c : Nat) : Prop := c < 55296 ∨ (57343 < c ∧ c ≤ 1114111)
instance : DecidablePred fB := fun c => by unfold fB; infer_instance
def wid (c : Nat) : Nat := if c < 128 then 1 else if c < 2048 then 2 else if c < 65536 then 3 else 4
def jM (c : Nat) : List UInt8 :=
 if c < 128 then [UInt8.ofNat c]
 else if c < 2048 then [UInt8.ofNat (192 + c / 64), UInt8.ofNat (128 + c % 64)]
 else if c < 65536 then [UInt8.ofNat (224 + c / 4096), UInt8.ofNat (128 + c / 64 % 64), UInt8.ofNat (128 + c % 64)]
 else [UInt8.ofNat (240 + c / 262144), UInt8.ofNat (128 + c / 4096 % 64), UInt8.ofNat (128 + c / 64 % 64), UInt8.ofNat (128 + c % 64)]
theorem nY (c : Nat) : (jM c).length = wid c := by unfold jM wid; repeat' split
                                                   all_goals rfl
theorem nO (c : Nat) : 1 ≤ wid c ∧ wid c ≤ 4 := by unfold wid; repeat' split
                                                   all_goals omega
theorem dS (n : Nat) (h : n < 256) : (UInt8.ofNat n).toNat = n := by simp [UInt8.toNat_ofNat']; omega
theorem Jg {c : Nat} (h : fB c) : jM c = encodeRune (c : Int) := by
 unfold fB at h
 have tb : ∀ (z : Int) (n : Nat), z = (n : Int) → n < 256 → z.toNat.toUInt8 = UInt8.ofNat n := fun z n e _ => by subst e; rfl
 unfold jM encodeRune
 split
 · rw [encodeRuneZ_one (by omega) (by omega)]
   simp only [List.map_cons, List.map_nil]; rw [tb _ c rfl (by omega)]
 · split
   · rw [encodeRuneZ_two (by omega) (by omega)]
     simp only [List.map_cons, List.map_nil]
     rw [tb (192 + (c : Int) / 64) (192 + c / 64) (by omega) (by omega), tb (128 + (c : Int) % 64) (128 + c % 64) (by omega) (by omega)]
   · split
     · rw [encodeRuneZ_three (by omega)]
       simp only [List.map_cons, List.map_nil]
       rw [tb (224 + (c : Int) / 4096) (224 + c / 4096) (by omega) (by omega), tb (128 + (c : Int) / 64 % 64) (128 + c / 64 % 64) (by omega) (by omega), tb (128 + (c : Int) % 64) (128 + c % 64) (by omega) (by omega)]
     · rw [encodeRuneZ_four (by omega) (by omega)]
       simp only [List.map_cons, List.map_nil]
       rw [tb (240 + (c : Int) / 262144) (240 + c / 262144) (by omega) (by omega), tb (128 + (c : Int) / 4096 % 64) (128 + c / 4096 % 64) (by omega) (by omega), tb (128 + (c : Int) / 64 % 64) (128 + c / 64 % 64) (by omega) (by omega), tb (128 + (c : Int) % 64) (128 + c % 64) (by omega) (by omega)]
theorem Vf {c : Nat} (h : fB c) (t : List UInt8) : decodeL (jM c ++ t) = (c, wid c) := by
 unfold fB at h
 rw [decodeL_N]
 unfold jM wid
 split
 · rename_i h1
   simp only [List.cons_append, List.nil_append, List.getD_cons_zero]
   rw [dS _ (by omega)]
   unfold decodeN
   rw [if_pos h1]
 · split
   · rename_i h0 h1
     simp only [List.cons_append, List.nil_append, List.getD_cons_zero, List.getD_cons_succ, List.length_cons]
     rw [dS _ (by omega), dS _ (by omega)]
     unfold decodeN
     rw [if_neg (by omega), if_pos (by omega), if_pos (by omega)]
     congr 1; omega
   · split
     · rename_i h00 h0 h1
       simp only [List.cons_append, List.nil_append, List.getD_cons_zero, List.getD_cons_succ, List.length_cons]
       rw [dS _ (by omega), dS _ (by omega), dS _ (by omega)]
       unfold decodeN
       rw [if_neg (by omega), if_neg (by omega), if_pos (by omega), if_pos (by omega)]
       congr 1; omega
     · rename_i h000 h00 h0
       simp only [List.cons_append, List.nil_append, List.getD_cons_zero, List.getD_cons_succ, List.length_cons]
       rw [dS _ (by omega), dS _ (by omega), dS _ (by omega), dS _ (by omega)]
       unfold decodeN
       rw [if_neg (by omega), if_neg (by omega), if_neg (by omega), if_pos (by omega), if_pos (by omega)]
       congr 1; omega
theorem yF {l : List UInt8} (hne : l ≠ []) (hv : ¬ ((decodeL l).1 = 65533 ∧ (decodeL l).2 = 1)) : fB (decodeL l).1 ∧ jM (decodeL l).1 = l.take (decodeL l).2 ∧ (decodeL l).2 = wid (decodeL l).1 ∧ (decodeL l).2 ≤ l.length := by
 have hle := decodeL_le l hne
 have hed := encode_decode l hne hv
 have ho : fB (decodeL l).1 := by
  rw [decodeL_N] at hv ⊢
  have k0 := (l.getD 0 0).toNat_lt
  unfold fB
  rcases decodeN_shape l.length (l.getD 0 0).toNat (l.getD 1 0).toNat (l.getD 2 0).toNat (l.getD 3 0).toNat with ⟨c, e⟩ | ⟨c1, c2, c3, cv, e⟩ | ⟨c1, c2, c3, c4, cv, cs, e⟩ | ⟨c1, c2, c3, c4, c5, cv, cw, e⟩ | e
  · rw [e]; dsimp only; omega
  · rw [e]; dsimp only; omega
  · rw [e]; dsimp only; omega
  · rw [e]; dsimp only; omega
  · rw [e] at hv; exact absurd ⟨rfl, rfl⟩ hv
 rw [← Jg ho] at hed
 refine ⟨ho, hed, ?_, hle⟩
 have := congrArg List.length hed
 rw [nY, List.length_take, Nat.min_eq_left hle] at this
 exact this.symm
def yI : Nat → List UInt8 → Option (List Nat)
 | 0, _ => some []
 | n + 1, l => if l = [] then some [] else if (decodeL l).1 = 65533 ∧ (decodeL l).2 = 1 then none else (yI n (l.drop (decodeL l).2)).map ((decodeL l).1 :: ·)
def codes (l : List UInt8) : Option (List Nat) := yI l.length l
theorem wW : codes [] = some [] := rfl
theorem uD : ∀ n, yI n [] = some []
 | 0 => rfl
 | _ + 1 => by simp [yI]
theorem Dj : ∀ (n m : Nat) (l : List UInt8), l.length ≤ n → l.length ≤ m → yI n l = yI m l
 | 0, m, l, hn, _ => by
  have : l = [] := List.eq_nil_of_length_eq_zero (by omega)
  subst this; rw [uD, uD]
 | n + 1, 0, l, _, hm => by
  have : l = [] := List.eq_nil_of_length_eq_zero (by omega)
  subst this; rw [uD, uD]
 | n + 1, m + 1, l, hn, hm => by
  unfold yI
  by_cases hne : l = []
  · simp [hne]
  · have hw := decodeL_width l
    have hl : 0 < l.length := List.length_pos_iff.2 hne
    rw [if_neg hne, if_neg hne, Dj n m (l.drop (decodeL l).2) (by rw [List.length_drop]; omega) (by rw [List.length_drop]; omega)]
theorem pV (l : List UInt8) (hne : l ≠ []) : codes l = if (decodeL l).1 = 65533 ∧ (decodeL l).2 = 1 then none else (codes (l.drop (decodeL l).2)).map ((decodeL l).1 :: ·) := by
 have hl : 0 < l.length := List.length_pos_iff.2 hne
 have hw := decodeL_width l
 obtain ⟨n, hn⟩ : ∃ n, l.length = n + 1 := ⟨l.length - 1, by omega⟩
 unfold codes
 rw [hn]
 show (if l = [] then some [] else _) = _
 rw [if_neg hne, Dj n (l.drop (decodeL l).2).length _ (by rw [List.length_drop]; omega) (Nat.le_refl _)]
theorem Dk : ∀ (n : Nat) (l : List UInt8), l.length ≤ n → validD l = (codes l).isSome
 | 0, l, h => by
  have : l = [] := List.eq_nil_of_length_eq_zero (by omega)
  subst this; rfl
 | n + 1, l, h => by
  by_cases hne : l = []
  · subst hne; rfl
  · have hw := decodeL_width l
    have hl : 0 < l.length := List.length_pos_iff.2 hne
    rw [validD_step l hne, pV l hne]
    split
    · rfl
    · rw [Dk n _ (by rw [List.length_drop]; omega), Option.isSome_map]
theorem Ov (l : List UInt8) : validD l = (codes l).isSome := Dk _ l (Nat.le_refl _)
def bP (l : List Nat) : List UInt8 := l.flatMap jM
theorem lZ (c : Nat) (l : List Nat) : bP (c :: l) = jM c ++ bP l := by unfold bP; rw [List.flatMap_cons]
theorem yj (a b : List Nat) : bP (a ++ b) = bP a ++ bP b := by unfold bP; rw [List.flatMap_append]
def OkL (l : List Nat) : Prop := ∀ c ∈ l, fB c
theorem Dn : ∀ (l : List Nat), OkL l → codes (bP l) = some l
 | [], _ => rfl
 | c :: l, h => by
  have hc := h c (by simp)
  have hne : bP (c :: l) ≠ [] := fun e => by
   have := congrArg List.length e
   rw [lZ, List.length_append, nY] at this
   have := nO c
   simp at *; omega
  rw [pV _ hne]
  rw [lZ, Vf hc]
  have hn : ¬ (c = 65533 ∧ wid c = 1) := by rintro ⟨rfl, h2⟩; revert h2; decide
  rw [if_neg hn]
  dsimp only
  rw [show (jM c ++ bP l).drop (wid c) = bP l by rw [← nY, List.drop_left], Dn l fun x hx => h x (List.mem_cons_of_mem _ hx)]
  rfl
theorem Af : ∀ (n : Nat) (b : List UInt8) (l : List Nat), b.length ≤ n → codes b = some l → bP l = b ∧ OkL l
 | 0, b, l, hb, h => by
  have : b = [] := List.eq_nil_of_length_eq_zero (by omega)
  subst this
  rw [wW] at h
  obtain rfl := Option.some.inj h
  exact ⟨rfl, fun c hc => by cases hc⟩
 | n + 1, b, l, hb, h => by
  by_cases hne : b = []
  · subst hne
    rw [wW] at h
    obtain rfl := Option.some.inj h
    exact ⟨rfl, fun c hc => by cases hc⟩
  · have hw := decodeL_width b
    have hl : 0 < b.length := List.length_pos_iff.2 hne
    rw [pV b hne] at h
    split at h
    · cases h
    · rename_i hv
      obtain ⟨k1, k2, k3, k4⟩ := yF hne hv
      obtain ⟨t, ht, rfl⟩ := Option.map_eq_some_iff.1 h
      obtain ⟨i1, i2⟩ := Af n _ t (by rw [List.length_drop]; omega) ht
      refine ⟨by rw [lZ, k2, i1, List.take_append_drop], fun c hc => ?_⟩
      rcases List.mem_cons.1 hc with rfl | hc
      · exact k1
      · exact i2 c hc
theorem jc {b : List UInt8} {l : List Nat} (h : codes b = some l) : bP l = b ∧ OkL l := Af _ b l (Nat.le_refl _) h
theorem BQ {b : List UInt8} {l : List Nat} (h : codes b = some l) : l.length ≤ b.length := by
 obtain ⟨h1, h2⟩ := jc h
 rw [← h1]
 clear h h1 h2
 induction l with
 | nil => simp
 | cons c l ih => rw [lZ, List.length_append, nY, List.length_cons]; have := nO c; omega
theorem yG {c : Nat} (h : fB c) : c < 4294967296 := by unfold fB at h; omega
def Ox (c : Nat) : Bool := Nat.blt c 55296 || (Nat.blt 57343 c && Nat.ble c 1114111)
theorem Ce (c : Nat) : Ox c = true ↔ fB c := by
 unfold Ox fB; rw [Bool.or_eq_true, Bool.and_eq_true, Nat.blt_eq, Nat.blt_eq, Nat.ble_eq]
def QX (c : Nat) : Nat := cond (Nat.blt c 128) 1 (cond (Nat.blt c 2048) 2 (cond (Nat.blt c 65536) 3 4))
theorem Zj {a b : Nat} (h : ¬ a < b) : Nat.blt a b = false := by rw [← Bool.not_eq_true, Nat.blt_eq]; exact h
theorem Zk {a b : Nat} (h : a < b) : Nat.blt a b = true := by rw [Nat.blt_eq]; exact h
theorem Ag (c : Nat) : QX c = wid c := by
 unfold QX wid
 by_cases h1 : c < 128
 · rw [Zk h1, if_pos h1]; rfl
 · rw [Zj h1, if_neg h1]
   by_cases h2 : c < 2048
   · rw [Zk h2, if_pos h2]; rfl
   · rw [Zj h2, if_neg h2]
     by_cases h3 : c < 65536
     · rw [Zk h3, if_pos h3]; rfl
     · rw [Zj h3, if_neg h3]; rfl
def ads : List Nat → Nat
 | [] => 0
 | c :: l => Nat.add (QX c) (ads l)
def vK (c : Nat) : Bool := Nat.beq c 46 || Nat.beq c 103 || Nat.beq c 101 || Nat.beq c 115 || Nat.beq c 111 || Nat.beq c 126
def ckU1 (D : List (Nat × Nat × Nat × Bool)) (e : Nat × Nat × Nat × Bool) : Bool :=
 Nat.ble (ads (qP D 3 e.1)) (3 * QX e.1) && (Ox e.2.1 && Ox e.2.2.1) && (allB (fun x => !(Nat.beq x 0) && !(Nat.beq x 47)) (qP D 3 e.1)) && !(allB vK (qP D 3 e.1))
def ckU2 (e : Nat × Nat × Nat) : Bool := Nat.ble (QX e.2.2) (Nat.add (QX e.1) (QX e.2.1)) && Ox e.2.2
def ckU (lD lP : List UInt8) : Bool := allB (ckU1 (dc16 lD)) (dc16 lD) && allB ckU2 (dc15 lP)
theorem afr : ckU tD.data.toList tP.data.toList = true := by decide +kernel
theorem afs : ∀ e ∈ Dl, ckU1 Dl e = true := by
 have h := afr; unfold ckU at h; rw [Bool.and_eq_true] at h
 exact (dJ _ _).1 h.1
theorem aiH : ∀ e ∈ Pl, wid e.2.2 ≤ wid e.1 + wid e.2.1 ∧ fB e.2.2 := by
 have h := afr; unfold ckU at h; rw [Bool.and_eq_true] at h
 intro e he
 have := (dJ _ _).1 h.2 e he
 unfold ckU2 at this
 rw [Bool.and_eq_true, Nat.ble_eq, Ce, Ag, Ag, Ag] at this
 exact this
def iK : List Nat → Nat
 | [] => 0
 | c :: l => wid c + iK l
theorem vM (a b : List Nat) : iK (a ++ b) = iK a + iK b := by
 induction a with
 | nil => simp [iK]
 | cons c a ih => rw [List.cons_append, iK, iK, ih]; omega
theorem WT {a b : List Nat} (h : a.Perm b) : iK a = iK b := by
 induction h with
 | nil => rfl
 | cons x _ ih => rw [iK, iK, ih]
 | swap x y l => simp only [iK]; omega
 | trans _ _ h1 h2 => rw [h1, h2]
theorem adt (l : List Nat) : ads l = iK l := by
 induction l with
 | nil => rfl
 | cons c l ih => rw [ads, iK, ih, Ag]; rfl
theorem uj (l : List Nat) : (bP l).length = iK l := by
 induction l with
 | nil => rfl
 | cons c l ih => rw [lZ, List.length_append, nY, ih, iK]
theorem sF {c : Nat} {e} (hd : bD c = some e) : iK (full c) ≤ 3 * wid c ∧ (∀ x ∈ full c, x ≠ 0 ∧ x ≠ 47) ∧ ¬ (∀ x ∈ full c, vK x = true) := by
 obtain ⟨he, hc⟩ := bU hd
 have hh : isH c = false := by have := (Dp he).1; rwa [hc] at this
 have h := afs e he
 unfold ckU1 at h
 rw [hc, show qP Dl 3 c = full c from EZ (vI c) hh] at h
 rw [Bool.and_eq_true, Bool.and_eq_true, Bool.and_eq_true, Nat.ble_eq, adt, Ag, dJ, Bool.not_eq_true'] at h
 refine ⟨h.1.1.1, fun x hx => ?_, fun hall => ?_⟩
 · have := h.1.2 x hx
   rw [Bool.and_eq_true, Bool.not_eq_true', Bool.not_eq_true', ← Bool.not_eq_true, ← Bool.not_eq_true, Nat.beq_eq, Nat.beq_eq] at this
   exact this
 · rw [(dJ _ _).2 hall] at h; exact absurd h.2 (by decide)
theorem nH {c : Nat} (h : 4352 ≤ c ∧ c ≤ 65535) : wid c = 3 := by unfold wid; rw [if_neg (by omega), if_neg (by omega), if_pos (by omega)]
theorem Zl (c : Nat) : iK (full c) ≤ 3 * wid c := by
 cases hh : isH c with
 | true =>
  rw [mY hh]
  have hi := (fH c).1 hh
  rw [nH (by omega)]
  have hm := uo c hh
  have hl := (um c).2
  generalize hsp c = l at hm hl
  have : ∀ (l : List Nat), (∀ x ∈ l, 4352 ≤ x ∧ x ≤ 4546) → iK l = 3 * l.length := by
   intro l
   induction l with
   | nil => intro _; rfl
   | cons a l ih =>
    intro h
    rw [iK, ih fun x hx => h x (List.mem_cons_of_mem _ hx), nH (by have := h a (by simp); omega), List.length_cons]; omega
  rw [this l hm]; omega
 | false =>
  cases hd : bD c with
  | none => rw [jI hh hd]; simp only [iK]; have := nO c; omega
  | some e => exact (sF hd).1
theorem Jh : ∀ (l : List Nat), iK (bT l) ≤ 3 * iK l
 | [] => Nat.le_refl _
 | c :: l => by rw [jQ, vM, iK]; have := Zl c; have := Jh l; omega
theorem adu (l : List Nat) : iK (nfd l) ≤ 3 * iK l := by unfold nfd; rw [WT (Cb _)]; exact Jh l
theorem Vr {a b x : Nat} (h : two a b = some x) : wid x ≤ wid a + wid b ∧ fB x := by
 unfold two at h
 cases hj : iG a b with
 | some y =>
  rw [hj] at h
  obtain rfl := Option.some.inj h
  rcases yJ hj with ⟨h1, h2, rfl⟩ | ⟨h1, h2, h3, rfl⟩
  · rw [mZ] at h1; rw [ng] at h2
    rw [nH (c := a) (by omega), nH (by omega)]
    refine ⟨by omega, ?_⟩
    unfold fB; omega
  · rw [fH] at h1; rw [nP] at h3
    rw [nH (c := a) (by omega), nH (by omega)]
    refine ⟨by omega, ?_⟩
    unfold fB; omega
 | none =>
  rw [hj] at h
  cases hp : iO a b with
  | none => rw [hp] at h; cases h
  | some e =>
   rw [hp] at h
   obtain rfl := Option.some.inj h
   obtain ⟨h1, h2, h3⟩ := iL hp
   have := aiH e h1
   rwa [h2, h3] at this
theorem xw : ∀ (t : List Nat) (st : Nat) (marks : List Nat) (last : Nat), iK (dQ t st marks last) ≤ wid st + iK marks + iK t
 | [], st, marks, last => by rw [jy]; simp only [iK]; omega
 | c :: t, st, marks, last => by
  cases h : cO st marks last c with
  | some x => rw [gy h]; have := xw t x marks last; have := (Vr (qQ h).1).1; simp only [iK]; omega
  | none =>
   by_cases hc : cls c = 0
   · rw [kM h hc]; have := xw t c [] 0; simp only [iK, List.cons_append, vM] at this ⊢; omega
   · rw [jJ h hc]; have := xw t st (marks ++ [c]) (cls c); simp only [iK, vM] at this ⊢; omega
theorem Oy : ∀ (l : List Nat), iK (comp l) ≤ iK l
 | [] => by rw [jR]; exact Nat.le_refl _
 | c :: t => by
  by_cases hc : cls c = 0
  · rw [lS hc]; have := xw t c [] 0; simp only [iK] at this ⊢; omega
  · rw [qc hc]; have := Oy t; simp only [iK]; omega
theorem adv (l : List Nat) : iK (nfc l) ≤ 3 * iK l := Nat.le_trans (Oy _) (adu l)
theorem Zm {n : Nat} : ∀ {c : Nat}, Deep n c → isH c = false → fB c → OkL (fF n c) := by
 induction n with
 | zero => intro c h hh hc x hx; rw [pI h hh, List.mem_singleton] at hx; rw [hx]; exact hc
 | succ n ih =>
  intro c h hh hc x hx
  rcases h with h | ⟨e, h1, h2, h3⟩
  · rw [pI h hh, List.mem_singleton] at hx; rw [hx]; exact hc
  · have he := (bU h1).1
    have hno := Dp he
    have hk := afs e he
    unfold ckU1 at hk
    rw [Bool.and_eq_true, Bool.and_eq_true, Bool.and_eq_true, Bool.and_eq_true, Ce, Ce] at hk
    rw [fF, hh, h1] at hx
    dsimp only at hx
    rw [if_neg (by simp)] at hx
    rcases List.mem_append.1 hx with hx | hx
    · exact ih h2 hno.2.1 hk.1.1.2.1 x hx
    · split at hx
      · cases hx
      · rw [pI h3 hno.2.2, List.mem_singleton] at hx; rw [hx]; exact hk.1.1.2.2
theorem adw {c : Nat} (hc : fB c) : OkL (full c) := by
 cases hh : isH c with
 | true => rw [mY hh]; intro x hx; have := uo c hh x hx; unfold fB; omega
 | false => exact Zm (vI c) hh hc
theorem Zn {l : List Nat} (h : OkL l) : OkL (bT l) := fun x hx => by
 unfold bT at hx
 obtain ⟨c, hc, hx⟩ := List.mem_flatMap.1 hx
 exact adw (h c hc) x hx
theorem agz {l : List Nat} (h : OkL l) : OkL (nfd l) := fun x hx => Zn h x (su.1 hx)
theorem ady {l : List Nat} (h : OkL l) : OkL (comp l) := fun x hx => by
 rcases Fa l x hx with h1 | ⟨a, b, h1⟩
 · exact h x h1
 · exact (Vr h1).2
theorem QL {l : List Nat} (h : OkL l) : OkL (nfc l) := ady (agz h)
theorem OkL.small {l : List Nat} (h : OkL l) : ∀ x ∈ l, x < 4294967296 := fun x hx => yG (h x hx)
noncomputable def dn (b : List UInt8) : Option (List UInt8) := (codes b).map fun l => bP (nfc l)
theorem qg {b c : List UInt8} (h : dn b = some c) : ∃ l, codes b = some l ∧ c = bP (nfc l) ∧ codes c = some (nfc l) ∧ dn c = some c ∧ c.length ≤ 3 * b.length := by
 unfold dn at h
 obtain ⟨l, h1, h2⟩ := Option.map_eq_some_iff.1 h
 obtain ⟨h3, h4⟩ := jc h1
 have hc : codes c = some (nfc l) := by rw [← h2]; exact Dn _ (QL h4)
 refine ⟨l, h1, h2.symm, hc, ?_, ?_⟩
 · unfold dn; rw [hc, Option.map_some, adz, h2]
 · rw [← h2, uj, ← h3, uj]; exact adv l
open Go.RowKit Go.Lib
theorem wV : (Tryz.prog.info? 5).map (fun i => (i.zero, i.size, i.bytes)) = some (some (.int .u8 0), 1, 1) := by kernel_rfl
theorem agr {w : World} {B : Nat} {e : TypeId} {v : Value} {n m : Nat} {xs ys : List Value} (h : w.ownsRow B e 1 v n xs) (hn : n = m) (hx : xs = ys) : w.ownsRow B e 1 v m ys := by subst hn hx; exact h
theorem Zo (B : Nat) (v : Value) (n : Nat) (xs : List Value) (r : Int) (h0 : 128 ≤ r) (h1 : r ≤ 2047) (w : World) (hown : w.ownsRow B 5 1 v n xs) (hlen : n ≤ 100000000) (hBw : B ≤ w.heap.size) :
    Calls Tryz.prog 128 #[v, .int .i32 r] w fun e w' => ∃ v', e = .returned v' ∧ w'.ownsRow B 5 1 v' (n + 2) (xs ++ [.int .u8 (192 + r / 64), .int .u8 (128 + r % 64)]) ∧ ∃ o, (w.alloc o).grownBy w' v.ownBlock := by
 obtain ⟨i0, hi, hz0, hz1, hz2⟩ := info_parts wV
 go_enter Tryz.func128, Tryz.ntmps128
 go_wp2_with (at_builtin; refine wpList_append_own _ rfl _ _ 46 rfl B 5 i0 (.int .u8 0) 1 1 Tryz.underlying46 hi hz0 hz1 hz2 rfl (by decide) _ _ _ rfl (hown.alloc _) ⟨w.heap.size, 0, none⟩ 2 2 [.int .u8 (192 + r / 64), .int .u8 (128 + r % 64)] rfl rfl ?c1 ?c2 ?c3 ?c4 ?c5 ?_)
 case c1 =>
  intro j u hj
  match j, hj with
  | 0, hj => simp at hj; subst hj; simp [Addr.add]
  | 1, hj => simp at hj; subst hj; simp [Addr.add]
  | (j + 2), hj => simp at hj
 case c2 => intro u hu; simp at hu; rcases hu with rfl | rfl <;> rfl
 case c3 => unfold maxLen; omega
 case c4 => omega
 case c5 => simp; omega
 intro v' w2 hown' hgrow _
 go_wp2
 go_ret
 exact ⟨_, rfl, hown', _, hgrow⟩
theorem Zp (B : Nat) (v : Value) (n : Nat) (xs : List Value) (r : Int) (h0 : 2048 ≤ r) (h1 : r < 55296) (w : World) (hown : w.ownsRow B 5 1 v n xs) (hlen : n ≤ 100000000) (hBw : B ≤ w.heap.size) :
    Calls Tryz.prog 128 #[v, .int .i32 r] w fun e w' => ∃ v', e = .returned v' ∧ w'.ownsRow B 5 1 v' (n + 3) (xs ++ [.int .u8 (224 + r / 4096), .int .u8 (128 + r / 64 % 64), .int .u8 (128 + r % 64)]) ∧ ∃ o, (w.alloc o).grownBy w' v.ownBlock := by
 obtain ⟨i0, hi, hz0, hz1, hz2⟩ := info_parts wV
 go_enter Tryz.func128, Tryz.ntmps128
 go_wp2_with (at_builtin; refine wpList_append_own _ rfl _ _ 46 rfl B 5 i0 (.int .u8 0) 1 1 Tryz.underlying46 hi hz0 hz1 hz2 rfl (by decide) _ _ _ rfl (hown.alloc _) ⟨w.heap.size, 0, none⟩ 3 3 [.int .u8 (224 + r / 4096), .int .u8 (128 + r / 64 % 64), .int .u8 (128 + r % 64)] rfl rfl ?c1 ?c2 ?c3 ?c4 ?c5 ?_)
 case c1 =>
  intro j u hj
  match j, hj with
  | 0, hj => simp at hj; subst hj; simp [Addr.add]
  | 1, hj => simp at hj; subst hj; simp [Addr.add]
  | 2, hj => simp at hj; subst hj; simp [Addr.add]
  | (j + 3), hj => simp at hj
 case c2 => intro u hu; simp at hu; rcases hu with rfl | rfl | rfl <;> rfl
 case c3 => unfold maxLen; omega
 case c4 => omega
 case c5 => simp; omega
 intro v' w2 hown' hgrow _
 go_wp2
 go_ret
 exact ⟨_, rfl, hown', _, hgrow⟩
theorem Zq (B : Nat) (v : Value) (n : Nat) (xs : List Value) (r : Int) (h0 : 57343 < r) (h1 : r ≤ 65535) (w : World) (hown : w.ownsRow B 5 1 v n xs) (hlen : n ≤ 100000000) (hBw : B ≤ w.heap.size) :
    Calls Tryz.prog 128 #[v, .int .i32 r] w fun e w' => ∃ v', e = .returned v' ∧ w'.ownsRow B 5 1 v' (n + 3) (xs ++ [.int .u8 (224 + r / 4096), .int .u8 (128 + r / 64 % 64), .int .u8 (128 + r % 64)]) ∧ ∃ o, (w.alloc o).grownBy w' v.ownBlock := by
 obtain ⟨i0, hi, hz0, hz1, hz2⟩ := info_parts wV
 go_enter Tryz.func128, Tryz.ntmps128
 go_wp2_with (at_builtin; refine wpList_append_own _ rfl _ _ 46 rfl B 5 i0 (.int .u8 0) 1 1 Tryz.underlying46 hi hz0 hz1 hz2 rfl (by decide) _ _ _ rfl (hown.alloc _) ⟨w.heap.size, 0, none⟩ 3 3 [.int .u8 (224 + r / 4096), .int .u8 (128 + r / 64 % 64), .int .u8 (128 + r % 64)] rfl rfl ?c1 ?c2 ?c3 ?c4 ?c5 ?_)
 case c1 =>
  intro j u hj
  match j, hj with
  | 0, hj => simp at hj; subst hj; simp [Addr.add]
  | 1, hj => simp at hj; subst hj; simp [Addr.add]
  | 2, hj => simp at hj; subst hj; simp [Addr.add]
  | (j + 3), hj => simp at hj
 case c2 => intro u hu; simp at hu; rcases hu with rfl | rfl | rfl <;> rfl
 case c3 => unfold maxLen; omega
 case c4 => omega
 case c5 => simp; omega
 intro v' w2 hown' hgrow _
 go_wp2
 go_ret
 exact ⟨_, rfl, hown', _, hgrow⟩
theorem Zr (B : Nat) (v : Value) (n : Nat) (xs : List Value) (r : Int) (h0 : 65536 ≤ r) (h1 : r ≤ 1114111) (w : World) (hown : w.ownsRow B 5 1 v n xs) (hlen : n ≤ 100000000) (hBw : B ≤ w.heap.size) :
    Calls Tryz.prog 128 #[v, .int .i32 r] w fun e w' => ∃ v', e = .returned v' ∧ w'.ownsRow B 5 1 v' (n + 4) (xs ++ [.int .u8 (240 + r / 262144), .int .u8 (128 + r / 4096 % 64), .int .u8 (128 + r / 64 % 64), .int .u8 (128 + r % 64)]) ∧ ∃ o, (w.alloc o).grownBy w' v.ownBlock := by
 obtain ⟨i0, hi, hz0, hz1, hz2⟩ := info_parts wV
 go_enter Tryz.func128, Tryz.ntmps128
 go_wp2_with (at_builtin; refine wpList_append_own _ rfl _ _ 46 rfl B 5 i0 (.int .u8 0) 1 1 Tryz.underlying46 hi hz0 hz1 hz2 rfl (by decide) _ _ _ rfl (hown.alloc _) ⟨w.heap.size, 0, none⟩ 4 4 [.int .u8 (240 + r / 262144), .int .u8 (128 + r / 4096 % 64), .int .u8 (128 + r / 64 % 64), .int .u8 (128 + r % 64)] rfl rfl ?c1 ?c2 ?c3 ?c4 ?c5 ?_)
 case c1 =>
  intro j u hj
  match j, hj with
  | 0, hj => simp at hj; subst hj; simp [Addr.add]
  | 1, hj => simp at hj; subst hj; simp [Addr.add]
  | 2, hj => simp at hj; subst hj; simp [Addr.add]
  | 3, hj => simp at hj; subst hj; simp [Addr.add]
  | (j + 4), hj => simp at hj
 case c2 => intro u hu; simp at hu; rcases hu with rfl | rfl | rfl | rfl <;> rfl
 case c3 => unfold maxLen; omega
 case c4 => omega
 case c5 => simp; omega
 intro v' w2 hown' hgrow _
 go_wp2
 go_ret
 exact ⟨_, rfl, hown', _, hgrow⟩
theorem Zt (B : Nat) (v : Value) (n : Nat) (xs : List Value) (r : Int) (h0 : 0 ≤ r) (h1 : r ≤ 127) (w : World) (hown : w.ownsRow B 5 1 v n xs) (hlen : n ≤ 100000000) (hBw : B ≤ w.heap.size) :
    Calls Tryz.prog 96 #[v, .int .i32 r] w fun e w' => ∃ v', e = .returned v' ∧ w'.ownsRow B 5 1 v' (n + 1) (xs ++ [.int .u8 r]) ∧ ∃ o, (w.alloc o).grownBy w' v.ownBlock := by
 obtain ⟨i0, hi, hz0, hz1, hz2⟩ := info_parts wV
 go_enter Tryz.func96, Tryz.ntmps96
 go_wp2_with (at_builtin; refine wpList_append_own _ rfl _ _ 46 rfl B 5 i0 (.int .u8 0) 1 1 Tryz.underlying46 hi hz0 hz1 hz2 rfl (by decide) _ _ _ rfl (hown.alloc _) ⟨w.heap.size, 0, none⟩ 1 1 [.int .u8 r] rfl rfl ?c1 ?c2 ?c3 ?c4 ?c5 ?_)
 case c1 =>
  intro j u hj
  match j, hj with
  | 0, hj => simp at hj; subst hj; simp [Addr.add]
  | (j + 1), hj => simp at hj
 case c2 => intro u hu; simp at hu; rcases hu with rfl; rfl
 case c3 => unfold maxLen; omega
 case c4 => omega
 case c5 => simp; omega
 intro v' w2 hown' hgrow _
 go_wp2
 go_ret
 exact ⟨_, rfl, hown', _, hgrow⟩
theorem Fb (B : Nat) (v : Value) (K : List UInt8) (c : Nat) (hc : fB c) (w : World) (hown : w.ownsRow B 5 1 v K.length (byteCells K)) (hlen : K.length ≤ 100000000) (hBw : B ≤ w.heap.size) :
    Calls Tryz.prog 96 #[v, .int .i32 (c : Int)] w fun e w' => ∃ v', e = .returned v' ∧ w'.ownsRow B 5 1 v' (K ++ jM c).length (byteCells (K ++ jM c)) ∧ ∃ o, (w.alloc o).grownBy w' v.ownBlock := by
 have hcell : byteCells (jM c) = runeCells (c : Int) := by rw [Jg hc, byteCells_encodeRune]
 have hj : byteCells (K ++ jM c) = byteCells K ++ runeCells (c : Int) := by rw [← hcell]; simp [byteCells]
 have hk : (K ++ jM c).length = K.length + (runeCells (c : Int)).length := by rw [← hcell]; simp [byteCells]
 rw [hj, hk]
 unfold fB at hc
 by_cases h0 : c < 128
 · rw [show runeCells (c : Int) = [.int .u8 (c : Int)] by simp only [runeCells]; rw [encodeRuneZ_one (by omega) (by omega)]; rfl]
   exact Zt B v K.length _ c (by omega) (by omega) w hown hlen hBw
 · have H : Calls Tryz.prog 128 #[v, .int .i32 (c : Int)] w fun e w' => ∃ v', e = .returned v' ∧ w'.ownsRow B 5 1 v' (K.length + (runeCells (c : Int)).length) (byteCells K ++ runeCells (c : Int)) ∧ ∃ o, (w.alloc o).grownBy w' v.ownBlock := by
     by_cases h1 : c < 2048
     · rw [show runeCells (c : Int) = [.int .u8 (192 + (c : Int) / 64), .int .u8 (128 + (c : Int) % 64)] by simp only [runeCells]; rw [encodeRuneZ_two (by omega) (by omega)]; rfl]
       exact Zo B v K.length _ c (by omega) (by omega) w hown hlen hBw
     · by_cases h2 : c < 65536
       · rw [show runeCells (c : Int) = [.int .u8 (224 + (c : Int) / 4096), .int .u8 (128 + (c : Int) / 64 % 64), .int .u8 (128 + (c : Int) % 64)] by simp only [runeCells]; rw [encodeRuneZ_three (by omega)]; rfl]
         by_cases h3 : c < 55296
         · exact Zp B v K.length _ c (by omega) (by omega) w hown hlen hBw
         · exact Zq B v K.length _ c (by omega) (by omega) w hown hlen hBw
       · rw [show runeCells (c : Int) = [.int .u8 (240 + (c : Int) / 262144), .int .u8 (128 + (c : Int) / 4096 % 64), .int .u8 (128 + (c : Int) / 64 % 64), .int .u8 (128 + (c : Int) % 64)] by simp only [runeCells]; rw [encodeRuneZ_four (by omega) (by omega)]; rfl]
         exact Zr B v K.length _ c (by omega) (by omega) w hown hlen hBw
   have h127 : ¬ (c : Int) ≤ 127 := by omega
   have hcb : (c : Int) ≤ 1114111 := by omega
   have HH := hid H
   clear H hj hk hcell hown hlen hBw hc h0
   go_enter Tryz.func96, Tryz.ntmps96
   go_wp2_with (go_at_call 128; refine HH.out.mono ?_; clear HH; rintro e w1 ⟨v1, rfl, h1, h2⟩; have H1 := hid h1; have H2 := hid h2; clear h1 h2)
   go_ret
   exact ⟨_, rfl, H1.out, H2.out⟩
theorem Iu (c : Nat) (hc : c < 1114112) (w : World) : Calls Tryz.prog 127 #[.int .i32 (c : Int)] w fun e w' => e = .returned (.bool (decide (fB c))) ∧ w = w' := by
 by_cases h1 : c < 55296
 · have h1z : (c : Int) < 55296 := by omega
   have h0z : (0 : Int) ≤ (c : Int) := by omega
   rw [decide_eq_true (show fB c by unfold fB; omega)]
   clear h1
   go_enter Tryz.func127, Tryz.ntmps127
   go_wp2
   go_ret
   exact ⟨rfl, rfl⟩
 · have h1z : ¬ (c : Int) < 55296 := by omega
   have h1d : decide ((c : Int) < 55296) = false := decide_eq_false h1z
   have h0z : (0 : Int) ≤ (c : Int) := by omega
   by_cases h2 : 57343 < c
   · have h2z : (57343 : Int) < (c : Int) := by omega
     have h3z : (c : Int) ≤ 1114111 := by omega
     rw [decide_eq_true (show fB c by unfold fB; omega)]
     clear h1 h2 hc
     go_enter Tryz.func127, Tryz.ntmps127
     go_wp2
     go_ret
     exact ⟨rfl, rfl⟩
   · have h2z : ¬ (57343 : Int) < (c : Int) := by omega
     have h2d : decide ((57343 : Int) < (c : Int)) = false := decide_eq_false h2z
     rw [decide_eq_false (show ¬ fB c by unfold fB; omega)]
     clear h1 h2 hc
     go_enter Tryz.func127, Tryz.ntmps127
     go_wp2
     go_ret
     exact ⟨rfl, rfl⟩
theorem Zu (c : Nat) (hc : fB c) (w : World) : Calls Tryz.prog 95 #[.int .u32 (c : Int)] w fun e w' => e = .returned (.tuple #[.int .i32 (c : Int), .bool true]) ∧ w = w' := by
 have hlt : c < 1114112 := by unfold fB at hc; omega
 have H := hid (Iu c hlt w)
 have hd := decide_eq_true hc
 have h1z : ¬ (1114111 : Int) < (c : Int) := by omega
 have h2z : (c : Int) ≤ 1114111 := by omega
 have H2 : Hid (Calls Tryz.prog 127 #[.int .i32 (c : Int)] w fun e w' => e = .returned (.bool true) ∧ w = w') := by have := H.out; rw [hd] at this; exact this
 clear H hd hlt hc
 go_enter Tryz.func95, Tryz.ntmps95
 go_wp2_with (go_at_call 127; refine H2.out.mono ?_; clear H2; rintro e w1 ⟨rfl, rfl⟩)
 go_ret2
 exact ⟨rfl, rfl⟩
def Bs (w : World) (v : Value) (b : List UInt8) : Prop := ∃ (ao : Option Addr) (cap : Nat), v = .slice ao b.length cap ∧ b.length ≤ cap ∧ cap ≤ maxLen ∧ (ao = none → cap = 0) ∧ ∀ k, k < b.length → ∃ g o, ao = some ⟨g, o, none⟩ ∧ w.cell? ⟨g, o + k, none⟩ = some (.int .u8 ((b.getD k 0).toNat : Int))
theorem Bs.gr {w w' : World} {v : Value} {b : List UInt8} (h : Bs w v b) (g : Gr w w') : Bs w' v b := by
 obtain ⟨ao, cap, h1, h3, h4, h5, h2⟩ := h
 exact ⟨ao, cap, h1, h3, h4, h5, fun j hj => by obtain ⟨b, o, h3, h4⟩ := h2 j hj; exact ⟨b, o, h3, g.cell h4⟩⟩
theorem rF (b : List UInt8) : (byteCells b).length = b.length := by simp [byteCells]
theorem Bs.jB {w : World} {base : Nat} {v : Value} {b : List UInt8} (h : w.ownsRow base 5 1 v b.length (byteCells b)) : Bs w v b := by
 rcases h.2 with ⟨h1, h2⟩ | ⟨g, cap, cur, h1, _, _, hnc, hcm, _⟩
 · exact ⟨none, 0, by rw [h1, h2], by omega, by unfold maxLen; omega, fun _ => rfl, fun k hk => by omega⟩
 · subst h1
   refine ⟨_, cap, rfl, hnc, hcm, fun h => by (cases h), fun k hk => ⟨g, 0, rfl, ?_⟩⟩
   have := h.cellAt k (by omega)
   rw [Nat.zero_add]
   unfold byteCells at this
   rw [List.getElem?_map, List.getElem?_eq_getElem hk, Option.map_some] at this
   rw [this, List.getD, List.getElem?_eq_getElem hk]; rfl
def dP (b : List UInt8) : ByteArray := ⟨b.toArray⟩
theorem fA (b : List UInt8) : (dP b).data.toList = b := by simp [dP]
theorem pJ (b : List UInt8) : (dP b).size = b.length := by rw [size_eq, fA]
theorem Zv (b : List UInt8) (j : Nat) : (dP b).get! j = b.getD j 0 := by rw [← getD_get!', fA]
theorem Zw (b : List UInt8) : strOfNums (b.map fun x => (x.toNat : Int)) = dP b := by
 unfold strOfNums dP
 congr 2
 rw [List.map_map]
 conv => rhs; rw [← List.map_id b]
 refine List.map_congr_left fun x _ => ?_
 simp
theorem Bs.conv {w : World} {v : Value} {b : List UInt8} (h : Bs w v b) (src dst : TypeId) (hs : Tryz.prog.underlying src = some (.slice 5)) (hd : Tryz.prog.underlying dst = some .string) : (convert src dst v).run Tryz.prog w = .ok (.string (dP b)) w := by
 obtain ⟨ao, cap, rfl, h3, h4, h5, h2⟩ := h
 cases b with
 | nil =>
  cases ao with
  | none => exact run_convert_bytes_nil w src 5 hs Tryz.underlying5 _ _ dst hd
  | some a =>
   obtain ⟨g, o, sp⟩ := a
   rw [run_convert_bytes_string w src dst 5 _ _ cap hs Tryz.underlying5 hd, run_bytesToString w _ _ cap [] (by exact run_loadCells_list w _ [] (fun j v hj => by simp at hj))]
   rfl
 | cons x t =>
  obtain ⟨g, o, rfl, _⟩ := h2 0 (by simp)
  rw [run_convert_bytes_arg w src 5 hs Tryz.underlying5 g o _ cap ((x :: t).map fun x => (x.toNat : Int)) (by simp) (fun i hi => by
   obtain ⟨g', o', e, hc⟩ := h2 i hi
   cases e
   rw [hc, List.getD, List.getD, List.getElem?_map, List.getElem?_eq_getElem hi]; rfl) dst hd, Zw]
theorem WU {w w' : World} {k : Nat} {s : ByteArray} {p : Nat} {B : Nat} {e : TypeId} {size n : Nat} {v : Value} {xs : List Value} (hk : w.heap[k]? = some (.stringIter s p)) (hr : w.ownsRow B e size v n xs) (hg : w.grownBy w' v.ownBlock) : w'.heap[k]? = some (.stringIter s p) := by
 rw [hg.block k (Array.getElem?_eq_some_iff.1 hk).1 ?_]
 · exact hk
 · intro h
   rcases hr.2 with ⟨rfl, _⟩ | ⟨g, cap, cur, h1, _, h2, _⟩
   · simp [Value.ownBlock] at h
   · subst h1
     simp only [Value.ownBlock, Option.some.injEq] at h
     subst h
     rw [h2] at hk; cases hk
theorem QY {w : World} {k : Nat} {s : ByteArray} {p : Nat} (hk : w.heap[k]? = some (.stringIter s p)) (o : Obj) : (w.alloc o).heap[k]? = some (.stringIter s p) := (Below.heap_alloc w o k (Array.getElem?_eq_some_iff.1 hk).1).trans hk
theorem QZ {w : World} {k : Nat} {s : ByteArray} {p : Nat} {B : Nat} {e : TypeId} {size n : Nat} {v : Value} {xs : List Value} (hk : w.heap[k]? = some (.stringIter s p)) (hr : w.ownsRow B e size v n xs) (q : Nat) : (w.iterAt k s q).ownsRow B e size v n xs := by
 refine ⟨hr.1, ?_⟩
 rcases hr.2 with h | ⟨g, cap, cur, h1, h2, h3, rest⟩
 · exact .inl h
 · refine .inr ⟨g, cap, cur, h1, h2, (iterAt_other w k g s q ?_).trans h3, rest⟩
   intro e; rw [e, hk] at h3; cases h3
def Zx (b : List UInt8) (w : World) (e : Ending) (w' : World) : Prop :=
 ((codes b = none ∧ e = .returned (.tuple #[.slice none 0 0, .int .i64 6])) ∨ ∃ L v', codes b = some L ∧ e = .returned (.tuple #[v', .int .i64 0]) ∧ w'.ownsRow w.heap.size 134 1 v' L.length (bZ L)) ∧ Gr w w'
theorem WV (v : Value) (b : List UInt8) (w : World) (hu : Ut w) (hv : Bs w v b) (hl : b.length ≤ 100000) : Calls Tryz.prog 67 #[v] w (Zx b w) := by
 obtain ⟨i0, hi, hz0, hz1, hz2⟩ := info_parts jP
 have HBs := hid hv
 have HC := fun (W : World) (g : Gr w W) => (hv.gr g).conv 46 9 Tryz.underlying46 Tryz.underlying9
 obtain ⟨ao, cap, rfl, h3, h4, h5, h2⟩ := hv
 have HV := WW ao b.length cap (dP b) w (pJ b) h3 (by omega) (fun j hj => by rw [pJ] at hj; obtain ⟨g, o, e, hc⟩ := h2 j hj; exact ⟨g, o, e, by rw [Zv]; exact hc⟩) hu
 rw [fA, Ov] at HV
 cases hc : codes b with
 | none =>
  rw [hc] at HV
  have HV := hid HV
  have HN := hid hc
  clear hc HBs HC h2 h3 h4 h5 hu
  go_enter Tryz.func67, Tryz.ntmps67
  go_wp2_with (go_at_call 92; refine HV.out.mono ?_; clear HV; rintro e w1 ⟨rfl, g1⟩)
  go_ret2
  exact ⟨.inl ⟨HN.out, rfl⟩, g1⟩
 | some L =>
  rw [hc] at HV
  have HV := hid HV
  have HN := hid hc
  have HLL := hid (BQ hc)
  clear hc h2 h3 h4 h5 hu
  obtain ⟨nb, hnb⟩ : ∃ nb, b.length = nb := ⟨_, rfl⟩
  have HNB := hid hnb
  rw [hnb] at HV HC hl ⊢
  clear hnb HBs
  obtain ⟨S, hS⟩ : ∃ S, dP b = S := ⟨_, rfl⟩
  rw [hS] at HC
  have HSz : Hid (S.size = nb) := by show _ = _; rw [← hS, pJ]; exact HNB.out
  have HSl : Hid (S.data.toList = b) := by show _ = _; rw [← hS, fA]
  clear hS
  go_enter Tryz.func67, Tryz.ntmps67
  go_wp2_with fail
  refine HV.out.mono ?_
  rintro e w1 ⟨rfl, g1⟩
  have hconv := HC w1 g1
  clear HV HC
  go_wp2_with fail
  have hn0 : Gr w (w1.iter S 0) := g1.trans (Gr.alloc _ _)
  go_loopg [4] (nb + 1) (fun gk s4 wr => ∃ (O R : List Nat) (pos : Nat), Hid (wr.ownsRow w.heap.size 134 1 s4 O.length (bZ O)) ∧ wr.heap[w1.heap.size]? = some (.stringIter S pos) ∧ Gr w wr ∧ Hid (codes (S.data.toList.drop pos) = some R ∧ O ++ R = L) ∧ pos ≤ nb ∧ nb < gk + pos)
  case atStart => exact ⟨[], L, 0, World.ownsRow_nil _ _ _ _, World.iter_heap _ _ _, hn0, ⟨by rw [List.drop_zero, HSl.out]; exact HN.out, rfl⟩, Nat.zero_le _, by omega⟩
  case round =>
   obtain ⟨O, R, pos, HO, hit, hgr, HR, hpos, hgk⟩ := hrel
   clear hn0
   by_cases hlt : pos < nb
   · obtain ⟨g', rfl⟩ : ∃ g', gk = g' + 1 := ⟨gk - 1, by omega⟩
     have hlt' : pos < S.size := by rw [HSz.out]; exact hlt
     have hnx : ∀ ty, (Instr.next (.pointer (some ⟨w1.heap.size, 0, none⟩)) true ty).run Tryz.prog wr = _ := fun ty => run_next_any_at wr w1.heap.size S pos ty hit hlt'
     have hne : S.data.toList.drop pos ≠ [] := fun e => by have := congrArg List.length e; rw [List.length_drop, ← size_eq] at this; simp at this; omega
     have hst := pV _ hne
     rw [HR.out.1] at hst
     have hdd := decodeL_drop S pos
     rw [← hdd] at hnx
     obtain ⟨d, hd⟩ : ∃ d, decodeL (S.data.toList.drop pos) = d := ⟨_, rfl⟩
     rw [hd] at hnx hst
     split at hst
     · cases hst
     · rename_i hbad
       obtain ⟨T, hT, hRT⟩ := Option.map_eq_some_iff.1 hst.symm
       have hok := yF hne (by rw [hd]; exact hbad)
       rw [hd] at hok
       obtain ⟨ho1, ho2, ho3, ho4⟩ := hok
       obtain ⟨x, y⟩ := d
       simp only at hnx hT hRT ho1 ho2 ho3 ho4
       have hxs := yG ho1
       have hx1 : x ≤ 1114111 := by unfold fB at ho1; omega
       have hwp := nO x
       rw [List.length_drop, ← size_eq, HSz.out] at ho4
       have HT : Hid (codes (S.data.toList.drop (pos + y)) = some T ∧ (O ++ [x]) ++ T = L) := ⟨by rw [← List.drop_drop]; exact hT, by rw [List.append_assoc, List.singleton_append, hRT]; exact HR.out.2⟩
       have HOl : Hid (O.length ≤ 100000) := by
        show _ ≤ _
        have := congrArg List.length HR.out.2
        have h2 := HLL.out
        have h3 := HNB.out
        rw [List.length_append] at this
        omega
       have hit2 := iterAt_heap wr w1.heap.size S pos (pos + y) hit
       have hg2 : Gr w (wr.iterAt w1.heap.size S (pos + y)) := below_iterAt hgr (k := w1.heap.size) g1.size S (pos + y)
       have HO2 := hid (QZ hit HO.out (pos + y))
       obtain ⟨Wa, hWa⟩ : ∃ Wa, wr.iterAt w1.heap.size S (pos + y) = Wa := ⟨_, rfl⟩
       rw [hWa] at hnx hit2 hg2 HO2
       have HY : Hid (pos + y ≤ nb ∧ nb < g' + (pos + y)) := by show _ ∧ _; omega
       clear hbad hst hd hdd hT hRT ho1 ho2 ho3 ho4 hne hit HO HR hWa hlt' hwp hgr
       have hxz : (x : Int) < 4294967296 := by omega
       go_wp2_with (at_builtin; refine wpList_append_own _ rfl _ _ 108 rfl w.heap.size 134 i0 (.int .u32 0) 1 4 Tryz.underlying108 hi hz0 hz1 hz2 rfl (by decide) _ _ _ rfl (HO2.out.alloc _) ⟨Wa.heap.size, 0, none⟩ 1 1 [.int .u32 (x : Int)] rfl rfl (cell_one_new _ _ _) (by simp [Value.oneCell']) (by have := HOl.out; unfold maxLen; omega) (by have := HOl.out; omega) (by have := hg2.size; simp; omega) ?_; intro v' w2 hown' hgrow _; have HO3 := hid (fE (K := [x]) hown' rfl rfl rfl); have G3 := dZ hg2 HO2.out hgrow; have hit3 := WU (QY hit2 _) (HO2.out.alloc _) hgrow; clear hown' hgrow)
       go_roundg g'
       case measure => omega
       case rel => exact ⟨O ++ [x], T, pos + y, HO3, hit3, G3, HT, HY.out.1, HY.out.2⟩
   · obtain rfl : pos = nb := by omega
     have hnx : ∀ ty, (Instr.next (.pointer (some ⟨w1.heap.size, 0, none⟩)) true ty).run Tryz.prog wr = _ := fun ty => run_next_end_at wr w1.heap.size S pos ty hit (by rw [HSz.out]; omega)
     have hR0 := HR.out
     rw [List.drop_of_length_le (by rw [← size_eq, HSz.out]; exact Nat.le_refl _), wW] at hR0
     obtain ⟨hR1, hR2⟩ := hR0
     obtain rfl := Option.some.inj hR1
     rw [List.append_nil] at hR2
     subst hR2
     clear hR1
     go_wp2_with fail
     go_ret2
     exact ⟨.inr ⟨O, _, HN.out, rfl, HO.out⟩, hgr⟩
theorem WX (v : Value) (L : List Nat) (w : World) (hv : Sl w v L) (ok : OkL L) (hl : L.length ≤ 1000000) : Calls Tryz.prog 69 #[v] w fun e w' => ∃ v', e = .returned (.tuple #[v', .int .i64 0]) ∧ w'.ownsRow w.heap.size 5 1 v' (bP L).length (byteCells (bP L)) ∧ Gr w w' := by
 obtain ⟨ao, ca, rfl, _, hA⟩ := hv
 obtain ⟨n, hn⟩ : ∃ n, L.length = n := ⟨_, rfl⟩
 rw [hn] at hA hl ⊢
 have hnb : (n : Int) ≤ 1000000 := by omega
 have HN := hid hn
 have HA := hid hA
 have HOK := hid ok
 clear hn hA ok hl
 go_enter Tryz.func69, Tryz.ntmps69
 go_wp2_with fail
 go_loopw [4, 11] (fun s4 s11 wr => ∃ (k : Nat), k ≤ n ∧ s11 = .int .i64 k ∧ Hid (wr.ownsRow w.heap.size 5 1 s4 (bP (L.take k)).length (byteCells (bP (L.take k)))) ∧ Gr w wr) (fun _ s _ => n - (intOf s).toNat)
 case atStart => exact ⟨0, Nat.zero_le _, rfl, World.ownsRow_nil _ _ _ _, Gr.refl _⟩
 case round =>
  obtain ⟨k, hk, rfl, HO, hgk⟩ := hrel
  by_cases hlt : k < n
  · have hltz : (k : Int) < n := by omega
    obtain ⟨g, off, rfl, hcell⟩ := HA.out k hlt
    have hcell := hgk.cell hcell
    have hkL : k < L.length := by rw [HN.out]; exact hlt
    have hx : fB (L.getD k 0) := by
     rw [List.getD, List.getElem?_eq_getElem hkL]; exact HOK.out _ (List.getElem_mem _)
    have htk : L.take (k + 1) = L.take k ++ [L.getD k 0] := by rw [List.take_add_one, List.getD, List.getElem?_eq_getElem hkL]; rfl
    generalize L.getD k 0 = x at hcell hx htk
    have HP := hid (Zu x hx wr)
    have hlen : (bP (L.take k)).length ≤ 4 * k := by
     rw [uj]
     have h1 : ∀ l : List Nat, iK l ≤ 4 * l.length := by
      intro l
      induction l with
      | nil => exact Nat.le_refl _
      | cons a l ih => rw [iK, List.length_cons]; have := nO a; omega
     have := h1 (L.take k)
     rw [List.length_take] at this
     omega
    have HR := fun u (h : wr.ownsRow w.heap.size 5 1 u (bP (L.take k)).length (byteCells (bP (L.take k)))) => Fb w.heap.size u (bP (L.take k)) x hx wr h (by omega) hgk.size
    have hb : bP (L.take (k + 1)) = bP (L.take k) ++ jM x := by rw [htk, yj]; simp [bP]
    rw [← hb] at HR
    have HR := hid HR
    clear hb htk hx hlen
    go_wp2_with (first
     | (go_at_call 95; refine HP.out.mono ?_; clear HP; rintro e w1 ⟨rfl, rfl⟩)
     | (go_at_call 96; refine (HR.out _ HO.out).mono ?_; clear HR; rintro e w2 ⟨v2, rfl, h2, h3⟩; have H2 := hid h2; have G2 := (by obtain ⟨o, h3⟩ := h3; exact dZ hgk HO.out h3 : Gr w w2); clear h2 h3))
    go_roundw
    case rel => exact ⟨k + 1, hlt, by go_num, H2, G2⟩
    case measure => simp [intOf]; omega
  · have hltz : ¬ (k : Int) < n := by omega
    have HF : Hid (L.take k = L) := List.take_of_length_le (by rw [HN.out]; omega)
    go_wp2_with fail
    go_ret2
    refine ⟨_, rfl, ?_, hgk⟩
    have := HO.out
    rwa [HF.out] at this
def Vk (b : List UInt8) (w : World) (e : Ending) (w' : World) : Prop :=
 ((dn b = none ∧ e = .returned (.tuple #[.slice none 0 0, .int .i64 6])) ∨ ∃ c v', dn b = some c ∧ e = .returned (.tuple #[v', .int .i64 0]) ∧ w'.ownsRow w.heap.size 5 1 v' c.length (byteCells c)) ∧ Gr w w'
theorem Fe (v : Value) (b : List UInt8) (w : World) (ht : Tz w) (hu : Ut w) (hv : Bs w v b) (hl : b.length ≤ 20000) : Calls Tryz.prog 34 #[v] w (Vk b w) := by
 have HC := hid (WV v b w hu hv (by omega))
 cases hc : codes b with
 | none =>
  have H0 : Hid (Calls Tryz.prog 67 #[v] w fun e w' => e = .returned (.tuple #[.slice none 0 0, .int .i64 6]) ∧ Gr w w') := HC.out.mono fun e w' h => by
   rcases h with ⟨⟨_, h1⟩ | ⟨L, _, h1, _⟩, h2⟩
   · exact ⟨h1, h2⟩
   · rw [hc] at h1; cases h1
  have HT : Hid (dn b = none) := by show _ = _; unfold dn; rw [hc]; rfl
  clear HC hc hv hl
  go_enter Tryz.func34, Tryz.ntmps34
  go_wp2_with (go_at_call 67; refine H0.out.mono ?_; clear H0; rintro e w1 ⟨rfl, g1⟩)
  go_ret2
  exact ⟨.inl ⟨HT.out, rfl⟩, g1⟩
 | some L =>
  have H0 : Hid (Calls Tryz.prog 67 #[v] w fun e w' => ∃ v', e = .returned (.tuple #[v', .int .i64 0]) ∧ w'.ownsRow w.heap.size 134 1 v' L.length (bZ L) ∧ Gr w w') := HC.out.mono fun e w' h => by
   rcases h with ⟨⟨h1, _⟩ | ⟨L', v', h1, h2, h3⟩, h4⟩
   · rw [hc] at h1; cases h1
   · rw [hc] at h1; obtain rfl := Option.some.inj h1; exact ⟨v', h2, h3, h4⟩
  have hok := (jc hc).2
  have hlen := BQ hc
  have H1 := fun W a (t : Tz W) (s : Sl W a L) => adr a L W t s hok.small (by omega)
  have h8 : (nfc L).length ≤ 1000000 := by have := yH L; have := MC L; omega
  have H2 := fun W a (s : Sl W a (nfc L)) => WX a (nfc L) W s (QL hok) h8
  have HT : dn b = some (bP (nfc L)) := by unfold dn; rw [hc]; rfl
  obtain ⟨M, hM⟩ : ∃ M, nfc L = M := ⟨_, rfl⟩
  rw [hM] at H1 H2 HT
  obtain ⟨c, hcc⟩ : ∃ c, bP M = c := ⟨_, rfl⟩
  rw [hcc] at H2 HT
  have H1 := hid H1
  have H2 := hid H2
  have HT := hid HT
  clear HC hc hv hl hok hlen h8 hM hcc
  go_enter Tryz.func34, Tryz.ntmps34
  go_wp2_with (first
   | (go_at_call 67; refine H0.out.mono ?_; clear H0; rintro e w1 ⟨v1, rfl, h1, g1⟩; have S1 := hid (Sl.jB h1); clear h1)
   | (go_at_call 70; refine (H1.out w1 v1 (ht.gr g1) S1.out).mono ?_; clear H1; rintro e w2 ⟨v2, rfl, h2, g2⟩; have S2 := hid (Sl.jB h2); clear h2)
   | (go_at_call 69; refine (H2.out w2 v2 S2.out).mono ?_; clear H2; rintro e w3 ⟨v3, rfl, h3, g3⟩; have R3 := hid h3; clear h3))
  go_ret2
  exact ⟨.inr ⟨c, _, HT.out, rfl, R3.out.mono' (g1.trans g2).size⟩, (g1.trans g2).trans g3⟩
attribute [local go_sem] Oper.semAt_some
open Go.ChangeShapes Go.WideShapes Go.ChangeAt Go.RowKit Go.Lib Go.Shelf
abbrev Fg : List (String × DataW Unit) := [("math/bits.deBruijn32tab", Rows.laid_math_bits_deBruijn32tab), ("math/bits.deBruijn64tab", Rows.laid_math_bits_deBruijn64tab), ("internal/strconv.uint64pow10", Rows.laid_internal_strconv_uint64pow10), ("unicode/utf8.acceptRanges", Rows.laid_unicode_utf8_acceptRanges), ("unicode/utf8.first", Rows.laid_unicode_utf8_first)]
def ren5 : Ren := { f := id, t := fun n => if n = 5 then 5 else if n = 119 then 161 else if n = 138 then 163 else if n = 139 then 164 else n, g := fun n => if n = 3 then 0 else if n = 4 then 1 else n }
theorem agA : U8Types Tryz.prog ren5 := ⟨by kernel_rfl, by kernel_rfl, by kernel_rfl, by kernel_rfl⟩
theorem agB : U8Extra Tryz.prog ren5 := ⟨by kernel_rfl, by kernel_rfl, by kernel_rfl, by kernel_rfl, by kernel_rfl, by kernel_rfl, by kernel_rfl⟩
theorem WY : (Rows.laid_unicode_utf8_acceptRanges : DataW Unit) = acceptData := by kernel_rfl
theorem Oz {W : World} (h : laidMetH Tryz.prog Fg W) : Tz W ∧ Ut W := by
 rw [MakeChecks.laidMetH_plain _ _ _ (by kernel_rfl)] at h
 constructor
 · have h1 := h.tail
   have ht : Lib.TabIs Tryz.prog W "math/bits.deBruijn64tab" .u8 [0, 1, 56, 2, 57, 49, 28, 3, 61, 58, 42, 50, 38, 29, 17, 4, 62, 47, 59, 36, 45, 43, 51, 22, 53, 39, 33, 30, 24, 18, 12, 5, 63, 55, 48, 27, 60, 41, 37, 16, 46, 35, 44, 21, 52, 32, 23, 11, 54, 26, 40, 15, 34, 20, 31, 10, 25, 14, 19, 9, 13, 8, 7, 6] :=
    Lib.tabIs_of_head g64 ty64 Tryz.underlying237 Tryz.underlying5 (by kernel_rfl) (by kernel_rfl) h1
   exact ht.cell g64 15 (by decide)
 · have h3 : VarReads Tryz.prog W "unicode/utf8.first" firstData := Pinned.utf8First_eq ▸ Lib.laidMet.reads h (by simp [Rows.laid_unicode_utf8_first])
   have h4 : VarReads Tryz.prog W "unicode/utf8.acceptRanges" acceptData := WY ▸ Lib.laidMet.reads h (by simp)
   exact utf8Tabs_of_readsT agA agB h3 h4
theorem met5 (os : Os) (args : Array Value) : laidMetH Tryz.prog Fg ((World.laidAll Tryz.prog os Fg).forCall (fun _ _ => 0) ⟨#[], args, []⟩).memory := by
 rw [MakeChecks.laidMetH_plain _ _ _ (by kernel_rfl)]
 exact laidMet_laidAll _ (by kernel_rfl) (by kernel_rfl)
end Go.Proofs.YthlflglkdaainaaGreatDoor
