import Derived.WideKeyEntry
import Derived.Lib.ConvBytes
import Derived.Lib.AtoiErrMem
import Derived.Test.YthlflglkdaainaaGreatDoorGM
import Derived.Test.YthlflglkdaainaaGreatDoorGP
import Derived.Test.YthlflglkdaainaaGreatDoorZRX
import Derived.Test.YthlflglkdaainaaGreatDoorGZ
/- Texts of this seat: VHs, VIt, VData, Vd0, Vd1, Vd2, Vd3, VLn, VMap, VJ1, VRf, VJ2, VJ3, VJudge, VRn, VRd, VRj, VTu, Vd4, VTg, VRp, VRt, VRq, VRr, VLight, VAx, VAw, VRs. -/
set_option maxRecDepth 100000
set_option maxHeartbeats 16000000
namespace Go.Proofs.YthlflglkdaainaaGreatDoor.Tr
open Go.RowKit Go.Lib Go.Maps Go.Proofs.YthlflglkdaainaaGreatDoorW.aN Go.Proofs.YthlflglkdaainaaGreatDoorW.bI Go.Proofs.YthlflglkdaainaaGreatDoorW.cZ Go.Proofs.YthlflglkdaainaaGreatDoor.Prt
theorem ahw {lt : Nat → Nat → Bool} {i : Nat} {o : List Nat} {j : Nat} (h : j ≤ o.length) (h1 : ∀ x ∈ o.take j, lt x i = true) (h2 : ∀ h : j < o.length, lt o[j] i = false) : (([] : List Int) ++ iw (o.take j) ++ [(i : Int)]) ++ iw (o.drop j) = iw (PU lt i o) := by
 obtain ⟨e1, e2⟩ := Bj (p := fun x => lt x i) o j h h1 h2
 unfold PU iw
 rw [e1, e2, List.map_append, List.map_cons]
 simp
theorem VO {W1 w6 w7 : World} {g n : Nat} {A6 : Option Addr} {c6 : Nat} {l : List Int} (hb : Below W1.heap.size W1 w6) (ho : Kd.R (Kd.int .u8) 5 w6 W1.heap.size (fun _ => True) (.slice A6 n c6) l) (hg : g < W1.heap.size) (hw : w7 = w6.setCell ⟨g, 3, none⟩ (.slice A6 n c6)) :
    Kd.R (Kd.int .u8) 5 w7 W1.heap.size (fun _ => True) (.slice A6 n c6) l ∧ Below g W1 w7 := by
 subst hw
 refine ⟨Kd.dF (Kd.Gp (p := ⟨g, 3, none⟩) (Kd.dR ho) (fun k hk => by have := hk.2.1; show k ≠ g; omega) _) (fun _ _ => trivial), (hb.mono (Nat.le_of_lt hg)).setCell (p := ⟨g, 3, none⟩) (Nat.le_refl _) _⟩
theorem JK {w6 w7 : World} {g : Nat} {v3 u0 u1 u2 u3 : Value} (hw : w7 = w6.setCell ⟨g, 3, none⟩ v3) (h0 : w6.cell? ⟨g, 0, none⟩ = some u0) (h1 : w6.cell? ⟨g, 1, none⟩ = some u1) (h2 : w6.cell? ⟨g, 2, none⟩ = some u2) (h3 : w6.cell? ⟨g, 3, none⟩ = some u3) :
    w7.cell? ⟨g, 0, none⟩ = some u0 ∧ w7.cell? ⟨g, 1, none⟩ = some u1 ∧ w7.cell? ⟨g, 2, none⟩ = some u2 ∧ w7.cell? ⟨g, 3, none⟩ = some v3 := by
 subst hw
 refine ⟨?_, ?_, ?_, World.cell?_setCell_same _ _ _ h3⟩
 · rw [World.cell?_setCell_other _ _ _ _ (by simp)]; exact h0
 · rw [World.cell?_setCell_other _ _ _ _ (by simp)]; exact h1
 · rw [World.cell?_setCell_other _ _ _ _ (by simp)]; exact h2
theorem abu (L : List It) (hs : ∀ x ∈ L, x.f1.size ≤ 100000) (A : Option Addr) (c : Nat) (hc : L.length ≤ c) (w : World) (hC : Kd.C kIt w A L.length L) (h14 : checkN L ≠ 14) :
    Calls Tryz.prog 61 #[.slice A L.length c] w fun e w' => ∃ v, e = .returned (.tuple #[v, .int .i64 0]) ∧ Kd.R kIt 53 w' w.heap.size (fun _ => True) v (sortL L) ∧ Below w.heap.size w w' := by
 have hu53 := Tryz.underlying53
 have HC := ah.mk hC
 have hl64 := (dB h14).1
 have HK := ah.mk (fun W (B : Below w.heap.size w W) => uM L hs A c hc W (Kd.aT hC B))
 have HP : ah (∀ W (i : Nat), i < L.length → Below w.heap.size w W → Calls Tryz.prog 55 #[.slice A L.length c, .int .i64 i] W fun e w' => ∃ A3 c3, e = .returned (.slice A3 (bQ L i).length c3) ∧ ah ((bQ L i).length ≤ c3 ∧ Kd.C Kd.string w' A3 (bQ L i).length (bQ L i)) ∧ Below W.heap.size W w') := ⟨fun W i hi B => (XT L hs i A c hc W (Kd.aT hC B)).mono fun e w' h => by
  obtain ⟨v, rfl, h1, h2⟩ := h
  rw [Qb h14 hi] at h1
  obtain ⟨A3, c3, rfl⟩ := Kd.bW h1
  exact ⟨A3, c3, rfl, ⟨(Kd.bJ h1).2⟩, h2⟩⟩
 have HLs : ah (∀ W A3 c3 A4 c4 (x i : Nat), ((bQ L x).length ≤ c3 ∧ Kd.C Kd.string W A3 (bQ L x).length (bQ L x)) → ((bQ L i).length ≤ c4 ∧ Kd.C Kd.string W A4 (bQ L i).length (bQ L i)) → x ≤ 64 → Calls Tryz.prog 89 #[.slice A3 (bQ L x).length c3, .slice A4 (bQ L i).length c4] W fun e w' => e = .returned (.bool (ltP L x i)) ∧ Below W.heap.size W w') := ⟨fun W A3 c3 A4 c4 x i h1 h2 hx => by
  obtain ⟨k, hk⟩ := (aes (bQ L x) (bQ L i) (by have := abm L x; omega)).rounds
  exact (aJ.calls k A3 c3 _ A4 c4 _ _ W h1.2 h1.1 h2.2 h2.1 hk).mono fun e w' h => ⟨h.1, h.2.below⟩⟩
 have ahr : (checkN L == 14) = false := by rw [beq_eq_false_iff_ne]; exact h14
 generalize checkN L = y at HK ahr
 clear hC
 go_enter Tryz.func61, Tryz.ntmps61
 go_wp2_with (first
  | (go_at_call 58; with_reducible refine (HK.out _ (Below.refl _ _)).mono ?_; rintro e w1 ⟨rfl, hb1⟩))
 go_loopg [4, 5] L.length (fun gg v4 v5 wr => ∃ i : Nat, i ≤ L.length ∧ L.length - i ≤ gg ∧ v5 = .int .i64 i ∧ ah (Kd.R (Kd.int .i64) 3 wr w.heap.size (fun _ => True) v4 (iw (yh (ltP L) i)) ∧ Below w.heap.size w wr))
 case atStart => exact ⟨0, Nat.zero_le _, by omega, rfl, ⟨Kd.mP _ _ _ _ _, hb1⟩⟩
 case round =>
  clear hb1 HK
  obtain ⟨i, hi, hg, rfl, HI⟩ := hrel
  by_cases hlt : i < L.length
  · have hltz : (i : Int) < (L.length : Int) := by omega
    have hOl : (yh (ltP L) i).length = i := by rw [(tq (ltP L) i).length_eq, List.length_range]
    have hOm := ah.mk (fun x (hx : x ∈ yh (ltP L) i) => ( List.mem_range.1 ((tq (ltP L) i).mem_iff.1 hx) : x < i))
    obtain ⟨O1, hO1⟩ : ∃ x, x = yh (ltP L) (i + 1) := ⟨_, rfl⟩
    have hins := ah.mk (show O1 = PU (ltP L) i (yh (ltP L) i) from hO1)
    have HO1 := ah.mk hO1
    clear hO1
    generalize yh (ltP L) i = O at HI hOl hOm hins
    obtain ⟨Ao, co, eo⟩ := Kd.bW HI.out.1
    rw [pO, hOl] at eo
    subst eo
    go_wp2
    go_loopg [6] i (fun gg v6 wr => ∃ j : Nat, j ≤ i ∧ i - j ≤ gg ∧ v6 = .int .i64 j ∧ ah (∀ x ∈ O.take j, ltP L x i = true) ∧ ah (Kd.R (Kd.int .i64) 3 wr w.heap.size (fun _ => True) (.slice Ao i co) (iw O) ∧ Below w.heap.size w wr))
    case atStart => exact ⟨0, Nat.zero_le _, by omega, rfl, ⟨fun x hx => by simp at hx⟩, HI⟩
    case round =>
     clear HI
     obtain ⟨j, hj, hgj, rfl, HT, HI⟩ := hrel
     have hj0 : (0 : Int) ≤ (j : Int) := by omega
     have three : (∃ h : j < O.length, ltP L O[j] i = true) ∨ (∃ h : j < O.length, ltP L O[j] i = false) ∨ j = i := by
      rcases Nat.lt_or_ge j O.length with h | h
      · cases hl : ltP L O[j] i with
        | true => exact .inl ⟨h, hl⟩
        | false => exact .inr (.inl ⟨h, hl⟩)
      · exact .inr (.inr (by omega))
     have HN : ah ((∀ h : j < O.length, ltP L O[j] i = false) → (([] : List Int) ++ iw (O.take j) ++ [(i : Int)]) ++ iw (O.drop j) = iw O1) := ⟨fun h => by rw [hins.out]; exact ahw (by omega) HT.out h⟩
     rcases three with ⟨h1, h2⟩ | ⟨h1, h2⟩ | h1
     case inl =>
      obtain ⟨x, hx⟩ : ∃ x, x = O[j] := ⟨_, rfl⟩
      have hxm : x < i := hOm.out x (by rw [hx]; exact List.getElem_mem h1)
      have hjz : (j : Int) < (i : Int) := by omega
      obtain ⟨ad, ea, hcell⟩ := Kd.CG (Kd.bJ HI.out.1).2.2 (j : Int) hj0 (by rw [pO]; omega)
      rw [Qc h1, ← hx, Int.toNat_natCast] at hcell
      subst ea
      have h3 : ah (ltP L x i = true) := ⟨by rw [hx]; exact h2⟩
      replace hx := ah.mk hx
      clear h2
      go_wp2_with (first
       | (go_at_call 55; (with_reducible refine (HP.out _ x (by omega) HI.out.2).mono ?_; rintro e w2 ⟨A2, c2, rfl, hp2, hb2⟩; have hb20 := HI.out.2.trans (hb2.mono HI.out.2.size)))
       | (go_at_call 55; (with_reducible refine (HP.out _ i hlt hb20).mono ?_; rintro e w3 ⟨A3, c3, rfl, hp3, hb3⟩; have hb30 := hb20.trans (hb3.mono hb20.size); have HL1 := HLs.out w3 A2 c2 A3 c3 x i ⟨hp2.out.1, Kd.aT hp2.out.2 hb3⟩ hp3.out (by omega); rw [h3.out] at HL1))
       | (go_at_call 89; with_reducible refine HL1.mono ?_; rintro e w4 ⟨rfl, hb4⟩; have hb40 := hb30.trans (hb4.mono hb30.size)))
      have HR4 := Kd.dw (Kd.dw (Kd.dw HI.out.1 hb2) hb3) hb4
      go_roundg (i - (j + 1))
      case measure => omega
      case rel =>
       refine ⟨j + 1, by omega, by omega, by go_num, ⟨fun y hy => ?_⟩, ⟨HR4, hb40⟩⟩
       rw [List.take_succ_eq_append_getElem h1] at hy
       rcases List.mem_append.1 hy with hy | hy
       · exact HT.out y hy
       · rw [List.mem_singleton.1 hy, ← hx.out]; exact h3.out
     case' inr.inl =>
      have HE := ah.mk (HN.out fun _ => h2)
      obtain ⟨x, hx⟩ : ∃ x, x = O[j] := ⟨_, rfl⟩
      have hxm : x < i := hOm.out x (by rw [hx]; exact List.getElem_mem h1)
      have hjz : (j : Int) < (i : Int) := by omega
      obtain ⟨ad, ea, hcell⟩ := Kd.CG (Kd.bJ HI.out.1).2.2 (j : Int) hj0 (by rw [pO]; omega)
      rw [Qc h1, ← hx, Int.toNat_natCast] at hcell
      subst ea
      have h3 : ah (ltP L x i = false) := ⟨by rw [hx]; exact h2⟩
      replace hx := ah.mk hx
      clear h2
      go_upto_region 11 with (first
       | (go_at_call 55; (with_reducible refine (HP.out _ x (by omega) HI.out.2).mono ?_; rintro e w2 ⟨A2, c2, rfl, hp2, hb2⟩; have hb20 := HI.out.2.trans (hb2.mono HI.out.2.size)))
       | (go_at_call 55; (with_reducible refine (HP.out _ i hlt hb20).mono ?_; rintro e w3 ⟨A3, c3, rfl, hp3, hb3⟩; have hb30 := hb20.trans (hb3.mono hb20.size); have HL1 := HLs.out w3 A2 c2 A3 c3 x i ⟨hp2.out.1, Kd.aT hp2.out.2 hb3⟩ hp3.out (by omega); rw [h3.out] at HL1))
       | (go_at_call 89; with_reducible refine HL1.mono ?_; rintro e w4 ⟨rfl, hb4⟩; have hb40 := hb30.trans (hb4.mono hb30.size)))
      have HQ := ah.mk (⟨Kd.dw (Kd.dw (Kd.dw HI.out.1 hb2) hb3) hb4, hb40⟩ : Kd.R (Kd.int .i64) 3 w4 w.heap.size (fun _ => True) (.slice (some ad) i co) (iw O) ∧ Below w.heap.size w w4)
      obtain ⟨wq, hwq⟩ : ∃ x, x = w4 := ⟨_, rfl⟩
      obtain ⟨Aq, hAq⟩ : ∃ x, x = some ad := ⟨_, rfl⟩
      rw [← hwq, ← hAq] at HQ ⊢
      clear hwq hAq hb40 hb4 HL1 hb30 hb3 hp3 hb20 hb2 hp2 HI hcell h3 HN
     case' inr.inr =>
      have HE := ah.mk (HN.out fun h => absurd h (by omega))
      have hjz : ¬ (j : Int) < (i : Int) := by omega
      clear h1
      go_upto_region 11 with (fail)
      have HQ := HI
      obtain ⟨wq, hwq⟩ : ∃ x, x = wr := ⟨_, rfl⟩
      obtain ⟨Aq, hAq⟩ : ∃ x, x = Ao := ⟨_, rfl⟩
      rw [← hwq, ← hAq] at HQ ⊢
      clear hwq hAq HI HN
     all_goals
      obtain ⟨iz, hiz, _, hsz, _⟩ := info_parts info3
      have hroom := (Kd.bJ HQ.out.1).2.1
      have hC0 := (Kd.bJ HQ.out.1).2.2
      have hXl : (iw O).length = i := by rw [pO]; exact hOl
      have eT : (iw O).take j = iw (O.take j) := by unfold iw; rw [List.map_take]
      have eD : (iw O).drop j = iw (O.drop j) := by unfold iw; rw [List.map_drop]
      have lT : (iw (O.take j)).length = j := by rw [pO, List.length_take]; omega
      have lD : (iw (O.drop j)).length = i - j := by rw [pO, List.length_drop]; omega
      have aji := agW (P := Tryz.prog) 76 3 .i64 Tryz.underlying76 hiz Aq i co (j : Int) hj0 (by omega) (by omega)
      have abv := aaz (P := Tryz.prog) 76 3 .i64 Tryz.underlying76 hiz 1 hsz Aq i co (j : Int) hj0 (by omega)
      simp only [Int.toNat_natCast] at aji abv
      have hrA := Kd.agZ (m := j) hC0 (by omega)
      have hrB := Kd.aha (m := j) (c := co) hC0 (by omega) (by omega)
      rw [eT, lT] at hrA
      rw [eD, lD] at hrB
      obtain ⟨AB, hAB⟩ : ∃ x, x = (if co = j then Aq else Aq.map (·.add (j * 1))) := ⟨_, rfl⟩
      replace hrB : Kd.C (Kd.int .i64) wq AB (i - j) (iw (O.drop j)) := by rw [hAB]; exact hrB
      rw [← hAB] at abv
      obtain ⟨cB, hcB⟩ : ∃ x, x = co - j := ⟨_, rfl⟩
      obtain ⟨nB, hnB⟩ : ∃ x, x = i - j := ⟨_, rfl⟩
      rw [← hcB, ← hnB] at abv
      rw [← hnB] at hrB lD
      have LT := ah.mk lT
      have LD := ah.mk lD
      have hrA := ah.mk hrA
      have hrB := ah.mk hrB
      have hnB2 : nB ≤ i := by omega
      clear eT eD lT lD hC0 hroom hXl hAB hcB hnB hiz hsz HT
      have hji : (j : Int) ≤ (i : Int) := by omega
      go_wp2_with (first
       | ((with_reducible refine dH (b := .append) (xs := #[.tmp 40, .tmp 43]) rfl ?_); at_builtin; refine Kd.kZ (Kd.int .i64) (w0 := wq) wq.heap.size rfl (.tmp 40) (.tmp 43) 76 3 (.int .i64 0) 8 rfl Tryz.underlying76 info3 rfl (by decide) (by omega) (.slice none 0 0) ([] : List Int) (iw (O.take j)) _ _ _ (fun _ => True) (fun _ => False) rfl rfl (Kd.mP _ _ _ _ _) hrA.out (fun _ _ h => h) (fun _ h => h.elim) (fun _ _ => trivial) (Below.refl wq.heap.size wq) (Below.refl wq.heap.size wq).size ?aL ?_; (case aL => show (0 + j) * 8 ≤ _; omega); intro v11 w11 ho11 hb11 hg11 hat11)
       | ((with_reducible refine dH (b := .append) (xs := #[.tmp 44, .tmp 46]) rfl ?_); at_builtin; refine Kd.nX (Kd.int .i64) (w0 := wq) wq.heap.size rfl (.tmp 44) (.tmp 46) 76 3 (.int .i64 0) 8 rfl Tryz.underlying76 info3 rfl (by decide) (by omega) v11 (([] : List Int) ++ iw (O.take j)) (i : Int) [.int .i64 i] (fun _ => True) (fun _ => False) rfl rfl rfl (fun _ h => h.elim) (fun _ _ => trivial) ho11 hb11 hb11.size ?aL ?_; (case aL => rw [List.nil_append, LT.out]; omega); intro v12 w12 ho12 hb12 hg12 hat12; have hrB2 := ah.mk (Kd.aT hrB.out hb12))
       | ((with_reducible refine dH (b := .append) (xs := #[.tmp 48, .tmp 51]) rfl ?_); at_builtin; refine Kd.kZ (Kd.int .i64) (w0 := wq) wq.heap.size rfl (.tmp 48) (.tmp 51) 76 3 (.int .i64 0) 8 rfl Tryz.underlying76 info3 rfl (by decide) (by omega) v12 ((([] : List Int) ++ iw (O.take j)) ++ [(i : Int)]) (iw (O.drop j)) _ _ _ (fun _ => True) (fun _ => False) rfl rfl ho12 hrB2.out (fun _ _ h => h) (fun _ h => h.elim) (fun _ _ => trivial) hb12 hb12.size ?aL ?_; (case aL => rw [List.length_append, List.nil_append, LT.out]; show (j + 1 + nB) * 8 ≤ _; omega); intro v13 w13 ho13 hb13 hg13 hat13))
      go_roundg (L.length - (i + 1))
      case measure => omega
      case rel => exact ⟨i + 1, by omega, by omega, by go_num, ⟨by rw [← HO1.out, ← HE.out]; exact Kd.dY ho13 HQ.out.2.size, HQ.out.2.trans (hb13.mono HQ.out.2.size)⟩⟩
  · obtain rfl : i = L.length := by omega
    have HR := HI.out
    clear HI
    rw [show iw (yh (ltP L) L.length) = uJ L from rfl] at HR
    obtain ⟨Ao, co, eo⟩ := Kd.bW HR.1
    rw [tu] at eo
    subst eo
    go_wp2_with (first | ((with_reducible refine dA (N := 55) rfl ?_); refine Kd.rM (Kd.int .i64) w.heap.size 3 rfl (N := 55) rfl 76 _ _ rfl (L.length : Int) rfl rfl Tryz.underlying76 (.int .i64 0) 8 info3 rfl (by decide) (by omega) 0 (ok := fun _ => True) (okp := fun _ => True) rfl (fun _ hk => hk) trivial (by omega) (by omega) HR.2 HR.2.size ?_; intro va w7 hra hb7 hg7 hn7; rw [Int.toNat_natCast] at hra; obtain ⟨Aa, ca, ea⟩ := Kd.bW hra; rw [List.length_replicate] at ea; subst ea))
    have HT := ah.mk (JF hb7 HR.1 hg7 hra hn7)
    clear hb7 HR hg7 hra hn7
    go_loopg [9] L.length (fun gg v9 wr => ∃ k : Nat, k ≤ L.length ∧ L.length - k ≤ gg ∧ v9 = .int .i64 k ∧ ah (So2 w L Ao co Aa ca k wr))
    case atStart => exact ⟨0, Nat.zero_le _, by omega, rfl, HT⟩
    case round =>
     clear HT hi hg hlt
     obtain ⟨k, hk, hg, rfl, HI⟩ := hrel
     by_cases hlt : k < L.length
     · obtain ⟨ga, go, q, rfl, rfl, hq, hoq, x1, ⟨u, x2⟩, x3, HN⟩ := JG HI.out hlt
       have hkz : (k : Int) < (L.length : Int) := by omega
       have hqz : (q : Int) < (L.length : Int) := by omega
       have HN := ah.mk HN
       clear HI hoq
       go_wp2
       go_roundg (L.length - (k + 1))
       case measure => omega
       case rel => exact ⟨k + 1, by omega, by omega, by go_num, ⟨HN.out _ rfl⟩⟩
     · obtain rfl : k = L.length := by omega
       have HW := HI.out
       clear HI hg hlt hk
       obtain ⟨al, hal, hra, hv⟩ := HW.ats
       have HCa := ah.mk (Kd.bJ hra).2.2
       have HCo := ah.mk (Kd.bJ HW.os).2.2
       have HBw := ah.mk HW.below
       have HV := ah.mk (fun p (hp : p < L.length) => hv p hp (GL hp))
       clear hra hv HW
       obtain ⟨w9, hw9⟩ : ∃ x, x = wr := ⟨_, rfl⟩
       rw [← hw9] at HCa HCo HBw ⊢
       clear hw9
       go_wp2
       go_loopg [10, 11] L.length (fun gg v10 v11 wr => ∃ k : Nat, k ≤ L.length ∧ L.length - k ≤ gg ∧ v11 = .int .i64 k ∧ ah (Kd.R kIt 53 wr w9.heap.size (fun _ => True) v10 ((sortL L).take k) ∧ Below w9.heap.size w9 wr))
       case atStart => exact ⟨0, Nat.zero_le _, by omega, rfl, ⟨by rw [List.take_zero]; exact Kd.mP _ _ _ _ _, Below.refl _ _⟩⟩
       case round =>
        obtain ⟨k, hk, hg, rfl, HI⟩ := hrel
        by_cases hlt : k < L.length
        · have hkz : (k : Int) < (L.length : Int) := by omega
          obtain ⟨q, hq, hrd, hoq, hix⟩ := RY hlt
          have hqz : (q : Int) < (L.length : Int) := by omega
          obtain ⟨p1', p2'⟩ := Ew h14 hq
          have p3' := aex h14 hq
          have hle := HI.out.2.size
          have hkl : ((sortL L).take k).length = k := by rw [List.length_take, mD]; omega
          have htk : (sortL L).take (k + 1) = (sortL L).take k ++ [itS L q] := by
           rw [List.take_add_one]
           unfold sortL
           rw [List.getElem?_map, hoq]; rfl
          obtain ⟨ado, eo, o1⟩ := Kd.CG (Kd.aT HCo.out HI.out.2) (k : Int) (by omega) (by rw [tu]; omega)
          rw [hrd, Int.toNat_natCast] at o1
          obtain ⟨adx, A3, c3, ex, x0, x1, x2, x3, xl, xg⟩ := bC (Kd.aT HC.out (HBw.out.trans (HI.out.2.mono HBw.out.size))) (q : Int) (by omega) hqz
          rw [Int.toNat_natCast] at x0 x1 x2 x3
          subst eo ex
          clear hrd hoq
          have htk := ah.mk htk
          by_cases hp : (itA L (q : Int)).f0 = -1
          · have hit : itS L q = ⟨-1, (itA L (q : Int)).f1, (itA L (q : Int)).f2, (itA L (q : Int)).f3⟩ := by unfold itS; rw [if_pos hp]
            change (wr.cell? _ = some (.int .i64 (itA L (q : Int)).f0)) at x0
            rw [hp] at x0
            have hit := ah.mk hit
            have hB1 := aI (Below.refl wr.heap.size wr) (Obj.cells #[.int .i64 (-1), .string (itA L (q : Int)).f1, .bool (itA L (q : Int)).f2, .slice A3 (itA L (q : Int)).f3.length c3] 53)
            have hg1 : wr.heap.size < (wr.alloc (Obj.cells #[.int .i64 (-1), .string (itA L (q : Int)).f1, .bool (itA L (q : Int)).f2, .slice A3 (itA L (q : Int)).f3.length c3] 53)).heap.size := by rw [World.size_alloc]; exact Nat.lt_succ_self _
            have hnew : ∀ j : Nat, (wr.alloc (Obj.cells #[.int .i64 (-1), .string (itA L (q : Int)).f1, .bool (itA L (q : Int)).f2, .slice A3 (itA L (q : Int)).f3.length c3] 53)).cell? ⟨wr.heap.size, j, none⟩ = (#[.int .i64 (-1), .string (itA L (q : Int)).f1, .bool (itA L (q : Int)).f2, .slice A3 (itA L (q : Int)).f3.length c3] : Array Value)[j]? := fun j => World.cell?_alloc_new wr _ _ j
            have hfro : ∀ j : Nat, (wr.alloc (Obj.cells #[.int .i64 (-1), .string (itA L (q : Int)).f1, .bool (itA L (q : Int)).f2, .slice A3 (itA L (q : Int)).f3.length c3] 53)).frozen? ⟨wr.heap.size, j, none⟩ = false := fun j => by simp [go_sem]
            obtain ⟨W1, hW1⟩ : ∃ x, x = wr.alloc (Obj.cells #[.int .i64 (-1), .string (itA L (q : Int)).f1, .bool (itA L (q : Int)).f2, .slice A3 (itA L (q : Int)).f3.length c3] 53) := ⟨_, rfl⟩
            go_upto_region 25 with (fail)
            rw [← hW1] at hB1 hg1 hnew hfro ⊢
            clear hW1
            have n0 := hnew 0
            have n3 := hnew 3
            have f3 := hfro 3
            have XG := ah.mk (Kd.aT xg hB1)
            go_wp2_with (first
             | ((with_reducible refine dA (N := 91) rfl ?_); refine Kd.Uu (Kd.int .u8) (w0 := W1) W1.heap.size 5 rfl (N := 91) rfl (xs := ([] : List Int)) (inner := []) (ok := fun _ => True) (okp := fun _ => True) ?hr (kY.none _ _) (fun _ hk => hk) trivial (Below.refl _ _) (Nat.le_refl _) (by simp) ?_; (case hr => go_simp; done); intro v5 w5 ho5 hb5 hg5 hn5; have m3 := (hb5.cell (p := ⟨wr.heap.size, 3, none⟩) hg1).trans n3; have XG5 := ah.mk (Kd.aT XG.out hb5))
             | ((with_reducible refine dH (b := .append) (xs := #[.tmp 91, .tmp 93]) rfl ?_); at_builtin; refine Kd.kZ (Kd.int .u8) (w0 := W1) W1.heap.size rfl (.tmp 91) (.tmp 93) 46 5 (.int .u8 0) 1 rfl Tryz.underlying46 info5 rfl (by decide) (by omega) v5 ([] : List Int) (itA L (q : Int)).f3 _ _ _ (fun _ => True) (fun _ => False) rfl rfl ho5 XG5.out (fun _ _ h => h) (fun _ h => h.elim) (fun _ _ => trivial) hb5 hb5.size ?aL ?_; (case aL => show (0 + (itA L (q : Int)).f3.length) * 1 ≤ _; omega); intro v6 w6 ho6 hb6 hg6 hat6; obtain ⟨A6, c6, rfl⟩ := Kd.bW ho6; rw [List.nil_append] at ho6; have k0 := (hb6.cell (p := ⟨wr.heap.size, 0, none⟩) hg1).trans n0; have k1 := (hb6.cell (p := ⟨wr.heap.size, 1, none⟩) hg1).trans (hnew 1); have k2 := (hb6.cell (p := ⟨wr.heap.size, 2, none⟩) hg1).trans (hnew 2); have k3 := (hb6.cell (p := ⟨wr.heap.size, 3, none⟩) hg1).trans n3; have kf := (hb6.frozen (p := ⟨wr.heap.size, 3, none⟩) hg1).trans f3)
             | ((with_reducible refine jZ (t := 46) (p := 95) rfl ?_); refine je (t := 46) (p := 95) (v := ?vo) (w1 := w6.setCell ⟨wr.heap.size, 3, none⟩ (.slice A6 (itA L (q : Int)).f3.length c6)) ?hg ?ho ?hn ?hr ?_; (case ho => rfl); (case hg => rfl); (case hn => rfl); (case hr => go_simp; done); intro w7 hw7; have HS7 := ah.mk (VO hb6 ho6 hg1 hw7); obtain ⟨p0, p1, p2, p3⟩ := JK hw7 k0 k1 k2 k3; clear hw7)
             | ((with_reducible refine dH (b := .append) (xs := #[.tmp 96, .tmp 98]) rfl ?_); at_builtin; refine Kd.nX kIt (w0 := w9) (W := w7) w9.heap.size rfl (.tmp 96) (.tmp 98) 22 53 (.agg #[(.int .i64 0), (.string ⟨#[]⟩), (.bool false), (.slice none 0 0)]) 56 rfl Tryz.underlying22 uX rfl (by decide) (by omega) u10 ((sortL L).take k) (⟨(-1), (itA L (q : Int)).f1, (itA L (q : Int)).f2, (itA L (q : Int)).f3⟩ : It) [.int .i64 (-1), .string (itA L (q : Int)).f1, .bool (itA L (q : Int)).f2, .slice A6 (itA L (q : Int)).f3.length c6] (fun _ => True) (fun b => wr.heap.size ≤ b) rfl rfl ?aP ?aK (fun _ _ => trivial) ?aO ?aB ?aS ?aL ?_; (case aP => exact tN _ _ _ (⟨(-1), (itA L (q : Int)).f1, (itA L (q : Int)).f2, (itA L (q : Int)).f3⟩ : It) (Kd.dY (Kd.dF (Kd.dR HS7.out.1) (fun b hb => Nat.le_trans (Nat.le_of_lt hg1) hb.2.1)) (Nat.le_trans hle (Nat.le_of_lt hg1)))); (case aK => exact fun b hb => ⟨trivial, fun e => absurd (Kd.Ip HI.out.1 b e.symm) (Nat.not_lt.2 hb)⟩); (case aO => exact Kd.dw HI.out.1 (hB1.trans HS7.out.2)); (case aB => exact HI.out.2.trans ((hB1.trans HS7.out.2).mono HI.out.2.size)); (case aS => exact (HI.out.2.trans ((hB1.trans HS7.out.2).mono HI.out.2.size)).size); (case aL => rw [hkl]; omega); intro v8 w8 ho8 hb8 hg8 hat8))
            go_roundg (L.length - (k + 1))
            case measure => omega
            case rel => exact ⟨k + 1, by omega, by omega, by go_num, ⟨by rw [htk.out, hit.out]; exact ho8, hb8⟩⟩
          · obtain ⟨p, hpp⟩ : ∃ p : Nat, (itA L (q : Int)).f0 = p := ⟨(itA L (q : Int)).f0.toNat, by omega⟩
            have hpl : p < L.length := by omega
            have hit : itS L q = ⟨((oL L).idxOf p : Int), (itA L (q : Int)).f1, (itA L (q : Int)).f2, (itA L (q : Int)).f3⟩ := by unfold itS PX; rw [if_neg hp, hpp, Int.toNat_natCast]
            change (wr.cell? _ = some (.int .i64 (itA L (q : Int)).f0)) at x0
            rw [hpp] at x0
            have hp0 : (0 : Int) ≤ (p : Int) := by omega
            have hpz : (p : Int) < (L.length : Int) := by omega
            obtain ⟨ada, ea, a1⟩ := Kd.CG (Kd.aT HCa.out HI.out.2) (p : Int) hp0 (by omega)
            rw [HV.out p hpl, Int.toNat_natCast] at a1
            subst ea
            clear hp hpp p1' p2'
            have hit := ah.mk hit
            have a2 : ∀ o, (wr.alloc o).cell? (ada.add p) = some (.int .i64 ((oL L).idxOf p : Int)) := fun o => ((aI (Below.refl wr.heap.size wr) o).cell (World.block_lt_of_cell? wr _ a1)).trans a1
            have hB1 := aI (Below.refl wr.heap.size wr) (Obj.cells #[.int .i64 ((oL L).idxOf p : Int), .string (itA L (q : Int)).f1, .bool (itA L (q : Int)).f2, .slice A3 (itA L (q : Int)).f3.length c3] 53)
            have hg1 : wr.heap.size < (wr.alloc (Obj.cells #[.int .i64 ((oL L).idxOf p : Int), .string (itA L (q : Int)).f1, .bool (itA L (q : Int)).f2, .slice A3 (itA L (q : Int)).f3.length c3] 53)).heap.size := by rw [World.size_alloc]; exact Nat.lt_succ_self _
            have hnew : ∀ j : Nat, (wr.alloc (Obj.cells #[.int .i64 ((oL L).idxOf p : Int), .string (itA L (q : Int)).f1, .bool (itA L (q : Int)).f2, .slice A3 (itA L (q : Int)).f3.length c3] 53)).cell? ⟨wr.heap.size, j, none⟩ = (#[.int .i64 ((oL L).idxOf p : Int), .string (itA L (q : Int)).f1, .bool (itA L (q : Int)).f2, .slice A3 (itA L (q : Int)).f3.length c3] : Array Value)[j]? := fun j => World.cell?_alloc_new wr _ _ j
            have hfro : ∀ j : Nat, (wr.alloc (Obj.cells #[.int .i64 ((oL L).idxOf p : Int), .string (itA L (q : Int)).f1, .bool (itA L (q : Int)).f2, .slice A3 (itA L (q : Int)).f3.length c3] 53)).frozen? ⟨wr.heap.size, j, none⟩ = false := fun j => by simp [go_sem]
            obtain ⟨W1, hW1⟩ : ∃ x, x = wr.alloc (Obj.cells #[.int .i64 ((oL L).idxOf p : Int), .string (itA L (q : Int)).f1, .bool (itA L (q : Int)).f2, .slice A3 (itA L (q : Int)).f3.length c3] 53) := ⟨_, rfl⟩
            go_upto_region 25 with (fail)
            rw [← hW1] at hB1 hg1 hnew hfro ⊢
            clear hW1
            have n0 := hnew 0
            have n3 := hnew 3
            have f3 := hfro 3
            have XG := ah.mk (Kd.aT xg hB1)
            go_wp2_with (first
             | ((with_reducible refine dA (N := 91) rfl ?_); refine Kd.Uu (Kd.int .u8) (w0 := W1) W1.heap.size 5 rfl (N := 91) rfl (xs := ([] : List Int)) (inner := []) (ok := fun _ => True) (okp := fun _ => True) ?hr (kY.none _ _) (fun _ hk => hk) trivial (Below.refl _ _) (Nat.le_refl _) (by simp) ?_; (case hr => go_simp; done); intro v5 w5 ho5 hb5 hg5 hn5; have m3 := (hb5.cell (p := ⟨wr.heap.size, 3, none⟩) hg1).trans n3; have XG5 := ah.mk (Kd.aT XG.out hb5))
             | ((with_reducible refine dH (b := .append) (xs := #[.tmp 91, .tmp 93]) rfl ?_); at_builtin; refine Kd.kZ (Kd.int .u8) (w0 := W1) W1.heap.size rfl (.tmp 91) (.tmp 93) 46 5 (.int .u8 0) 1 rfl Tryz.underlying46 info5 rfl (by decide) (by omega) v5 ([] : List Int) (itA L (q : Int)).f3 _ _ _ (fun _ => True) (fun _ => False) rfl rfl ho5 XG5.out (fun _ _ h => h) (fun _ h => h.elim) (fun _ _ => trivial) hb5 hb5.size ?aL ?_; (case aL => show (0 + (itA L (q : Int)).f3.length) * 1 ≤ _; omega); intro v6 w6 ho6 hb6 hg6 hat6; obtain ⟨A6, c6, rfl⟩ := Kd.bW ho6; rw [List.nil_append] at ho6; have k0 := (hb6.cell (p := ⟨wr.heap.size, 0, none⟩) hg1).trans n0; have k1 := (hb6.cell (p := ⟨wr.heap.size, 1, none⟩) hg1).trans (hnew 1); have k2 := (hb6.cell (p := ⟨wr.heap.size, 2, none⟩) hg1).trans (hnew 2); have k3 := (hb6.cell (p := ⟨wr.heap.size, 3, none⟩) hg1).trans n3; have kf := (hb6.frozen (p := ⟨wr.heap.size, 3, none⟩) hg1).trans f3)
             | ((with_reducible refine jZ (t := 46) (p := 95) rfl ?_); refine je (t := 46) (p := 95) (v := ?vo) (w1 := w6.setCell ⟨wr.heap.size, 3, none⟩ (.slice A6 (itA L (q : Int)).f3.length c6)) ?hg ?ho ?hn ?hr ?_; (case ho => rfl); (case hg => rfl); (case hn => rfl); (case hr => go_simp; done); intro w7 hw7; have HS7 := ah.mk (VO hb6 ho6 hg1 hw7); obtain ⟨p0, p1, p2, p3⟩ := JK hw7 k0 k1 k2 k3; clear hw7)
             | ((with_reducible refine dH (b := .append) (xs := #[.tmp 96, .tmp 98]) rfl ?_); at_builtin; refine Kd.nX kIt (w0 := w9) (W := w7) w9.heap.size rfl (.tmp 96) (.tmp 98) 22 53 (.agg #[(.int .i64 0), (.string ⟨#[]⟩), (.bool false), (.slice none 0 0)]) 56 rfl Tryz.underlying22 uX rfl (by decide) (by omega) u10 ((sortL L).take k) (⟨((oL L).idxOf p : Int), (itA L (q : Int)).f1, (itA L (q : Int)).f2, (itA L (q : Int)).f3⟩ : It) [.int .i64 ((oL L).idxOf p : Int), .string (itA L (q : Int)).f1, .bool (itA L (q : Int)).f2, .slice A6 (itA L (q : Int)).f3.length c6] (fun _ => True) (fun b => wr.heap.size ≤ b) rfl rfl ?aP ?aK (fun _ _ => trivial) ?aO ?aB ?aS ?aL ?_; (case aP => exact tN _ _ _ (⟨((oL L).idxOf p : Int), (itA L (q : Int)).f1, (itA L (q : Int)).f2, (itA L (q : Int)).f3⟩ : It) (Kd.dY (Kd.dF (Kd.dR HS7.out.1) (fun b hb => Nat.le_trans (Nat.le_of_lt hg1) hb.2.1)) (Nat.le_trans hle (Nat.le_of_lt hg1)))); (case aK => exact fun b hb => ⟨trivial, fun e => absurd (Kd.Ip HI.out.1 b e.symm) (Nat.not_lt.2 hb)⟩); (case aO => exact Kd.dw HI.out.1 (hB1.trans HS7.out.2)); (case aB => exact HI.out.2.trans ((hB1.trans HS7.out.2).mono HI.out.2.size)); (case aS => exact (HI.out.2.trans ((hB1.trans HS7.out.2).mono HI.out.2.size)).size); (case aL => rw [hkl]; omega); intro v8 w8 ho8 hb8 hg8 hat8))
            go_roundg (L.length - (k + 1))
            case measure => omega
            case rel => exact ⟨k + 1, by omega, by omega, by go_num, ⟨by rw [htk.out, hit.out]; exact ho8, hb8⟩⟩
        · obtain rfl : k = L.length := by omega
          have hout := HI.out.1
          have hb9 := HBw.out.trans (HI.out.2.mono HBw.out.size)
          rw [List.take_of_length_le (by rw [mD]; exact Nat.le_refl _)] at hout
          clear HI
          go_wp2
          go_ret2
          exact ⟨_, rfl, Kd.dY hout HBw.out.size, hb9⟩
theorem Sv (L : List It) (hs : ∀ x ∈ L, x.f1.size ≤ 100000) (A : Option Addr) (c : Nat) (hc : L.length ≤ c) (w : World) (hC : Kd.C kIt w A L.length L) :
    Calls Tryz.prog 61 #[.slice A L.length c] w fun e w' => ∃ v, e = .returned (.tuple #[v, .int .i64 (GR L)]) ∧ Kd.R kIt 53 w' w.heap.size (fun _ => True) v (GN L) ∧ Below w.heap.size w w' := by
 unfold GR GN
 by_cases h14 : checkN L = 14
 · rw [if_pos h14, if_pos h14]
   have HK := uM L hs A c hc w hC
   rw [h14] at HK
   have HN := fun W => Kd.mP kIt 53 W w.heap.size (fun _ => True)
   clear hC
   go_enter Tryz.func61, Tryz.ntmps61
   go_wp2_with (first | (go_at_call 58; refine HK.mono ?_; rintro e w1 ⟨rfl, hb1⟩))
   go_ret2
   exact ⟨_, rfl, HN _, hb1⟩
 · rw [if_neg h14, if_neg h14]
   exact abu L hs A c hc w hC h14
open Go.RowKit Go.Lib Go.Joins Go.ChangeShapes Go.Deep Go.Proofs.YthlflglkdaainaaGreatDoorW.aN Go.Proofs.YthlflglkdaainaaGreatDoorW.bI Go.Proofs.YthlflglkdaainaaGreatDoorW.cZ Go.Proofs.YthlflglkdaainaaGreatDoor.Prt
theorem abw {H : Type} {enc : TypeId × Value → H} {w : World} {base : Nat} {spare held : _} {fuel : Nat} {cs : List Value} {x : DataW H × List MemPlace}
    (h : DataW.trod enc Tryz.prog w base spare held fuel 46 cs = some x) : ∃ A l c, cs = [.slice A l c] ∧ c ≤ maxLen ∧ (A = none → c = 0) := by
 rcases open_ints Tryz.underlying46 Tryz.underlying5 (by kernel_rfl) h with ⟨hcs, _⟩ | ⟨a, l, c, zs, hcs, _, hl, hm, hz, _, hcell, hwz⟩
 · exact ⟨none, 0, 0, hcs, by decide, fun _ => rfl⟩
 · exact ⟨some a, l, c, hcs, hm, fun h => by cases h⟩
def qy (w : World) (A : Option Addr) (n : Nat) : Prop := ∀ j, j < n → ∃ ad A3 l3 c3, A = some ad ∧ w.cell? (ad.add (j * 4 + 3)) = some (.slice A3 l3 c3) ∧ c3 ≤ maxLen ∧ (A3 = none → c3 = 0)
theorem qy.below {w w' : World} {A : Option Addr} {n : Nat} (h : qy w A n) (hb : Below w.heap.size w w') : qy w' A n := fun j hj => by
 obtain ⟨ad, A3, l3, c3, e, hc, h1, h2⟩ := h j hj
 exact ⟨ad, A3, l3, c3, e, (hb.cell (World.block_lt_of_cell? w _ hc)).trans hc, h1, h2⟩
theorem Xu {H : Type} {enc : TypeId × Value → H} {w : World} {base : Nat} {spare held : _} {fuel : Nat} {A : Option Addr} {n c : Nat} {x : DataW H × List MemPlace}
    (h : DataW.trod enc Tryz.prog w base spare held fuel 22 [.slice A n c] = some x) : qy w A n := by
 rcases open_slice Tryz.underlying22 h with ⟨hcs, _⟩ | ⟨a, len, cap, m, n', D, Pl, hcs, hb, hl, hm, hmm, _, hx⟩
 · cases hcs
   exact fun j hj => absurd hj (Nat.not_lt_zero _)
 · cases hcs
   have hlm : n ≤ m := by rw [hmm]; split <;> omega
   have hc4 : Tryz.prog.cellsOf 53 = 4 := by kernel_rfl
   intro i hi
   obtain ⟨cs', h1, h2⟩ := hx i (by omega)
   rw [hc4] at h1
   obtain ⟨_, hlen, hcell⟩ := World.cells?_some h1
   obtain ⟨y0, y1, y2, y3, k, _, _, t0, t1, t2, t3⟩ := trod_struct4 Tryz.underlying53 h2
   match cs', hlen with
   | [c0, c1, c2, c3], _ =>
    obtain ⟨A3, l3, cc, e3, hc1, hc2⟩ := abw t3
    have d3 : c3 = .slice A3 l3 cc := by
     have : [c3] = [Value.slice A3 l3 cc] := e3
     exact (List.cons.inj this).1
    subst d3
    refine ⟨a, A3, l3, cc, rfl, ?_, hc1, hc2⟩
    have h5 := hcell 3 (by omega)
    rw [Addr.add_add] at h5
    exact h5
def u8s (l : List Int) : List UInt8 := l.map fun n => UInt8.ofNat n.toNat
def i8s (b : List UInt8) : List Int := b.map fun x => (x.toNat : Int)
theorem NI {l : List Int} (h : rQ l) : i8s (u8s l) = l := by
 unfold i8s u8s
 rw [List.map_map]
 conv => rhs; rw [← List.map_id l]
 refine List.map_congr_left fun b hb => ?_
 have := h b hb
 show ((UInt8.ofNat b.toNat).toNat : Int) = b
 rw [UInt8.toNat_ofNat']
 omega
theorem aeA (b : List UInt8) : u8s (i8s b) = b := by
 unfold i8s u8s
 rw [List.map_map]
 conv => rhs; rw [← List.map_id b]
 refine List.map_congr_left fun x _ => ?_
 simp
theorem uN (l : List Int) : (u8s l).length = l.length := by simp [u8s]
theorem nS (b : List UInt8) : (i8s b).length = b.length := by simp [i8s]
theorem Sz (b : List UInt8) : rQ (i8s b) := by
 intro x hx
 obtain ⟨u, _, rfl⟩ := List.mem_map.1 hx
 have := u.toNat_lt
 constructor <;> omega
theorem VP {w : World} {A : Option Addr} {c : Nat} {l : List Int} (h : (Kd.int .u8).C w A l.length l) (hb : rQ l) (hl : l.length ≤ c) (h1 : c ≤ maxLen) (h2 : A = none → c = 0) : Bs w (.slice A l.length c) (u8s l) := by
 refine ⟨A, c, by rw [uN], by rw [uN]; exact hl, h1, h2, fun k hk => ?_⟩
 rw [uN] at hk
 obtain ⟨ad, rfl, hc⟩ := Kd.CG h (k : Int) (by omega) (by omega)
 rw [Int.toNat_natCast] at hc
 obtain ⟨ad0, e0, hc0⟩ := Kd.CG h 0 (by omega) (by omega)
 cases e0
 obtain ⟨b, off, spot⟩ := ad
 have hspot : spot = none := by simpa [Addr.add] using World.cell?_spot hc0
 subst hspot
 refine ⟨b, off, rfl, ?_⟩
 rw [show (Addr.mk b off none).add k = ⟨b, off + k, none⟩ from addr_add ..] at hc
 rw [hc]
 congr 2
 have hx := hb _ (List.getElem_mem hk)
 show l.getD (k : Int).toNat 0 = _
 rw [Int.toNat_natCast, List.getD_eq_getElem?_getD, List.getElem?_eq_getElem hk, Option.getD_some]
 unfold u8s
 rw [List.getD_eq_getElem?_getD, List.getElem?_map, List.getElem?_eq_getElem hk]
 show l[k] = ((UInt8.ofNat l[k].toNat).toNat : Int)
 rw [UInt8.toNat_ofNat']
 omega
open Go.RowKit Go.Lib Go.Proofs.YthlflglkdaainaaGreatDoorW.aN Go.Proofs.YthlflglkdaainaaGreatDoorW.bI Go.Proofs.YthlflglkdaainaaGreatDoorW.cZ Go.Proofs.YthlflglkdaainaaGreatDoor.Prt
noncomputable def dOf (b : List UInt8) : List UInt8 × Int := match dn b with
 | none => (b, 4)
 | some c => if 8192 < c.length then (b, 5) else (c, 0)
theorem NJ {W : World} {base : Nat} {v : Value} {b : List UInt8} (h : W.ownsRow base 5 1 v b.length (byteCells b)) : Kd.R (Kd.int .u8) 5 W base (fun _ => True) v (i8s b) := by
 refine Kd.sO ?_ (fun _ _ => trivial)
 rw [nS]
 have : encs (Value.int .u8) (i8s b) = byteCells b := by
  unfold encs i8s byteCells
  rw [List.map_map]; rfl
 rw [this]
 exact h
theorem abx (l : List Int) (A : Option Addr) (c : Nat) (w : World) (ht : Tz w) (hu : Ut w) (hC : (Kd.int .u8).C w A l.length l) (hb : rQ l) (hl : l.length ≤ c) (h1 : c ≤ maxLen) (h2 : A = none → c = 0) (hn : l.length ≤ 20000) :
    Calls Tryz.prog 57 #[.slice A l.length c] w fun e w' => ∃ v, e = .returned (.tuple #[v, .int .u8 (dOf (u8s l)).2]) ∧ Kd.R (Kd.int .u8) 5 w' w.heap.size (fun _ => True) v (i8s (dOf (u8s l)).1) ∧ Below w.heap.size w w' := by
 have HC := ah.mk hC
 have HT := Fe (.slice A l.length c) (u8s l) w ht hu (VP hC hb hl h1 h2) (by rw [uN]; exact hn)
 have HCl := fun W (B : Below w.heap.size w W) => clone_any l A c W (Kd.aT HC.out B) (by omega)
 clear hC
 cases hx : dn (u8s l) with
 | none =>
  have hd : dOf (u8s l) = (u8s l, 4) := by unfold dOf; rw [hx]
  rw [hd, NI hb]
  have HT2 : Calls Tryz.prog 34 #[.slice A l.length c] w fun e w' => e = .returned (.tuple #[.slice none 0 0, .int .i64 6]) ∧ Below w.heap.size w w' := HT.mono fun e w' h => by
   rcases h with ⟨⟨_, h1⟩ | ⟨c', v', h1, _⟩, h2⟩
   · exact ⟨h1, h2⟩
   · rw [hx] at h1; cases h1
  clear HT hx hd
  go_enter Tryz.func57, Tryz.ntmps57
  go_wp2_with (first
   | (go_at_call 34; with_reducible refine HT2.mono ?_; rintro e w1 ⟨rfl, hb1⟩)
   | (go_at_call 66; with_reducible refine (HCl _ hb1).mono ?_; rintro e w2 ⟨v2, rfl, hr2, hb2⟩; have hb20 := hb1.trans (hb2.mono hb1.size)))
  go_ret2
  exact ⟨_, rfl, Kd.dY hr2 hb1.size, hb20⟩
 | some c' =>
  have HT2 : Calls Tryz.prog 34 #[.slice A l.length c] w fun e w' => ∃ A' k, e = .returned (.tuple #[.slice A' c'.length k, .int .i64 0]) ∧ Kd.R (Kd.int .u8) 5 w' w.heap.size (fun _ => True) (.slice A' c'.length k) (i8s c') ∧ Below w.heap.size w w' := HT.mono fun e w' h => by
   rcases h with ⟨⟨h1, _⟩ | ⟨c2, v', h1, h3, h4⟩, h2⟩
   · rw [hx] at h1; cases h1
   · rw [hx] at h1
     cases h1
     have hr := NJ h4
     obtain ⟨A', k, rfl⟩ := Kd.bW hr
     rw [nS] at hr h3
     exact ⟨A', k, h3, hr, h2⟩
  clear HT
  by_cases hlen : 8192 < c'.length
  · have hd : dOf (u8s l) = (u8s l, 5) := by unfold dOf; rw [hx]; exact if_pos hlen
    rw [hd, NI hb]
    have hz : decide ((8192 : Int) < (c'.length : Int)) = true := decide_eq_true (by omega)
    clear hx hd hlen
    go_enter Tryz.func57, Tryz.ntmps57
    go_wp2_with (first
     | (go_at_call 34; with_reducible refine HT2.mono ?_; rintro e w1 ⟨A', k', rfl, hr1, hb1⟩)
     | (go_at_call 66; with_reducible refine (HCl _ hb1).mono ?_; rintro e w2 ⟨v2, rfl, hr2, hb2⟩; have hb20 := hb1.trans (hb2.mono hb1.size)))
    go_ret2
    exact ⟨_, rfl, Kd.dY hr2 hb1.size, hb20⟩
  · have hd : dOf (u8s l) = (c', 0) := by unfold dOf; rw [hx]; exact if_neg hlen
    rw [hd]
    have hz : decide ((8192 : Int) < (c'.length : Int)) = false := decide_eq_false (by omega)
    clear hx hd hlen
    go_enter Tryz.func57, Tryz.ntmps57
    go_wp2_with (first
     | (go_at_call 34; with_reducible refine HT2.mono ?_; rintro e w1 ⟨A', k', rfl, hr1, hb1⟩))
    go_ret2
    exact ⟨_, rfl, hr1, hb1⟩
noncomputable def cmB (x : It) : Option (List UInt8) := dn x.f1.data.toList
noncomputable def kT (L : List It) (n : Nat) (p : Int) (c : List UInt8) : Nat := (L.take n).countP fun x => decide (x.f0 = p) && decide (cmB x = some c)
noncomputable def jNm (L : List It) (x : It) : ByteArray × Int := match cmB x with
 | none => (x.f1, 1)
 | some c => if 48 < c.length then (x.f1, 3) else if 1 < kT L L.length x.f0 c then (x.f1, 2) else (dP c, 0)
noncomputable def jDt (x : It) : List Int × Int := if x.f2 then ([], 0) else (i8s (dOf (u8s x.f3)).1, (dOf (u8s x.f3)).2)
noncomputable def oM (L : List It) (x : It) : It := ⟨x.f0, (jNm L x).1, x.f2, (jDt x).1⟩
noncomputable def bf (L : List It) : List It := L.map (oM L)
theorem oq {L : List It} {n : Nat} (hn : n < L.length) (p : Int) (c : List UInt8) : kT L (n + 1) p c = kT L n p c + if (itA L n).f0 = p ∧ cmB (itA L n) = some c then 1 else 0 := by
 unfold kT
 rw [List.take_succ_eq_append_getElem hn, List.countP_append, bH hn]
 congr 1
 by_cases h : L[n].f0 = p ∧ cmB L[n] = some c
 · rw [if_pos h]
   simp [h.1, h.2]
 · rw [if_neg h]
   simp only [List.countP_singleton, Bool.and_eq_true, decide_eq_true_eq]
   rw [if_neg h]
theorem VQ {L : List It} {i k : Nat} (hi : i < L.length) (hk : k < L.length) (hne : i ≠ k) {c : List UInt8} (h1 : cmB (itA L i) = some c) (h2 : cmB (itA L k) = some c) (hp : (itA L i).f0 = (itA L k).f0) : 1 < kT L L.length (itA L i).f0 c := by
 have main : ∀ a b : Nat, a < b → b < L.length → cmB (itA L a) = some c → cmB (itA L b) = some c → (itA L a).f0 = (itA L i).f0 → (itA L b).f0 = (itA L i).f0 → 1 < kT L L.length (itA L i).f0 c := by
  intro a b hab hb ha1 hb1 ha2 hb2
  have mono : ∀ m n : Nat, m ≤ n → n ≤ L.length → kT L m (itA L i).f0 c ≤ kT L n (itA L i).f0 c := by
   intro m n hmn
   induction n with
   | zero =>
    intro _
    obtain rfl : m = 0 := by omega
    exact Nat.le_refl _
   | succ n ih =>
    intro hn
    by_cases e : m = n + 1
    · subst e; exact Nat.le_refl _
    · rw [oq (by omega)]
      have := ih (by omega) (by omega)
      omega
  have s1 := oq (show a < L.length by omega) (itA L i).f0 c
  have s2 := oq hb (itA L i).f0 c
  rw [if_pos ⟨ha2, ha1⟩] at s1
  rw [if_pos ⟨hb2, hb1⟩] at s2
  have m1 := mono (a + 1) b (by omega) (by omega)
  have m2 := mono (b + 1) L.length (by omega) (Nat.le_refl _)
  omega
 rcases Nat.lt_or_gt_of_ne hne with h | h
 · exact main i k h hk h1 h2 rfl hp.symm
 · exact main k i h hi h2 h1 hp.symm rfl
theorem XU {L : List It} {i : Nat} (hi : i < L.length) {c : List UInt8} (h1 : cmB (itA L i) = some c) (h : 1 < kT L L.length (itA L i).f0 c) : ∃ k, k < L.length ∧ k ≠ i ∧ (itA L k).f0 = (itA L i).f0 ∧ cmB (itA L k) = some c := by
 apply Classical.byContradiction
 intro hno
 have one : ∀ n : Nat, n ≤ L.length → kT L n (itA L i).f0 c ≤ if i < n then 1 else 0 := by
  intro n
  induction n with
  | zero => intro _; simp [kT]
  | succ n ih =>
   intro hn
   have := ih (by omega)
   rw [oq (by omega)]
   by_cases e : n = i
   · subst e
     rw [if_pos ⟨rfl, h1⟩, if_pos (by omega)]
     rw [if_neg (by omega)] at this
     omega
   · have hn' : ¬ ((itA L n).f0 = (itA L i).f0 ∧ cmB (itA L n) = some c) := fun hh => hno ⟨n, by omega, e, hh.1, hh.2⟩
     rw [if_neg hn']
     by_cases e2 : i < n
     · rw [if_pos e2] at this; rw [if_pos (by omega)]; omega
     · rw [if_neg e2] at this; rw [if_neg (by omega)]; omega
 have := one L.length (Nat.le_refl _)
 rw [if_pos hi] at this
 omega
theorem aby {s : ByteArray} : dP s.data.toList = s := by
 unfold dP
 cases s; simp
theorem VR (L : List It) (x : It) : cmB (oM L x) = cmB x := by
 have e : (oM L x).f1 = (jNm L x).1 := rfl
 show dn (oM L x).f1.data.toList = cmB x
 rw [e]
 unfold jNm
 cases h : cmB x with
 | none => exact h
 | some c =>
  show dn (if 48 < c.length then (x.f1, (3 : Int)) else if 1 < kT L L.length x.f0 c then (x.f1, 2) else (dP c, 0)).1.data.toList = some c
  by_cases h1 : 48 < c.length
  · rw [if_pos h1]; exact h
  · rw [if_neg h1]
    by_cases h2 : 1 < kT L L.length x.f0 c
    · rw [if_pos h2]; exact h
    · rw [if_neg h2]
      show dn (dP c).data.toList = _
      rw [fA]
      obtain ⟨_, _, _, _, h3, _⟩ := qg h
      exact h3
theorem iY (L : List It) : (bf L).length = L.length := List.length_map _
theorem xQ {L : List It} {k : Nat} (hk : k < L.length) : itA (bf L) k = oM L (itA L k) := by
 rw [bH (by rw [iY]; exact hk), bH hk]
 unfold bf
 rw [List.getElem_map]
open Go.RowKit Go.Lib
theorem SI {y x : Nat} (hy : x ∈ full y) (hx : x = 0 ∨ x = 47) : y = x := by
 cases hh : isH y with
 | true =>
  rw [mY hh] at hy
  have := uo y hh x hy
  omega
 | false =>
  cases hd : bD y with
  | none => rw [jI hh hd, List.mem_singleton] at hy; exact hy.symm
  | some e =>
   have := (sF hd).2.1 x hy
   omega
theorem VY {l : List Nat} {x : Nat} (h : x ∈ nfd l) : ∃ y ∈ l, x ∈ full y := by
 unfold nfd at h
 rw [su] at h
 unfold bT at h
 obtain ⟨y, hy, hx⟩ := List.mem_flatMap.1 h
 exact ⟨y, hy, hx⟩
theorem NS {l : List Nat} {x y : Nat} (hy : y ∈ l) (hx : x ∈ full y) : x ∈ nfd l := by
 unfold nfd
 rw [su]
 unfold bT
 exact List.mem_flatMap.2 ⟨y, hy, hx⟩
theorem Yd {x : Nat} (hx : x = 0 ∨ x = 47) : x ∈ full x := by
 cases hh : isH x with
 | true => have := (fH x).1 hh; omega
 | false =>
  cases hd : bD x with
  | none => rw [jI hh hd]; simp
  | some e =>
   exfalso
   cases hf : full x with
   | nil => have := (sF hd).2.2; rw [hf] at this; exact this (fun _ h => by cases h)
   | cons a t =>
    -- x is decomposed: not so
    have h0 : bD 0 = none := by kernel_rfl
    have h47 : bD 47 = none := by kernel_rfl
    rcases hx with rfl | rfl
    · rw [h0] at hd; cases hd
    · rw [h47] at hd; cases hd
theorem Ye {l : List Nat} {x : Nat} (hx : x = 0 ∨ x = 47) (h : x ∈ nfc l) : x ∈ l := by
 have h1 := NS h (Yd hx)
 rw [BF] at h1
 obtain ⟨y, hy, hxy⟩ := VY h1
 rw [SI hxy hx] at hy
 exact hy
theorem VZ (c : Nat) : full c ≠ [] := by
 cases hh : isH c with
 | true =>
  rw [mY hh]
  have := (um c).1
  intro e; rw [e] at this; simp at this
 | false =>
  cases hd : bD c with
  | none => rw [jI hh hd]; simp
  | some e =>
   intro e1
   have := (sF hd).2.2
   rw [e1] at this
   exact this (fun _ h => by cases h)
theorem ahF {l : List Nat} (h : l ≠ []) : nfc l ≠ [] := by
 intro e
 cases l with
 | nil => exact h rfl
 | cons a t =>
  cases hf : full a with
  | nil => exact VZ a hf
  | cons b u =>
   have hb : b ∈ nfd (a :: t) := NS (List.mem_cons_self) (by rw [hf]; simp)
   rw [← BF, e] at hb
   obtain ⟨y, hy, _⟩ := VY hb
   cases hy
theorem JQ (x : Nat) : vK x = true ↔ x = 46 ∨ x = 103 ∨ x = 101 ∨ x = 115 ∨ x = 111 ∨ x = 126 := by
 unfold vK
 simp only [Bool.or_eq_true, Nat.beq_eq, or_assoc]
theorem wH {x : Nat} (h : vK x = true) : cls x = 0 ∧ full x = [x] := by
 rcases (JQ x).1 h with rfl | rfl | rfl | rfl | rfl | rfl
 · exact ⟨by kernel_rfl, by kernel_rfl⟩
 · exact ⟨by kernel_rfl, by kernel_rfl⟩
 · exact ⟨by kernel_rfl, by kernel_rfl⟩
 · exact ⟨by kernel_rfl, by kernel_rfl⟩
 · exact ⟨by kernel_rfl, by kernel_rfl⟩
 · exact ⟨by kernel_rfl, by kernel_rfl⟩
theorem CX : ∀ {l : List Nat}, (∀ x ∈ l, cls x = 0) → fO l = l
 | [], _ => List.eq_nil_of_length_eq_zero (qO [])
 | a :: t, h => by
  rw [xk (h a List.mem_cons_self), CX fun x hx => h x (List.mem_cons_of_mem _ hx)]
theorem Yf {l : List Nat} (h : ∀ x ∈ nfc l, vK x = true) : nfc l = l := by
 have h1 : nfd (nfc l) = nfc l := by
  show fO (bT (nfc l)) = nfc l
  rw [iZ (fun x hx => (wH (h x hx)).2), CX (fun x hx => (wH (h x hx)).1)]
 rw [BF] at h1
 have hp : ∀ y ∈ l, ∀ x ∈ full y, vK x = true := fun y hy x hx => h x (h1 ▸ NS hy hx)
 have hw : Whole l := fun y hy => by
  cases hh : isH y with
  | true =>
   exfalso
   cases hf : full y with
   | nil => exact VZ y hf
   | cons a t =>
    have h2 := hp y hy a (by rw [hf]; simp)
    rw [mY hh] at hf
    have h3 := uo y hh a (by rw [hf]; simp)
    have h4 := (JQ a).1 h2
    omega
  | false =>
   cases hd : bD y with
   | none => exact jI hh hd
   | some e => exact absurd (hp y hy) (sF hd).2.2
 have hl : ∀ y ∈ l, cls y = 0 := fun y hy => (wH (hp y hy y (by rw [hw y hy]; simp))).1
 have h2 : nfd l = l := by
  show fO (bT l) = l
  rw [iZ hw, CX hl]
 rw [← h1, h2]
theorem aeM {c : Nat} (hc : fB c) {b : UInt8} (hb : b ∈ jM c) (h : b.toNat < 128) : c = b.toNat := by
 have hc2 : c ≤ 1114111 := by unfold fB at hc; omega
 unfold jM at hb
 split at hb
 · rename_i h1
   rw [List.mem_singleton] at hb
   subst hb
   rw [dS _ (by omega)]
 · split at hb
   · rename_i h1 h2
     simp only [List.mem_cons, List.not_mem_nil, or_false] at hb
     rcases hb with rfl | rfl
     · rw [dS _ (by omega)] at h; omega
     · rw [dS _ (by omega)] at h; omega
   · split at hb
     · rename_i h1 h2 h3
       simp only [List.mem_cons, List.not_mem_nil, or_false] at hb
       rcases hb with rfl | rfl | rfl
       · rw [dS _ (by omega)] at h; omega
       · rw [dS _ (by omega)] at h; omega
       · rw [dS _ (by omega)] at h; omega
     · rename_i h1 h2 h3
       simp only [List.mem_cons, List.not_mem_nil, or_false] at hb
       rcases hb with rfl | rfl | rfl | rfl
       · rw [dS _ (by omega)] at h; omega
       · rw [dS _ (by omega)] at h; omega
       · rw [dS _ (by omega)] at h; omega
       · rw [dS _ (by omega)] at h; omega
theorem Yg {l : List Nat} (hl : OkL l) {b : UInt8} (hb : b ∈ bP l) (h : b.toNat < 128) : b.toNat ∈ l := by
 unfold bP at hb
 obtain ⟨c, hc, hcb⟩ := List.mem_flatMap.1 hb
 rw [← aeM (hl c hc) hcb h]; exact hc
theorem Yh {l : List Nat} {c : Nat} (h : c ∈ l) (hc : c < 128) : UInt8.ofNat c ∈ bP l := by
 unfold bP
 refine List.mem_flatMap.2 ⟨c, h, ?_⟩
 unfold jM
 rw [if_pos hc]; simp
theorem aeN (c : Nat) : jM c ≠ [] := fun e => by
 have := nY c
 have h2 := nO c
 rw [e] at this
 simp at this
 omega
theorem Hr {b c : List UInt8} (h : dn b = some c) {x : UInt8} (hx : x = 0 ∨ x = 47) (hm : x ∈ c) : x ∈ b := by
 obtain ⟨l, h1, h2, h3, _, _⟩ := qg h
 obtain ⟨e1, ok1⟩ := jc h1
 obtain ⟨e3, ok3⟩ := jc h3
 have hn : x.toNat = 0 ∨ x.toNat = 47 := by rcases hx with rfl | rfl <;> decide
 rw [h2] at hm
 have h4 := Ye hn (Yg ok3 hm (by omega))
 have h5 := Yh h4 (by omega)
 rw [e1] at h5
 simpa using h5
theorem aeO {b c : List UInt8} (h : dn b = some c) (hb : b ≠ []) : c ≠ [] := by
 obtain ⟨l, h1, h2, h3, _, _⟩ := qg h
 obtain ⟨e1, ok1⟩ := jc h1
 have hl : l ≠ [] := fun e => by rw [e] at e1; exact hb e1.symm
 have h4 := ahF hl
 rw [h2]
 cases hf : nfc l with
 | nil => exact absurd hf h4
 | cons a t =>
  rw [lZ]
  intro e
  exact aeN a (List.append_eq_nil_iff.1 e).1
theorem aeP {l : List UInt8} {c : UInt8} : Lib.indexByte l c < 0 ↔ c ∉ l := by
 constructor
 · intro h hm
   have := indexByte_ge l c
   obtain ⟨k, hk⟩ := List.mem_iff_getElem?.1 hm
   exact indexByte_none (by omega) k hk
 · intro h
   apply Classical.byContradiction
   intro hn
   obtain ⟨o, ho⟩ : ∃ o : Nat, Lib.indexByte l c = o := ⟨(Lib.indexByte l c).toNat, by omega⟩
   exact h (List.mem_iff_getElem?.2 ⟨o, (indexByte_some ho).1⟩)
theorem Yi (s : ByteArray) : nameB s = true ↔ s.data.toList ≠ [] ∧ s.size ≤ 48 ∧ (0 : UInt8) ∉ s.data.toList ∧ (47 : UInt8) ∉ s.data.toList := by
 unfold nameB
 simp only [Bool.and_eq_true, Bool.not_eq_true', decide_eq_true_eq, aeP, toList_data, beq_eq_false_iff_ne, and_assoc]
theorem aeQ (c : List UInt8) : (dP c).size = c.length := by
 show (dP c).data.size = _
 unfold dP; simp
theorem Yj {s : ByteArray} {c : List UInt8} (hs : nameB s = true) (h : dn s.data.toList = some c) (hc : c.length ≤ 48) : nameB (dP c) = true := by
 rw [Yi] at hs ⊢
 rw [fA, aeQ]
 exact ⟨aeO h hs.1, hc, fun hm => hs.2.2.1 (Hr h (.inl rfl) hm), fun hm => hs.2.2.2 (Hr h (.inr rfl) hm)⟩
theorem abK {s : ByteArray} {c : List UInt8} (hs : rO s = false) (h : dn s.data.toList = some c) : rO (dP c) = false := by
 rw [← Bool.not_eq_true]
 intro hr
 obtain ⟨l, h1, h2, h3, _, _⟩ := qg h
 have key : ∀ (d : List UInt8) (m : List Nat), codes d = some m → (∀ x ∈ m, vK x = true) → c = d → s.data.toList = d := by
  intro d m hd hp e
  rw [e] at h3
  have e2 : nfc l = m := Option.some.inj (h3.symm.trans hd)
  have e3 : nfc l = l := Yf (fun x hx => hp x (e2 ▸ hx))
  rw [e3] at h2
  rw [← (jc h1).1, ← h2, e]
 unfold rO at hr hs
 rw [toList_data, fA] at hr
 rw [toList_data] at hs
 rw [Bool.or_eq_true, beq_iff_eq, beq_iff_eq] at hr
 rcases hr with e | e
 · rw [key _ [46, 103, 101, 115, 115, 111] (by decide +kernel) (by decide) e] at hs
   simp at hs
 · rw [key _ [46, 103, 101, 115, 115, 111, 126] (by decide +kernel) (by decide) e] at hs
   simp at hs
theorem Ey (L : List It) (x : It) : (jNm L x).1 = x.f1 ∨ ∃ c, cmB x = some c ∧ c.length ≤ 48 ∧ ¬ 1 < kT L L.length x.f0 c ∧ (jNm L x).1 = dP c := by
 unfold jNm
 cases h : cmB x with
 | none => exact .inl rfl
 | some c =>
  by_cases h1 : 48 < c.length
  · simp only [h1, if_true]; first | exact .inl rfl | exact .inl trivial
  · by_cases h2 : 1 < kT L L.length x.f0 c
    · simp only [h1, h2, if_true, if_false]; first | exact .inl rfl | exact .inl trivial
    · simp only [h1, h2, if_false]
      exact .inr ⟨c, rfl, by omega, h2, rfl⟩
theorem SK {L : List It} {x : It} (h : iC x = true) : iC (oM L x) = true := by
 unfold iC at h ⊢
 rw [Bool.and_eq_true] at h ⊢
 constructor
 · show nameB (jNm L x).1 = true
   rcases Ey L x with e | ⟨c, h1, h2, _, e⟩
   · rw [e]; exact h.1
   · rw [e]; exact Yj h.1 h1 h2
 · have h2 := h.2
   show (decide ((jDt x).1.length = 0) || (!x.f2 && decide ((jDt x).1.length ≤ 8192))) = true
   unfold jDt
   cases hd : x.f2 with
   | true => rfl
   | false =>
    rw [hd] at h2
    simp only [Bool.false_eq_true, if_false, Bool.not_false, Bool.true_and, Bool.or_eq_true, decide_eq_true_eq] at h2 ⊢
    right
    rw [nS]
    unfold dOf
    cases ht : dn (u8s x.f3) with
    | none =>
     show (u8s x.f3).length ≤ 8192
     rw [uN]; omega
    | some c =>
     by_cases h3 : 8192 < c.length
     · simp only [h3, if_true]; rw [uN]; omega
     · simp only [h3, if_false]; omega
theorem abL {L : List It} {x : It} (h : rO x.f1 = false) : rO (oM L x).f1 = false := by
 show rO (jNm L x).1 = false
 rcases Ey L x with e | ⟨c, h1, h2, _, e⟩
 · rw [e]; exact h
 · rw [e]; exact abK h h1
theorem Qm {L : List It} {i : Nat} (hi : i < L.length) (h : iq L i = true) : iq (bf L) i = true := by
 obtain ⟨h1, h2⟩ := kS h
 have e0 : (itA (bf L) (i : Int)).f0 = (itA L (i : Int)).f0 := by rw [xQ hi]; rfl
 unfold iq at h ⊢
 rw [e0]
 by_cases h3 : (itA L (i : Int)).f0 = -1
 · simp [h3] at h ⊢
   omega
 · obtain ⟨p, hp⟩ : ∃ p : Nat, (itA L (i : Int)).f0 = p := ⟨(itA L (i : Int)).f0.toNat, by omega⟩
   rw [hp] at h h2 ⊢
   rw [xQ (show p < L.length by omega)]
   exact h
theorem abM {L : List It} (hp : ∀ j, j < L.length → iq L j = true) : ∀ i, i < L.length → dep (bf L) i = dep L i := by
 intro i
 induction i using Nat.strongRecOn with
 | _ i ih =>
  intro hi
  have e0 : (itA (bf L) (i : Int)).f0 = (itA L (i : Int)).f0 := by rw [xQ hi]; rfl
  obtain ⟨h1, h2⟩ := kS (hp i hi)
  by_cases h3 : (itA L (i : Int)).f0 = -1
  · rw [pz h3, pz (e0.trans h3)]
  · obtain ⟨p, hq⟩ : ∃ p : Nat, (itA L (i : Int)).f0 = p := ⟨(itA L (i : Int)).f0.toNat, by omega⟩
    rw [sV hq (by omega) (fun j hj => hp j (by omega)), sV (e0.trans hq) (by omega) (fun j hj => Qm (by omega) (hp j (by omega))), ih p (by omega) (by omega)]
theorem abN {L : List It} {i j : Nat} (hij : j < i) (hi : i < L.length) (ho : fK L i = true) (h0 : (itA L j).f0 = (itA L i).f0) : (jNm L (itA L j)).1 ≠ (jNm L (itA L i)).1 := by
 intro he
 have n1 := VR L (itA L j)
 have n2 := VR L (itA L i)
 have e1 : cmB (itA L j) = cmB (itA L i) := by
  rw [← n1, ← n2]
  show dn (jNm L (itA L j)).1.data.toList = dn (jNm L (itA L i)).1.data.toList
  rw [he]
 have hown : ∀ c, cmB (itA L j) = some c → 1 < kT L L.length (itA L i).f0 c := fun c hc => by
  rw [← h0]
  exact VQ (show j < L.length by omega) hi (by omega) hc (e1 ▸ hc) h0
 rcases Ey L (itA L j) with a | ⟨c, a1, _, a2, _⟩
 · rcases Ey L (itA L i) with b | ⟨c, b1, _, b2, _⟩
   · rw [a, b] at he
     exact Nu hij hi ho h0 he
   · exact b2 (hown c (e1.trans b1))
 · exact a2 (h0 ▸ hown c a1)
theorem aeR {L : List It} (hd : oH L = true) : oH (bf L) = true := by
 simp only [oH, List.all_eq_true, List.mem_range] at hd
 have hp : ∀ j, j < L.length → iq L j = true := fun j hj => jm (hd j hj)
 refine CS fun i hi => ?_
 rw [iY] at hi
 have ho := hd i hi
 have e0 : (itA (bf L) (i : Int)).f0 = (itA L (i : Int)).f0 := by rw [xQ hi]; rfl
 have hdp := abM hp i hi
 simp only [fK, Bool.and_eq_true, Bool.not_eq_true', decide_eq_true_eq] at ho ⊢
 refine ⟨⟨Qm hi ho.1.1, by rw [hdp]; exact ho.1.2⟩, ?_⟩
 rw [← Bool.not_eq_true]
 intro hdup
 unfold oh at hdup
 obtain ⟨x, hx, hx2⟩ := List.any_eq_true.1 hdup
 obtain ⟨j, hj, rfl⟩ := List.mem_take_iff_getElem.1 hx
 have hji : j < i := by omega
 rw [← bH (L := bf L) (by rw [iY]; omega), xQ (by omega), xQ hi, Bool.and_eq_true, decide_eq_true_eq, beq_iff_eq] at hx2
 exact abN hji hi (hd i hi) hx2.1 (data_inj hx2.2)
theorem yZ {L : List It} (h : checkN L = 0) : checkN (bf L) = 0 := by
 obtain ⟨h1, h2, h3⟩ := dB (show checkN L ≠ 14 by rw [h]; decide)
 have h4 : L.any (fun x => rO x.f1) = false := by
  rw [← Bool.not_eq_true]
  intro hr
  unfold checkN at h
  rw [if_neg (by omega)] at h
  split at h
  · cases h
  · first | cases h | (rw [if_pos hr] at h; cases h)
 rw [List.all_eq_true] at h3
 rw [List.any_eq_false] at h4
 unfold checkN
 rw [iY, if_neg (by omega), if_neg, if_neg]
 · rw [Bool.not_eq_true, List.any_eq_false]
   intro x hx
   obtain ⟨y, hy, rfl⟩ := List.mem_map.1 hx
   rw [abL (by simpa using h4 y hy)]; decide
 · rw [aeR h2, Bool.not_true, Bool.false_or, Bool.not_eq_true, List.any_eq_false]
   intro x hx
   obtain ⟨y, hy, rfl⟩ := List.mem_map.1 hx
   rw [SK (h3 y hy)]; decide
section
variable {β K : Type} [DecidableEq K] {key : β → K} {lt : K → K → Bool}
theorem abO (tri : ∀ a b, lt a b = false → a ≠ b → lt b a = true) : ∀ {A B : List β}, A.Pairwise (fun a b => lt (key b) (key a) = false) → B.Pairwise (fun a b => lt (key b) (key a) = false) → (∀ k, A.filter (fun x => decide (key x = k)) = B.filter (fun x => decide (key x = k))) → A = B
 | [], [], _, _, _ => rfl
 | [], b :: B, _, _, h => by have := h (key b); simp at this
 | a :: A, [], _, _, h => by have := h (key a); simp at this
 | a :: A, b :: B, hA, hB, h => by
  have hA' := List.pairwise_cons.1 hA
  have hB' := List.pairwise_cons.1 hB
  have h3 : key a = key b := by
   apply Classical.byContradiction
   intro hne
   have h1 : lt (key a) (key b) = false := by
    have : a ∈ (b :: B).filter (fun x => decide (key x = key a)) := by rw [← h]; simp
    rcases List.mem_cons.1 (List.mem_filter.1 this).1 with e | e
    · exact absurd (congrArg key e) hne
    · exact hB'.1 a e
   have h2 : lt (key b) (key a) = false := by
    have : b ∈ (a :: A).filter (fun x => decide (key x = key b)) := by rw [h]; simp
    rcases List.mem_cons.1 (List.mem_filter.1 this).1 with e | e
    · exact absurd (congrArg key e).symm hne
    · exact hA'.1 b e
   rw [tri _ _ h1 hne] at h2
   cases h2
  have h4 := h (key a)
  rw [List.filter_cons, List.filter_cons, if_pos (by simp), if_pos (by simp [h3])] at h4
  injection h4 with h4 _
  subst h4
  congr 1
  refine abO tri hA'.2 hB'.2 fun k => ?_
  have := h k
  rw [List.filter_cons, List.filter_cons] at this
  split at this
  · injection this
  · exact this
theorem aeS (irr : ∀ a, lt a a = false) (trans : ∀ a b c, lt a b = false → lt b c = false → lt a c = false) (tot : ∀ a b, lt a b = true → lt b a = false) (l : List β) :
    (l.mergeSort (fun x y => !lt (key y) (key x))).Pairwise (fun a b => lt (key b) (key a) = false) ∧ ∀ k, (l.mergeSort (fun x y => !lt (key y) (key x))).filter (fun x => decide (key x = k)) = l.filter (fun x => decide (key x = k)) := by
 have ht : ∀ a b c : β, (!lt (key b) (key a)) = true → (!lt (key c) (key b)) = true → (!lt (key c) (key a)) = true := fun a b c h1 h2 => by
  simp only [Bool.not_eq_true'] at h1 h2 ⊢
  exact trans _ _ _ h2 h1
 have hl : ∀ a b : β, ((!lt (key b) (key a)) || (!lt (key a) (key b))) = true := fun a b => by
  cases h : lt (key b) (key a)
  · rfl
  · rw [tot _ _ h]; rfl
 refine ⟨(List.pairwise_mergeSort ht hl l).imp fun h => by simpa using h, fun k => ?_⟩
 have hs : (l.filter (fun x => decide (key x = k))).Pairwise (fun a b => (!lt (key b) (key a)) = true) := by
  rw [List.pairwise_iff_forall_sublist]
  intro a b hab
  have ha := (List.mem_filter.1 (hab.subset (show a ∈ [a, b] by simp))).2
  have hb := (List.mem_filter.1 (hab.subset (show b ∈ [a, b] by simp))).2
  rw [decide_eq_true_eq] at ha hb
  rw [ha, hb, irr]; rfl
 have h1 := List.sublist_mergeSort ht hl hs List.filter_sublist
 have h2 := h1.filter (fun x => decide (key x = k))
 rw [List.filter_filter] at h2
 simp only [Bool.and_self] at h2
 exact (h2.eq_of_length (((List.mergeSort_perm l _).filter _).length_eq.symm)).symm
end
theorem filter_one {o : List Nat} (hn : o.Nodup) {P : Nat → Bool} (hP : ∀ a ∈ o, ∀ b ∈ o, P a = true → P b = true → a = b) : o.filter P = [] ∨ ∃ a, o.filter P = [a] := by
 cases h : o.filter P with
 | nil => exact .inl rfl
 | cons a t =>
  right
  cases t with
  | nil => exact ⟨a, rfl⟩
  | cons b t =>
   exfalso
   have h2 : (a :: b :: t).Nodup := by rw [← h]; exact hn.filter _
   have ha : a ∈ o.filter P := by rw [h]; simp
   have hb : b ∈ o.filter P := by rw [h]; simp
   have ha := List.mem_filter.1 ha
   have hb := List.mem_filter.1 hb
   have := hP a ha.1 b hb.1 ha.2 hb.2
   subst this
   simp at h2
theorem abP {o o' : List Nat} (hp : o.Perm o') (hn : o.Nodup) {P : Nat → Bool} (hP : ∀ a ∈ o, ∀ b ∈ o, P a = true → P b = true → a = b) : o.filter P = o'.filter P := by
 have hf := hp.filter P
 rcases filter_one hn hP with h | ⟨a, h⟩
 · rw [h] at hf ⊢
   exact hf.symm.eq_nil.symm
 · rw [h] at hf ⊢
   exact (List.perm_singleton.1 hf.symm).symm
theorem wI {β : Type} {f : Nat → List β} {p : β → Bool} {P : Nat → Bool} : ∀ {o : List Nat}, (∀ k ∈ o, ∀ x ∈ f k, p x = P k) → (o.flatMap f).filter p = (o.filter P).flatMap f
 | [], _ => rfl
 | k :: o, h => by
  rw [List.flatMap_cons, List.filter_append, wI fun j hj => h j (List.mem_cons_of_mem _ hj), List.filter_cons]
  cases hk : P k with
  | true =>
   rw [if_pos rfl, List.flatMap_cons]
   congr 1
   refine List.filter_eq_self.2 fun x hx => ?_
   rw [h k List.mem_cons_self x hx, hk]
  | false =>
   rw [if_neg (by decide)]
   have : (f k).filter p = [] := List.filter_eq_nil_iff.2 fun x hx => by
    rw [h k List.mem_cons_self x hx, hk]; decide
   rw [this, List.nil_append]
abbrev Ln := S90
noncomputable def lnL (L : List It) (k : Nat) : List Ln :=
 (if (jNm L (itA L k)).2 = 0 then [] else [⟨bQ (bf L) k, (jNm L (itA L k)).2⟩]) ++ if (jDt (itA L k)).2 = 0 then [] else [⟨bQ (bf L) k, (jDt (itA L k)).2⟩]
noncomputable def rep0 (L : List It) : List Ln := (List.range L.length).flatMap (lnL L)
noncomputable def Ht (L : List It) : List Ln := (oL (bf L)).flatMap (lnL L)
theorem CY {L : List It} {k : Nat} {x : Ln} (hx : x ∈ lnL L k) : x.f0 = bQ (bf L) k := by
 unfold lnL at hx
 rw [List.mem_append] at hx
 rcases hx with hx | hx
 · split at hx
   · cases hx
   · rw [List.mem_singleton] at hx; rw [hx]
 · split at hx
   · cases hx
   · rw [List.mem_singleton] at hx; rw [hx]
def ltC (a b : List ByteArray) : Bool := decide (cmpL a b < 0)
theorem Ez (a : List ByteArray) : ltC a a = false := by unfold ltC; rw [xO]; rfl
theorem NT (a b : List ByteArray) (h : ltC a b = false) (hne : a ≠ b) : ltC b a = true := by
 unfold ltC at h ⊢
 exact decide_eq_true (wB a b (of_decide_eq_false h) hne)
theorem SL (a b c : List ByteArray) (h : ltC a b = true) (h2 : ltC b c = true) : ltC a c = true := by
 unfold ltC at h h2 ⊢
 exact decide_eq_true (qB a b c (of_decide_eq_true h) (of_decide_eq_true h2))
theorem Hu (a b : List ByteArray) (h : ltC a b = true) : ltC b a = false := by
 rw [← Bool.not_eq_true]
 intro h2
 have := SL _ _ _ h h2
 rw [Ez] at this; cases this
theorem Wh (a b c : List ByteArray) (h : ltC a b = false) (h2 : ltC b c = false) : ltC a c = false := by
 by_cases e1 : a = b
 · rw [e1]; exact h2
 · by_cases e2 : b = c
   · rw [← e2]; exact h
   · exact Hu _ _ (SL _ _ _ (NT _ _ h2 e2) (NT _ _ h e1))
theorem abQ {L : List It} (h : checkN L = 0) : (rep0 L).mergeSort (fun x y => !ltC y.f0 x.f0) = Ht L := by
 have hT : checkN (bf L) ≠ 14 := by rw [yZ h]; decide
 obtain ⟨_, hd, _⟩ := dB hT
 have hlen := iY L
 have hperm := Eu (bf L)
 rw [hlen] at hperm
 obtain ⟨m1, m2⟩ := aeS (key := fun x : Ln => x.f0) Ez Wh Hu (rep0 L)
 refine abO (key := fun x : Ln => x.f0) NT m1 ?_ fun p => ?_
 · unfold Ht
   have hs := JJ hT
   rw [List.pairwise_flatMap]
   refine ⟨fun k hk => ?_, hs.imp fun {a b} hab x hx y hy => ?_⟩
   · rw [List.pairwise_iff_forall_sublist]
     intro x y hxy
     rw [CY (hxy.subset (show x ∈ [x, y] by simp)), CY (hxy.subset (show y ∈ [x, y] by simp))]
     exact Ez _
   · rw [CY hx, CY hy]
     exact Hu _ _ hab
 · rw [m2]
   unfold rep0 Ht
   rw [wI (P := fun k => decide (bQ (bf L) k = p)) (fun k _ x hx => by rw [CY hx]), wI (P := fun k => decide (bQ (bf L) k = p)) (fun k _ x hx => by rw [CY hx])]
   rw [abP hperm.symm List.nodup_range]
   intro a ha b hb h1 h2
   rw [List.mem_range] at ha hb
   refine Bh hd a a b (Nat.le_refl _) (by omega) (by omega) ?_
   rw [decide_eq_true_eq] at h1 h2
   rw [h1, h2]
open Go.Shelf Go.RowKit Go.Lib Go.Sort Go.Proofs.YthlflglkdaainaaGreatDoorW.aN Go.Proofs.YthlflglkdaainaaGreatDoorW.bI Go.Proofs.YthlflglkdaainaaGreatDoorW.cZ Go.Proofs.YthlflglkdaainaaGreatDoor.Prt
theorem yO (w : World) (f : Value) : Calls Tryz.prog 123 #[.slice none 0 0, .int .i64 0, .int .i64 0, f] w fun e w' => e = .returned (.tuple #[]) ∧ w' = w := by
 go_enter Tryz.func123, Tryz.ntmps123
 go_wp2_with fail
 go_loop [8] (fun v => v = .int .i64 1) (fun _ => 0)
 case atStart => rfl
 case round =>
  subst hrel
  go_wp2
  go_end0
  exact ⟨rfl, rfl⟩
theorem rH (w : World) (f : Value) : Calls Tryz.prog 90 #[.slice none 0 0, .int .i64 0, f] w fun e w' => e = .returned (.tuple #[]) ∧ w' = w := by
 go_enter Tryz.func90, Tryz.ntmps90
 go_wp2_with fail
 go_loop [7, 8] (fun v u => v = .int .i64 0 ∧ u = .int .i64 20) (fun _ _ => 0)
 case atStart => exact ⟨rfl, rfl⟩
 case round =>
  obtain ⟨rfl, rfl⟩ := hrel
  go_wp2_with (go_at_call 123; refine (yO _ _).mono ?_; rintro e w2 ⟨rfl, rfl⟩)
  go_loop [6] (fun v => v = .int .i64 20) (fun _ => 0)
  case atStart => rfl
  case round =>
   subst hrel
   go_wp2
   go_end0
   exact ⟨rfl, rfl⟩
theorem vP (w : World) (f : Value) : Calls Tryz.prog 63 #[.slice none 0 0, f] w fun e w' => e = .returned (.tuple #[]) ∧ w' = w := by
 go_enter Tryz.func63, Tryz.ntmps63
 go_wp2_with (go_at_call 90; refine (rH _ _).mono ?_; rintro e w2 ⟨rfl, rfl⟩)
 go_end0
 exact ⟨rfl, rfl⟩
abbrev kLn : Kd Ln := k90
theorem Hy {α : Type} [Inhabited α] (enc : α → List Value) (hk : ∀ x, (enc x).length = 2) (d : Array α) : (flatK enc 2 d).toList = d.toList.flatMap enc := by
 have gen : ∀ l : List α, (List.range (l.length * 2)).map (fun t => (enc l[t / 2]!)[t % 2]!) = l.flatMap enc := by
  intro l
  induction l with
  | nil => rfl
  | cons a l ih =>
   have e : (a :: l).length * 2 = l.length * 2 + 1 + 1 := by rw [List.length_cons]; omega
   rw [e, List.range_succ_eq_map, List.map_cons, List.range_succ_eq_map, List.map_cons, List.map_cons, List.map_map, List.map_map, List.flatMap_cons, ← ih]
   match h : enc a, hk a with
   | [x, y], _ =>
    show x :: y :: List.map _ _ = x :: y :: List.map _ _
    congr 2
    refine List.map_congr_left fun t _ => ?_
    show (enc (a :: l)[(t + 1 + 1) / 2]!)[(t + 1 + 1) % 2]! = (enc l[t / 2]!)[t % 2]!
    rw [show (t + 1 + 1) / 2 = t / 2 + 1 by omega, show (t + 1 + 1) % 2 = t % 2 by omega, show (a :: l)[t / 2 + 1]! = l[t / 2]! from by rw [List.getElem!_cons_succ]]
 unfold flatK
 rw [Array.toList_map, Array.toList_range, ← gen d.toList, Array.length_toList]
 refine List.map_congr_left fun t _ => ?_
 rw [show d[t / 2]! = d.toList[t / 2]! by rw [getElem!_def, getElem!_def, Array.getElem?_toList]]
theorem JR : ∀ (rows : List (List Value)) (inner : List Value), inner.length = rows.length * 2 → (∀ (j : Nat) (p : List Value), rows[j]? = some p → (inner.drop (j * 2)).take 2 = p) → rows.flatMap (fun r => r) = inner
 | [], inner, h, _ => by
  rw [List.length_nil, Nat.zero_mul] at h
  rw [List.eq_nil_of_length_eq_zero h]; rfl
 | p :: ps, inner, h, hr => by
  have h0 := hr 0 p rfl
  rw [Nat.zero_mul, List.drop_zero] at h0
  rw [List.flatMap_cons, JR ps (inner.drop 2) (by rw [List.length_drop, h, List.length_cons]; omega) (fun j q hq => by
   have := hr (j + 1) q (by simpa using hq)
   rw [List.drop_drop, show 2 + j * 2 = (j + 1) * 2 by omega]
   exact this), ← h0, List.take_append_drop]
theorem JU : ∀ (rows : List (List Value)), (∀ r ∈ rows, r.length = 2) → (rows.flatMap (fun r => r)).length = rows.length * 2 ∧ ∀ (j : Nat) (p : List Value), rows[j]? = some p → ((rows.flatMap (fun r => r)).drop (j * 2)).take 2 = p
 | [], _ => ⟨rfl, fun j p h => by simp at h⟩
 | r :: rs, h => by
  obtain ⟨h1, h2⟩ := JU rs fun q hq => h q (List.mem_cons_of_mem _ hq)
  have hr := h r List.mem_cons_self
  refine ⟨by rw [List.flatMap_cons, List.length_append, h1, hr, List.length_cons]; omega, fun j p hj => ?_⟩
  rw [List.flatMap_cons]
  cases j with
  | zero =>
   have : r = p := by simpa using hj
   rw [Nat.zero_mul, List.drop_zero, List.take_append_of_le_length (by omega), List.take_of_length_le (by omega), this]
  | succ j =>
   rw [show (j + 1) * 2 = r.length + j * 2 by omega, List.drop_append, show r.drop (r.length + j * 2) = [] from List.drop_of_length_le (by omega), List.nil_append, show r.length + j * 2 - r.length = j * 2 by omega]
   exact h2 j p (by simpa using hj)
theorem Qo (p q : List ByteArray) (A B : Option Addr) (c d : Nat) (y z : Int) (W : World) (hA : Kd.C Kd.string W A p.length p) (hB : Kd.C Kd.string W B q.length q) :
    Calls Tryz.prog 64 #[.agg #[.slice A p.length c, .int .u8 y], .agg #[.slice B q.length d, .int .u8 z]] W fun e w' => e = .returned (.int .i64 (cmpL p q)) ∧ ∃ n os', w' = grow (W.drewN n) os' := by
 have hu := Tryz.underlying90
 have HA := ah.mk hA
 have HB := ah.mk hB
 have hb1 := aI (aI (Below.refl W.heap.size W) (Obj.cells #[.slice A p.length c, .int .u8 y] 90)) (Obj.cells #[.slice B q.length d, .int .u8 z] 90)
 clear hA hB
 go_enter Tryz.func64, Tryz.ntmps64
 go_wp2_with (go_at_call 65; with_reducible refine (aaU p q A B c d _ (Kd.aT HA.out hb1) (Kd.aT HB.out hb1)).mono ?_; rintro e w5 ⟨rfl, nq, rfl⟩)
 go_ret
 exact ⟨rfl, nq, _, by rw [alloc_eq_grow, alloc_eq_grow, grow_grow]; rfl⟩
def dfl : List Value := [.slice none 0 0, .int .u8 0]
def BH (rows : List (List Value)) (x : Nat × Nat) : List Value := rows.getD x.1 dfl
def wK (X : List Ln) (i : Nat) : List ByteArray := (X.getD i ⟨[], 0⟩).f0
def cfL (X : List Ln) (x y : Nat × Nat) : Int := cmpL (wK X x.1) (wK X y.1)
theorem Hz {α : Type} [Inhabited α] (enc : α → List Value) (n : Nat) (W : World) (blk off m : Nat) (dk : Array α) (os : Array Obj) (k : Nat) (h1 : k ≠ blk) (h2 : k < W.heap.size) : (sortWorldK enc n W blk off m dk os).heap[k]? = W.heap[k]? := by
 unfold sortWorldK putRowK
 rw [heap_grow_old _ _ (by rw [size_putRow]; exact h2)]
 unfold putRow mapBlock
 simp only [Array.getElem?_modify]
 rw [if_neg (fun e => h1 e.symm)]
 rfl
theorem NV {X : List Ln} {rows : List (List Value)} (hl : rows.length = X.length) {W : World} {ok : Nat → Prop} (hf : ∀ (j : Nat) (x : Ln) (c : List Value), X[j]? = some x → rows[j]? = some c → Kd.FK kLn W ok x c) (i : Nat) :
    ∃ A c y, rows.getD i dfl = [.slice A (wK X i).length c, .int .u8 y] ∧ Kd.F Kd.string W ok A (wK X i).length (wK X i) := by
 by_cases hi : i < X.length
 · have h1 : X[i]? = some X[i] := List.getElem?_eq_getElem hi
   have h2 : rows[i]? = some (rows[i]'(by omega)) := List.getElem?_eq_getElem (by omega)
   have hq := hf i _ _ h1 h2
   obtain ⟨A0, c0, e, _, h3⟩ := Ws hq
   have ep : wK X i = X[i].f0 := by
    unfold wK
    rw [List.getD_eq_getElem?_getD, h1]; rfl
   rw [List.getD_eq_getElem?_getD, h2, Option.getD_some, ep]
   exact ⟨A0, c0, _, e, h3⟩
 · have ep : wK X i = [] := by
     unfold wK
     rw [List.getD_eq_getElem?_getD, List.getElem?_eq_none (by omega)]; rfl
   rw [List.getD_eq_getElem?_getD, List.getElem?_eq_none (by omega), ep]
   exact ⟨none, 0, 0, rfl, Kd.aaE _ _ _⟩
theorem NW (X : List Ln) : ((eG (ltOf (cfL X)) X.length (List.range X.length).zipIdx.toArray).toList.map (·.1)).map (fun i => X.getD i ⟨[], 0⟩) = X.mergeSort (fun x y => !ltC y.f0 x.f0) := by
 have hS : SWO (fun i j : Nat => ltC (wK X i) (wK X j)) := ⟨fun x => Ez _, fun x y z h1 h2 => SL _ _ _ h1 h2, fun x y z h1 h2 => Wh _ _ _ h1 h2⟩
 have h := Ak (fun i j : Nat => ltC (wK X i) (wK X j)) hS (List.range X.length)
 rw [List.length_range] at h
 have e : ltOf (cfL X) = fun x y : Nat × Nat => (fun i j : Nat => ltC (wK X i) (wK X j)) x.1 y.1 := rfl
 rw [e, h, List.map_mergeSort (r := fun i j : Nat => !ltC (wK X j) (wK X i)) (s := fun x y : Ln => !ltC y.f0 x.f0) (f := fun i => X.getD i ⟨[], 0⟩) (fun a _ b _ => rfl)]
 congr 1
 apply List.ext_getElem
 · simp
 · intro j h1 h2
   simp only [List.getElem_map, List.getElem_range]
   rw [List.getD_eq_getElem?_getD, List.getElem?_eq_getElem h2]; rfl
theorem IU (w : World) (base g cap : Nat) (ok : Nat → Prop) (X : List Ln) (hl : X.length ≤ 1000000) (h : Kd.N kLn 90 w base ok (.slice (some ⟨g, 0, none⟩) X.length cap) X) :
    Calls Tryz.prog 63 #[.slice (some ⟨g, 0, none⟩) X.length cap, .func (.func 64) #[] #[]] w fun e w' =>
     e = .returned (.tuple #[]) ∧ Kd.N kLn 90 w' base ok (.slice (some ⟨g, 0, none⟩) X.length cap) (X.mergeSort (fun x y => !ltC y.f0 x.f0)) ∧ w.grownBy w' (some g) := by
 have hgo : ∀ m, (Value.slice (some ⟨g, 0, none⟩) m cap).ownBlock = some g := fun m => by simp [Value.ownBlock]
 have hlt : g < w.heap.size := Kd.ahd h g (hgo _)
 obtain ⟨h0, rows, hlr, ⟨hr0, inner, hown, hrep⟩, hf⟩ := h
 have hk : ∀ x, (BH rows x).length = 2 := fun x => by
  unfold BH
  by_cases hi : x.1 < rows.length
  · rw [List.getD_eq_getElem?_getD, List.getElem?_eq_getElem hi, Option.getD_some]
    have e := hrep.2 x.1 _ (List.getElem?_eq_getElem hi)
    have e2 := e.2.1
    rw [e.1] at e2
    exact e2
  · rw [List.getD_eq_getElem?_getD, List.getElem?_eq_none (by omega)]; rfl
 have h1 : ∀ x, ∀ u ∈ BH rows x, u.oneCell' = true := fun x => by
  obtain ⟨A, c, y, e, _⟩ := NV hlr hf x.1
  unfold BH
  rw [e]
  intro u hu
  simp only [List.mem_cons, List.not_mem_nil, or_false] at hu
  rcases hu with rfl | rfl <;> rfl
 have hin : rows.flatMap (fun r => r) = inner := JR rows inner hrep.1 (fun j p hj => (hrep.2 j p hj).1)
 have hsz : (List.range X.length).zipIdx.toArray.size = X.length := by simp
 have hmap : ∀ d : List (Nat × Nat), d.flatMap (BH rows) = (d.map (fun x => rows.getD x.1 dfl)).flatMap (fun r => r) := fun d => by rw [List.flatMap_map]; rfl
 have hrows : (List.range X.length).map (fun i => rows.getD i dfl) = rows := by
  apply List.ext_getElem
  · simp [hlr]
  · intro j a1 a2
    simp only [List.getElem_map, List.getElem_range]
    rw [List.getD_eq_getElem?_getD, List.getElem?_eq_getElem a2]; rfl
 have hF : (flatK (BH rows) 2 (List.range X.length).zipIdx.toArray).toList = inner := by
  rw [Hy _ hk, ← hin, hmap]
  congr 1
  show ((List.range X.length).zipIdx).map (fun x => rows.getD x.1 dfl) = rows
  conv => rhs; rw [← hrows]
  rw [show (fun x : Nat × Nat => rows.getD x.1 dfl) = (fun i => rows.getD i dfl) ∘ Prod.fst from rfl, ← List.map_map]
  congr 1
  exact List.zipIdx_map_fst 0 _
 have hown' : w.ownsRow base 90 2 (.slice (some ⟨g, 0, none⟩) X.length cap) X.length inner := by
  have := hown
  rw [hlr] at this
  exact this
 have hH : HoldsK (BH rows) 2 w g 0 (List.range X.length).zipIdx.toArray := Jr hown' hF
 have R0 : RowK (BH rows) 2 w g 0 (List.range X.length).zipIdx.toArray := ⟨hk, h1, hH, hlt⟩
 have hcmp : CmpLays Tryz.prog 64 #[] (BH rows) 2 (cfL X) g 0 (List.range X.length).zipIdx.toArray.size w := by
  intro m os dk _ x y
  obtain ⟨A, c, y1, e1, f1⟩ := NV hlr hf x.1
  obtain ⟨B, d, z1, e2, f2⟩ := NV hlr hf y.1
  unfold BH
  rw [e1, e2]
  have step : ∀ {p : List ByteArray} {A : Option Addr}, Kd.F Kd.string w (fun k => ok k ∧ some k ≠ (Value.slice (some ⟨g, 0, none⟩) X.length cap).ownBlock) A p.length p → Kd.C Kd.string (sortWorldK (BH rows) 2 w g 0 m dk os) A p.length p := fun hp =>
   Kd.aaD (Kd.RI hp (fun k hk hkl => Hz _ _ _ _ _ _ _ _ _ (fun e => hk.2 (by rw [hgo, e])) hkl))
  exact Qo _ _ A B c d y1 z1 _ (step f1) (step f2)
 have hw := oD (BH rows) (cfL X) 64 #[] g 0 cap (List.range X.length).zipIdx.toArray w (enters_of Tryz.func64 (by kernel_rfl) rfl) hcmp R0 (by rw [hsz]; omega) (List.range X.length).zipIdx.toArray w rfl (SWK.start hH)
 rw [hsz] at hw
 refine hw.mono ?_
 rintro e w' ⟨rfl, n, os, rfl⟩
 obtain ⟨S, hS⟩ : ∃ S, (eG (ltOf (cfL X)) X.length (List.range X.length).zipIdx.toArray).toList.map (·.1) = S := ⟨_, rfl⟩
 have hsl := NW X
 rw [hS] at hsl
 have hSl : S.length = X.length := by
  have := congrArg List.length hsl
  rwa [List.length_map, List.length_mergeSort] at this
 have hst : (eG (ltOf (cfL X)) X.length (List.range X.length).zipIdx.toArray).size = X.length := by
  have := congrArg List.length hS
  rw [List.length_map, Array.length_toList, hSl] at this
  exact this
 obtain ⟨q1, q2⟩ := FM (m := n) (os := os) (F := flatK (BH rows) 2 (eG (ltOf (cfL X)) X.length (List.range X.length).zipIdx.toArray)) hown' (by rw [size_flatK, hst])
 rw [Hy _ hk, hmap] at q1
 have hS2 : (eG (ltOf (cfL X)) X.length (List.range X.length).zipIdx.toArray).toList.map (fun x => rows.getD x.1 dfl) = S.map (fun i => rows.getD i dfl) := by
  rw [← hS, List.map_map]; rfl
 rw [hS2] at q1
 have hr2 := JU (S.map (fun i => rows.getD i dfl)) (fun r hr => by
  obtain ⟨i, _, rfl⟩ := List.mem_map.1 hr
  exact hk (i, 0))
 have q2' : w.grownBy (sortWorldK (BH rows) 2 w g 0 n (eG (ltOf (cfL X)) X.length (List.range X.length).zipIdx.toArray) os) (some g) := q2
 refine ⟨rfl, ⟨h0, S.map (fun i => rows.getD i dfl), ?_, ⟨?_, _, ?_, hr2.1, fun j p hj => ⟨hr2.2 j p hj, ?_, ?_⟩⟩, ?_⟩, q2⟩
 · rw [List.length_map, List.length_mergeSort, hSl]
 · exact hr0
 · rw [List.length_map, hSl]; exact q1
 · have e := hr2.2 j p hj
   show (List.take 2 (List.drop (j * 2) _)).length = 2
   rw [e]
   obtain ⟨i, _, rfl⟩ := List.mem_map.1 (List.mem_of_getElem? hj)
   exact hk (i, 0)
 · have e := hr2.2 j p hj
   show ∀ u : Value, u ∈ List.take 2 (List.drop (j * 2) _) → u.oneCell' = true
   rw [e]
   obtain ⟨i, _, rfl⟩ := List.mem_map.1 (List.mem_of_getElem? hj)
   exact h1 (i, 0)
 · intro j x c hx hc
   rw [← hsl, List.getElem?_map] at hx
   rw [List.getElem?_map] at hc
   cases hs : S[j]? with
   | none => rw [hs] at hx; cases hx
   | some i =>
    rw [hs] at hx hc
    have hx : X.getD i ⟨[], 0⟩ = x := Option.some.inj hx
    have hc : rows.getD i dfl = c := Option.some.inj hc
    subst hx; subst hc
    obtain ⟨A, c, y, e, hF⟩ := NV hlr hf i
    have hstep : Kd.FK kLn w (fun k => ok k ∧ some k ≠ (Value.slice (some ⟨g, 0, none⟩) X.length cap).ownBlock) (X.getD i ⟨[], 0⟩) (rows.getD i dfl) := by
     by_cases hi : i < X.length
     · rw [List.getD_eq_getElem?_getD, List.getElem?_eq_getElem hi, List.getD_eq_getElem?_getD, List.getElem?_eq_getElem (show i < rows.length by omega)]
       exact hf i _ _ (List.getElem?_eq_getElem hi) (List.getElem?_eq_getElem _)
     · rw [List.getD_eq_getElem?_getD, List.getElem?_eq_none (by omega), List.getD_eq_getElem?_getD, List.getElem?_eq_none (by omega)]
       exact acy _ _ ⟨[], 0⟩ (A0 := none) (c0 := 0) (Nat.le_refl _) (Kd.aaE _ _ _)
    exact Kd.aaF hstep q2' (fun k hk => by have := hk.2; rwa [hgo] at this)
theorem uO : WideMaps.KeyLaw Tryz.prog 94 := deep_law_laid laidOut (m := 3) (by decide) (of_decide_eq_true (by kernel_rfl)) (by kernel_rfl) (by kernel_rfl)
theorem Bl : Keyed Tryz.prog 94 := Keyed.of_law uO
theorem Qe {p : Int} {s : ByteArray} (h1 : -9223372036854775808 ≤ p) (h2 : p ≤ 9223372036854775807) (hs : s.size ≤ maxLen) : ∃ kl, keyOf Tryz.prog 94 (.agg #[.int .i64 p, .string s]) = some kl := by
 have hw : (Lit.int .i64 p).wf = true := by
  simp [Lit.wf, IntKind.min, IntKind.max, IntKind.signed, IntKind.bits]; omega
 have hu := Tryz.underlying94
 have c1 : Tryz.prog.cellsOf 3 = 1 := by kernel_rfl
 have c2 : Tryz.prog.cellsOf 9 = 1 := by kernel_rfl
 have c3 : Tryz.prog.cellsOf 94 = 2 := by kernel_rfl
 have hk : Tryz.prog.keyType 94 = true := by kernel_rfl
 obtain ⟨m, hz⟩ : ∃ m, Tryz.prog.types.size = m + 1 := ⟨Tryz.prog.types.size - 1, by kernel_rfl⟩
 unfold keyOf
 rw [hu, hk]
 simp only [Bool.true_and, Value.formed, hu]
 rw [hz]
 simp [Program.keyLits, hu, c1, c2, c3, Value.cells, Tryz.underlying3, Tryz.underlying9, hw, hs]
def GX (D : DataW Unit) (L : List It) (i : Nat) : Prop := IsMap D ∧ ∀ (p : Int) (s : ByteArray) (kl : Lit), keyOf Tryz.prog 94 (.agg #[.int .i64 p, .string s]) = some kl → D.atKey kl (.lit (.int .i64 0)) = .lit (.int .i64 (kT L i p s.data.toList : Int))
theorem Qg (L : List It) : GX (.map []) L 0 := ⟨isMap_empty, fun p s kl _ => by simp [kT, DataW.atKey]⟩
theorem SC {D : DataW Unit} {L : List It} {i : Nat} (h : GX D L i) (hi : i < L.length) (hn : cmB (itA L i) = none) : GX D L (i + 1) :=
 ⟨h.1, fun p s kl hk => by rw [h.2 p s kl hk, oq hi, if_neg (by rw [hn]; rintro ⟨_, h⟩; cases h)]; simp⟩
theorem XV {D : DataW Unit} {L : List It} {i : Nat} (h : GX D L i) (hi : i < L.length) {c : List UInt8} (hn : cmB (itA L i) = some c) {kl : Lit} (hk : keyOf Tryz.prog 94 (.agg #[.int .i64 (itA L i).f0, .string (dP c)]) = some kl) :
    GX (D.put kl (.lit (.int .i64 ((kT L i (itA L i).f0 c : Int) + 1)))) L (i + 1) := by
 refine ⟨?_, fun p s kl' hk' => ?_⟩
 · obtain ⟨es, rfl⟩ := h.1
   exact ⟨_, rfl⟩
 · rw [oq hi]
   by_cases he : kl' = kl
   · subst he
     have := Bl.inj hk hk'
     injection this with h1
     have h2 := (Array.mk.injEq _ _).mp h1
     simp only [List.cons.injEq, Value.int.injEq, Value.string.injEq, true_and, and_true] at h2
     rw [atKey_put_same h.1 (Bl.key hk), ← h2.1, ← h2.2, fA, if_pos ⟨rfl, hn⟩]
     simp
   · rw [atKey_put_other he, h.2 p s kl' hk', if_neg]
     · simp
     · rintro ⟨h1, h2⟩
       rw [hn] at h2
       rw [h1, Option.some.inj h2, aby, hk'] at hk
       exact he (Option.some.inj hk)
open Go.MapKept Go.ChangeMaps in
theorem SE {W : World} {b n : Nat} {D : DataW Unit} {key : Value} {kl : Lit} {c : Int} (HM : W.ownsMap Tryz.prog 94 (plainElem Tryz.prog 3) b n D) (hn : n < maxLen) (hkey : keyOf Tryz.prog 94 key = some kl) (hD : IsMap D)
    (hc : D.atKey kl (.lit (.int .i64 0)) = .lit (.int .i64 c)) (hw : (Lit.int .i64 (c + 1)).wf = true) :
    (Instr.lookup 92 (.map (some b)) key false).run Tryz.prog W = .ok (.int .i64 c) W ∧ ∃ v0 st w2 w3, (Instr.mapEntry 92 (.map (some b)) key).run Tryz.prog W = .ok (.tuple #[v0, goInt st]) w2 ∧
     (Instr.lookup 92 (.map (some b)) key false).run Tryz.prog w2 = .ok (.int .i64 c) w2 ∧ (Instr.entryStore 92 (.map (some b)) (goInt st) (.int .i64 (c + 1))).run Tryz.prog w2 = .ok () w3 ∧
     w3.ownsMap Tryz.prog 94 (plainElem Tryz.prog 3) b (n + 1) (D.put kl (.lit (.int .i64 (c + 1)))) ∧ W.grownBy w3 (some b) ∧ W.grownBy w2 (some b) := by
 have ht := Tryz.underlying92
 have he := Tryz.underlying3
 have look : ∀ {W' : World} {m : Nat} {D' : DataW Unit} {c' : Int}, W'.ownsMap Tryz.prog 94 (plainElem Tryz.prog 3) b m D' → D'.atKey kl (.lit (.int .i64 0)) = .lit (.int .i64 c') → (Instr.lookup 92 (.map (some b)) key false).run Tryz.prog W' = .ok (.int .i64 c') W' := by
  intro W' m D' c' h h2
  obtain ⟨c0, l1, l2, _⟩ := h.lookup_int Bl ht he (Tryz.zeroValue3 W') hkey
  rw [h2] at l2
  injection l2 with l2
  injection l2 with _ l2
  rw [l2]; exact l1
 have hl := look HM hc
 refine ⟨hl, ?_⟩
 obtain ⟨es, clock, hb, F, hs, hd⟩ := id HM
 obtain ⟨v0, st, es1, clock1, hE, _, hS⟩ := WideElems.entry_then_store uO ht (z := .int .i64 0) (fun u => Tryz.zeroValue3 u) hb F hkey
 obtain ⟨es', clock', hst, hup⟩ := hS (setBlock W b (.map es1 clock1)) (.int .i64 (c + 1)) (heap_setBlock_same hb _)
 have hg2 : ∀ o : Obj, W.grownBy (setBlock W b o) (some b) := fun o => ⟨rfl, rfl, rfl, by simp [setBlock], fun i _ hi => heap_setBlock_other hb _ (fun e => hi (by rw [e]))⟩
 have hset : setBlock (setBlock W b (.map es1 clock1)) b (.map es' clock') = setBlock W b (.map es' clock') := by simp [setBlock]
 obtain ⟨w', hup2, ho2, hgr⟩ := HM.update Bl ht hn hkey (plainElem_int he hw)
 have hw' := (Result.ok.inj (hup.symm.trans hup2)).2
 subst hw'
 refine ⟨v0, st, _, _, hE, ?_, hst, by rw [hset]; exact ho2, by rw [hset]; exact hgr, hg2 _⟩
 rcases uO.find W hkey es.toList F.keys with ⟨h1, h2⟩ | ⟨j, e0, h1, h2, h3⟩
 · have q1 : (Instr.mapEntry 92 (.map (some b)) key).run Tryz.prog W = .ok (.tuple #[.int .i64 0, goInt clock]) (setBlock W b (.map (es.push ⟨key, .int .i64 0, clock⟩) (clock + 1))) := by
     simp [Instr.mapEntry, run_underlying ht, MapKept.run_getObj_map hb, uO.check W false hkey, h1, Tryz.zeroValue3, MapKept.run_setObj_map _ hb, Result.andThen, setBlock]
   have q2 : (Instr.mapUpdate 92 (.map (some b)) key (.int .i64 0)).run Tryz.prog W = .ok () (setBlock W b (.map (es.push ⟨key, .int .i64 0, clock⟩) (clock + 1))) := by
    simp [Instr.mapUpdate, run_underlying ht, MapKept.run_getObj_map hb, uO.check W false hkey, h1, MapKept.run_setObj_map _ hb, Result.andThen, setBlock]
   have hE2 := (Result.ok.inj (q1.symm.trans hE)).2
   obtain ⟨w4, q3, q4, _⟩ := HM.update Bl ht hn hkey (plainElem_int (q := .i64) he (a := 0) (by decide))
   have q3b := (Result.ok.inj (q2.symm.trans q3)).2
   rw [← q3b, hE2] at q4
   have hz : c = 0 := by
    obtain ⟨c0, l1, l2, _⟩ := HM.lookup_int Bl ht he (Tryz.zeroValue3 W) hkey
    rcases Maps.fit_look false Bl ht (Tryz.zeroValue3 W) hb F hkey with ⟨hrun, _, _⟩ | ⟨e0, y, hy, hk, _⟩
    · have hr := hl.symm.trans hrun
      simpa using hr
    · exact absurd hk (h2 _ hy)
   subst hz
   exact look q4 (atKey_put_same hD (Bl.key hkey) _ _)
 · have q1 : ∃ v, (Instr.mapEntry 92 (.map (some b)) key).run Tryz.prog W = .ok v (setBlock W b (.map es clock)) := by
     have hj : es[j]? = some e0 := by simpa using h2
     have hsame : es.modify j (fun e => { e with key := key }) = es := by
      apply Array.ext'
      rw [Array.toList_modify, modify_eq_set _ _ _ _ h2]
      have : ({ e0 with key := key } : MapEntry) = e0 := by rw [← h3]
      rw [this]
      exact WideElems.set_self _ _ _ h2
     exact ⟨.tuple #[e0.val, goInt e0.born], by simp [Instr.mapEntry, run_underlying ht, MapKept.run_getObj_map hb, uO.check W false hkey, h1, hj, h3, uO.stays W hkey, hsame, MapKept.run_setObj_map _ hb, Result.andThen, setBlock]⟩
   obtain ⟨v, q1⟩ := q1
   rw [← (Result.ok.inj (q1.symm.trans hE)).2]
   exact look (D' := D) ⟨es, clock, heap_setBlock_same hb _, F, hs, hd⟩ hc
theorem aeB (W : World) (s : ByteArray) (hs : s.size ≤ maxLen) : Bs (Lib.bytesWorld W 5 s) (.slice (some ⟨W.heap.size, 0, none⟩) s.size (grownCap W s.size 0 5)) s.data.toList := by
 have hl : s.data.toList.length = s.size := Array.length_toList
 refine ⟨_, _, by rw [hl], by rw [hl]; exact grownCap_ge .., grownCap_le_maxLen _ _ _ _ hs, fun h => by (cases h), fun k hk => ⟨W.heap.size, 0, rfl, ?_⟩⟩
 rw [hl] at hk
 rw [Nat.zero_add, Lib.bytesWorld_cell W _ s k hk]
section
variable {P : Program} {ops : Array Oper} {rest : List Oper} {o : Oper} {a : Act} {Q : Exit → Act → World → Prop}
theorem kD {W : World} (hgd : o.guard = none) {N : Tmp} (_hd : o.dst = some N) (x : Operand) (ho : o.op = .convert 9 46 x) (s : ByteArray) (hx : a.eval x = .string s) (hs : s.size ≤ maxLen)
    (h : ∀ v w2, v = .slice (some ⟨W.heap.size, 0, none⟩) s.size (grownCap W s.size 0 5) → Bs w2 v s.data.toList → Below W.heap.size W w2 → wpList Tryz.prog ops Q rest (a.put o.dst v) w2) : wpList Tryz.prog ops Q (o :: rest) a W := by
 have hr := Lib.run_convert_string_bytes (P := Tryz.prog) W 9 46 5 s Tryz.underlying9 Tryz.underlying46 Tryz.underlying5
 have hrun : (execOp a.eval o).run Tryz.prog W = .ok (.value (.slice (some ⟨W.heap.size, 0, none⟩) s.size (grownCap W s.size 0 5))) (Lib.bytesWorld W 5 s) := by
  simp [execOp, ho, hx, hr]
 exact Kd.xH hgd hrun (h _ _ rfl (aeB W s hs) (Lib.bytesWorld_below W _ s))
end
noncomputable def nmS (L : List It) (j : Nat) : ByteArray := match cmB (itA L j) with
 | none => ⟨#[]⟩
 | some c => dP c
noncomputable def rtB (L : List It) (j : Nat) : Bool := (cmB (itA L j)).isSome
theorem JL {α : Type} (f : Nat → α) (z : α) (n i : Nat) (h : f i = z) : bV f z n i = bV f z n (i + 1) := by
 apply List.ext_getElem
 · simp [bV]
 · intro j h1 h2
   simp only [bV, List.getElem_map, List.getElem_range]
   by_cases e : j = i
   · subst e; rw [if_neg (by omega), if_pos (by omega), h]
   · by_cases e2 : j < i
     · rw [if_pos e2, if_pos (by omega)]
     · rw [if_neg e2, if_neg (by omega)]
structure J1 (w : World) (L : List It) (An : Option Addr) (cn : Nat) (Ar : Option Addr) (cr b i m : Nat) (wr : World) : Prop where
 below : Below w.heap.size w wr
 base : w.heap.size ≤ b
 names : Kd.R Kd.string 9 wr w.heap.size (fun k => k ≠ b ∧ some k ≠ (Value.slice Ar L.length cr).ownBlock) (.slice An L.length cn) (bV (nmS L) ⟨#[]⟩ L.length i)
 right : Kd.R Kd.bool 4 wr w.heap.size (fun k => k ≠ b ∧ some k ≠ (Value.slice An L.length cn).ownBlock) (.slice Ar L.length cr) (bV (rtB L) false L.length i)
 map : ∃ D : DataW Unit, wr.ownsMap Tryz.prog 94 (plainElem Tryz.prog 3) b m D ∧ GX D L m
section
variable {w wr w1 : World} {L : List It} {An Ar : Option Addr} {cn cr b i m : Nat}
theorem ajj (h : J1 w L An cn Ar cr b i m wr) : b < wr.heap.size := by
 obtain ⟨D, ⟨es, clock, hb, _⟩, _⟩ := h.map
 exact (Array.getElem?_eq_some_iff.1 hb).1
theorem GY (h : J1 w L An cn Ar cr b i m wr) (hb : Below wr.heap.size wr w1) : J1 w L An cn Ar cr b i m w1 := by
 have hlt := ajj h
 obtain ⟨D, ⟨es, clock, hm, r⟩, hD⟩ := h.map
 exact ⟨h.below.trans (hb.mono h.below.size), h.base, Kd.dw h.names hb, Kd.dw h.right hb, D, ⟨es, clock, (hb.block b hlt).trans hm, r⟩, hD⟩
theorem aeC (h : J1 w L An cn Ar cr b i i wr) (hi : i < L.length) (hn : cmB (itA L i) = none) : J1 w L An cn Ar cr b (i + 1) (i + 1) wr := by
 obtain ⟨D, ⟨es, clock, hm, hf, hs, hd⟩, hD⟩ := h.map
 refine ⟨h.below, h.base, ?_, ?_, D, ⟨es, clock, hm, hf, by omega, hd⟩, SC hD hi hn⟩
 · rw [← JL (nmS L) ⟨#[]⟩ L.length i (by unfold nmS; rw [hn])]; exact h.names
 · rw [← JL (rtB L) false L.length i (by unfold rtB; rw [hn]; rfl)]; exact h.right
theorem NK (h : J1 w L An cn Ar cr b i m wr) (hi : 0 < L.length) : ∃ gn gr, An = some ⟨gn, 0, none⟩ ∧ Ar = some ⟨gr, 0, none⟩ ∧ gn ≠ gr ∧ gn ≠ b ∧ gr ≠ b ∧ w.heap.size ≤ gn ∧ w.heap.size ≤ gr := by
 obtain ⟨gn, c1, e1, b1, l1, _⟩ := Kd.jf h.names (by rw [bK]; omega)
 obtain ⟨gr, c2, e2, b2, l2, _⟩ := Kd.jf h.right (by rw [bK]; omega)
 rw [bK] at e1 e2
 cases e1; cases e2
 have p1 := h.names.1 gn rfl
 have p2 := h.right.1 gr rfl
 exact ⟨gn, gr, rfl, rfl, fun e => p1.2 (by subst e; rfl), p1.1, p2.1, b1, b2⟩
theorem wG {gn gr : Nat} (h : J1 w L (some ⟨gn, 0, none⟩) cn (some ⟨gr, 0, none⟩) cr b i m wr) {j : Nat} (hj : j < L.length) : (∃ u, wr.cell? ⟨gn, j, none⟩ = some u ∧ wr.frozen? ⟨gn, j, none⟩ = false) ∧ ∃ u, wr.cell? ⟨gr, j, none⟩ = some u ∧ wr.frozen? ⟨gr, j, none⟩ = false := by
 have h1 := Kd.iD ByteArray.empty h.names (j : Int) (by omega) (by omega)
 have h2 := Kd.iD false h.right (j : Int) (by omega) (by omega)
 rw [Int.toNat_natCast] at h1 h2
 exact ⟨⟨_, h1⟩, _, h2⟩
theorem aeD {gn gr : Nat} (h : J1 w L (some ⟨gn, 0, none⟩) cn (some ⟨gr, 0, none⟩) cr b i m wr) (hi : i < L.length) {c : List UInt8} (hn : cmB (itA L i) = some c) :
    J1 w L (some ⟨gn, 0, none⟩) cn (some ⟨gr, 0, none⟩) cr b (i + 1) m ((wr.setCell ⟨gn, i, none⟩ (.string (dP c))).setCell ⟨gr, i, none⟩ (.bool true)) := by
 obtain ⟨_, _, e1, e2, n1, n2, n3, n4, n5⟩ := NK h (by omega)
 cases e1; cases e2
 have r1 := (Kd.CJ h.names (i : Int) (dP c)).1
 rw [Int.toNat_natCast] at r1
 have r2 := (Kd.CJ (W := wr.setCell ⟨gn, i, none⟩ (.string (dP c))) (Kd.Gp (p := ⟨gn, i, none⟩) h.right (fun k hk => fun e => hk.2 (by show some k = some gn; rw [e])) _) (i : Int) true).1
 rw [Int.toNat_natCast] at r2
 have f1 : nmS L i = dP c := by unfold nmS; rw [hn]
 have f2 : rtB L i = true := by unfold rtB; rw [hn]; rfl
 rw [← f1, sZ (nmS L)] at r1
 rw [← f2, sZ (rtB L)] at r2
 obtain ⟨D, ⟨es, clock, hm, r⟩, hD⟩ := h.map
 rw [f2] at r2
 rw [f1] at r1
 exact ⟨(h.below.setCell (p := ⟨gn, i, none⟩) n4 _).setCell (p := ⟨gr, i, none⟩) n5 _, h.base, Kd.Gp (p := ⟨gr, i, none⟩) r1 (fun k hk => fun e => hk.2 (by show some k = some gr; rw [e])) _, r2, D,
  ⟨es, clock, by rw [Below.heap_setCell _ _ _ _ (fun e => n3 e.symm), Below.heap_setCell _ _ _ _ (fun e => n2 e.symm)]; exact hm, r⟩, hD⟩
theorem ahx (h : J1 w L An cn Ar cr b i m wr) (hg : wr.grownBy w1 (some b)) {D : DataW Unit} {k : Nat} (hm : w1.ownsMap Tryz.prog 94 (plainElem Tryz.prog 3) b k D) (hD : GX D L k) : J1 w L An cn Ar cr b i k w1 :=
 ⟨Below.grown h.below hg h.below.size (fun k hk => by have e : b = k := Option.some.inj hk; have := h.base; omega), h.base, Kd.nR h.names hg (fun k hk e => hk.1 (Option.some.inj e)), Kd.nR h.right hg (fun k hk e => hk.1 (Option.some.inj e)), D, hm, hD⟩
end
def FL (b : List UInt8) (i : Nat) : Prop := (codes b).isSome = (codes (b.drop i)).isSome
theorem XW (v : Value) (b : List UInt8) (w : World) (hv : Bs w v b) (hl : b.length ≤ 100000) :
    Calls Tryz.prog 122 #[v] w fun e w' => (∃ k : Int, e = .returned (.int .i64 k) ∧ ((codes b).isSome = true → k = -1) ∧ ((codes b).isSome = false → 0 ≤ k)) ∧ Below w.heap.size w w' := by
 obtain ⟨ao, cap, rfl, h1, h2, h3, h4⟩ := id hv
 have HV := ah.mk hv
 obtain ⟨nb, hnb⟩ : ∃ nb, b.length = nb := ⟨_, rfl⟩
 have HNB := ah.mk hnb
 rw [hnb] at hl h1
 simp only [hnb] at HV ⊢
 clear hv hnb h4
 go_enter Tryz.func122, Tryz.ntmps122
 go_wp2
 go_loopg [3] nb (fun gk v3 wr => ∃ i : Nat, i ≤ nb ∧ nb - i ≤ gk ∧ v3 = .int .i64 i ∧ ah (FL b i) ∧ ah (Below w.heap.size w wr))
 case atStart => exact ⟨0, Nat.zero_le _, by omega, rfl, ⟨by unfold FL; rw [List.drop_zero]⟩, ⟨Below.refl _ _⟩⟩
 case round =>
  obtain ⟨i, hi, hg, rfl, HF, HB⟩ := hrel
  by_cases hlt : i < nb
  · have hiz : (i : Int) < (nb : Int) := by omega
    have hne : b.drop i ≠ [] := fun e => by
     have : (b.drop i).length = 0 := by rw [e]; rfl
     rw [List.length_drop, HNB.out] at this; omega
    have HBs := (HV.out.gr HB.out).lo (k := i) (by rw [HNB.out]; omega)
    have hdl : (b.drop i).length ≤ 100000 := by rw [List.length_drop, HNB.out]; omega
    have H1 := Oj (b.drop i) hne _ wr HBs hdl
    have hcut : ∀ W, (Instr.slice 46 (.slice ao nb cap) (some (.int .i64 (i : Int))) none none).run Tryz.prog W = .ok (.slice (MB ao cap i) (nb - i) (cap - i)) W := fun W => Vj ao nb cap i (by omega) W
    by_cases hb : qF (b.drop i) = 0
    · have hno : (codes b).isSome = false := by
        rw [HF.out, wU hne, if_pos hb]; rfl
      rw [hb] at H1
      clear hb hne HBs hdl
      have H1 := ah.mk H1
      go_wp2_with (go_at_call 136; refine H1.out.mono ?_; clear H1; rintro e w1 ⟨rfl, g1⟩)
      go_ret
      exact ⟨⟨_, rfl, fun h => (by rw [hno] at h; cases h), fun _ => by omega⟩, HB.out.trans (Below.mono g1 HB.out.size)⟩
    · have hle := Vg hne
      rw [List.length_drop, HNB.out] at hle
      have HF2 : FL b (i + qF (b.drop i)) := by
       unfold FL
       rw [HF.out, wU hne, if_neg hb, List.drop_drop]
       simp
      generalize qF (b.drop i) = m at H1 hb hle HF2
      generalize BN (b.drop i) = c at H1
      have hbb : ((m : Int) == 0) = false := by rw [beq_eq_false_iff_ne]; omega
      have H1 := ah.mk H1
      have HF2 := ah.mk HF2
      clear hne HBs hdl HF
      go_wp2_with (go_at_call 136; refine H1.out.mono ?_; clear H1; rintro e w1 ⟨rfl, g1⟩)
      go_roundg (nb - (i + m))
      case measure => omega
      case rel => exact ⟨i + m, by omega, by omega, by go_num, HF2, ⟨HB.out.trans (Below.mono g1 HB.out.size)⟩⟩
  · obtain rfl : i = nb := by omega
    have hok : (codes b).isSome = true := by
     rw [HF.out, List.drop_of_length_le (by rw [HNB.out]; exact Nat.le_refl _)]; rfl
    have hb := HB.out
    clear HF
    go_wp2
    go_ret
    exact ⟨⟨_, rfl, fun _ => rfl, fun h => (by rw [hok] at h; cases h)⟩, hb⟩
theorem GZ (b : List UInt8) : (dn b).isSome = (codes b).isSome := by
 unfold dn; simp
theorem Bq (v : Value) (b : List UInt8) (w : World) (hv : Bs w v b) (hl : b.length ≤ 20000) :
    Calls Tryz.prog 88 #[v] w fun e w' => ((dn b = none ∧ e = .returned (.tuple #[.slice none 0 0, .bool false])) ∨ ∃ c A k, dn b = some c ∧ e = .returned (.tuple #[.slice A c.length k, .bool true]) ∧ Kd.R (Kd.int .u8) 5 w' w.heap.size (fun _ => True) (.slice A c.length k) (i8s c)) ∧ Below w.heap.size w w' := by
 have HV := ah.mk hv
 have HF := XW v b w hv (by omega)
 have HT := fun W (B : Below w.heap.size w W) => WB v b W (HV.out.gr B) hl
 obtain ⟨ao, cap, rfl, _⟩ := id hv
 clear hv
 cases hx : dn b with
 | none =>
  have hc : (codes b).isSome = false := by rw [← GZ, hx]; rfl
  have HF2 : Calls Tryz.prog 122 #[.slice ao b.length cap] w fun e w' => ∃ k : Int, e = .returned (.int .i64 k) ∧ decide (0 ≤ k) = true ∧ Below w.heap.size w w' := HF.mono fun e w' h => by
   obtain ⟨⟨k, e1, _, e2⟩, hb⟩ := h
   exact ⟨k, e1, decide_eq_true (e2 hc), hb⟩
  clear HF HT hc
  go_enter Tryz.func88, Tryz.ntmps88
  go_wp2_with (go_at_call 122; refine HF2.mono ?_; rintro e w1 ⟨k, rfl, hk, hb1⟩)
  go_ret2
  first | exact ⟨.inl ⟨rfl, rfl⟩, hb1⟩ | exact ⟨.inl ⟨trivial, rfl⟩, hb1⟩
 | some c =>
  have hc : (codes b).isSome = true := by rw [← GZ, hx]; rfl
  have HF2 : Calls Tryz.prog 122 #[.slice ao b.length cap] w fun e w' => e = .returned (.int .i64 (-1)) ∧ Below w.heap.size w w' := HF.mono fun e w' h => by
   obtain ⟨⟨k, e1, e2, _⟩, hb⟩ := h
   rw [e2 hc] at e1
   exact ⟨e1, hb⟩
  have HT2 : ∀ W, Below w.heap.size w W → Calls Tryz.prog 72 #[.slice ao b.length cap] W fun e w' => ∃ A' k, e = .returned (.tuple #[.slice A' c.length k, .int .i64 0]) ∧ Kd.R (Kd.int .u8) 5 w' W.heap.size (fun _ => True) (.slice A' c.length k) (i8s c) ∧ Below W.heap.size W w' := fun W B => (HT W B).mono fun e w' h => by
   rcases h with ⟨⟨h1, _⟩ | ⟨c2, v', h1, h3, h4⟩, h2⟩
   · rw [hx] at h1; cases h1
   · rw [hx] at h1
     cases h1
     have hr := NJ h4
     obtain ⟨A', k, rfl⟩ := Kd.bW hr
     rw [nS] at hr h3
     exact ⟨A', k, h3, hr, h2⟩
  clear HF HT hc
  go_enter Tryz.func88, Tryz.ntmps88
  go_wp2_with (first
   | (go_at_call 122; with_reducible refine HF2.mono ?_; rintro e w1 ⟨rfl, hb1⟩)
   | (go_at_call 72; with_reducible refine (HT2 _ hb1).mono ?_; rintro e w2 ⟨A', k', rfl, hr2, hb2⟩; have hb20 := hb1.trans (hb2.mono hb1.size)))
  go_ret2
  first | exact ⟨.inr ⟨c, A', k', rfl, rfl, Kd.dY hr2 hb1.size⟩, hb20⟩ | exact ⟨.inr ⟨c, rfl, A', k', rfl, Kd.dY hr2 hb1.size⟩, hb20⟩
abbrev Vd := S49
abbrev kVd : Kd Vd := k49
abbrev zVd : Vd := z49
noncomputable def vdI (L : List It) (x : It) : Vd := ⟨(jNm L x).1, (jNm L x).2, (jDt x).1, (jDt x).2⟩
noncomputable def vdL (L : List It) : List Vd := L.map (vdI L)
noncomputable def vdS (L : List It) (j : Nat) : Vd := vdI L (itA L j)
theorem ny (L : List It) : (vdL L).length = L.length := by rw [vdL, List.length_map]
theorem ahy (L : List It) : bV (vdS L) zVd L.length L.length = vdL L := by
 apply List.ext_getElem
 · rw [bK, ny]
 · intro j h1 h2
   have hj : j < L.length := by rwa [ny] at h2
   simp only [bV, List.getElem_map, List.getElem_range, vdL]
   rw [if_pos hj, vdS, bH hj]
theorem ahz : (Tryz.prog.info? 48).map (fun i => (i.zero, i.size, i.bytes)) = some (some (.agg #[.string ⟨#[]⟩, .int .u8 0, .slice none 0 0, .int .u8 0]), 4, 56) := by kernel_rfl
structure J2 (W2 : World) (n : Nat) (Ao : Option Addr) (co : Nat) (ys : List Vd) (wr : World) : Prop where
 below : Below W2.heap.size W2 wr
 out : Kd.R kVd 48 wr W2.heap.size (fun _ => True) (.slice Ao n co) ys
section
variable {W2 wr w1 : World} {n : Nat} {Ao : Option Addr} {co go : Nat} {ys : List Vd}
theorem VT (h : J2 W2 n Ao co ys wr) (hb : Below wr.heap.size wr w1) : J2 W2 n Ao co ys w1 := ⟨h.below.trans (hb.mono h.below.size), Kd.dw h.out hb⟩
theorem NM (h : J2 W2 n Ao co ys wr) (hp : 0 < ys.length) : ∃ go, Ao = some ⟨go, 0, none⟩ ∧ W2.heap.size ≤ go ∧ go < wr.heap.size := by
 obtain ⟨gn, c1, e1, b1, l1, _⟩ := Kd.jf h.out hp
 cases e1
 exact ⟨gn, rfl, b1, l1⟩
theorem Qh (h : J2 W2 n (some ⟨go, 0, none⟩) co ys wr) {i : Nat} (hi : i < ys.length) : ∃ v2, wr.cell? ⟨go, i * 4, none⟩ = some (.string ys[i].f0) ∧ wr.cell? ⟨go, i * 4 + 1, none⟩ = some (.int .u8 ys[i].f1) ∧ wr.cell? ⟨go, i * 4 + 2, none⟩ = some v2 ∧ wr.cell? ⟨go, i * 4 + 3, none⟩ = some (.int .u8 ys[i].f3) ∧
    wr.frozen? ⟨go, i * 4, none⟩ = false ∧ wr.frozen? ⟨go, i * 4 + 1, none⟩ = false ∧ wr.frozen? ⟨go, i * 4 + 2, none⟩ = false ∧ wr.frozen? ⟨go, i * 4 + 3, none⟩ = false := by
 obtain ⟨cs, hM, hc⟩ := r_at h.out i hi
 obtain ⟨v2, rfl, _⟩ := rV hM
 exact ⟨v2, (hc 0 _ rfl).1, (hc 1 _ rfl).1, (hc 2 _ rfl).1, (hc 3 _ rfl).1, (hc 0 _ rfl).2, (hc 1 _ rfl).2, (hc 2 _ rfl).2, (hc 3 _ rfl).2⟩
theorem NQ (h : J2 W2 n (some ⟨go, 0, none⟩) co ys wr) {i k : Nat} (hi : i < ys.length) (hk : k < 4) (u : Value) {x' : Vd}
    (hM : ∀ cs, kVd.M wr W2.heap.size (fun b => True ∧ b ≠ go) ys[i] cs → kVd.M wr W2.heap.size (fun b => True ∧ b ≠ go) x' (cs.set k u)) : J2 W2 n (some ⟨go, 0, none⟩) co (ys.set i x') (wr.setCell ⟨go, i * 4 + k, none⟩ u) := by
 obtain ⟨g, e, h1, _⟩ := NM h (by omega)
 cases e
 exact ⟨h.below.setCell (p := ⟨go, i * 4 + k, none⟩) h1 _, (ahu (d := kVd) h.out i k hi hk u hM).1⟩
theorem ajk (h : J2 W2 n (some ⟨go, 0, none⟩) co ys wr) {i : Nat} (hi : i < ys.length) (s : ByteArray) : J2 W2 n (some ⟨go, 0, none⟩) co (ys.set i ⟨s, ys[i].f1, ys[i].f2, ys[i].f3⟩) (wr.setCell ⟨go, i * 4, none⟩ (.string s)) := by
 refine NQ (k := 0) h hi (by decide) (.string s) fun cs hM => ?_
 obtain ⟨v2, rfl, h2⟩ := rV hM
 exact zn _ _ _ ⟨s, ys[i].f1, ys[i].f2, ys[i].f3⟩ h2
theorem ajl (h : J2 W2 n (some ⟨go, 0, none⟩) co ys wr) {i : Nat} (hi : i < ys.length) (s : Int) : J2 W2 n (some ⟨go, 0, none⟩) co (ys.set i ⟨ys[i].f0, s, ys[i].f2, ys[i].f3⟩) (wr.setCell ⟨go, i * 4 + 1, none⟩ (.int .u8 s)) := by
 refine NQ (k := 1) h hi (by decide) (.int .u8 s) fun cs hM => ?_
 obtain ⟨v2, rfl, h2⟩ := rV hM
 exact zn _ _ _ ⟨ys[i].f0, s, ys[i].f2, ys[i].f3⟩ h2
theorem ajm (h : J2 W2 n (some ⟨go, 0, none⟩) co ys wr) {i : Nat} (hi : i < ys.length) (s : Int) : J2 W2 n (some ⟨go, 0, none⟩) co (ys.set i ⟨ys[i].f0, ys[i].f1, ys[i].f2, s⟩) (wr.setCell ⟨go, i * 4 + 3, none⟩ (.int .u8 s)) := by
 refine NQ (k := 3) h hi (by decide) (.int .u8 s) fun cs hM => ?_
 obtain ⟨v2, rfl, h2⟩ := rV hM
 exact zn _ _ _ ⟨ys[i].f0, ys[i].f1, ys[i].f2, s⟩ h2
theorem ajn (h : J2 W2 n (some ⟨go, 0, none⟩) co ys wr) {i : Nat} (hi : i < ys.length) {v : Value} {l : List Int} {base : Nat} (hb : W2.heap.size ≤ base) (hg : go < base) (hv : Kd.R (Kd.int .u8) 5 wr base (fun _ => True) v l) :
    J2 W2 n (some ⟨go, 0, none⟩) co (ys.set i ⟨ys[i].f0, ys[i].f1, l, ys[i].f3⟩) (wr.setCell ⟨go, i * 4 + 2, none⟩ v) := by
 refine NQ (k := 2) h hi (by decide) v fun cs hM => ?_
 obtain ⟨v2, rfl, h2⟩ := rV hM
 exact zn _ _ _ ⟨ys[i].f0, ys[i].f1, l, ys[i].f3⟩ (Kd.dF (Kd.dY (Kd.dR hv) hb) fun k hk => ⟨trivial, fun e => by have := hk.2.1; omega⟩)
theorem VU (h : J2 W2 n (some ⟨go, 0, none⟩) co ys wr) {i : Nat} (hi : i < ys.length) (hz : ys[i] = zVd) (s : ByteArray) : J2 W2 n (some ⟨go, 0, none⟩) co (ys.set i ⟨s, 0, [], 0⟩) (wr.setCell ⟨go, i * 4, none⟩ (.string s)) := by
 have := ajk h hi s
 rw [hz] at this
 exact this
theorem He (h : J2 W2 n (some ⟨go, 0, none⟩) co ys wr) {i : Nat} (hi : i < ys.length) (hz : ys[i] = zVd) (s : ByteArray) (y : Int) : J2 W2 n (some ⟨go, 0, none⟩) co (ys.set i ⟨s, y, [], 0⟩) ((wr.setCell ⟨go, i * 4, none⟩ (.string s)).setCell ⟨go, i * 4 + 1, none⟩ (.int .u8 y)) := by
 have h1 := ajl (VU h hi hz s) (i := i) (by rw [List.length_set]; exact hi) y
 rw [List.set_set, List.getElem_set_self] at h1
 exact h1
theorem aeE {s : ByteArray} {y : Int} {i : Nat} (h : J2 W2 n (some ⟨go, 0, none⟩) co (ys.set i ⟨s, y, [], 0⟩) wr) (hi : i < ys.length) {v : Value} {l : List Int} {base : Nat} (hb : W2.heap.size ≤ base) (hg : go < base) (hv : Kd.R (Kd.int .u8) 5 wr base (fun _ => True) v l) (z : Int) :
    J2 W2 n (some ⟨go, 0, none⟩) co (ys.set i ⟨s, y, l, z⟩) ((wr.setCell ⟨go, i * 4 + 2, none⟩ v).setCell ⟨go, i * 4 + 3, none⟩ (.int .u8 z)) := by
 have h1 := ajn h (i := i) (by rw [List.length_set]; exact hi) hb hg hv
 rw [List.set_set, List.getElem_set_self] at h1
 have h2 := ajm h1 (i := i) (by rw [List.length_set]; exact hi) z
 rw [List.set_set, List.getElem_set_self] at h2
 exact h2
end
theorem XY {w wr : World} {L : List It} {An Ar : Option Addr} {cn cr b i m : Nat} (h : J1 w L An cn Ar cr b i m wr) {p : Int} {s : ByteArray} (h1 : -9223372036854775808 ≤ p) (h2 : p ≤ 9223372036854775807) (hs : s.size ≤ maxLen) :
    (Instr.lookup 92 (.map (some b)) (.agg #[.int .i64 p, .string s]) false).run Tryz.prog wr = .ok (.int .i64 (kT L m p s.data.toList : Int)) wr := by
 obtain ⟨D, hM, hD⟩ := h.map
 obtain ⟨kl, hk⟩ := Qe h1 h2 hs
 obtain ⟨c0, l1, l2, _⟩ := hM.lookup_int Bl Tryz.underlying92 Tryz.underlying3 (Tryz.zeroValue3 wr) hk
 rw [hD.2 _ _ _ hk] at l2
 injection l2 with l2
 injection l2 with _ l2
 rw [l2]; exact l1
theorem abz {w wr : World} {L : List It} {gn gr cn cr b : Nat} (h : J1 w L (some ⟨gn, 0, none⟩) cn (some ⟨gr, 0, none⟩) cr b L.length L.length wr) {j : Nat} (hj : j < L.length) : wr.cell? ⟨gn, j, none⟩ = some (.string (nmS L j)) ∧ wr.cell? ⟨gr, j, none⟩ = some (.bool (rtB L j)) := by
 have h1 := (Kd.iD ByteArray.empty h.names (j : Int) (by omega) (by omega)).1
 have h2 := (Kd.iD false h.right (j : Int) (by omega) (by omega)).1
 rw [Int.toNat_natCast] at h1 h2
 have f : ∀ {α : Type} (d z : α) (g : Nat → α), fQ d (bV g z L.length L.length) (j : Int) = g j := by
  intro α d z g
  show (bV g z L.length L.length).getD (j : Int).toNat d = _
  rw [Int.toNat_natCast, List.getD_eq_getElem?_getD]
  unfold bV
  rw [List.getElem?_map, List.getElem?_range hj]
  show (if j < L.length then g j else z) = g j
  rw [if_pos hj]
 rw [f] at h1 h2
 exact ⟨h1, h2⟩
theorem Bv {α : Type} (f : Nat → α) (z : α) {n k : Nat} (hk : k < n) : ∃ h : k < (bV f z n k).length, (bV f z n k)[k] = z := by
 refine ⟨by rw [bK]; exact hk, ?_⟩
 simp [bV]
theorem Hf {L : List It} {x : It} (h : cmB x = none) : jNm L x = (x.f1, 1) := by unfold jNm; rw [h]
theorem Qi {L : List It} {x : It} {c : List UInt8} (h : cmB x = some c) (hl : 48 < c.length) : jNm L x = (x.f1, 3) := by
 unfold jNm; rw [h]; exact if_pos hl
theorem Qj {L : List It} {x : It} {c : List UInt8} (h : cmB x = some c) (hl : ¬ 48 < c.length) (hm : 1 < kT L L.length x.f0 c) : jNm L x = (x.f1, 2) := by
 unfold jNm; rw [h]; exact (if_neg hl).trans (if_pos hm)
theorem Hg {L : List It} {x : It} {c : List UInt8} (h : cmB x = some c) (hl : ¬ 48 < c.length) (hm : ¬ 1 < kT L L.length x.f0 c) : jNm L x = (dP c, 0) := by
 unfold jNm; rw [h]; exact (if_neg hl).trans (if_neg hm)
theorem abA {L : List It} {j : Nat} {c : List UInt8} (h : cmB (itA L j) = some c) : nmS L j = dP c ∧ rtB L j = true := by
 unfold nmS rtB; rw [h]; exact ⟨rfl, rfl⟩
theorem abB {L : List It} {j : Nat} (h : cmB (itA L j) = none) : rtB L j = false := by
 unfold rtB; rw [h]; rfl
theorem pJ (c : List UInt8) : (dP c).size = c.length := by
 show (dP c).data.size = _
 unfold dP; simp
theorem aeF : (Tryz.prog.info? 9).map (fun i => (i.zero, i.size, i.bytes)) = some (some (.string ⟨#[]⟩), 1, 16) := by kernel_rfl
theorem abC : (Tryz.prog.info? 4).map (fun i => (i.zero, i.size, i.bytes)) = some (some (.bool false), 1, 1) := by kernel_rfl
theorem aeG (v : Value) (b : List UInt8) (w : World) (ht : Tz w) (hu : Ut w) (hv : Bs w v b) (hl : b.length ≤ 20000) (hx : dn b = none) :
    Calls Tryz.prog 34 #[v] w fun e w' => e = .returned (.tuple #[.slice none 0 0, .int .i64 6]) ∧ Below w.heap.size w w' := (Fe v b w ht hu hv hl).mono fun e w' h => by
 rcases h with ⟨⟨_, h1⟩ | ⟨c', v', h1, _⟩, h2⟩
 · exact ⟨h1, h2⟩
 · rw [hx] at h1; cases h1
theorem abD (v : Value) (b c : List UInt8) (w : World) (ht : Tz w) (hu : Ut w) (hv : Bs w v b) (hl : b.length ≤ 20000) (hx : dn b = some c) :
    Calls Tryz.prog 34 #[v] w fun e w' => ∃ A' k, e = .returned (.tuple #[.slice A' c.length k, .int .i64 0]) ∧ Kd.R (Kd.int .u8) 5 w' w.heap.size (fun _ => True) (.slice A' c.length k) (i8s c) ∧ Below w.heap.size w w' := (Fe v b w ht hu hv hl).mono fun e w' h => by
 rcases h with ⟨⟨h1, _⟩ | ⟨c2, v', h1, h3, h4⟩, h2⟩
 · rw [hx] at h1; cases h1
 · rw [hx] at h1
   cases h1
   have hr := NJ h4
   obtain ⟨A', k, rfl⟩ := Kd.bW hr
   rw [nS] at hr h3
   exact ⟨A', k, h3, hr, h2⟩
theorem XZ (W : World) (a b c d : Value) (t : TypeId) : (W.alloc (.cells #[a, b, c, d] t)).cell? ⟨W.heap.size, 0, none⟩ = some a := World.cell?_alloc_new W #[a, b, c, d] t 0
theorem cnt_le (L : List It) (n : Nat) (p : Int) (c : List UInt8) : kT L n p c ≤ n := by
 unfold kT
 exact Nat.le_trans List.countP_le_length (by rw [List.length_take]; omega)
theorem aeH {W : World} {base : Nat} {A : Option Addr} {k : Nat} {c : List UInt8} (h : Kd.R (Kd.int .u8) 5 W base (fun _ => True) (.slice A c.length k) (i8s c)) : c.length ≤ maxLen := by
 obtain ⟨_, inner, ho, _⟩ := id h
 rcases ho.2 with ⟨e1, _⟩ | ⟨g2, cap2, cur, e1, _, _, h1, hm, _⟩
 · injection e1 with _ e2
   rw [e2]; decide
 · injection e1 with _ e2 e3
   rw [nS] at h1 e2
   omega
theorem VW (c : List UInt8) : strOfNums (i8s c) = dP c := by
 show (⟨(u8s (i8s c)).toArray⟩ : ByteArray) = _
 rw [aeA]; rfl
theorem oz {w w' : World} (h : Tz w) (hb : Below w.heap.size w w') : Tz w' := Gr.cell hb h
theorem abE {W2 W : World} {L : List It} {n k : Nat} {Ao : Option Addr} {co : Nat} {s : ByteArray} {y z : Int} {l : List Int} (h : J2 W2 n Ao co ((bV (vdS L) zVd L.length k).set k ⟨s, y, l, z⟩) W) (e1 : jNm L (itA L (k : Int)) = (s, y)) (e2 : jDt (itA L (k : Int)) = (l, z)) : J2 W2 n Ao co (bV (vdS L) zVd L.length (k + 1)) W := by
 have e : vdS L k = ⟨s, y, l, z⟩ := by
  unfold vdS vdI
  rw [e1, e2]
 rw [← sZ, e]
 exact h
theorem SG {W2 W5 : World} {wr : World} {n : Nat} {Ao : Option Addr} {co : Nat} {ys : List Vd} {a b c d : Value} (h : J2 W2 n Ao co ys W5) (hs : W5.heap.size = wr.heap.size) :
    ah (J2 W2 n Ao co ys (W5.alloc (.cells #[a, b, c, d] 53))) ∧ (W5.alloc (.cells #[a, b, c, d] 53)).cell? ⟨wr.heap.size, 2, none⟩ = some c ∧ (W5.alloc (.cells #[a, b, c, d] 53)).cell? ⟨wr.heap.size, 3, none⟩ = some d ∧ wr.heap.size < (W5.alloc (.cells #[a, b, c, d] 53)).heap.size := by
 refine ⟨⟨VT h (aI (Below.refl _ _) _)⟩, ?_, ?_, ?_⟩
 · rw [← hs]; exact World.cell?_alloc_new W5 #[a, b, c, d] _ 2
 · rw [← hs]; exact World.cell?_alloc_new W5 #[a, b, c, d] _ 3
 · rw [World.size_alloc, hs]; omega
theorem VX {W2 W5 : World} {wr : World} {n : Nat} {Ao : Option Addr} {co : Nat} {ys : List Vd} {a b c d : Value} (h : J2 W2 n Ao co ys W5) (hs : W5.heap.size = wr.heap.size) :
    ah (J2 W2 n Ao co ys (W5.alloc (.cells #[a, b, c, d] 53)).drew) ∧ (W5.alloc (.cells #[a, b, c, d] 53)).drew.cell? ⟨wr.heap.size, 2, none⟩ = some c ∧ (W5.alloc (.cells #[a, b, c, d] 53)).drew.cell? ⟨wr.heap.size, 3, none⟩ = some d ∧ wr.heap.size < (W5.alloc (.cells #[a, b, c, d] 53)).drew.heap.size := by
 obtain ⟨h1, h2, h3, h4⟩ := SG (a := a) (b := b) (c := c) (d := d) h hs
 exact ⟨⟨VT h1.out (Below.drew (Below.refl _ _))⟩, h2, h3, h4⟩
theorem ahA {x : It} {c : List UInt8} (h : cmB x = some c) (hs : x.f1.size ≤ 48) : c.length ≤ 144 := by
 obtain ⟨_, _, _, _, _, h1⟩ := qg h
 have : x.f1.data.toList.length = x.f1.size := Array.length_toList
 omega
theorem abG {w : World} {A : Option Addr} {n k : Nat} (h : qy w A n) (hk : k < n) {ad : Addr} (hA : A = some ad) {A3 : Option Addr} {l c : Nat} (z3 : w.cell? ⟨(ad.add (k * 4)).block, (ad.add (k * 4)).off + 3, none⟩ = some (.slice A3 l c)) : c ≤ maxLen ∧ (A3 = none → c = 0) := by
 obtain ⟨ad', A4, l4, c4, e, hc, h1, h2⟩ := h k hk
 rw [hA] at e
 cases e
 have e2 : ad.add (k * 4 + 3) = ⟨(ad.add (k * 4)).block, (ad.add (k * 4)).off + 3, none⟩ := by
  unfold Addr.add
  rw [if_neg (by omega)]
  by_cases hk0 : k * 4 = 0
  · rw [if_pos hk0, hk0, Nat.zero_add]
  · rw [if_neg hk0, Nat.add_assoc]
 rw [e2, z3] at hc
 injection hc with hc
 injection hc with e3 _ e5
 subst e3; subst e5
 exact ⟨h1, h2⟩
theorem JM (L : List It) (A : Option Addr) (c : Nat) (w : World) (ht : Tz w) (hu : Ut w) (hC : Kd.C kIt w A L.length L) (hcap : qy w A L.length) (hwf : WfL L) (h0 : checkN L = 0) :
    Calls Tryz.prog 26 #[.slice A L.length c] w fun e w' => ∃ v, e = .returned (.tuple #[v, .int .i64 0]) ∧ Kd.R kVd 48 w' w.heap.size (fun _ => True) v (vdL L) ∧ Below w.heap.size w w' := by
 have hu53 := Tryz.underlying53
 have HC := ah.mk hC
 have ahB := ah.mk hcap
 have HK := fun W B => check_any L A c W (Kd.aT HC.out B) hwf
 obtain ⟨q1, q2, q3⟩ := dB (show checkN L ≠ 14 by rw [h0]; decide)
 rw [h0] at HK
 clear hC hcap
 go_enter Tryz.func26, Tryz.ntmps26
 go_wp2_with (first
  | (go_at_call 18; with_reducible refine (HK _ (Below.refl _ _)).mono ?_; rintro e w1 ⟨rfl, hb1⟩)
  | ((with_reducible refine dA (N := 23) rfl ?_); refine Kd.rM Kd.string w.heap.size 9 rfl (N := 23) rfl 65 _ _ rfl (L.length : Int) rfl rfl Tryz.underlying65 (.string ⟨#[]⟩) 16 aeF rfl (by decide) (by omega) ⟨#[]⟩ (ok := fun _ => True) (okp := fun _ => True) rfl (fun _ hk => hk) trivial (by omega) (by omega) hb1 hb1.size ?_; intro vn w2 hrn hb2 hg2 hn2; rw [Int.toNat_natCast] at hrn; obtain ⟨An, cn, en⟩ := Kd.bW hrn; rw [List.length_replicate] at en; subst en)
  | ((with_reducible refine dA (N := 26) rfl ?_); refine Kd.rM Kd.bool w.heap.size 4 rfl (N := 26) rfl 91 _ _ rfl (L.length : Int) rfl rfl Tryz.underlying91 (.bool false) 1 abC rfl (by decide) (by omega) false (ok := fun _ => True) (okp := fun _ => True) rfl (fun _ hk => hk) trivial (by omega) (by omega) hb2 hb2.size ?_; intro vr w3 hrr hb3 hg3 hn3; rw [Int.toNat_natCast] at hrr; obtain ⟨Ar, cr, er⟩ := Kd.bW hrr; rw [List.length_replicate] at er; subst er))
 have hmk : (Instr.makeMap 92 none).run Tryz.prog w3 = .ok (.map (some w3.heap.size)) (w3.alloc (.map #[] 0)) := run_makeMap _ _
 rw [hmk]
 clear hmk
 go_wp2
 have H0 : J1 w L An cn Ar cr w3.heap.size 0 0 (w3.alloc (.map #[] 0)) := by
  obtain ⟨br, hbr, hlr⟩ := hn3
  have hgr : ∀ k, (Value.slice An L.length cn).ownBlock = some k → k < w2.heap.size := Kd.Ip hrn
  have r1 := Kd.nR (Kd.dF (Kd.dR hrn) (ok' := fun k => k ≠ w3.heap.size ∧ some k ≠ (Value.slice Ar L.length cr).ownBlock) (fun k hk => ⟨by have := hk.2.2.1; have := hg3.size; omega, by rw [hbr]; intro e; have e : k = br := Option.some.inj e; have := hk.2.2.1; omega⟩)) hg3 (fun _ _ => nofun)
  refine ⟨aI hb3 _, hb3.size, ?_, ?_, .map [], World.ownsMap_made _ _ _ _, Qg L⟩
  · rw [pK]; exact Kd.pq r1 _
  · rw [pK]
    refine Kd.pq (Kd.sO (Kd.vZ hrr) (fun k hk => ⟨?_, fun e => ?_⟩)) _
    · have := Kd.Ip hrr k hk; omega
    · have h1 := hgr k e.symm
      rw [hbr] at hk
      have := Option.some.inj hk
      omega
 have H1 := ah.mk H0
 generalize w3.alloc (.map #[] 0) = W0 at H1 ⊢
 generalize w3.heap.size = b at H1 ⊢
 clear H0 hb1 hb2 hb3 hg2 hg3 hn2 hn3 hrn hrr HK
 go_loopg [30] L.length (fun gg v30 wr => ∃ i : Nat, i ≤ L.length ∧ L.length - i ≤ gg ∧ v30 = .int .i64 i ∧ ah (J1 w L An cn Ar cr b i i wr))
 case atStart => exact ⟨0, Nat.zero_le _, by omega, rfl, H1⟩
 case round =>
  clear H1
  obtain ⟨i, hi, hg, rfl, HI⟩ := hrel
  by_cases hlt : i < L.length
  · have hltz : (i : Int) < (L.length : Int) := by omega
    have hbw := HI.out.below
    have htw : Tz wr := Gr.cell hbw ht
    obtain ⟨ad, A3, c3, hA, y0, y1, y2, y3, _, _⟩ := bC (Kd.aT HC.out hbw) (i : Int) (by omega) hltz
    rw [Int.toNat_natCast] at y0 y1 y2 y3
    subst hA
    obtain ⟨gn, gr, rfl, rfl, n1, n2, n3, n4, n5⟩ := NK HI.out (by omega)
    have hsz : (itA L (i : Int)).f1.size ≤ 48 := by
     have := List.all_eq_true.1 q3 _ (List.getElem_mem hlt)
     have := ((nJ _).1 this).1.1.2
     rw [bH hlt]; omega
    have hsm : (itA L (i : Int)).f1.size ≤ maxLen := by unfold maxLen; omega
    have htw := oz ht hbw
    have huw := hu.gr hbw
    have hln : (itA L (i : Int)).f1.data.toList.length ≤ 20000 := by
     rw [show (itA L (i : Int)).f1.data.toList.length = (itA L (i : Int)).f1.size from Array.length_toList]; omega
    have hbx := aI (Below.refl wr.heap.size wr) (Obj.cells #[.int .i64 (itA L (i : Int)).f0, .string (itA L (i : Int)).f1, .bool (itA L (i : Int)).f2, .slice A3 (itA L (i : Int)).f3.length c3] 53)
    have hpm : -9223372036854775808 ≤ (itA L (i : Int)).f0 ∧ (itA L (i : Int)).f0 ≤ 9223372036854775807 := by
     obtain ⟨r1, r2, _⟩ := hwf _ (List.getElem_mem hlt)
     rw [bH hlt]
     exact ⟨r1, r2⟩
    cases hcm : cmB (itA L (i : Int)) with
    | none =>
     have hcm2 : dn (itA L (i : Int)).f1.data.toList = none := hcm
     go_wp2_with (first
      | ((with_reducible refine dA (N := 38) rfl ?_); refine kD rfl (N := 38) rfl (.tmp 37) rfl (itA L (i : Int)).f1 rfl hsm ?_; intro vb w4 hvb hbs hb4; clear hvb; have hb40 := hbx.trans (hb4.mono hbx.size); have HT := aeG vb _ w4 (oz htw hb40) (huw.gr hb40) hbs hln hcm2)
      | (go_at_call 34; with_reducible refine HT.mono ?_; rintro e w5 ⟨rfl, hb5⟩; have hb50 := hb40.trans (hb5.mono hb40.size)))
     go_roundg (L.length - (i + 1))
     case measure => omega
     case rel => exact ⟨i + 1, by omega, by omega, by go_num, ⟨aeC (GY HI.out hb50) hlt hcm⟩⟩
    | some c' =>
     have hcm2 : dn (itA L (i : Int)).f1.data.toList = some c' := hcm
     go_upto_region 13 with (first
      | ((with_reducible refine dA (N := 38) rfl ?_); refine kD rfl (N := 38) rfl (.tmp 37) rfl (itA L (i : Int)).f1 rfl hsm ?_; intro vb w4 hvb hbs hb4; clear hvb; have hb40 := hbx.trans (hb4.mono hbx.size); have hbc4 := (hb4.cell (p := ⟨wr.heap.size, 0, none⟩) (by simp)).trans (XZ wr _ _ _ _ 53); have HT := abD vb _ c' w4 (oz htw hb40) (huw.gr hb40) hbs hln hcm2)
      | (go_at_call 34; with_reducible refine HT.mono ?_; rintro e w5 ⟨A', k', rfl, hr5, hb5⟩; have hb50 := hb40.trans (hb5.mono hb40.size); have hbc5 := (hb5.cell (World.block_lt_of_cell? w4 _ hbc4)).trans hbc4; have HJ := GY HI.out hb50; obtain ⟨⟨u1, x1, f1⟩, u2, x2, f2⟩ := wG HJ hlt; have hcvt := Kd.jO (P := Tryz.prog) (w := w5) (A := A') (c := k') Tryz.underlying46 Tryz.underlying5 Tryz.underlying9 (xs := i8s c') (n := c'.length) (by have := (Kd.bJ hr5).2.2; rwa [nS] at this)))
     have HJ2 := aeD HJ hlt hcm
     rw [VW]
     have hbc6 : ((w5.setCell ⟨gn, i, none⟩ (.string (dP c'))).setCell ⟨gr, i, none⟩ (.bool true)).cell? ⟨wr.heap.size, 0, none⟩ = some (.int .i64 (itA L (i : Int)).f0) := by
      have e1 : gn < wr.heap.size := World.block_lt_of_cell? wr ⟨gn, 0, none⟩ (wG HI.out (by omega)).1.choose_spec.1
      have e2 : gr < wr.heap.size := World.block_lt_of_cell? wr ⟨gr, 0, none⟩ (wG HI.out (by omega)).2.choose_spec.1
      rw [World.cell?_setCell_other _ _ _ _ (fun e => by injection e; omega), World.cell?_setCell_other _ _ _ _ (fun e => by injection e; omega)]
      exact hbc5
     have hnc6 : ((w5.setCell ⟨gn, i, none⟩ (.string (dP c'))).setCell ⟨gr, i, none⟩ (.bool true)).cell? ⟨gn, i, none⟩ = some (.string (dP c')) := by
      rw [World.cell?_setCell_other _ _ _ _ (fun e => by injection e; omega), World.cell?_setCell_same _ _ _ x1]
     have hcl := aeH hr5
     generalize ((w5.setCell ⟨gn, i, none⟩ (.string (dP c'))).setCell ⟨gr, i, none⟩ (.bool true)) = W6 at HJ2 hbc6 hnc6 ⊢
     replace HJ2 := GY HJ2 (w1 := W6.drew) (Below.drew (Below.refl _ _))
     obtain ⟨D, hM, hD⟩ := HJ2.map
     obtain ⟨kl, hkl⟩ := Qe (p := (itA L (i : Int)).f0) (s := dP c') hpm.1 hpm.2 (by show (dP c').data.size ≤ maxLen; unfold dP; simpa using hcl)
     have hle := cnt_le L i (itA L (i : Int)).f0 c'
     have hdl := hD.2 _ _ _ hkl
     rw [fA] at hdl
     obtain ⟨k1, v0, st, w7, w8, k2, k3, k4, k5, k6, k7⟩ := SE hM (by unfold maxLen; omega) hkl hD.1 hdl (WalkArith.wf_i64 (by omega))
     have HK1 := ah.mk (ahx HJ2 k6 k5 (XV hD hlt hcm hkl))
     clear k5 hD hdl hM
     simp only [goInt] at k2 k4
     clear huw htw HJ hr5 hcvt HT hbc4 hbc5 hb40 hb50 hb5 hb4 hbx hbs x1 x2 f1 f2
     go_region
     all_goals (go_wp2; go_roundg (L.length - (i + 1)); (case measure => omega); (case rel => exact ⟨i + 1, by omega, by omega, by go_num, HK1⟩))
  · obtain rfl : i = L.length := by omega
    obtain ⟨W2, rfl⟩ : ∃ W2, W2 = wr := ⟨wr, rfl⟩
    have HJ := HI
    clear HI hi hg hlt
    have hzm : kVd.M W2 W2.heap.size (fun _ => True) zVd (Value.agg #[.string ⟨#[]⟩, .int .u8 0, .slice none 0 0, .int .u8 0]).cells.toList := zn _ _ _ zVd (Kd.mP _ _ _ _ _)
    go_wp2_with (first
     | ((with_reducible refine dA (N := 67) rfl ?_); refine Kd.rM kVd W2.heap.size 48 rfl (N := 67) rfl 39 _ _ rfl (L.length : Int) rfl rfl Tryz.underlying39 _ 56 ahz rfl (by decide) (by omega) zVd (ok := fun _ => True) (okp := fun _ => True) hzm (fun _ hk => hk) trivial (by omega) (by omega) (Below.refl _ _) (Nat.le_refl _) ?_; intro vo w4 hro hb4 hg4 hn4; rw [Int.toNat_natCast] at hro; obtain ⟨Ao, co, eo⟩ := Kd.bW hro; rw [List.length_replicate] at eo; subst eo))
    have H2 : ah (J2 W2 L.length Ao co (bV (vdS L) zVd L.length 0) w4) := ⟨⟨hb4, by rw [pK]; exact hro⟩⟩
    clear hro hb4 hg4 hn4 hzm
    go_loopg [70] L.length (fun gg v70 wr => ∃ k : Nat, k ≤ L.length ∧ L.length - k ≤ gg ∧ v70 = .int .i64 k ∧ ah (J2 W2 L.length Ao co (bV (vdS L) zVd L.length k) wr))
    case atStart => exact ⟨0, Nat.zero_le _, by omega, rfl, H2⟩
    case round =>
     clear H2
     obtain ⟨k, hk, hg, rfl, HI⟩ := hrel
     by_cases hlt : k < L.length
     · have hltz : (k : Int) < (L.length : Int) := by omega
       have hbw : Below w.heap.size w wr := HJ.out.below.trans (HI.out.below.mono HJ.out.below.size)
       obtain ⟨ad, A3, c3, hA, y0, y1, y2, y3, y4, y5⟩ := bC HC.out (k : Int) (by omega) hltz
       rw [Int.toNat_natCast] at y0 y1 y2 y3
       have HCp := ah.mk (abG ahB.out hlt hA y3)
       have HY5 := ah.mk y5
       clear y5
       subst hA
       replace y0 := (hbw.cell (World.block_lt_of_cell? w _ y0)).trans y0
       replace y1 := (hbw.cell (World.block_lt_of_cell? w _ y1)).trans y1
       replace y2 := (hbw.cell (World.block_lt_of_cell? w _ y2)).trans y2
       replace y3 := (hbw.cell (World.block_lt_of_cell? w _ y3)).trans y3
       obtain ⟨go, rfl, o1, o2⟩ := NM HI.out (by rw [bK]; omega)
       obtain ⟨gn, gr, rfl, rfl, n1, n2, n3, n4, n5⟩ := NK HJ.out (by omega)
       obtain ⟨nc, rc⟩ := abz (GY HJ.out HI.out.below) hlt
       have eg1 : gn < W2.heap.size := World.block_lt_of_cell? W2 ⟨gn, 0, none⟩ (wG HJ.out (by omega)).1.choose_spec.1
       have eg2 : gr < W2.heap.size := World.block_lt_of_cell? W2 ⟨gr, 0, none⟩ (wG HJ.out (by omega)).2.choose_spec.1
       obtain ⟨hyl', hyk'⟩ := Bv (vdS L) zVd hlt
       obtain ⟨v2, c0, c1, c2, c3', z0, z1, z2, z3⟩ := Qh HI.out hyl'
       rw [hyk'] at c0 c1 c3'
       clear hyk' hyl'
       have hbx := aI (Below.refl wr.heap.size wr) (Obj.cells #[.int .i64 (itA L (k : Int)).f0, .string (itA L (k : Int)).f1, .bool (itA L (k : Int)).f2, .slice A3 (itA L (k : Int)).f3.length c3] 53)
       have HX := ah.mk (VT HI.out hbx)
       have ncx := (hbx.cell (World.block_lt_of_cell? wr _ nc)).trans nc
       have rcx := (hbx.cell (World.block_lt_of_cell? wr _ rc)).trans rc
       have c0x := (hbx.cell (World.block_lt_of_cell? wr _ c0)).trans c0
       have c1x := (hbx.cell (World.block_lt_of_cell? wr _ c1)).trans c1
       have c2x := (hbx.cell (World.block_lt_of_cell? wr _ c2)).trans c2
       have c3'x := (hbx.cell (World.block_lt_of_cell? wr _ c3')).trans c3'
       have z0x := (hbx.frozen (p := ⟨go, k * 4, none⟩) o2).trans z0
       have z1x := (hbx.frozen (p := ⟨go, k * 4 + 1, none⟩) o2).trans z1
       have z2x := (hbx.frozen (p := ⟨go, k * 4 + 2, none⟩) o2).trans z2
       have z3x := (hbx.frozen (p := ⟨go, k * 4 + 3, none⟩) o2).trans z3
       cases hcm : cmB (itA L (k : Int))
       case' none =>
        have ej := ah.mk (Hf (L := L) hcm)
        rw [abB hcm] at rc rcx
        clear nc ncx
        go_upto_region 27 with (fail)
        obtain ⟨hyl, hyk⟩ := Bv (vdS L) zVd hlt
        have HB := SG (wr := wr) (a := .int .i64 (itA L (k : Int)).f0) (b := .string (itA L (k : Int)).f1) (c := .bool (itA L (k : Int)).f2) (d := .slice A3 (itA L (k : Int)).f3.length c3) (He HI.out hyl hyk (itA L (k : Int)).f1 1) (by simp only [World.size_setCell])
        have HE : ∃ s y, ah (jNm L (itA L (k : Int)) = (s, y)) ∧ ah (J2 W2 L.length (some ⟨go, 0, none⟩) co ((bV (vdS L) zVd L.length k).set k ⟨s, y, [], 0⟩) (((wr.setCell ⟨go, k * 4, none⟩ (.string (itA L (k : Int)).f1)).setCell ⟨go, k * 4 + 1, none⟩ (.int .u8 1)).alloc (Obj.cells #[.int .i64 (itA L (k : Int)).f0, .string (itA L (k : Int)).f1, .bool (itA L (k : Int)).f2, .slice A3 (itA L (k : Int)).f3.length c3] 53))) := ⟨_, _, ej, HB.1⟩
        replace HB := HB.2
        clear hyl hyk
        generalize (((wr.setCell ⟨go, k * 4, none⟩ (.string (itA L (k : Int)).f1)).setCell ⟨go, k * 4 + 1, none⟩ (.int .u8 1)).alloc (Obj.cells #[.int .i64 (itA L (k : Int)).f0, .string (itA L (k : Int)).f1, .bool (itA L (k : Int)).f2, .slice A3 (itA L (k : Int)).f3.length c3] 53)) = W6 at HB HE ⊢
       case' some c' =>
        obtain ⟨en, er⟩ := abA hcm
        rw [en] at nc ncx
        rw [er] at rc rcx
        clear en er
        have hss := pJ c'
        by_cases hlong : 48 < c'.length
        case' pos =>
         have ej := ah.mk (Qi (L := L) hcm hlong)
         have hz : decide ((48 : Int) < ((dP c').size : Int)) = true := decide_eq_true (by omega)
         clear hss
         go_upto_region 27 with (fail)
         obtain ⟨hyl, hyk⟩ := Bv (vdS L) zVd hlt
         have HB := SG (wr := wr) (a := .int .i64 (itA L (k : Int)).f0) (b := .string (itA L (k : Int)).f1) (c := .bool (itA L (k : Int)).f2) (d := .slice A3 (itA L (k : Int)).f3.length c3) (He HI.out hyl hyk (itA L (k : Int)).f1 3) (by simp only [World.size_setCell])
         have HE : ∃ s y, ah (jNm L (itA L (k : Int)) = (s, y)) ∧ ah (J2 W2 L.length (some ⟨go, 0, none⟩) co ((bV (vdS L) zVd L.length k).set k ⟨s, y, [], 0⟩) (((wr.setCell ⟨go, k * 4, none⟩ (.string (itA L (k : Int)).f1)).setCell ⟨go, k * 4 + 1, none⟩ (.int .u8 3)).alloc (Obj.cells #[.int .i64 (itA L (k : Int)).f0, .string (itA L (k : Int)).f1, .bool (itA L (k : Int)).f2, .slice A3 (itA L (k : Int)).f3.length c3] 53))) := ⟨_, _, ej, HB.1⟩
         replace HB := HB.2
         clear hyl hyk
         generalize (((wr.setCell ⟨go, k * 4, none⟩ (.string (itA L (k : Int)).f1)).setCell ⟨go, k * 4 + 1, none⟩ (.int .u8 3)).alloc (Obj.cells #[.int .i64 (itA L (k : Int)).f0, .string (itA L (k : Int)).f1, .bool (itA L (k : Int)).f2, .slice A3 (itA L (k : Int)).f3.length c3] 53)) = W6 at HB HE ⊢
        case' neg =>
         have hz : decide ((48 : Int) < ((dP c').size : Int)) = false := decide_eq_false (by omega)
         have hpm : -9223372036854775808 ≤ (itA L (k : Int)).f0 ∧ (itA L (k : Int)).f0 ≤ 9223372036854775807 := by
          obtain ⟨r1, r2, _⟩ := hwf _ (List.getElem_mem hlt)
          rw [bH hlt]
          exact ⟨r1, r2⟩
         have HJd := GY (GY (GY HJ.out HI.out.below) hbx) (Below.drew (Below.refl _ _))
         have hlk := XY HJd (p := (itA L (k : Int)).f0) (s := dP c') hpm.1 hpm.2 (by rw [pJ]; unfold maxLen; have := ahA hcm (show (itA L (k : Int)).f1.size ≤ 48 by have := List.all_eq_true.1 q3 _ (List.getElem_mem hlt); have := ((nJ _).1 this).1.1.2; rw [bH hlt]; omega); omega)
         rw [fA] at hlk
         clear hss HJd hpm
         by_cases hm : 1 < kT L L.length (itA L (k : Int)).f0 c'
         case' pos =>
          have ej := ah.mk (Qj (L := L) hcm hlong hm)
          have hmz : decide ((1 : Int) < (kT L L.length (itA L (k : Int)).f0 c' : Int)) = true := decide_eq_true (by omega)
          go_upto_region 25 with (fail)
          go_region
          go_upto_region 27 with (fail)
          obtain ⟨hyl, hyk⟩ := Bv (vdS L) zVd hlt
          have HB := VX (wr := wr) (a := .int .i64 (itA L (k : Int)).f0) (b := .string (itA L (k : Int)).f1) (c := .bool (itA L (k : Int)).f2) (d := .slice A3 (itA L (k : Int)).f3.length c3) (He HI.out hyl hyk (itA L (k : Int)).f1 2) (by simp only [World.size_setCell])
          have HE : ∃ s y, ah (jNm L (itA L (k : Int)) = (s, y)) ∧ ah (J2 W2 L.length (some ⟨go, 0, none⟩) co ((bV (vdS L) zVd L.length k).set k ⟨s, y, [], 0⟩) ((((wr.setCell ⟨go, k * 4, none⟩ (.string (itA L (k : Int)).f1)).setCell ⟨go, k * 4 + 1, none⟩ (.int .u8 2)).alloc (Obj.cells #[.int .i64 (itA L (k : Int)).f0, .string (itA L (k : Int)).f1, .bool (itA L (k : Int)).f2, .slice A3 (itA L (k : Int)).f3.length c3] 53)).drew)) := ⟨_, _, ej, HB.1⟩
          replace HB := HB.2
          clear hyl hyk
          generalize (((wr.setCell ⟨go, k * 4, none⟩ (.string (itA L (k : Int)).f1)).setCell ⟨go, k * 4 + 1, none⟩ (.int .u8 2)).alloc (Obj.cells #[.int .i64 (itA L (k : Int)).f0, .string (itA L (k : Int)).f1, .bool (itA L (k : Int)).f2, .slice A3 (itA L (k : Int)).f3.length c3] 53)).drew = W6 at HB HE ⊢
         case' neg =>
          have ej := ah.mk (Hg (L := L) hcm hlong hm)
          have hmz : decide ((1 : Int) < (kT L L.length (itA L (k : Int)).f0 c' : Int)) = false := decide_eq_false (by omega)
          go_upto_region 25 with (fail)
          go_region
          go_upto_region 27 with (fail)
          obtain ⟨hyl, hyk⟩ := Bv (vdS L) zVd hlt
          have HB := VX (wr := wr) (a := .int .i64 (itA L (k : Int)).f0) (b := .string (itA L (k : Int)).f1) (c := .bool (itA L (k : Int)).f2) (d := .slice A3 (itA L (k : Int)).f3.length c3) (VU HI.out hyl hyk (dP c')) (by simp only [World.size_setCell])
          have HE : ∃ s y, ah (jNm L (itA L (k : Int)) = (s, y)) ∧ ah (J2 W2 L.length (some ⟨go, 0, none⟩) co ((bV (vdS L) zVd L.length k).set k ⟨s, y, [], 0⟩) (((wr.setCell ⟨go, k * 4, none⟩ (.string (dP c'))).alloc (Obj.cells #[.int .i64 (itA L (k : Int)).f0, .string (itA L (k : Int)).f1, .bool (itA L (k : Int)).f2, .slice A3 (itA L (k : Int)).f3.length c3] 53)).drew)) := ⟨_, _, ej, HB.1⟩
          replace HB := HB.2
          clear hyl hyk
          generalize ((wr.setCell ⟨go, k * 4, none⟩ (.string (dP c'))).alloc (Obj.cells #[.int .i64 (itA L (k : Int)).f0, .string (itA L (k : Int)).f1, .bool (itA L (k : Int)).f2, .slice A3 (itA L (k : Int)).f3.length c3] 53)).drew = W6 at HB HE ⊢
       all_goals
        obtain ⟨hb2, hb3, hl6⟩ := HB
        obtain ⟨s, y, he1, HJ6⟩ := HE
        have hbw6 : Below w.heap.size w W6 := HJ.out.below.trans (HJ6.out.below.mono HJ.out.below.size)
        clear c0 c1 c2 c3' c0x c1x c2x c3'x z0 z1 z2 z3 z0x z1x z2x z3x y0 y1 y2 y3 rc rcx hbx HX HI hcm hbw
        have hgo6 : go < W6.heap.size := by
         obtain ⟨_, e1, _, e2⟩ := NM HJ6.out (by rw [List.length_set, bK]; omega)
         cases e1
         exact e2
        cases GH : (itA L (k : Int)).f2
        case true =>
         have HN := ah.mk (abE HJ6.out he1.out (show jDt (itA L (k : Int)) = ([], 0) by unfold jDt; rw [if_pos GH]))
         rw [GH] at hb2
         clear he1 HJ6
         go_wp2
         go_roundg (L.length - (k + 1))
         case measure => omega
         case rel => exact ⟨k + 1, by omega, by omega, by go_num, HN⟩
        case false =>
         have hwx := hwf _ (List.getElem_mem hlt)
         rw [← bH hlt] at hwx
         have hrx := List.all_eq_true.1 q3 _ (List.getElem_mem hlt)
         rw [← bH hlt] at hrx
         have hlx := tH hrx
         have hd := abx (itA L (k : Int)).f3 A3 c3 W6 (oz ht hbw6) (hu.gr hbw6) (Kd.aT HY5.out hbw6) (fun b hb => hwx.2.2.2.1 b hb) y4 HCp.out.1 HCp.out.2 (by omega)
         have ej2 : jDt (itA L (k : Int)) = (i8s (dOf (u8s (itA L (k : Int)).f3)).1, (dOf (u8s (itA L (k : Int)).f3)).2) := by unfold jDt; rw [if_neg (by rw [GH]; decide)]
         rw [GH] at hb2
         generalize i8s (dOf (u8s (itA L (k : Int)).f3)).1 = dl at hd ej2
         generalize (dOf (u8s (itA L (k : Int)).f3)).2 = dz at hd ej2
         have ej2 := ah.mk ej2
         have hd2 : Calls Tryz.prog 57 #[.slice A3 (itA L (k : Int)).f3.length c3] W6 fun e w8 => ∃ A8 n8 c8, e = .returned (.tuple #[.slice A8 n8 c8, .int .u8 dz]) ∧ Kd.R (Kd.int .u8) 5 w8 W6.heap.size (fun _ => True) (.slice A8 n8 c8) dl ∧ Below W6.heap.size W6 w8 := hd.mono fun e w8 h => by
          obtain ⟨v8, e1, e2, e3⟩ := h
          obtain ⟨A8, c8, e4⟩ := Kd.bW e2
          subst e4
          exact ⟨A8, _, c8, e1, e2, e3⟩
         clear hd
         obtain ⟨v2', x0, x1, x2, x3, k0, k1, k2, k3⟩ := Qh HJ6.out (i := k) (by rw [List.length_set, bK]; exact hlt)
         have hW26 := HJ6.out.below.size
         clear x0 x1 k0 k1 hwx hrx hlx
         go_wp2_with (go_at_call 57; with_reducible refine hd2.mono ?_; rintro e w8 ⟨A8, n8, c8, rfl, hr8, hb8⟩; have g2 := (hb8.cell (p := ⟨go, k * 4 + 2, none⟩) hgo6).trans x2; have g3 := (hb8.cell (p := ⟨go, k * 4 + 3, none⟩) hgo6).trans x3; have f2 := (hb8.frozen (p := ⟨go, k * 4 + 2, none⟩) hgo6).trans k2; have f3 := (hb8.frozen (p := ⟨go, k * 4 + 3, none⟩) hgo6).trans k3)
         go_roundg (L.length - (k + 1))
         case measure => omega
         case rel => exact ⟨k + 1, by omega, by omega, by go_num, ⟨abE (aeE (VT HJ6.out hb8) (by rw [bK]; exact hlt) hW26 hgo6 hr8 dz) he1.out ej2.out⟩⟩
     · obtain rfl : k = L.length := by omega
       have hb := HJ.out.below.trans (HI.out.below.mono HJ.out.below.size)
       have hout := Kd.dY HI.out.out HJ.out.below.size
       rw [ahy] at hout
       clear HI
       go_wp2
       go_ret2
       exact ⟨_, rfl, hout, hb⟩
theorem NR (v : Value) (b : List UInt8) (w : World) (hv : Bs w v b) (hl : b.length ≤ 20000) (hx : dn b = none) :
    Calls Tryz.prog 88 #[v] w fun e w' => e = .returned (.tuple #[.slice none 0 0, .bool false]) ∧ Below w.heap.size w w' := (Bq v b w hv hl).mono fun e w' h => by
 rcases h with ⟨⟨_, h1⟩ | ⟨c', A, k, h1, _⟩, h2⟩
 · exact ⟨h1, h2⟩
 · rw [hx] at h1; cases h1
theorem tK (v : Value) (b c : List UInt8) (w : World) (hv : Bs w v b) (hl : b.length ≤ 20000) (hx : dn b = some c) :
    Calls Tryz.prog 88 #[v] w fun e w' => ∃ A k, e = .returned (.tuple #[.slice A c.length k, .bool true]) ∧ Kd.R (Kd.int .u8) 5 w' w.heap.size (fun _ => True) (.slice A c.length k) (i8s c) ∧ Below w.heap.size w w' := (Bq v b w hv hl).mono fun e w' h => by
 rcases h with ⟨⟨h1, _⟩ | ⟨c2, A, k, h1, h3, h4⟩, h2⟩
 · rw [hx] at h1; cases h1
 · rw [hx] at h1
   cases h1
   exact ⟨A, k, h3, h4, h2⟩
def NoC (L : List It) (i : Nat) (c : List UInt8) (k : Nat) : Prop := ∀ q : Nat, q < k → q ≠ i → (itA L q).f0 = (itA L i).f0 → cmB (itA L q) ≠ some c
theorem Hl (L : List It) (i : Nat) (c : List UInt8) : NoC L i c 0 := fun _ hq => absurd hq (Nat.not_lt_zero _)
theorem Bz {L : List It} {i : Nat} {c : List UInt8} {k : Nat} (h : NoC L i c k) (hk : k = i ∨ (itA L k).f0 ≠ (itA L i).f0 ∨ cmB (itA L k) ≠ some c) : NoC L i c (k + 1) := fun q hq h1 h2 => by
 by_cases e : q = k
 · subst e
   rcases hk with e | e | e
   · exact absurd e h1
   · exact absurd h2 e
   · exact e
 · exact h q (by omega) h1 h2
structure Rn (w : World) (L : List It) (i : Nat) (c : List UInt8) (A : Option Addr) (cp k : Nat) (wr : World) : Prop where
 below : Below w.heap.size w wr
 no : NoC L i c k
 row : Kd.R (Kd.int .u8) 5 wr w.heap.size (fun _ => True) (.slice A c.length cp) (i8s c)
theorem BA {w wr w1 : World} {L : List It} {i : Nat} {c : List UInt8} {A : Option Addr} {cp k : Nat} (h : Rn w L i c A cp k wr) (hb : Below wr.heap.size wr w1) : Rn w L i c A cp k w1 := ⟨h.below.trans (hb.mono h.below.size), h.no, Kd.dw h.row hb⟩
theorem BD {w wr : World} {L : List It} {i : Nat} {c : List UInt8} {A : Option Addr} {cp k : Nat} (h : Rn w L i c A cp k wr) : (convert 46 9 (.slice A c.length cp)).run Tryz.prog wr = .ok (.string (dP c)) wr := by
 have := Kd.jO (P := Tryz.prog) (w := wr) (A := A) (c := cp) Tryz.underlying46 Tryz.underlying5 Tryz.underlying9 (xs := i8s c) (n := c.length) (by have := (Kd.bJ h.row).2.2; rwa [nS] at this)
 rw [VW] at this
 exact this
theorem Ya (L : List It) (A : Option Addr) (c : Nat) (i : Nat) (hi : i < L.length) (w : World) (hC : Kd.C kIt w A L.length L) (hs : ∀ x ∈ L, x.f1.size ≤ 20000) (hm : L.length ≤ 100000) :
    Calls Tryz.prog 59 #[.slice A L.length c, .int .i64 i] w fun e w' => e = .returned (.tuple #[.string (jNm L (itA L i)).1, .int .u8 (jNm L (itA L i)).2]) ∧ Below w.heap.size w w' := by
 have hu53 := Tryz.underlying53
 have HC := ah.mk hC
 have HS := ah.mk hs
 have hiz : (i : Int) < (L.length : Int) := by omega
 obtain ⟨ad, A3, c3, hA, y0, y1, y2, y3, _, _⟩ := bC hC (i : Int) (by omega) hiz
 rw [Int.toNat_natCast] at y0 y1 y2 y3
 subst hA
 have hsz : (itA L (i : Int)).f1.size ≤ 20000 := by rw [bH hi]; exact hs _ (List.getElem_mem hi)
 have hsm : (itA L (i : Int)).f1.size ≤ maxLen := by unfold maxLen; omega
 have hln : (itA L (i : Int)).f1.data.toList.length ≤ 20000 := by
  rw [show (itA L (i : Int)).f1.data.toList.length = (itA L (i : Int)).f1.size from Array.length_toList]; omega
 clear hC hs
 cases hcm : cmB (itA L (i : Int)) with
 | none =>
  have hcm2 : dn (itA L (i : Int)).f1.data.toList = none := hcm
  rw [Hf hcm]
  go_enter Tryz.func59, Tryz.ntmps59
  go_wp2_with (first
   | ((with_reducible refine dA (N := 19) rfl ?_); refine kD rfl (N := 19) rfl (.tmp 18) rfl (itA L (i : Int)).f1 rfl hsm ?_; intro vb w4 hvb hbs hb4; clear hvb; have HT := NR vb _ w4 hbs hln hcm2)
   | (go_at_call 88; with_reducible refine HT.mono ?_; rintro e w5 ⟨rfl, hb5⟩; have hb50 := hb4.trans (hb5.mono hb4.size)))
  go_ret2
  exact ⟨rfl, hb50⟩
 | some c' =>
  have hcm2 : dn (itA L (i : Int)).f1.data.toList = some c' := hcm
  by_cases hlong : 48 < c'.length
  · rw [Qi hcm hlong]
    have hz : decide ((48 : Int) < (c'.length : Int)) = true := decide_eq_true (by omega)
    go_enter Tryz.func59, Tryz.ntmps59
    go_wp2_with (first
     | ((with_reducible refine dA (N := 19) rfl ?_); refine kD rfl (N := 19) rfl (.tmp 18) rfl (itA L (i : Int)).f1 rfl hsm ?_; intro vb w4 hvb hbs hb4; clear hvb; have HT := tK vb _ _ w4 hbs hln hcm2)
     | (go_at_call 88; with_reducible refine HT.mono ?_; rintro e w5 ⟨A', k', rfl, hr5, hb5⟩; have hb50 := hb4.trans (hb5.mono hb4.size)))
    go_ret2
    exact ⟨rfl, hb50⟩
  · have hz : decide ((48 : Int) < (c'.length : Int)) = false := decide_eq_false (by omega)
    go_enter Tryz.func59, Tryz.ntmps59
    go_wp2_with (first
     | ((with_reducible refine dA (N := 19) rfl ?_); refine kD rfl (N := 19) rfl (.tmp 18) rfl (itA L (i : Int)).f1 rfl hsm ?_; intro vb w4 hvb hbs hb4; clear hvb; have HT := tK vb _ _ w4 hbs hln hcm2)
     | (go_at_call 88; with_reducible refine HT.mono ?_; rintro e w5 ⟨A', k', rfl, hr5, hb5⟩; have hb50 := hb4.trans (hb5.mono hb4.size)))
    have H0 : ah (Rn w L i c' A' k' 0 w5) := ⟨⟨hb50, Hl _ _ _, Kd.dY hr5 hb4.size⟩⟩
    clear hb4 hb5 hb50 hr5 hbs HT y0 y1 y2 y3
    go_loopg [9] L.length (fun gg v9 wr => ∃ k : Nat, k ≤ L.length ∧ L.length - k ≤ gg ∧ v9 = .int .i64 k ∧ ah (Rn w L i c' A' k' k wr))
    case atStart => exact ⟨0, Nat.zero_le _, by omega, rfl, H0⟩
    case round =>
     clear H0
     obtain ⟨k, hk, hg, rfl, HI⟩ := hrel
     by_cases hlt : k < L.length
     · have hltz : (k : Int) < (L.length : Int) := by omega
       have hbw := HI.out.below
       obtain ⟨_, B3, d3, e1, z0, z1, z2, z3, _, _⟩ := bC (Kd.aT HC.out hbw) (k : Int) (by omega) hltz
       cases e1
       rw [Int.toNat_natCast] at z0 z1 z2 z3
       obtain ⟨_, B4, d4, e1, u0, u1, u2, u3, _, _⟩ := bC (Kd.aT HC.out hbw) (i : Int) (by omega) hiz
       cases e1
       rw [Int.toNat_natCast] at u0 u1 u2 u3
       by_cases hki : k = i
       · subst hki
         have hst := Bz HI.out.no (.inl rfl)
         have HN : ah (Rn w L k c' A' k' (k + 1) wr) := ⟨⟨HI.out.below, hst, HI.out.row⟩⟩
         clear HI hst
         go_wp2
         go_quiet (fail)
         go_wp2
         go_roundg (L.length - (k + 1))
         case measure => omega
         case rel => exact ⟨k + 1, by omega, by omega, by go_num, ⟨BA HN.out (bG (Below.refl _ _) _)⟩⟩
       · have hkb : ((k : Int) == (i : Int)) = false := by rw [beq_eq_false_iff_ne]; omega
         by_cases hp : (itA L (k : Int)).f0 = (itA L (i : Int)).f0
         · have hpb : ((itA L (k : Int)).f0 != (itA L (i : Int)).f0) = false := by rw [hp]; simp
           have hsz2 : (itA L (k : Int)).f1.size ≤ 20000 := by rw [bH hlt]; exact HS.out _ (List.getElem_mem hlt)
           have hsm2 : (itA L (k : Int)).f1.size ≤ maxLen := by unfold maxLen; omega
           have hln2 : (itA L (k : Int)).f1.data.toList.length ≤ 20000 := by
            rw [show (itA L (k : Int)).f1.data.toList.length = (itA L (k : Int)).f1.size from Array.length_toList]; omega
           have hp := ah.mk hp
           have hbc := HI.out.below
           cases hcm3 : cmB (itA L (k : Int)) with
           | none =>
            have HN : ah (Rn w L i c' A' k' (k + 1) wr) := ⟨⟨HI.out.below, Bz HI.out.no (.inr (.inr (by rw [hcm3]; intro e; cases e))), HI.out.row⟩⟩
            have hcm4 : dn (itA L (k : Int)).f1.data.toList = none := hcm3
            clear HI hcm3
            go_wp2
            go_quiet (fail)
            replace HN := ah.mk (BA HN.out (bG (Below.refl _ _) nq))
            go_wp2_with (first
             | ((with_reducible refine dA (N := 60) rfl ?_); refine kD rfl (N := 60) rfl (.tmp 59) rfl (itA L (k : Int)).f1 rfl hsm2 ?_; intro vc w6 hvc hbs6 hb6; clear hvc; have HT2 := NR vc _ w6 hbs6 hln2 hcm4)
             | (go_at_call 88; with_reducible refine HT2.mono ?_; rintro e w7 ⟨rfl, hb7⟩; have hb70 := hb6.trans (hb7.mono hb6.size)))
            go_roundg (L.length - (k + 1))
            case measure => omega
            case rel => exact ⟨k + 1, by omega, by omega, by go_num, ⟨BA HN.out hb70⟩⟩
           | some d =>
            have hcm4 : dn (itA L (k : Int)).f1.data.toList = some d := hcm3
            by_cases hdc : d = c'
            · subst hdc
              have afz : 1 < kT L L.length (itA L (i : Int)).f0 d := VQ hi hlt (fun e => hki e.symm) hcm hcm3 hp.out.symm
              have hjn := Qj hcm hlong afz
              have HE : ∀ W, Below w.heap.size w W → (fun (e : Ending) (w' : World) => e = .returned (.tuple #[.string (jNm L (itA L i)).1, .int .u8 (jNm L (itA L i)).2]) ∧ Below w.heap.size w w') (.returned (.tuple #[.string (itA L (i : Int)).f1, .int .u8 2])) W := fun W hB => ⟨by rw [hjn], hB⟩
              have hqb : ((dP d).toList == (dP d).toList) = true := beq_self_eq_true _
              clear hcm3 afz hjn hcm hcm2
              go_wp2
              go_quiet (fail)
              replace HI := ah.mk (BA HI.out (bG (Below.refl _ _) nq))
              go_wp2_with (first
               | ((with_reducible refine dA (N := 60) rfl ?_); refine kD rfl (N := 60) rfl (.tmp 59) rfl (itA L (k : Int)).f1 rfl hsm2 ?_; intro vc w6 hvc hbs6 hb6; clear hvc; have HT2 := tK vc _ d w6 hbs6 hln2 hcm4)
               | (go_at_call 88; with_reducible refine HT2.mono ?_; rintro e w7 ⟨A7, k7, rfl, hr7, hb7⟩; have hb70 := hb6.trans (hb7.mono hb6.size); have HI7 := BA HI.out hb70; have cv1 := BD HI7; have cv2 := BD (Rn.mk (k := 0) HI7.below (Hl L i d) (Kd.dY hr7 (Nat.le_trans HI.out.below.size hb6.size)))))
              go_ret2
              exact HE _ (HI.out.below.trans (hb70.mono HI.out.below.size))
            · have HN : ah (Rn w L i c' A' k' (k + 1) wr) := ⟨⟨HI.out.below, Bz HI.out.no (.inr (.inr (by rw [hcm3]; intro e; exact hdc (Option.some.inj e)))), HI.out.row⟩⟩
              have hqb : ((dP d).toList == (dP c').toList) = false := by
               rw [beq_eq_false_iff_ne]
               intro e
               rw [toList_data, toList_data, fA, fA] at e
               exact hdc e
              clear HI hcm3 hdc
              go_wp2
              go_quiet (fail)
              replace HN := ah.mk (BA HN.out (bG (Below.refl _ _) nq))
              go_wp2_with (first
               | ((with_reducible refine dA (N := 60) rfl ?_); refine kD rfl (N := 60) rfl (.tmp 59) rfl (itA L (k : Int)).f1 rfl hsm2 ?_; intro vc w6 hvc hbs6 hb6; clear hvc; have HT2 := tK vc _ d w6 hbs6 hln2 hcm4)
               | (go_at_call 88; with_reducible refine HT2.mono ?_; rintro e w7 ⟨A7, k7, rfl, hr7, hb7⟩; have hb70 := hb6.trans (hb7.mono hb6.size); have HI7 := BA HN.out hb70; have cv1 := BD HI7; have cv2 := BD (Rn.mk (k := 0) HI7.below (Hl L i d) (Kd.dY hr7 (Nat.le_trans HN.out.below.size hb6.size)))))
              go_roundg (L.length - (k + 1))
              case measure => omega
              case rel => exact ⟨k + 1, by omega, by omega, by go_num, ⟨BA HN.out hb70⟩⟩
         · have hpc : ((itA L (k : Int)).f0 != (itA L (i : Int)).f0) = true := by simpa using hp
           have HN : ah (Rn w L i c' A' k' (k + 1) wr) := ⟨⟨HI.out.below, Bz HI.out.no (.inr (.inl hp)), HI.out.row⟩⟩
           clear HI hp
           go_wp2
           go_quiet (fail)
           go_wp2
           go_roundg (L.length - (k + 1))
           case measure => omega
           case rel => exact ⟨k + 1, by omega, by omega, by go_num, ⟨BA HN.out (bG (Below.refl _ _) _)⟩⟩
     · obtain rfl : k = L.length := by omega
       have afA : ¬ 1 < kT L L.length (itA L (i : Int)).f0 c' := fun hh => by
        obtain ⟨q, h1, h2, h3, h4⟩ := XU hi hcm hh
        exact HI.out.no q h1 h2 h3 h4
       have hjn := Hg hcm hlong afA
       have hb := HI.out.below
       have cv := BD HI.out
       clear HI afA hcm hcm2
       go_wp2
       go_ret2
       rw [hjn]
       exact ⟨rfl, hb⟩
def aeI (x : It) (w0 w : World) (e : Ending) (w' : World) : Prop := (∃ A' c', e = .returned (.tuple #[.slice A' (jDt x).1.length c', .int .u8 (jDt x).2]) ∧ (jDt x).1.length ≤ c' ∧ Kd.F (Kd.int .u8) w' (fun k => k < w0.heap.size ∨ w.heap.size ≤ k) A' (jDt x).1.length (jDt x).1) ∧ Below w.heap.size w w'
theorem abH {x : It} (h : x.f2 = true) (w0 w w' : World) (hb : Below w.heap.size w w') : aeI x w0 w (.returned (.tuple #[.slice none 0 0, .int .u8 0])) w' := by
 have e : jDt x = ([], 0) := by unfold jDt; rw [if_pos h]
 refine ⟨⟨none, 0, by rw [e]; rfl, by rw [e]; exact Nat.le_refl _, ?_⟩, hb⟩
 rw [e]
 exact Kd.aaE _ _ _
theorem Qk {x : It} (h : x.f2 = false) {y : Int} (hd : dOf (u8s x.f3) = (u8s x.f3, y)) (hb8 : rQ x.f3) {w0 w w' : World} {A : Option Addr} {c : Nat} (hC : (Kd.int .u8).C w0 A x.f3.length x.f3) (h0 : Below w0.heap.size w0 w) (hl : x.f3.length ≤ c) (hb : Below w.heap.size w w') : aeI x w0 w (.returned (.tuple #[.slice A x.f3.length c, .int .u8 y])) w' := by
 have e : jDt x = (x.f3, y) := by
  unfold jDt; rw [if_neg (by rw [h]; decide), hd, NI hb8]
 refine ⟨⟨A, c, by rw [e], by rw [e]; exact hl, ?_⟩, hb⟩
 rw [e]
 exact Kd.Gw (Kd.VH (Kd.C_F (Kd.aaC .u8) hC) (h0.trans (hb.mono h0.size))) (fun _ hk => .inl hk)
theorem abI {x : It} (h : x.f2 = false) {b : List UInt8} (hd : dOf (u8s x.f3) = (b, 0)) {w0 w w' : World} {A : Option Addr} {c base : Nat} (hle : w.heap.size ≤ base) (hR : Kd.R (Kd.int .u8) 5 w' base (fun _ => True) (.slice A b.length c) (i8s b)) (hb : Below w.heap.size w w') : aeI x w0 w (.returned (.tuple #[.slice A b.length c, .int .u8 0])) w' := by
 have e : jDt x = (i8s b, 0) := by
  unfold jDt; rw [if_neg (by rw [h]; decide), hd]
 obtain ⟨r1, r2, r3⟩ := Kd.bJ hR
 have hf := Kd.R_F (Kd.dR hR)
 rw [r1] at hf
 refine ⟨⟨A, c, by rw [e, nS], by rw [e, nS]; exact r2, ?_⟩, hb⟩
 rw [e]
 exact Kd.Gw hf (fun _ hk => .inr (Nat.le_trans hle hk.2.1))
theorem Yb (x : It) (A : Option Addr) (c : Nat) (w0 w : World) (hC : (Kd.int .u8).C w0 A x.f3.length x.f3) (h0 : Below w0.heap.size w0 w) (hb : rQ x.f3) (hl : x.f3.length ≤ c) (h1 : c ≤ maxLen) (h2 : A = none → c = 0) (hn : x.f3.length ≤ 20000) :
    Calls Tryz.prog 60 #[.agg #[.int .i64 x.f0, .string x.f1, .bool x.f2, .slice A x.f3.length c]] w (aeI x w0 w) := by
 have hu53 := Tryz.underlying53
 have HC := ah.mk hC
 have HBs := ah.mk (VP (Kd.aT hC h0) hb hl h1 h2)
 have HB8 := ah.mk hb
 have hbx := aI (Below.refl w.heap.size w) (Obj.cells #[.int .i64 x.f0, .string x.f1, .bool x.f2, .slice A x.f3.length c] 53)
 have hnl : (u8s x.f3).length ≤ 20000 := by rw [uN]; exact hn
 clear hC hb
 cases hd : x.f2 with
 | true =>
  rw [hd] at hbx
  go_enter Tryz.func60, Tryz.ntmps60
  go_wp2
  go_ret2
  exact abH hd w0 w _ hbx
 | false =>
  rw [hd] at hbx
  cases hx : dn (u8s x.f3) with
  | none =>
   have hdo : dOf (u8s x.f3) = (u8s x.f3, 4) := by unfold dOf; rw [hx]
   have HT := fun W (B : Below w.heap.size w W) => NR _ _ W (HBs.out.gr B) hnl hx
   have HE := fun W (B : Below w.heap.size w W) => Qk hd hdo HB8.out HC.out h0 hl B
   clear hx hdo
   go_enter Tryz.func60, Tryz.ntmps60
   go_wp2_with (go_at_call 88; with_reducible refine (HT _ hbx).mono ?_; rintro e w5 ⟨rfl, hb5⟩; have hb50 := hbx.trans (hb5.mono hbx.size); have hc5 := (hb5.cell (p := ⟨w.heap.size, 3, none⟩) (by simp)).trans (World.cell?_alloc_new w #[.int .i64 x.f0, .string x.f1, .bool false, .slice A x.f3.length c] 53 3))
   go_ret2
   exact HE _ hb50
  | some c' =>
   by_cases hlen : 8192 < c'.length
   · have hdo : dOf (u8s x.f3) = (u8s x.f3, 5) := by unfold dOf; rw [hx]; exact if_pos hlen
     have HT := fun W (B : Below w.heap.size w W) => tK _ _ _ W (HBs.out.gr B) hnl hx
     have HE := fun W (B : Below w.heap.size w W) => Qk hd hdo HB8.out HC.out h0 hl B
     have hz : decide ((8192 : Int) < (c'.length : Int)) = true := decide_eq_true (by omega)
     clear hx hdo hlen
     go_enter Tryz.func60, Tryz.ntmps60
     go_wp2_with (go_at_call 88; with_reducible refine (HT _ hbx).mono ?_; rintro e w5 ⟨A', k', rfl, hr5, hb5⟩; have hb50 := hbx.trans (hb5.mono hbx.size); have hc5 := (hb5.cell (p := ⟨w.heap.size, 3, none⟩) (by simp)).trans (World.cell?_alloc_new w #[.int .i64 x.f0, .string x.f1, .bool false, .slice A x.f3.length c] 53 3))
     go_ret2
     exact HE _ hb50
   · have hdo : dOf (u8s x.f3) = (c', 0) := by unfold dOf; rw [hx]; exact if_neg hlen
     have HT := fun W (B : Below w.heap.size w W) => tK _ _ _ W (HBs.out.gr B) hnl hx
     have HE := fun (W : World) (base : Nat) (hle : w.heap.size ≤ base) (A' : Option Addr) (k' : Nat) (R : Kd.R (Kd.int .u8) 5 W base (fun _ => True) (.slice A' c'.length k') (i8s c')) (B : Below w.heap.size w W) => abI (w0 := w0) hd hdo hle R B
     have hz : decide ((8192 : Int) < (c'.length : Int)) = false := decide_eq_false (by omega)
     clear hx hdo hlen
     go_enter Tryz.func60, Tryz.ntmps60
     go_wp2_with (go_at_call 88; with_reducible refine (HT _ hbx).mono ?_; rintro e w5 ⟨A', k', rfl, hr5, hb5⟩; have hb50 := hbx.trans (hb5.mono hbx.size))
     go_ret2
     exact HE _ _ hbx.size _ _ hr5 hb50
theorem aeJ : (Tryz.prog.info? 49).map (fun i => (i.zero, i.size, i.bytes)) = some (some (.agg #[.string ⟨#[]⟩, .int .u8 0, .slice none 0 0, .int .u8 0]), 4, 56) := by kernel_rfl
structure Rj (w : World) (L : List It) (v : Value) (k : Nat) (wr : World) : Prop where
 below : Below w.heap.size w wr
 out : Kd.N kVd 49 wr w.heap.size (fun _ => True) v ((vdL L).take k)
theorem ajq {w wr w1 : World} {L : List It} {v : Value} {k : Nat} (h : Rj w L v k wr) (hb : Below wr.heap.size wr w1) : Rj w L v k w1 := ⟨h.below.trans (hb.mono h.below.size), Kd.Bf h.out hb⟩
theorem abJ {L : List It} {k : Nat} (hk : k < L.length) : (vdL L).take k ++ [vdI L (itA L k)] = (vdL L).take (k + 1) := by
 rw [List.take_succ_eq_append_getElem (by rw [ny]; exact hk)]
 congr 2
 unfold vdL
 rw [List.getElem_map, bH hk]
theorem ahC {w wr W6 w8 : World} {L : List It} {v : Value} {k : Nat} (h : Rj w L v k wr) (_hk : k < L.length) {nm : ByteArray} {wy dy : Int} (hnm : (jNm L (itA L (k : Int))).1 = nm) (hwy : (jNm L (itA L (k : Int))).2 = wy) (hdy : (jDt (itA L (k : Int))).2 = dy) (hl6 : wr.heap.size < W6.heap.size) (hb : Below wr.heap.size wr w8) (hb8 : Below W6.heap.size W6 w8)
    {A8 : Option Addr} {n8 c8 : Nat} (hF : (jDt (itA L (k : Int))).1.length = n8 ∧ n8 ≤ c8 ∧ Kd.F (Kd.int .u8) w8 (fun b => b < w.heap.size ∨ W6.heap.size ≤ b) A8 (jDt (itA L (k : Int))).1.length (jDt (itA L (k : Int))).1) :
    Kd.FK kVd ((w8.setCell ⟨wr.heap.size, 2, none⟩ (.slice A8 n8 c8)).setCell ⟨wr.heap.size, 3, none⟩ (.int .u8 dy)) (fun b => (b < w.heap.size ∨ W6.heap.size ≤ b) ∧ b < w8.heap.size) (vdI L (itA L (k : Int))) [.string nm, .int .u8 wy, .slice A8 n8 c8, .int .u8 dy] ∧
    (∀ b, ((b < w.heap.size ∨ W6.heap.size ≤ b) ∧ b < w8.heap.size) → True ∧ some b ≠ v.ownBlock) ∧
    Rj w L v k ((w8.setCell ⟨wr.heap.size, 2, none⟩ (.slice A8 n8 c8)).setCell ⟨wr.heap.size, 3, none⟩ (.int .u8 dy)) ∧ Below W6.heap.size W6 w8 := by
 obtain ⟨e, hc8, hF⟩ := hF
 have hws := h.below.size
 subst hnm; subst hwy; subst hdy; subst e
 refine ⟨acv _ _ (vdI L (itA L (k : Int))) hc8 ?_, fun b hb2 => ⟨trivial, fun e => ?_⟩, ajq h ((hb.setCell (p := ⟨wr.heap.size, 2, none⟩) (Nat.le_refl _) _).setCell (p := ⟨wr.heap.size, 3, none⟩) (Nat.le_refl _) _), hb8⟩
 · have hne : ∀ b, ((b < w.heap.size ∨ W6.heap.size ≤ b) ∧ b < w8.heap.size) → b ≠ wr.heap.size := fun b hb2 => by omega
   exact Kd.afw (p := ⟨wr.heap.size, 3, none⟩) (Kd.afw (p := ⟨wr.heap.size, 2, none⟩) (Kd.VG hF) hne _) hne _
 · have h1 := Kd.aaH h.out b e.symm
   have h2 := Kd.ahd h.out b e.symm
   omega
theorem JO (L : List It) (A : Option Addr) (c : Nat) (hc : L.length ≤ c) (w : World) (hC : Kd.C kIt w A L.length L) (hcap : qy w A L.length) (hwf : WfL L) (hs : ∀ x ∈ L, x.f1.size ≤ 20000 ∧ x.f3.length ≤ 20000) (h0 : checkN L = 0) :
    Calls Tryz.prog 27 #[.slice A L.length c] w fun e w' => ∃ v, e = .returned (.tuple #[v, .int .i64 0]) ∧ Kd.N kVd 49 w' w.heap.size (fun _ => True) v (vdL L) ∧ Below w.heap.size w w' := by
 have hu53 := Tryz.underlying53
 have hu49 := Tryz.underlying49
 have HC := ah.mk hC
 have ahB := ah.mk hcap
 have HS := ah.mk hs
 have HWf := ah.mk hwf
 have HK := fun W (B : Below w.heap.size w W) => uM L (fun x hx => by have := (hs x hx).1; omega) A c hc W (Kd.aT HC.out B)
 obtain ⟨q1, q2, q3⟩ := dB (show checkN L ≠ 14 by rw [h0]; decide)
 rw [h0] at HK
 clear hC hcap hs hwf
 go_enter Tryz.func27, Tryz.ntmps27
 go_wp2_with (go_at_call 58; with_reducible refine (HK _ (Below.refl _ _)).mono ?_; rintro e w1 ⟨rfl, hb1⟩)
 have H0 : ah (Rj w L (.slice none 0 0) 0 w1) := ⟨⟨hb1, by rw [List.take_zero]; exact Kd.YQ _ _ _ _ _⟩⟩
 clear HK hb1
 go_loopg [5, 6] L.length (fun gg v5 v6 wr => ∃ k : Nat, k ≤ L.length ∧ L.length - k ≤ gg ∧ v6 = .int .i64 k ∧ ah (Rj w L v5 k wr))
 case atStart => exact ⟨0, Nat.zero_le _, by omega, rfl, H0⟩
 case round =>
  clear H0
  obtain ⟨k, hk, hg, rfl, HI⟩ := hrel
  by_cases hlt : k < L.length
  · have hltz : (k : Int) < (L.length : Int) := by omega
    have hbw := HI.out.below
    have hsx := HS.out _ (List.getElem_mem hlt)
    rw [← bH hlt] at hsx
    have hwx := HWf.out _ (List.getElem_mem hlt)
    rw [← bH hlt] at hwx
    have HX := ah.mk (⟨hsx, hwx⟩ : _ ∧ _)
    clear hsx hwx
    have hbx := aI (Below.refl wr.heap.size wr) (Obj.cells #[.string ⟨#[]⟩, .int .u8 0, .slice none 0 0, .int .u8 0] 49)
    have HNM := fun W (B : Below w.heap.size w W) => Ya L A c k hlt W (Kd.aT HC.out B) (fun x hx => (HS.out x hx).1) (by omega)
    obtain ⟨nm, hnm⟩ : ∃ nm, (jNm L (itA L (k : Int))).1 = nm := ⟨_, rfl⟩
    obtain ⟨wy, hwy⟩ : ∃ wy, (jNm L (itA L (k : Int))).2 = wy := ⟨_, rfl⟩
    rw [hnm, hwy] at HNM
    have hnm := ah.mk hnm
    have hwy := ah.mk hwy
    have hnew : ∀ j : Nat, (wr.alloc (Obj.cells #[.string ⟨#[]⟩, .int .u8 0, .slice none 0 0, .int .u8 0] 49)).cell? ⟨wr.heap.size, j, none⟩ = (#[.string ⟨#[]⟩, .int .u8 0, .slice none 0 0, .int .u8 0] : Array Value)[j]? := fun j => World.cell?_alloc_new wr _ _ j
    have hbw2 := hbw.trans (hbx.mono hbw.size)
    go_upto_region 10 with (first
     | (go_at_call 59; with_reducible refine (HNM _ hbw2).mono ?_; rintro e w5 ⟨rfl, hb5⟩; have hb50 := hbx.trans (hb5.mono hbx.size); have hc5 := fun j => (hb5.cell (p := ⟨wr.heap.size, j, none⟩) (by simp)).trans (hnew j); have hf5 := fun j => (hb5.frozen (p := ⟨wr.heap.size, j, none⟩) (by simp)); have hc50 := hc5 0; have hc51 := hc5 1))
    have hsz5 : wr.heap.size < w5.heap.size := by have := hb5.size; rw [World.size_alloc] at this; omega
    have hb6 : Below wr.heap.size wr ((w5.setCell ⟨wr.heap.size, 0, none⟩ (.string nm)).setCell ⟨wr.heap.size, 1, none⟩ (.int .u8 wy)) := (hb50.setCell (p := ⟨wr.heap.size, 0, none⟩) (Nat.le_refl _) _).setCell (p := ⟨wr.heap.size, 1, none⟩) (Nat.le_refl _) _
    have hl6 : wr.heap.size < ((w5.setCell ⟨wr.heap.size, 0, none⟩ (.string nm)).setCell ⟨wr.heap.size, 1, none⟩ (.int .u8 wy)).heap.size := by simp [World.setCell]; exact hsz5
    have d0 : ((w5.setCell ⟨wr.heap.size, 0, none⟩ (.string nm)).setCell ⟨wr.heap.size, 1, none⟩ (.int .u8 wy)).cell? ⟨wr.heap.size, 0, none⟩ = some (.string nm) := by
     rw [World.cell?_setCell_other _ _ _ _ (by simp), World.cell?_setCell_same _ _ _ hc50]
    have d1 : ((w5.setCell ⟨wr.heap.size, 0, none⟩ (.string nm)).setCell ⟨wr.heap.size, 1, none⟩ (.int .u8 wy)).cell? ⟨wr.heap.size, 1, none⟩ = some (.int .u8 wy) := by
     have h : (w5.setCell ⟨wr.heap.size, 0, none⟩ (.string nm)).cell? ⟨wr.heap.size, 1, none⟩ = some (.int .u8 0) := by
      rw [World.cell?_setCell_other _ _ _ _ (by simp)]
      exact hc51
     exact World.cell?_setCell_same _ _ _ h
    have d2 : ((w5.setCell ⟨wr.heap.size, 0, none⟩ (.string nm)).setCell ⟨wr.heap.size, 1, none⟩ (.int .u8 wy)).cell? ⟨wr.heap.size, 2, none⟩ = some (.slice none 0 0) := by
     rw [World.cell?_setCell_other _ _ _ _ (by simp), World.cell?_setCell_other _ _ _ _ (by simp)]
     exact hc5 2
    have d3 : ((w5.setCell ⟨wr.heap.size, 0, none⟩ (.string nm)).setCell ⟨wr.heap.size, 1, none⟩ (.int .u8 wy)).cell? ⟨wr.heap.size, 3, none⟩ = some (.int .u8 0) := by
     rw [World.cell?_setCell_other _ _ _ _ (by simp), World.cell?_setCell_other _ _ _ _ (by simp)]
     exact hc5 3
    have df : ∀ j, ((w5.setCell ⟨wr.heap.size, 0, none⟩ (.string nm)).setCell ⟨wr.heap.size, 1, none⟩ (.int .u8 wy)).frozen? ⟨wr.heap.size, j, none⟩ = false := fun j => by
     rw [World.frozen?_setCell, World.frozen?_setCell, hf5 j]
     simp [go_sem]
    generalize ((w5.setCell ⟨wr.heap.size, 0, none⟩ (.string nm)).setCell ⟨wr.heap.size, 1, none⟩ (.int .u8 wy)) = W6 at hb6 hl6 d0 d1 d2 d3 df ⊢
    clear hc5 hf5 hc50 hc51 hnew hb5 hb50 hsz5 HNM
    have hbw6 := hbw.trans (hb6.mono hbw.size)
    obtain ⟨ad, A3, c3, hA, y0, y1, y2, y3, y4, y5⟩ := bC HC.out (k : Int) (by omega) hltz
    rw [Int.toNat_natCast] at y0 y1 y2 y3
    obtain ⟨p1, p2⟩ := abG ahB.out hlt hA y3
    subst hA
    have HD := Yb (itA L (k : Int)) A3 c3 w W6 y5 hbw6 (fun b hb => HX.out.2.2.2.2.1 b hb) y4 p1 p2 HX.out.1.2
    replace y0 := (hbw6.cell (World.block_lt_of_cell? w _ y0)).trans y0
    replace y1 := (hbw6.cell (World.block_lt_of_cell? w _ y1)).trans y1
    replace y2 := (hbw6.cell (World.block_lt_of_cell? w _ y2)).trans y2
    replace y3 := (hbw6.cell (World.block_lt_of_cell? w _ y3)).trans y3
    have HD2 : Calls Tryz.prog 60 #[.agg #[.int .i64 (itA L (k : Int)).f0, .string (itA L (k : Int)).f1, .bool (itA L (k : Int)).f2, .slice A3 (itA L (k : Int)).f3.length c3]] W6 fun e w8 => ∃ A8 n8 c8, e = .returned (.tuple #[.slice A8 n8 c8, .int .u8 (jDt (itA L (k : Int))).2]) ∧ ah ((jDt (itA L (k : Int))).1.length = n8 ∧ n8 ≤ c8 ∧ Kd.F (Kd.int .u8) w8 (fun b => b < w.heap.size ∨ W6.heap.size ≤ b) A8 (jDt (itA L (k : Int))).1.length (jDt (itA L (k : Int))).1) ∧ Below W6.heap.size W6 w8 := HD.mono fun e w8 h => by
     obtain ⟨⟨A8, c8, e1, e2, e3⟩, hb8⟩ := h
     exact ⟨A8, _, c8, e1, ⟨rfl, e2, e3⟩, hb8⟩
    obtain ⟨dy, hdy⟩ : ∃ dy, (jDt (itA L (k : Int))).2 = dy := ⟨_, rfl⟩
    rw [hdy] at HD2
    have hdy := ah.mk hdy
    clear HD p1 p2 y4 y5
    have df2 := df 2
    have df3 := df 3
    go_wp2_with (first
     | (go_at_call 60; with_reducible refine HD2.mono ?_; rintro e w8 ⟨A8, n8, c8, rfl, HF8, hb8⟩; have hb80 := hb6.trans (hb8.mono (Nat.le_of_lt hl6)); have e0 := (hb8.cell (p := ⟨wr.heap.size, 0, none⟩) hl6).trans d0; have e1 := (hb8.cell (p := ⟨wr.heap.size, 1, none⟩) hl6).trans d1; have e2 := (hb8.cell (p := ⟨wr.heap.size, 2, none⟩) hl6).trans d2; have e3 := (hb8.cell (p := ⟨wr.heap.size, 3, none⟩) hl6).trans d3; have ef2 := (hb8.frozen (p := ⟨wr.heap.size, 2, none⟩) hl6).trans df2; have ef3 := (hb8.frozen (p := ⟨wr.heap.size, 3, none⟩) hl6).trans df3; have HAp := ahC HI.out hlt hnm.out hwy.out hdy.out hl6 hb80 hb8 HF8.out)
     | ((with_reducible refine dH (b := .append) (xs := #[.tmp 37, .tmp 39]) rfl ?_); at_builtin; refine Kd.aaK kVd (w0 := w) (W := (w8.setCell ⟨wr.heap.size, 2, none⟩ (.slice A8 n8 c8)).setCell ⟨wr.heap.size, 3, none⟩ (.int .u8 dy)) w.heap.size rfl (.tmp 37) (.tmp 39) 42 49 (.agg #[.string ⟨#[]⟩, .int .u8 0, .slice none 0 0, .int .u8 0]) 56 rfl Tryz.underlying42 aeJ rfl (by decide) (by omega) u5 ((vdL L).take k) (vdI L (itA L (k : Int))) [.string nm, .int .u8 wy, .slice A8 n8 c8, .int .u8 dy] (fun _ => True) (fun b => (b < w.heap.size ∨ W6.heap.size ≤ b) ∧ b < w8.heap.size) rfl ?hx HAp.1 HAp.2.1 (fun _ _ => trivial) HAp.2.2.1.out HAp.2.2.1.below HAp.2.2.1.below.size ?hl ?_; (case hx => (show Value.slice _ _ _ = Value.slice _ _ _; simp [World.setCell])); (case hl => (rw [List.length_take]; omega)); intro v12 w12 ho12 hb12 hg12 hat12))
    go_roundg (L.length - (k + 1))
    case measure => omega
    case rel => exact ⟨k + 1, by omega, by omega, by go_num, ⟨⟨hb12, by rw [← abJ hlt]; exact ho12⟩⟩⟩
  · obtain rfl : k = L.length := by omega
    have hb := HI.out.below
    have hout := HI.out.out
    rw [List.take_of_length_le (by rw [ny]; exact Nat.le_refl _)] at hout
    clear HI
    go_wp2
    go_ret2
    exact ⟨_, rfl, hout, hb⟩
noncomputable def Ql (L : List It) : List Vd := if checkN L = 0 then vdL L else []
theorem SH (L : List It) (A : Option Addr) (c : Nat) (hc : L.length ≤ c) (w : World) (hC : Kd.C kIt w A L.length L) (hcap : qy w A L.length) (hwf : WfL L) (hs : ∀ x ∈ L, x.f1.size ≤ 20000 ∧ x.f3.length ≤ 20000) :
    Calls Tryz.prog 27 #[.slice A L.length c] w fun e w' => ∃ v, e = .returned (.tuple #[v, .int .i64 (checkN L)]) ∧ Kd.N kVd 49 w' w.heap.size (fun _ => True) v (Ql L) ∧ Below w.heap.size w w' := by
 by_cases h0 : checkN L = 0
 · unfold Ql
   rw [if_pos h0, h0]
   exact JO L A c hc w hC hcap hwf hs h0
 · have hj : Ql L = [] := if_neg h0
   rw [hj]
   have HC := ah.mk hC
   have HK := fun W (B : Below w.heap.size w W) => uM L (fun x hx => by have := (hs x hx).1; omega) A c hc W (Kd.aT HC.out B)
   have hne : (checkN L != 0) = true := by simpa using h0
   generalize checkN L = y at HK hne ⊢
   clear hC hcap hs hwf hj h0
   go_enter Tryz.func27, Tryz.ntmps27
   go_wp2_with (go_at_call 58; with_reducible refine (HK _ (Below.refl _ _)).mono ?_; rintro e w1 ⟨rfl, hb1⟩)
   go_ret2
   exact ⟨_, rfl, Kd.YQ _ _ _ _ _, hb1⟩
theorem Yc (L : List It) (A : Option Addr) (c : Nat) (w : World) (ht : Tz w) (hu : Ut w) (hC : Kd.C kIt w A L.length L) (hcap : qy w A L.length) (hwf : WfL L) :
    Calls Tryz.prog 26 #[.slice A L.length c] w fun e w' => ∃ v, e = .returned (.tuple #[v, .int .i64 (checkN L)]) ∧ Kd.R kVd 48 w' w.heap.size (fun _ => True) v (Ql L) ∧ Below w.heap.size w w' := by
 by_cases h0 : checkN L = 0
 · unfold Ql
   rw [if_pos h0, h0]
   exact JM L A c w ht hu hC hcap hwf h0
 · have hj : Ql L = [] := if_neg h0
   rw [hj]
   have HC := ah.mk hC
   have HK := fun W (B : Below w.heap.size w W) => check_any L A c W (Kd.aT HC.out B) hwf
   have hne : (checkN L != 0) = true := by simpa using h0
   generalize checkN L = y at HK hne ⊢
   clear hC hcap hwf hj h0
   go_enter Tryz.func26, Tryz.ntmps26
   go_wp2_with (go_at_call 18; with_reducible refine (HK _ (Below.refl _ _)).mono ?_; rintro e w1 ⟨rfl, hb1⟩)
   go_ret2
   exact ⟨_, rfl, Kd.mP _ _ _ _ _, hb1⟩
theorem ahD {e base g n cap : Nat} {ok okp : Nat → Prop} {W : World} {xs : List It} (h : Kd.N kIt e W base ok (.slice (some ⟨g, 0, none⟩) n cap) xs) {k : Nat} (hk : k < n) {x' : It} {a b c d : Value} (hM : Kd.FK kIt W okp x' [a, b, c, d]) (nI : ∀ j, okp j → ok j ∧ j ≠ g) :
    Kd.N kIt e ((((W.setCell ⟨g, k * 4, none⟩ a).setCell ⟨g, k * 4 + 1, none⟩ b).setCell ⟨g, k * 4 + 2, none⟩ c).setCell ⟨g, k * 4 + 3, none⟩ d) base ok (.slice (some ⟨g, 0, none⟩) n cap) (xs.set k x') := by
 obtain ⟨cs, h1, _, h3, _⟩ := Kd.RN h zIt (k : Int) (by omega) (by omega)
 rw [Int.toNat_natCast] at h3
 have := (Kd.aiY h (k : Int) (by omega) (by omega) (c := cs) (seg := [a, b, c, d]) (j := 0) (x' := x') (okp := okp) h1 h3 (Nat.le_refl _) (by
  rw [List.take_zero, List.nil_append, List.drop_of_length_le (by rw [h1]; exact Nat.le_refl _), List.append_nil]; exact hM) nI).1
 rw [Int.toNat_natCast] at this
 exact this
theorem aeK {e base g n cap : Nat} {ok : Nat → Prop} {W : World} {xs : List It} (h : Kd.N kIt e W base ok (.slice (some ⟨g, 0, none⟩) n cap) xs) {k : Nat} (hk : k < n) :
    (∃ u, W.cell? ⟨g, k * 4, none⟩ = some u) ∧ (∃ u, W.cell? ⟨g, k * 4 + 1, none⟩ = some u) ∧ (∃ u, W.cell? ⟨g, k * 4 + 2, none⟩ = some u) ∧ (∃ u, W.cell? ⟨g, k * 4 + 3, none⟩ = some u) ∧ W.frozen? ⟨g, k * 4, none⟩ = false ∧ W.frozen? ⟨g, k * 4 + 1, none⟩ = false ∧ W.frozen? ⟨g, k * 4 + 2, none⟩ = false ∧ W.frozen? ⟨g, k * 4 + 3, none⟩ = false := by
 obtain ⟨cs, h1, _, h3, h4⟩ := Kd.RN h zIt (k : Int) (by omega) (by omega)
 rw [Int.toNat_natCast] at h3 h4
 have h1' : cs.length = 4 := h1
 match cs, h1' with
 | [x0, x1, x2, x3], _ => exact ⟨⟨_, h3 0 _ rfl⟩, ⟨_, h3 1 _ rfl⟩, ⟨_, h3 2 _ rfl⟩, ⟨_, h3 3 _ rfl⟩, h4 0, h4 1, h4 2, h4 3⟩
noncomputable def tuS (L : List It) (j : Nat) : It := oM L (itA L j)
theorem ahE (L : List It) : bV (tuS L) zIt L.length L.length = bf L := by
 apply List.ext_getElem
 · rw [bK, iY]
 · intro j h1 h2
   have hj : j < L.length := by rwa [iY] at h2
   simp only [bV, List.getElem_map, List.getElem_range, bf]
   rw [if_pos hj, tuS, bH hj]
structure Tu (W0 W1 : World) (L : List It) (v : Value) (Ao : Option Addr) (co k : Nat) (wr : World) : Prop where
 le : W0.heap.size ≤ W1.heap.size
 below : Below W0.heap.size W0 wr
 row : Kd.N kVd 48 wr 0 (fun b => b < W0.heap.size) v (vdL L)
 out : Kd.N kIt 53 wr W0.heap.size (fun _ => True) (.slice Ao L.length co) (bV (tuS L) zIt L.length k)
theorem afB {W0 W1 wr w1 : World} {L : List It} {v : Value} {Ao : Option Addr} {co k : Nat} (h : Tu W0 W1 L v Ao co k wr) (hb : Below wr.heap.size wr w1) : Tu W0 W1 L v Ao co k w1 := ⟨h.le, h.below.trans (hb.mono h.below.size), Kd.Bf h.row hb, Kd.Bf h.out hb⟩
theorem aeL {W0 W1 wr : World} {L : List It} {v : Value} {go co k : Nat} (h : Tu W0 W1 L v (some ⟨go, 0, none⟩) co k wr) (hk : k < L.length) {nm : ByteArray} {A8 : Option Addr} {n8 c8 : Nat} (hn : (jNm L (itA L (k : Int))).1 = nm) (hd : (jDt (itA L (k : Int))).1.length = n8 ∧ n8 ≤ c8 ∧ Kd.F (Kd.int .u8) wr (fun b => b < W0.heap.size) A8 (jDt (itA L (k : Int))).1.length (jDt (itA L (k : Int))).1) :
    Tu W0 W1 L v (some ⟨go, 0, none⟩) co (k + 1) ((((wr.setCell ⟨go, k * 4, none⟩ (.int .i64 (itA L (k : Int)).f0)).setCell ⟨go, k * 4 + 1, none⟩ (.string nm)).setCell ⟨go, k * 4 + 2, none⟩ (.bool (itA L (k : Int)).f2)).setCell ⟨go, k * 4 + 3, none⟩ (.slice A8 n8 c8)) := by
 have hgo : W0.heap.size ≤ go := Kd.aaH h.out go rfl
 obtain ⟨e8, hc8, hF⟩ := hd
 subst hn; subst e8
 refine ⟨h.le, (((h.below.setCell (p := ⟨go, k * 4, none⟩) hgo _).setCell (p := ⟨go, k * 4 + 1, none⟩) hgo _).setCell (p := ⟨go, k * 4 + 2, none⟩) hgo _).setCell (p := ⟨go, k * 4 + 3, none⟩) hgo _, ?_, ?_⟩
 · have hne : ∀ b, b < W0.heap.size → b ≠ go := fun b hb => by omega
   exact Kd.VI (p := ⟨go, k * 4 + 3, none⟩) (Kd.VI (p := ⟨go, k * 4 + 2, none⟩) (Kd.VI (p := ⟨go, k * 4 + 1, none⟩) (Kd.VI (p := ⟨go, k * 4, none⟩) h.row hne _) hne _) hne _) hne _
 · rw [← sZ]
   exact ahD h.out hk (x' := tuS L k) (okp := fun b => b < W0.heap.size) (Tv wr _ (oM L (itA L (k : Int))) hc8 hF) (fun b hb => ⟨trivial, by omega⟩)
theorem Ho (L : List It) (A : Option Addr) (c : Nat) (w : World) (ht : Tz w) (hu : Ut w) (hC : Kd.C kIt w A L.length L) (hcap : qy w A L.length) (hwf : WfL L) (h0 : checkN L = 0) :
    Calls Tryz.prog 50 #[.slice A L.length c] w fun e w' => ∃ A1 c1 A2 c2, e = .returned (.tuple #[.slice A1 L.length c1, .slice A2 L.length c2, .int .i64 0]) ∧ L.length ≤ c1 ∧ L.length ≤ c2 ∧ Kd.C kIt w' A1 L.length (bf L) ∧ Kd.C kVd w' A2 L.length (vdL L) ∧ Below w.heap.size w w' := by
 have hu53 := Tryz.underlying53
 have HC := ah.mk hC
 have HJ := JM L A c w ht hu hC hcap hwf h0
 obtain ⟨q1, q2, q3⟩ := dB (show checkN L ≠ 14 by rw [h0]; decide)
 clear hC hcap
 have HJ2 : Calls Tryz.prog 26 #[.slice A L.length c] w fun e w' => ∃ A2 c2, e = .returned (.tuple #[.slice A2 L.length c2, .int .i64 0]) ∧ ah (Kd.R kVd 48 w' w.heap.size (fun _ => True) (.slice A2 L.length c2) (vdL L)) ∧ Below w.heap.size w w' := HJ.mono fun e w' h => by
  obtain ⟨v, e1, e2, e3⟩ := h
  obtain ⟨A2, c2, e4⟩ := Kd.bW e2
  rw [ny] at e4
  subst e4
  exact ⟨A2, c2, e1, ⟨e2⟩, e3⟩
 clear HJ
 have hzm : ∀ W base, kIt.M W base (fun _ => True) zIt (Value.agg #[.int .i64 0, .string ⟨#[]⟩, .bool false, .slice none 0 0]).cells.toList := fun W base => tN W base _ zIt (Kd.mP _ _ _ _ _)
 go_enter Tryz.func50, Tryz.ntmps50
 go_wp2_with (first
  | (go_at_call 26; with_reducible refine HJ2.mono ?_; rintro e W0 ⟨A2, c2, rfl, hr1, hb1⟩)
  | ((with_reducible refine dA (N := 20) rfl ?_); refine Kd.rM kIt W0.heap.size 53 rfl (N := 20) rfl 22 _ _ rfl (L.length : Int) rfl rfl Tryz.underlying22 _ 56 uX rfl (by decide) (by omega) zIt (ok := fun _ => True) (okp := fun _ => True) (hzm W0 W0.heap.size) (fun _ hk => hk) trivial (by omega) (by omega) (Below.refl _ _) (Nat.le_refl _) ?_; intro vo w2 hro hb2 hg2 hn2; rw [Int.toNat_natCast] at hro; obtain ⟨Ao, co, eo⟩ := Kd.bW hro; rw [List.length_replicate] at eo; subst eo))
 have H1 : ah (Tu W0 w2 L (.slice A2 L.length c2) Ao co 0 w2) := ⟨⟨hb2.size, hb2, Kd.aea (Kd.ahc (Kd.Bf (Kd.adZ (Kd.R_N hr1.out)) hb2) (fun b hb => hb.2)) (Nat.zero_le _), by rw [pK]; exact Kd.R_N hro⟩⟩
 clear hro hg2 hn2 hzm hb2
 go_loopg [23] L.length (fun gg v23 wr => ∃ k : Nat, k ≤ L.length ∧ L.length - k ≤ gg ∧ v23 = .int .i64 k ∧ ah (Tu W0 w2 L (.slice A2 L.length c2) Ao co k wr))
 case atStart => exact ⟨0, Nat.zero_le _, by omega, rfl, H1⟩
 case round =>
  clear H1
  obtain ⟨k, hk, hg, rfl, HI⟩ := hrel
  by_cases hlt : k < L.length
  · have hltz : (k : Int) < (L.length : Int) := by omega
    have hbw := hb1.trans (HI.out.below.mono hb1.size)
    obtain ⟨ad, A3, c3, hA, y0, y1, y2, y3, y4, y5⟩ := bC HC.out (k : Int) (by omega) hltz
    rw [Int.toNat_natCast] at y0 y1 y2 y3
    subst hA
    replace y0 := (hbw.cell (World.block_lt_of_cell? w _ y0)).trans y0
    replace y1 := (hbw.cell (World.block_lt_of_cell? w _ y1)).trans y1
    replace y2 := (hbw.cell (World.block_lt_of_cell? w _ y2)).trans y2
    replace y3 := (hbw.cell (World.block_lt_of_cell? w _ y3)).trans y3
    obtain ⟨g2, cap2, e2, _, hg2, _⟩ := Kd.aaI HI.out.row (by rw [ny]; omega)
    rw [ny] at e2
    cases e2
    obtain ⟨go, capo, e2, hgo1, hgo2, _⟩ := Kd.aaI HI.out.out (by rw [bK]; omega)
    rw [bK] at e2
    cases e2
    obtain ⟨⟨o0, p0⟩, ⟨o1, p1⟩, ⟨o2, p2⟩, ⟨o3, p3⟩, z0, z1, z2, z3⟩ := aeK HI.out.out hlt
    obtain ⟨cs, h1, h2, h3, _⟩ := Kd.RN HI.out.row zVd (k : Int) (by omega) hltz
    rw [Int.toNat_natCast] at h2 h3
    have ex : (vdL L).getD k zVd = vdI L (itA L (k : Int)) := by
     rw [List.getD_eq_getElem?_getD, List.getElem?_eq_getElem (by rw [ny]; exact hlt), Option.getD_some]
     unfold vdL
     rw [List.getElem_map, bH hlt]
    rw [ex] at h2
    obtain ⟨A8, c8, rfl, hc8, hF⟩ := BL h2
    obtain ⟨nm, hnm⟩ : ∃ nm, (jNm L (itA L (k : Int))).1 = nm := ⟨_, rfl⟩
    obtain ⟨n8, hn8⟩ : ∃ n8, (jDt (itA L (k : Int))).1.length = n8 := ⟨_, rfl⟩
    have x0 : wr.cell? ⟨g2, k * 4, none⟩ = some (.string nm) := by rw [← hnm]; exact h3 0 _ rfl
    have x2 : wr.cell? ⟨g2, k * 4 + 2, none⟩ = some (.slice A8 n8 c8) := by rw [← hn8]; exact h3 2 _ rfl
    have HS := ah.mk (aeL HI.out hlt hnm ⟨hn8, hn8 ▸ hc8, Kd.Gw hF (fun b hb => hb.1)⟩)
    clear h1 h2 h3 hF hc8 ex hnm hn8 HI y4 y5
    have hbx := aI (Below.refl wr.heap.size wr) (Obj.cells #[.int .i64 (itA L (k : Int)).f0, .string (itA L (k : Int)).f1, .bool (itA L (k : Int)).f2, .slice A3 (itA L (k : Int)).f3.length c3] 53)
    have x0x := (hbx.cell (p := ⟨g2, k * 4, none⟩) hg2).trans x0
    have x2x := (hbx.cell (p := ⟨g2, k * 4 + 2, none⟩) hg2).trans x2
    have p0x := (hbx.cell (p := ⟨go, k * 4, none⟩) hgo2).trans p0
    have p1x := (hbx.cell (p := ⟨go, k * 4 + 1, none⟩) hgo2).trans p1
    have p2x := (hbx.cell (p := ⟨go, k * 4 + 2, none⟩) hgo2).trans p2
    have p3x := (hbx.cell (p := ⟨go, k * 4 + 3, none⟩) hgo2).trans p3
    have z0x := (hbx.frozen (p := ⟨go, k * 4, none⟩) hgo2).trans z0
    have z1x := (hbx.frozen (p := ⟨go, k * 4 + 1, none⟩) hgo2).trans z1
    have z2x := (hbx.frozen (p := ⟨go, k * 4 + 2, none⟩) hgo2).trans z2
    have z3x := (hbx.frozen (p := ⟨go, k * 4 + 3, none⟩) hgo2).trans z3
    go_upto_region 8 with (fail)
    go_region
    have HS2 := ah.mk (afB (afB HS.out (aI (Below.refl _ _) (Obj.cells #[.int .i64 (itA L (k : Int)).f0, .string (itA L (k : Int)).f1, .bool (itA L (k : Int)).f2, .slice A3 (itA L (k : Int)).f3.length c3] 53))) (Below.drew (Below.refl _ _)))
    clear HS
    go_wp2
    go_roundg (L.length - (k + 1))
    case measure => omega
    case rel => exact ⟨k + 1, by omega, by omega, by go_num, HS2⟩
  · obtain rfl : k = L.length := by omega
    have hb := hb1.trans (HI.out.below.mono hb1.size)
    obtain ⟨_, r1, r2⟩ := Kd.sS HI.out.row
    obtain ⟨_, t1, t2⟩ := Kd.sS HI.out.out
    rw [ny] at r2
    rw [bK, ahE] at t2
    clear HI
    go_wp2
    go_ret3
    exact ⟨_, _, _, _, rfl, t1, r1, t2, r2, hb⟩
theorem Hq (L : List It) (A : Option Addr) (c : Nat) (w : World) (ht : Tz w) (hu : Ut w) (hC : Kd.C kIt w A L.length L) (hcap : qy w A L.length) (hwf : WfL L) (h0 : checkN L ≠ 0) :
    Calls Tryz.prog 50 #[.slice A L.length c] w fun e w' => e = .returned (.tuple #[.slice none 0 0, .slice none 0 0, .int .i64 (checkN L)]) ∧ Below w.heap.size w w' := by
 have hj : Ql L = [] := if_neg h0
 have HJ := Yc L A c w ht hu hC hcap hwf
 have hne : (checkN L != 0) = true := by simpa using h0
 generalize checkN L = y at HJ hne ⊢
 clear hC hcap hwf hj h0
 go_enter Tryz.func50, Tryz.ntmps50
 go_wp2_with (go_at_call 26; with_reducible refine HJ.mono ?_; rintro e w1 ⟨v, rfl, _, hb1⟩)
 go_ret3
 exact ⟨rfl, hb1⟩
section
variable {T : List It} (h14 : checkN T ≠ 14)
include h14
end
section
variable {L : List It} (h0 : checkN L = 0)
include h0
theorem uP : checkN (bf L) ≠ 14 := by rw [yZ h0]; decide
omit h0 in
theorem amV : oL (bf L) = (List.range L.length).map (oN (bf L)) := by
 have hl := iY L
 apply List.ext_getElem
 · rw [uK, List.length_map, List.length_range, hl]
 · intro k h1 h2
   have hk : k < (bf L).length := by rwa [uK] at h1
   have := yY hk
   rw [List.getElem?_eq_getElem h1] at this
   simp only [List.getElem_map, List.getElem_range]
   exact Option.some.inj this
end
theorem rd49 {L : List It} {k : Nat} (hk : k < L.length) : dV (vdL L) (k : Int) = vdI L (itA L (k : Int)) := by
 unfold dV
 rw [Int.toNat_natCast, List.getD_eq_getElem?_getD, List.getElem?_eq_getElem (by rw [ny]; exact hk), Option.getD_some]
 unfold vdL
 rw [List.getElem_map, bH hk]
noncomputable def lI (L : List It) : List It := if checkN L = 0 then sortL (bf L) else []
theorem turn_wf {L : List It} (hwf : WfL L) (h0 : checkN L = 0) : WfL (bf L) := by
 obtain ⟨_, _, q3⟩ := dB (uP h0)
 rw [List.all_eq_true] at q3
 intro x hx
 have hr := q3 x hx
 obtain ⟨y, hy, rfl⟩ := List.mem_map.1 hx
 obtain ⟨a1, a2, _, a4, _⟩ := hwf y hy
 refine ⟨a1, a2, ?_, ?_, ?_⟩
 · have := ((nJ _).1 hr).1.1.2
   unfold maxLen
   omega
 · show ∀ b ∈ (jDt y).1, 0 ≤ b ∧ b ≤ 255
   unfold jDt
   by_cases hd : y.f2 = true
   · rw [if_pos hd]; intro b hb; cases hb
   · rw [if_neg hd]
     exact Sz _
 · have := tH hr
   unfold maxLen
   omega
theorem Yk (L : List It) (A : Option Addr) (c : Nat) (w : World) (ht : Tz w) (hu : Ut w) (hC : Kd.C kIt w A L.length L) (hcap : qy w A L.length) (hwf : WfL L) (h0 : checkN L = 0) :
    Calls Tryz.prog 20 #[.slice A L.length c] w fun e w' => ∃ v, e = .returned (.tuple #[v, .int .i64 0]) ∧ Kd.R kIt 53 w' w.heap.size (fun _ => True) v (sortL (bf L)) ∧ Below w.heap.size w w' := by
 have HT := Ho L A c w ht hu hC hcap hwf h0
 have hwt := turn_wf hwf h0
 have hlen := iY L
 have hsT : GN (bf L) = sortL (bf L) := if_neg (uP h0)
 have hsE : GR (bf L) = 0 := if_neg (uP h0)
 have HS : ∀ W A1 c1, L.length ≤ c1 → Kd.C kIt W A1 L.length (bf L) → Calls Tryz.prog 51 #[.slice A1 L.length c1] W fun e w' => ∃ v, e = .returned (.tuple #[v, .int .i64 0]) ∧ Kd.R kIt 53 w' W.heap.size (fun _ => True) v (sortL (bf L)) ∧ Below W.heap.size W w' := fun W A1 c1 h1 h2 => by
  have := abl (bf L) A1 c1 (by omega) W (by rw [hlen]; exact h2) hwt
  rw [hlen, hsT, hsE] at this
  exact this
 generalize sortL (bf L) = S at HS ⊢
 have HT := ah.mk HT
 clear hC hcap hwf hwt hlen hsT hsE
 go_enter Tryz.func20, Tryz.ntmps20
 go_wp2_with (first
  | (go_at_call 50; with_reducible refine HT.out.mono ?_; rintro e w1 ⟨A1, c1, A2, c2, rfl, l1, _, r1, _, hb1⟩; have HS1 := HS w1 A1 c1 l1 r1)
  | (go_at_call 51; with_reducible refine HS1.mono ?_; rintro e w2 ⟨v2, rfl, hr2, hb2⟩))
 go_ret2
 exact ⟨_, rfl, Kd.dY hr2 hb1.size, hb1.trans (hb2.mono hb1.size)⟩
theorem Hw (L : List It) (A : Option Addr) (c : Nat) (w : World) (ht : Tz w) (hu : Ut w) (hC : Kd.C kIt w A L.length L) (hcap : qy w A L.length) (hwf : WfL L) :
    Calls Tryz.prog 20 #[.slice A L.length c] w fun e w' => ∃ v, e = .returned (.tuple #[v, .int .i64 (checkN L)]) ∧ Kd.R kIt 53 w' w.heap.size (fun _ => True) v (lI L) ∧ Below w.heap.size w w' := by
 by_cases h0 : checkN L = 0
 · unfold lI
   rw [if_pos h0, h0]
   exact Yk L A c w ht hu hC hcap hwf h0
 · have hj : lI L = [] := if_neg h0
   rw [hj]
   have HT := Hq L A c w ht hu hC hcap hwf h0
   have hne : (checkN L != 0) = true := by simpa using h0
   generalize checkN L = y at HT hne ⊢
   clear hC hcap hwf hj h0
   go_enter Tryz.func20, Tryz.ntmps20
   go_wp2_with (go_at_call 50; with_reducible refine HT.mono ?_; rintro e w1 ⟨rfl, hb1⟩)
   go_ret2
   exact ⟨_, rfl, Kd.mP _ _ _ _ _, hb1⟩
noncomputable def lnJ (L : List It) (k : Nat) (j : Nat) : List Ln :=
 (if 0 < j then (if (jNm L (itA L k)).2 = 0 then [] else [⟨bQ (bf L) k, (jNm L (itA L k)).2⟩]) else []) ++ if 1 < j then (if (jDt (itA L k)).2 = 0 then [] else [⟨bQ (bf L) k, (jDt (itA L k)).2⟩]) else []
theorem aeU (L : List It) (k : Nat) : lnJ L k 2 = lnL L k := by unfold lnJ lnL; rfl
noncomputable def lns (L : List It) (k : Nat) : List Ln := (List.range k).flatMap (lnL L)
theorem Qp (L : List It) (k : Nat) : lns L (k + 1) = lns L k ++ lnL L k := by
 unfold lns
 rw [List.range_succ, List.flatMap_append, List.flatMap_singleton]
theorem aeV (L : List It) (k : Nat) : (lnL L k).length ≤ 2 := by
 unfold lnL
 rw [List.length_append]
 have h1 : (if (jNm L (itA L k)).2 = 0 then ([] : List Ln) else [⟨bQ (bf L) k, (jNm L (itA L k)).2⟩]).length ≤ 1 := by split <;> simp
 have h2 : (if (jDt (itA L k)).2 = 0 then ([] : List Ln) else [⟨bQ (bf L) k, (jDt (itA L k)).2⟩]).length ≤ 1 := by split <;> simp
 omega
theorem NY (L : List It) : ∀ k, (lns L k).length ≤ 2 * k
 | 0 => by simp [lns]
 | k + 1 => by
  rw [Qp, List.length_append]
  have := NY L k
  have := aeV L k
  omega
noncomputable def whJ (L : List It) (k j : Nat) : Int := if j = 0 then (jNm L (itA L k)).2 else (jDt (itA L k)).2
theorem abU {L : List It} {k j : Nat} (hj : j < 2) : lnJ L k (j + 1) = lnJ L k j ++ if whJ L k j = 0 then [] else [⟨bQ (bf L) k, whJ L k j⟩] := by
 match j, hj with
 | 0, _ => unfold lnJ whJ; simp
 | 1, _ => unfold lnJ whJ; simp
theorem aeW (L : List It) (k j : Nat) : (lnJ L k j).length ≤ 2 := by
 unfold lnJ
 rw [List.length_append]
 have h1 : (if 0 < j then (if (jNm L (itA L k)).2 = 0 then ([] : List Ln) else [⟨bQ (bf L) k, (jNm L (itA L k)).2⟩]) else []).length ≤ 1 := by split <;> (try split) <;> simp
 have h2 : (if 1 < j then (if (jDt (itA L k)).2 = 0 then ([] : List Ln) else [⟨bQ (bf L) k, (jDt (itA L k)).2⟩]) else []).length ≤ 1 := by split <;> (try split) <;> simp
 omega
structure Rp (W0 : World) (ok : Nat → Prop) (v : Value) (X : List Ln) (wr : World) : Prop where
 below : Below W0.heap.size W0 wr
 out : Kd.R kLn 90 wr W0.heap.size ok v X
theorem ajr {W0 wr w1 : World} {ok : Nat → Prop} {v : Value} {X : List Ln} (h : Rp W0 ok v X wr) (hb : Below wr.heap.size wr w1) : Rp W0 ok v X w1 := ⟨h.below.trans (hb.mono h.below.size), Kd.dw h.out hb⟩
theorem Yo (W : World) (L : List It) (k : Nat) {j : Nat} (hj : j < 2) : (W.alloc (Obj.cells #[.int .u8 (vdI L (itA L (k : Int))).f1, .int .u8 (vdI L (itA L (k : Int))).f3] 45)).drew.cell? ⟨W.heap.size, j, none⟩ = some (.int .u8 (whJ L k j)) := by
 have h : (W.alloc (Obj.cells #[.int .u8 (vdI L (itA L (k : Int))).f1, .int .u8 (vdI L (itA L (k : Int))).f3] 45)).drew.cell? ⟨W.heap.size, j, none⟩ = (#[.int .u8 (vdI L (itA L (k : Int))).f1, .int .u8 (vdI L (itA L (k : Int))).f3] : Array Value)[j]? := World.cell?_alloc_new W _ _ j
 rw [h]
 match j, hj with
 | 0, _ => rfl
 | 1, _ => rfl
theorem ahH : (Tryz.prog.info? 90).map (fun i => (i.zero, i.size, i.bytes)) = some (some (.agg #[.slice none 0 0, .int .u8 0]), 2, 32) := by kernel_rfl
theorem Yp (L : List It) (k : Nat) (hk : k < L.length) (hlen : (bf L).length = L.length) (h14 : checkN (bf L) ≠ 14) (hwf : WfL (bf L)) (A1 : Option Addr) (c1 : Nat) (hc : L.length ≤ c1) (W : World) (hC : Kd.C kIt W A1 L.length (bf L)) :
    Calls Tryz.prog 41 #[.slice A1 L.length c1, .int .i64 k] W fun e w' => ∃ Ap np cp, e = .returned (.slice Ap np cp) ∧ Kd.R Kd.string 9 w' W.heap.size (fun _ => True) (.slice Ap np cp) (bQ (bf L) k) ∧ Below W.heap.size W w' := by
 have h := aaS (bf L) (k : Int) A1 c1 (by omega) W (by rw [hlen]; exact hC) hwf
 rw [hlen, Qb h14 (by omega)] at h
 refine h.mono fun e w' h => ?_
 obtain ⟨v, rfl, h1, h2⟩ := h
 obtain ⟨Ap, cp, rfl⟩ := Kd.bW h1
 exact ⟨Ap, _, cp, rfl, h1, h2⟩
theorem Yq (L : List It) (A : Option Addr) (c : Nat) (w : World) (ht : Tz w) (hu : Ut w) (hC : Kd.C kIt w A L.length L) (hcap : qy w A L.length) (hwf : WfL L) (h0 : checkN L = 0) :
    Calls Tryz.prog 29 #[.slice A L.length c] w fun e w' => ∃ A3 c3, e = .returned (.tuple #[.slice A3 (Ht L).length c3, .int .i64 0]) ∧ (Ht L).length ≤ c3 ∧ Kd.C kLn w' A3 (Ht L).length (Ht L) ∧ Below w.heap.size w w' := by
 have HT := ah.mk (Ho L A c w ht hu hC hcap hwf h0)
 have HWt := ah.mk (turn_wf hwf h0)
 have H14 := ah.mk (uP h0)
 have HRS := ah.mk (abQ h0)
 have hlen := ah.mk (iY L)
 have hl64 := (dB (show checkN L ≠ 14 by rw [h0]; decide)).1
 have hu48 := Tryz.underlying48
 clear hC hcap hwf h0 ht hu
 go_enter Tryz.func29, Tryz.ntmps29
 go_wp2_with (go_at_call 50; with_reducible refine HT.out.mono ?_; rintro e W0 ⟨A1, c1, A2, c2, rfl, l1, l2, r1, r2, hb0⟩)
 have HC1 := ah.mk r1
 have HC2 := ah.mk r2
 clear r1 r2 HT
 have H0 : ah (Rp W0 (fun _ => True) (.slice none 0 0) (lns L 0) W0) := ⟨⟨Below.refl _ _, Kd.mP _ _ _ _ _⟩⟩
 go_loopg [7, 22] L.length (fun gg v7 v22 wr => ∃ k : Nat, k ≤ L.length ∧ L.length - k ≤ gg ∧ v22 = .int .i64 k ∧ ah (Rp W0 (fun _ => True) v7 (lns L k) wr))
 case atStart => exact ⟨0, Nat.zero_le _, by omega, rfl, H0⟩
 case round =>
  clear H0
  obtain ⟨k, hk, hg, rfl, HI⟩ := hrel
  by_cases hlt : k < L.length
  · have hltz : (k : Int) < (L.length : Int) := by omega
    obtain ⟨ad2, A8, c8, hA2, y0, y1, y2, y3, _, _⟩ := QA (Kd.aT HC2.out HI.out.below) (k : Int) (by omega) hltz
    rw [Int.toNat_natCast, rd49 hlt] at y0 y1 y2 y3
    subst hA2
    go_upto_region 8 with (fail)
    go_region
    have hw0 : (vdI L (itA L (k : Int))).f1 = whJ L k 0 := rfl
    have hw1 : (vdI L (itA L (k : Int))).f3 = whJ L k 1 := rfl
    have H1 : ah (Rp W0 (fun x => x ≠ wr.heap.size) u7 (lns L k ++ lnJ L k 0) (wr.alloc (Obj.cells #[.int .u8 (vdI L (itA L (k : Int))).f1, .int .u8 (vdI L (itA L (k : Int))).f3] 45)).drew) := by
     have hbb := uI (aI (Below.refl wr.heap.size wr) (Obj.cells #[.int .u8 (vdI L (itA L (k : Int))).f1, .int .u8 (vdI L (itA L (k : Int))).f3] 45))
     refine ⟨⟨HI.out.below.trans (hbb.mono HI.out.below.size), ?_⟩⟩
     rw [show lnJ L k 0 = [] from rfl, List.append_nil]
     exact Kd.dw (Kd.dF (Kd.aaA HI.out.out wr.heap.size (Nat.le_refl _)) (fun _ h => h.2)) hbb
    have H2 : ah (∀ j : Nat, j < 2 → (wr.alloc (Obj.cells #[.int .u8 (vdI L (itA L (k : Int))).f1, .int .u8 (vdI L (itA L (k : Int))).f3] 45)).drew.cell? ⟨wr.heap.size, j, none⟩ = some (.int .u8 (whJ L k j))) := ⟨fun j hj => Yo wr L k hj⟩
    have hlb : wr.heap.size < (wr.alloc (Obj.cells #[.int .u8 (vdI L (itA L (k : Int))).f1, .int .u8 (vdI L (itA L (k : Int))).f3] 45)).drew.heap.size := by
     show wr.heap.size < (wr.alloc _).heap.size
     rw [World.size_alloc]; omega
    clear y0 y1 y2 y3 hw0 hw1 HI
    generalize (wr.alloc (Obj.cells #[.int .u8 (vdI L (itA L (k : Int))).f1, .int .u8 (vdI L (itA L (k : Int))).f3] 45)).drew = W1 at H1 H2 hlb ⊢
    generalize wr.heap.size = b at H1 H2 hlb ⊢
    generalize (vdI L (itA L (k : Int))).f1 = f1
    generalize (vdI L (itA L (k : Int))).f3 = f3
    obtain ⟨gko, rfl⟩ : ∃ gko, gko = gk := ⟨_, rfl⟩
    go_wp2
    go_loopg [7, 37] 2 (fun gj v7 v37 wr2 => ∃ j : Nat, j ≤ 2 ∧ 2 - j ≤ gj ∧ v37 = .int .i64 j ∧ ah (Rp W0 (fun x => x ≠ b) v7 (lns L k ++ lnJ L k j) wr2) ∧ ah (∀ i : Nat, i < 2 → wr2.cell? ⟨b, i, none⟩ = some (.int .u8 (whJ L k i))) ∧ b < wr2.heap.size)
    case atStart => exact ⟨0, by omega, by omega, rfl, H1, H2, hlb⟩
    case round =>
     clear H1 H2 hlb
     obtain ⟨j, hj, hgj, rfl, HI, HB, hlb⟩ := hrel
     by_cases hj2 : j < 2
     · have hjz : (j : Int) < 2 := by omega
       have hcell := HB.out j hj2
       have hst := ah.mk (abU (L := L) (k := k) hj2)
       have hln := NY L k
       have hll := aeW L k j
       by_cases hw : whJ L k j = 0
       · have hwz : (whJ L k j != 0) = false := by rw [hw]; rfl
         have HN : ah (Rp W0 (fun x => x ≠ b) u7 (lns L k ++ lnJ L k (j + 1)) wr) := ⟨⟨HI.out.below, by rw [hst.out, if_pos hw, List.append_nil]; exact HI.out.out⟩⟩
         clear hw
         go_wp2
         go_roundg (2 - (j + 1))
         case measure => omega
         case rel => exact ⟨j + 1, by omega, by omega, by go_num, HN, HB, hlb⟩
       · have hwz : (whJ L k j != 0) = true := by simpa using hw
         have HP := Yp L k hlt hlen.out H14.out HWt.out A1 c1 l1 wr (Kd.aT HC1.out HI.out.below)
         have e7 : lns L k ++ lnJ L k (j + 1) = (lns L k ++ lnJ L k j) ++ [⟨bQ (bf L) k, whJ L k j⟩] := by rw [hst.out, if_neg hw, List.append_assoc]
         have e7 := ah.mk e7
         obtain ⟨yw, hyw⟩ : ∃ yw, whJ L k j = yw := ⟨_, rfl⟩
         rw [hyw] at hwz hcell
         have hyw := ah.mk hyw
         clear hw
         go_wp2_with (first
          | (go_at_call 41; with_reducible refine HP.mono ?_; rintro e w5 ⟨Ap, np, cp, rfl, hr5, hb5⟩; have H5 := ajr HI.out hb5)
          | ((with_reducible refine dH (b := .append) (xs := #[.tmp 43, .tmp 49]) rfl ?_); at_builtin; refine Kd.nX kLn (w0 := W0) (W := w5) W0.heap.size rfl (.tmp 43) (.tmp 49) 54 90 (.agg #[.slice none 0 0, .int .u8 0]) 32 rfl Tryz.underlying54 ahH rfl (by decide) (by omega) u7 (lns L k ++ lnJ L k j) ⟨bQ (bf L) k, yw⟩ [.slice Ap np cp, .int .u8 yw] (fun x => x ≠ b) (fun x => wr.heap.size ≤ x) rfl rfl ?hp ?nI ?hfresh H5.out H5.below H5.below.size ?hl ?_; (case hp => exact acw _ _ _ ⟨bQ (bf L) k, yw⟩ (Kd.dY (Kd.dF (Kd.dR hr5) (fun x hx => hx.2.1)) HI.out.below.size)); (case nI => (intro x hx; exact ⟨by omega, fun e => by have := Kd.Ip HI.out.out x e.symm; omega⟩)); (case hfresh => (intro x hx; have := hb5.size; omega)); (case hl => (rw [List.length_append]; omega)); intro v12 w12 ho12 hb12 hg12 hat12))
         have hbw := hb5.size
         go_roundg (2 - (j + 1))
         case measure => omega
         case rel =>
          refine ⟨j + 1, by omega, by omega, by go_num, ⟨⟨hb12, by rw [e7.out, hyw.out]; exact ho12⟩⟩, ⟨fun i hi => ?_⟩, by have := hg12.size; omega⟩
          have hne : some b ≠ u7.ownBlock := fun e => HI.out.out.1 b e.symm rfl
          have h1 := hg12.block b (by omega) hne
          have h2 := (hb5.cell (p := ⟨b, i, none⟩) hlb).trans (HB.out i hi)
          simp only [World.cell?, h1] at h2 ⊢
          exact h2
     · obtain rfl : j = 2 := by omega
       have HN : ah (Rp W0 (fun _ => True) u7 (lns L (k + 1)) wr) := ⟨⟨HI.out.below, by rw [Qp, ← aeU]; exact Kd.dF HI.out.out (fun _ _ => trivial)⟩⟩
       clear HI HB
       go_wp2
       go_roundg (L.length - (k + 1))
       case measure => omega
       case rel => exact ⟨k + 1, by omega, by omega, by go_num, HN⟩
  · obtain rfl : k = L.length := by omega
    have hX : lns L L.length = rep0 L := rfl
    have hll := NY L L.length
    obtain ⟨_, inner, ho, _⟩ := id HI.out.out
    rcases ho.2 with ⟨e1, h1⟩ | ⟨g, cap, cur, e1, hg1, _⟩
    · subst e1
      have hr : Ht L = [] := by
       rw [← HRS.out, ← hX, List.eq_nil_of_length_eq_zero h1]; simp
      have hb := HI.out.below
      clear HI ho h1 hX
      go_wp2_with (go_at_call 63; with_reducible refine (vP _ _).mono ?_; rintro e w2 ⟨rfl, rfl⟩)
      go_ret2
      rw [hr]
      exact ⟨none, 0, rfl, Nat.le_refl _, Kd.aay _ _, hb0.trans (hb.mono hb0.size)⟩
    · subst e1
      have HS := ah.mk (IU wr W0.heap.size g cap (fun _ => True) (lns L L.length) (by omega) (Kd.R_N HI.out.out))
      rw [hX, HRS.out] at HS
      have hb := HI.out.below
      rw [hX] at hll ⊢
      have hrl : (rep0 L).length = (Ht L).length := by rw [← HRS.out, List.length_mergeSort]
      rw [hrl] at HS ⊢
      clear HI ho hX hrl
      go_wp2_with (go_at_call 63; with_reducible refine HS.out.mono ?_; rintro e w2 ⟨rfl, hn2, hg2⟩)
      go_ret2
      obtain ⟨_, t1, t2⟩ := Kd.sS hn2
      have hb2 : Below W0.heap.size W0 w2 := Below.grown hb hg2 hb.size (fun x hx => by have e : g = x := Option.some.inj hx; omega)
      exact ⟨_, _, rfl, t1, t2, hb0.trans (hb2.mono hb0.size)⟩
noncomputable def Qq (L : List It) : List Ln := if checkN L = 0 then Ht L else []
theorem SV (L : List It) (A : Option Addr) (c : Nat) (w : World) (ht : Tz w) (hu : Ut w) (hC : Kd.C kIt w A L.length L) (hcap : qy w A L.length) (hwf : WfL L) :
    Calls Tryz.prog 29 #[.slice A L.length c] w fun e w' => ∃ A3 c3, e = .returned (.tuple #[.slice A3 (Qq L).length c3, .int .i64 (checkN L)]) ∧ (Qq L).length ≤ c3 ∧ Kd.C kLn w' A3 (Qq L).length (Qq L) ∧ Below w.heap.size w w' := by
 by_cases h0 : checkN L = 0
 · unfold Qq
   rw [if_pos h0, h0]
   exact Yq L A c w ht hu hC hcap hwf h0
 · have hj : Qq L = [] := if_neg h0
   rw [hj]
   have HT := Hq L A c w ht hu hC hcap hwf h0
   have hne : (checkN L != 0) = true := by simpa using h0
   generalize checkN L = y at HT hne ⊢
   clear hC hcap hwf hj h0
   go_enter Tryz.func29, Tryz.ntmps29
   go_wp2_with (go_at_call 50; with_reducible refine HT.mono ?_; rintro e w1 ⟨rfl, hb1⟩)
   go_ret2
   exact ⟨none, 0, rfl, Nat.le_refl _, Kd.aay _ _, hb1⟩
theorem abS {L : List It} (hL : L.length ≤ 100) : ∀ (t i : Nat), L.length - i ≤ t → i ≤ L.length → Ev (fun k => aQ.l0 k L (vdL L) ((bf L).take i) i) (bf L) := by
 intro t
 induction t with
 | zero =>
  intro i h1 h2
  obtain rfl : i = L.length := by omega
  rw [List.take_of_length_le (by rw [iY]; exact Nat.le_refl _)]
  refine ⟨1, fun k hk => ?_⟩
  obtain ⟨k, rfl⟩ : ∃ q, k = q + 1 := ⟨k - 1, by omega⟩
  simp only [aQ.l0]
  rw [if_neg (by omega)]
 | succ t ih =>
  intro i h1 h2
  by_cases hi : i = L.length
  · exact ih i (by omega) h2
  · have hlt : i < L.length := by omega
    have hs : (bf L).take i ++ [oM L (itA L (i : Int))] = (bf L).take (i + 1) := by
     rw [List.take_succ_eq_append_getElem (by rw [iY]; exact hlt)]
     congr 2
     unfold bf
     rw [List.getElem_map, bH hlt]
    refine Qd (fun k => ?_) (ih (i + 1) (by omega) (by omega))
    simp only [aQ.l0]
    rw [if_pos (by omega), if_pos (by omega), if_pos (by rw [ny]; omega), if_pos (by rw [List.length_take]; omega), rd49 hlt, jL (x := (i : Int) + 1) (by omega) (by omega), ← hs]
    rfl
theorem Yl {L : List It} (hL : L.length ≤ 100) : Ev (fun k => aQ.f k L (vdL L)) (bf L) := by
 have := abS hL L.length 0 (by omega) (Nat.zero_le _)
 rw [List.take_zero] at this
 exact this
theorem SN (L : List It) (hL : L.length ≤ 100) (A : Option Addr) (c : Nat) (hc : L.length ≤ c) (w : World) (hC : Kd.C kIt w A L.length L) (ok : Nat → Prop) (v : Value) (hv : Kd.V kVd 49 w w.heap.size ok v (vdL L)) :
    Calls Tryz.prog 62 #[.slice A L.length c, v] w fun e w' => ∃ A1 c1, e = .returned (.slice A1 L.length c1) ∧ L.length ≤ c1 ∧ Kd.C kIt w' A1 L.length (bf L) ∧ Below w.heap.size w w' := by
 obtain ⟨k, hk⟩ := (Yl hL).rounds
 obtain ⟨A2, c2, rfl⟩ := Kd.aeb hv
 refine (aQ.calls k A c L ok A2 c2 (vdL L) (bf L) w hC hc hv hk).mono fun e w' h => ?_
 obtain ⟨v, rfl, h1, h2⟩ := h
 obtain ⟨A1, c1, rfl⟩ := Kd.VJ h1
 obtain ⟨_, h3, h4⟩ := Kd.sS h1
 rw [iY] at h3 h4 ⊢
 exact ⟨A1, c1, rfl, h3, h4, h2⟩
noncomputable def acc (L : List It) (i : Nat) : List Ln := (List.range i).flatMap fun j => lnL L (oN (bf L) j)
theorem amC (L : List It) (i : Nat) : acc L (i + 1) = acc L i ++ lnL L (oN (bf L) i) := by
 unfold acc
 rw [List.range_succ, List.flatMap_append, List.flatMap_singleton]
theorem amM (L : List It) : acc L L.length = Ht L := by
 unfold acc Ht
 rw [amV, List.flatMap_map]
theorem amB (L : List It) : ∀ i, (acc L i).length ≤ 2 * i
 | 0 => by simp [acc]
 | i + 1 => by
  rw [amC, List.length_append]
  have := amB L i
  have := aeV L (oN (bf L) i)
  omega
theorem ajt (L : List It) (k : Nat) (hk : k ≤ 64) : (bQ L k).length ≤ 100000 := by
 have := abm L k
 omega
theorem rd90 {X : List Ln} {i : Nat} (hi : i < X.length) : EH X (i : Int) = X[i] := by
 unfold EH
 rw [Int.toNat_natCast, List.getD_eq_getElem?_getD, List.getElem?_eq_getElem hi]; rfl
theorem ane {X : List Ln} (hm : X.length ≤ 100000) (hp : ∀ x ∈ X, x.f0.length ≤ 100000) : ∀ (t i : Nat), X.length - i ≤ t → i ≤ X.length → Ev (fun k => ahZ.l0 k X X i) true := by
 intro t
 induction t with
 | zero =>
  intro i h1 h2
  obtain rfl : i = X.length := by omega
  refine ⟨1, fun k hk => ?_⟩
  obtain ⟨k, rfl⟩ : ∃ q, k = q + 1 := ⟨k - 1, by omega⟩
  simp only [ahZ.l0]
  rw [if_neg (by omega)]
 | succ t ih =>
  intro i h1 h2
  by_cases hi : i = X.length
  · exact ih i (by omega) h2
  · have hlt : i < X.length := by omega
    have hev := ajz X[i].f0 X[i].f0 (hp _ (List.getElem_mem hlt))
    rw [decide_eq_true rfl] at hev
    obtain ⟨k1, hk1⟩ := hev
    obtain ⟨k2, hk2⟩ := ih (i + 1) (by omega) (by omega)
    refine ⟨k1 + k2 + 1, fun k hk => ?_⟩
    obtain ⟨k, rfl⟩ : ∃ q, k = q + 1 := ⟨k - 1, by omega⟩
    simp only [ahZ.l0]
    rw [if_pos (by omega), if_pos (by omega), if_pos (by omega), rd90 hlt, if_pos trivial, (show Ad.f k X[i].f0 X[i].f0 = some true from hk1 k (by omega)), Option.bind_some, if_pos rfl, jL (x := (i : Int) + 1) (by omega) (by omega)]
    exact hk2 k (by omega)
theorem ajv (X : List Ln) (hm : X.length ≤ 100000) (hp : ∀ x ∈ X, x.f0.length ≤ 100000) (A B : Option Addr) (c d : Nat) (hc : X.length ≤ c) (hd : X.length ≤ d) (w : World) (hA : Kd.C kLn w A X.length X) (hB : Kd.C kLn w B X.length X) :
    Calls Tryz.prog 31 #[.slice A X.length c, .slice B X.length d] w fun e w' => e = .returned (.bool true) ∧ Below w.heap.size w w' := by
 have hev : Ev (fun k => ahZ.f k X X) true := by
  refine Ev.congr (fun k => ?_) (ane hm hp X.length 0 (by omega) (Nat.zero_le _))
  unfold ahZ.f
  rw [if_pos rfl]; rfl
 obtain ⟨k, hk⟩ := hev.rounds
 exact (ahZ.calls k A c X B d X _ w hA hc hB hd hk).mono fun e w' h => ⟨h.1, h.2.below⟩
theorem ajA {L : List It} : (Qq L).length ≤ 100000 ∧ ∀ x ∈ Qq L, x.f0.length ≤ 100000 := by
 unfold Qq
 by_cases h0 : checkN L = 0
 · rw [if_pos h0]
   have hl64 := (dB (show checkN L ≠ 14 by rw [h0]; decide)).1
   have h1 := amB L L.length
   rw [amM] at h1
   refine ⟨by omega, fun x hx => ?_⟩
   unfold Ht at hx
   obtain ⟨k, hk, hx⟩ := List.mem_flatMap.1 hx
   rw [yX, iY] at hk
   rw [CY hx]
   exact ajt _ _ (by omega)
 · rw [if_neg h0]
   exact ⟨by simp, fun x hx => by cases hx⟩
theorem anl (L : List It) (k : Nat) : lnL L k = (if whJ L k 0 = 0 then [] else [⟨bQ (bf L) k, whJ L k 0⟩]) ++ if whJ L k 1 = 0 then [] else [⟨bQ (bf L) k, whJ L k 1⟩] := rfl
structure Rr (W0 : World) (pb pe : Nat) (A : Option Addr) (np cp : Nat) (p : List ByteArray) (v : Value) (X : List Ln) (wr : World) : Prop where
 below : Below W0.heap.size W0 wr
 out : Kd.N kLn 90 wr W0.heap.size (fun _ => True) v X
 apart : ∀ x, v.ownBlock = some x → x < pb ∨ pe ≤ x
 top : pe ≤ wr.heap.size
 len : p.length = np
 cap : np ≤ cp
 path : Kd.F Kd.string wr (fun x => pb ≤ x ∧ x < pe) A p.length p
section
variable {W0 wr w1 : World} {pb pe np cp : Nat} {A : Option Addr} {p : List ByteArray} {v v1 : Value} {X : List Ln} {y : Int}
theorem amN (h : Rr W0 pb pe A np cp p v X wr) (hb : Below wr.heap.size wr w1) : Rr W0 pb pe A np cp p v X w1 :=
 ⟨h.below.trans (hb.mono h.below.size), Kd.Bf h.out hb, h.apart, Nat.le_trans h.top hb.size, h.len, h.cap, Kd.VH h.path hb⟩
theorem anf (h : Rr W0 pb pe A np cp p v X wr) (y : Int) : Kd.FK kLn wr (fun x => pb ≤ x ∧ x < pe) ⟨p, y⟩ [.slice A np cp, .int .u8 y] := by
 obtain rfl := h.len
 exact acy wr _ ⟨p, y⟩ h.cap h.path
theorem amW (h : Rr W0 pb pe A np cp p v X wr) : ∀ x, pb ≤ x ∧ x < pe → True ∧ some x ≠ v.ownBlock := fun x hx => ⟨trivial, fun e => by have := h.apart x e.symm; omega⟩
theorem amX (h : Rr W0 pb pe A np cp p v X wr) (ho : Kd.N kLn 90 w1 W0.heap.size (fun _ => True) v1 (X ++ [⟨p, y⟩])) (hb : Below W0.heap.size W0 w1) (hg : wr.grownBy w1 v.ownBlock) (hat : v1.ownBlock = v.ownBlock ∨ ∃ b, v1.ownBlock = some b ∧ wr.heap.size ≤ b) : Rr W0 pb pe A np cp p v1 (X ++ [⟨p, y⟩]) w1 := by
 refine ⟨hb, ho, fun x hx => ?_, Nat.le_trans h.top hg.size, h.len, h.cap, Kd.anc h.path hg (fun x hx => (amW h x hx).2)⟩
 rcases hat with e | ⟨b, e, hb2⟩
 · exact h.apart x (e ▸ hx)
 · rw [e] at hx
   have := Option.some.inj hx
   have := h.top
   omega
end
theorem amO {W0 wr : World} {pb pe np cp : Nat} {A : Option Addr} {p : List ByteArray} {v : Value} {X : List Ln} (h : Rr W0 pb pe A np cp p v X wr) {q : List ByteArray} {Aq : Option Addr} {cq : Nat} (hq : q.length ≤ cq ∧ Kd.C Kd.string wr Aq q.length q) (hl : q.length ≤ 100000) {b : Bool} (hb : decide (q = p) = b) :
    Calls Tryz.prog 52 #[.slice Aq q.length cq, .slice A np cp] wr fun e w' => e = .returned (.bool b) ∧ Below wr.heap.size wr w' := by
 obtain rfl := h.len
 subst hb
 exact (amE q p hl Aq A cq cp hq.1 h.cap wr hq.2 (Kd.aaD h.path)).mono fun e w' h => ⟨h.1, h.2.below⟩
theorem amF (L : List It) (A : Option Addr) (c : Nat) (hc : L.length ≤ c) (w : World) (hC : Kd.C kIt w A L.length L) (hcap : qy w A L.length) (hwf : WfL L) (hs : ∀ x ∈ L, x.f1.size ≤ 20000 ∧ x.f3.length ≤ 20000) (h0 : checkN L = 0) :
    Calls Tryz.prog 30 #[.slice A L.length c] w fun e w' => ∃ A3 c3, e = .returned (.tuple #[.slice A3 (Ht L).length c3, .int .i64 0]) ∧ (Ht L).length ≤ c3 ∧ Kd.C kLn w' A3 (Ht L).length (Ht L) ∧ Below w.heap.size w w' := by
 have hu49 := Tryz.underlying49
 have HJ := ah.mk (JO L A c hc w hC hcap hwf hs h0)
 have hlen := ah.mk (iY L)
 have H14 := uP h0
 have hsT : GN (bf L) = sortL (bf L) := if_neg H14
 have hsE : GR (bf L) = 0 := if_neg H14
 have hl64 := (dB (show checkN L ≠ 14 by rw [h0]; decide)).1
 have hsz : ∀ x ∈ bf L, x.f1.size ≤ 100000 := fun x hx => by
  have := List.all_eq_true.1 (dB H14).2.2 x hx
  have := ((nJ _).1 this).1.1.2
  omega
 have hsl : (sortL (bf L)).length = L.length := by rw [mD, iY]
 have hsz2 : ∀ x ∈ sortL (bf L), x.f1.size ≤ 100000 := fun x hx => by
  have := List.all_eq_true.1 (dB (Sr H14)).2.2 x hx
  have := ((nJ _).1 this).1.1.2
  omega
 have HS : ∀ W A1 c1, L.length ≤ c1 → Kd.C kIt W A1 L.length (bf L) → Calls Tryz.prog 61 #[.slice A1 L.length c1] W fun e w' => ∃ A3 c3, e = .returned (.tuple #[.slice A3 L.length c3, .int .i64 0]) ∧ L.length ≤ c3 ∧ ah (Kd.C kIt w' A3 L.length (sortL (bf L))) ∧ Below W.heap.size W w' := fun W A1 c1 h1 h2 => by
  have h := Sv (bf L) hsz A1 c1 (by rw [iY]; exact h1) W (by rw [iY]; exact h2)
  rw [iY, hsT, hsE] at h
  refine h.mono fun e w' h => ?_
  obtain ⟨v, rfl, h3, h4⟩ := h
  obtain ⟨A3, c3, rfl⟩ := Kd.bW h3
  obtain ⟨_, h5, h6⟩ := Kd.bJ h3
  rw [hsl] at h5 h6 ⊢
  exact ⟨A3, c3, rfl, h5, ⟨h6⟩, h4⟩
 have HPT : ∀ (k : Nat), k < L.length → ∀ W A1 c1, L.length ≤ c1 → Kd.C kIt W A1 L.length (bf L) → Calls Tryz.prog 55 #[.slice A1 L.length c1, .int .i64 k] W fun e w' => ∃ Ap cp, e = .returned (.slice Ap (bQ (bf L) k).length cp) ∧ ah ((bQ (bf L) k).length ≤ cp ∧ Kd.C Kd.string w' Ap (bQ (bf L) k).length (bQ (bf L) k)) ∧ Below W.heap.size W w' := fun k hk W A1 c1 h1 h2 => by
  have h := XT (bf L) hsz (k : Int) A1 c1 (by rw [iY]; exact h1) W (by rw [iY]; exact h2)
  rw [iY, Qb H14 (by rw [iY]; exact hk)] at h
  refine h.mono fun e w' h => ?_
  obtain ⟨v, rfl, h3, h4⟩ := h
  obtain ⟨Ap, cp, rfl⟩ := Kd.bW h3
  obtain ⟨_, h5, h6⟩ := Kd.bJ h3
  exact ⟨Ap, cp, rfl, ⟨h5, h6⟩, h4⟩
 have HPS : ∀ (i : Nat), i < L.length → ∀ W A1 c1, L.length ≤ c1 → Kd.C kIt W A1 L.length (sortL (bf L)) → Calls Tryz.prog 55 #[.slice A1 L.length c1, .int .i64 i] W fun e w' => ∃ Ap np cp, e = .returned (.slice Ap np cp) ∧ ah (Kd.R Kd.string 9 w' W.heap.size (fun _ => True) (.slice Ap np cp) (bQ (bf L) (oN (bf L) i))) ∧ Below W.heap.size W w' := fun i hi W A1 c1 h1 h2 => by
  have h := XT (sortL (bf L)) hsz2 (i : Int) A1 c1 (by rw [hsl]; exact h1) W (by rw [hsl]; exact h2)
  rw [hsl, Qb (Sr H14) (by rw [hsl]; exact hi), (CW H14 i i (Nat.le_refl _) (by rw [iY]; exact hi)).1] at h
  refine h.mono fun e w' h => ?_
  obtain ⟨v, rfl, h3, h4⟩ := h
  obtain ⟨Ap, cp, rfl⟩ := Kd.bW h3
  exact ⟨Ap, _, cp, rfl, ⟨h3⟩, h4⟩
 have HI0 := ah.mk (fun a b (ha : a < L.length) (hb : b < L.length) => Bh (dB H14).2.1 a a b (Nat.le_refl _) (by rw [iY]; exact ha) (by rw [iY]; exact hb))
 have HON := ah.mk (fun i (hi : i < L.length) => (by have := uU (L := bf L) (k := i) (by rw [iY]; exact hi); rwa [iY] at this : oN (bf L) i < L.length))
 have HC := ah.mk hC
 have HB := fun W (B : Below w.heap.size w W) v (hv : Kd.N kVd 49 W w.heap.size (fun _ => True) v (vdL L)) => SN L (by omega) A c hc W (Kd.aT HC.out B) _ v (Kd.N_V hv)
 have HS := ah.mk HS
 have HPT := ah.mk HPT
 have HPS := ah.mk HPS
 have HB := ah.mk HB
 clear hC hcap hwf hsT hsE hs hsz hsz2 hsl h0 H14
 go_enter Tryz.func30, Tryz.ntmps30
 go_wp2_with (first
  | (go_at_call 27; with_reducible refine HJ.out.mono ?_; rintro e w1 ⟨v1, rfl, hn1, hb1⟩; have HB1 := HB.out w1 hb1 v1 hn1)
  | (go_at_call 62; with_reducible refine HB1.mono ?_; rintro e w2 ⟨A2, c2, rfl, l2, r2, hb2⟩; have HS1 := HS.out w2 A2 c2 l2 r2)
  | (go_at_call 61; with_reducible refine HS1.mono ?_; rintro e W0 ⟨A3, c3, rfl, l3, r3, hb3⟩))
 have hb20 := hb1.trans (hb2.mono hb1.size)
 have hb30 := hb20.trans (hb3.mono hb20.size)
 have RT := ah.mk (Kd.aT r2 hb3)
 have RV : ah (∃ A1 c1, v1 = .slice A1 L.length c1 ∧ Kd.C kVd W0 A1 L.length (vdL L)) := ⟨by
  obtain ⟨A1, c1, rfl⟩ := Kd.VJ hn1
  obtain ⟨_, _, h3⟩ := Kd.sS (Kd.Bf (Kd.Bf hn1 hb2) hb3)
  rw [ny] at h3 ⊢
  exact ⟨A1, c1, rfl, h3⟩⟩
 clear HJ HB HS HB1 HS1 hn1 hb1 hb2 hb3 r2 hb20
 obtain ⟨A1, c1, rfl, RV1⟩ := RV.out
 have RV := ah.mk RV1
 clear RV1
 have H0 : ah (Below W0.heap.size W0 W0 ∧ Kd.N kLn 90 W0 W0.heap.size (fun _ => True) (.slice none 0 0) (acc L 0)) := ⟨Below.refl _ _, Kd.YQ _ _ _ _ _⟩
 go_loopg [9, 10] L.length (fun gg v9 v10 wr => ∃ i : Nat, i ≤ L.length ∧ L.length - i ≤ gg ∧ v10 = .int .i64 i ∧ ah (Below W0.heap.size W0 wr ∧ Kd.N kLn 90 wr W0.heap.size (fun _ => True) v9 (acc L i)))
 case atStart => exact ⟨0, Nat.zero_le _, by omega, rfl, H0⟩
 case round =>
  clear H0
  obtain ⟨i, hi, hg, rfl, HI⟩ := hrel
  by_cases hlt : i < L.length
  · have hltz : (i : Int) < (L.length : Int) := by omega
    have HP1 := HPS.out i hlt wr A3 c3 l3 (Kd.aT r3.out HI.out.1)
    have hal := amB L i
    obtain ⟨wo, rfl⟩ : ∃ wo, wo = wr := ⟨wr, rfl⟩
    go_wp2_with (go_at_call 55; with_reducible refine HP1.mono ?_; rintro e w5 ⟨Ap, np, cp, rfl, hr5, hb5⟩)
    have H1 : ah (Rr W0 wo.heap.size w5.heap.size Ap np cp (bQ (bf L) (oN (bf L) i)) u9 (acc L i ++ if oN (bf L) i < 0 then lnL L (oN (bf L) i) else []) w5) := by
     obtain ⟨q1, q2, q3⟩ := Kd.bJ hr5.out
     have hf := Kd.R_F (Kd.dR hr5.out)
     rw [q1] at hf
     rw [if_neg (Nat.not_lt_zero _), List.append_nil]
     exact ⟨⟨HI.out.1.trans (hb5.mono HI.out.1.size), Kd.Bf HI.out.2 hb5, fun x hx => .inl (Kd.ahd HI.out.2 x hx), Nat.le_refl _, q1.symm, q2, Kd.Gw hf (fun x hx => ⟨hx.2.1, hx.2.2.1⟩)⟩⟩
    have hon := HON.out i hlt
    clear HI HP1 hr5 hb5
    go_loopg [9, 12] L.length (fun gj v9 v12 wr => ∃ k : Nat, k ≤ L.length ∧ L.length - k ≤ gj ∧ v12 = .int .i64 k ∧ ah (Rr W0 wo.heap.size w5.heap.size Ap np cp (bQ (bf L) (oN (bf L) i)) v9 (acc L i ++ if oN (bf L) i < k then lnL L (oN (bf L) i) else []) wr))
    case atStart => exact ⟨0, Nat.zero_le _, by omega, rfl, H1⟩
    case round =>
     clear H1
     obtain ⟨k, hk, hgj, rfl, HI⟩ := hrel
     by_cases hlt2 : k < L.length
     · have hkz : (k : Int) < (L.length : Int) := by omega
       have HP2 := HPT.out k hlt2 wr A2 c2 l2 (Kd.aT RT.out HI.out.below)
       have hps := ajt (bf L) k (by omega)
       by_cases hko : k = oN (bf L) i
       · have hdec : decide (bQ (bf L) k = bQ (bf L) (oN (bf L) i)) = true := decide_eq_true (by rw [hko])
         have e0 : (if oN (bf L) i < k then lnL L (oN (bf L) i) else []) = [] := if_neg (by omega)
         rw [e0, List.append_nil] at HI
         replace hdec := ah.mk hdec
         replace hko := ah.mk hko
         clear e0
         go_upto_region 15 with (first
          | (go_at_call 55; with_reducible refine HP2.mono ?_; rintro e w6 ⟨Aq, cq, rfl, hq, hb6⟩; have HI6 := amN HI.out hb6; have hsame := amO HI6 hq.out hps hdec.out; have HI6 := ah.mk HI6)
          | (go_at_call 52; with_reducible refine hsame.mono ?_; rintro e w7 ⟨rfl, hb7⟩; have HX := ah.mk (amN HI6.out hb7)))
         obtain ⟨ad1, A8, c8, hA1, y0, y1, y2, y3, y4, y5⟩ := QA RV.out (k : Int) (by omega) hkz
         rw [Int.toNat_natCast, rd49 hlt2] at y1 y3
         obtain ⟨f1, hf1⟩ : ∃ f1, whJ L k 0 = f1 := ⟨_, rfl⟩
         obtain ⟨f3, hf3⟩ : ∃ f3, whJ L k 1 = f3 := ⟨_, rfl⟩
         have z1 : W0.cell? ⟨(ad1.add (k * 4)).block, (ad1.add (k * 4)).off + 1, none⟩ = some (.int .u8 f1) := by rw [← hf1]; exact y1
         have z3 : W0.cell? ⟨(ad1.add (k * 4)).block, (ad1.add (k * 4)).off + 3, none⟩ = some (.int .u8 f3) := by rw [← hf3]; exact y3
         have hlw : ah (lnL L (oN (bf L) i) = (if f1 = 0 then [] else [⟨bQ (bf L) (oN (bf L) i), f1⟩]) ++ if f3 = 0 then [] else [⟨bQ (bf L) (oN (bf L) i), f3⟩]) := ⟨by rw [← hf1, ← hf3, hko.out]; exact anl L _⟩
         have HZ1 := ah.mk z1
         have HZ3 := ah.mk z3
         have hA1 := hA1
         clear y0 y1 y2 y3 y4 y5 hf1 hf3 z1 z3 HI HI6 hsame hq HP2 hb6 hb7 hps hdec
         subst hA1
         have x1 := (HX.out.below.cell (World.block_lt_of_cell? W0 _ HZ1.out)).trans HZ1.out
         have hlX := ah.mk (show ((acc L i).length + 1) * 32 ≤ 140737488355328 by omega)
         by_cases hw1 : f1 = 0
         case' pos =>
          have hwb : (f1 != 0) = false := by rw [hw1]; rfl
          have hw1 := ah.mk hw1
          go_upto_region 17 with (fail)
          have HX2 : ah (Rr W0 wo.heap.size w5.heap.size Ap np cp (bQ (bf L) (oN (bf L) i)) u9 (acc L i ++ if f1 = 0 then [] else [⟨bQ (bf L) (oN (bf L) i), f1⟩]) w7) := ⟨by rw [if_pos hw1.out, List.append_nil]; exact HX.out⟩
          clear x1 hlX
          obtain ⟨vo, rfl⟩ : ∃ vo, vo = u9 := ⟨_, rfl⟩
          obtain ⟨ww, rfl⟩ : ∃ ww, ww = w7 := ⟨_, rfl⟩
         case' neg =>
          have hwb : (f1 != 0) = true := by simpa using hw1
          have hw1 := ah.mk hw1
          go_upto_region 17 with (((with_reducible refine dH (b := .append) (xs := #[.tmp 56, .tmp 64]) rfl ?_); at_builtin; refine Kd.aaK kLn (w0 := W0) (W := w7) W0.heap.size rfl (.tmp 56) (.tmp 64) 54 90 (.agg #[.slice none 0 0, .int .u8 0]) 32 rfl Tryz.underlying54 ahH rfl (by decide) (by omega) _ _ ⟨bQ (bf L) (oN (bf L) i), f1⟩ [.slice Ap np cp, .int .u8 f1] (fun _ => True) (fun x => wo.heap.size ≤ x ∧ x < w5.heap.size) rfl rfl (anf HX.out f1) (amW HX.out) (fun _ _ => trivial) HX.out.out HX.out.below HX.out.below.size ?hl56 ?_; (case hl56 => exact hlX.out); intro v12 w12 ho12 hb12 hg12 hat12; have HX12 := ah.mk (amX HX.out ho12 hb12 hg12 hat12)))
          have HX2 : ah (Rr W0 wo.heap.size w5.heap.size Ap np cp (bQ (bf L) (oN (bf L) i)) v12 (acc L i ++ if f1 = 0 then [] else [⟨bQ (bf L) (oN (bf L) i), f1⟩]) w12) := ⟨by rw [if_neg hw1.out]; exact HX12.out⟩
          clear x1 hlX ho12 hb12 hg12 hat12 HX12
          obtain ⟨vo, rfl⟩ : ∃ vo, vo = v12 := ⟨_, rfl⟩
          obtain ⟨ww, rfl⟩ : ∃ ww, ww = w12 := ⟨_, rfl⟩
         all_goals
          clear HX hwb
          have HX := HX2
          clear HX2
          have x3 := (HX.out.below.cell (World.block_lt_of_cell? W0 _ HZ3.out)).trans HZ3.out
          have hlX : ah (((acc L i ++ if f1 = 0 then ([] : List Ln) else ([⟨bQ (bf L) (oN (bf L) i), f1⟩] : List Ln)).length + 1) * 32 ≤ 140737488355328) := ⟨by
           rw [List.length_append]
           have : (if f1 = 0 then ([] : List Ln) else [⟨bQ (bf L) (oN (bf L) i), f1⟩]).length ≤ 1 := by split <;> simp
           omega⟩
          by_cases hw3 : f3 = 0
          · have hwc : (f3 != 0) = false := by rw [hw3]; rfl
            have HN : ah (Rr W0 wo.heap.size w5.heap.size Ap np cp (bQ (bf L) (oN (bf L) i)) vo (acc L i ++ if oN (bf L) i < k + 1 then lnL L (oN (bf L) i) else []) ww) := ⟨by
             rw [if_pos (by have := hko.out; omega), hlw.out, if_pos hw3, List.append_nil]; exact HX.out⟩
            clear hw3
            go_wp2
            go_roundg (L.length - (k + 1))
            case measure => omega
            case rel => exact ⟨k + 1, by omega, by omega, by go_num, HN⟩
          · have hwc : (f3 != 0) = true := by simpa using hw3
            have hw3 := ah.mk hw3
            go_wp2_with (((with_reducible refine dH (b := .append) (xs := #[.tmp 72, .tmp 80]) rfl ?_); at_builtin; refine Kd.aaK kLn (w0 := W0) (W := ww) W0.heap.size rfl (.tmp 72) (.tmp 80) 54 90 (.agg #[.slice none 0 0, .int .u8 0]) 32 rfl Tryz.underlying54 ahH rfl (by decide) (by omega) _ _ ⟨bQ (bf L) (oN (bf L) i), f3⟩ [.slice Ap np cp, .int .u8 f3] (fun _ => True) (fun x => wo.heap.size ≤ x ∧ x < w5.heap.size) rfl rfl (anf HX.out f3) (amW HX.out) (fun _ _ => trivial) HX.out.out HX.out.below HX.out.below.size ?hl72 ?_; (case hl72 => exact hlX.out); intro v12 w12 ho12 hb12 hg12 hat12; have HX12 := ah.mk (amX HX.out ho12 hb12 hg12 hat12)))
            have HN : ah (Rr W0 wo.heap.size w5.heap.size Ap np cp (bQ (bf L) (oN (bf L) i)) v12 (acc L i ++ if oN (bf L) i < k + 1 then lnL L (oN (bf L) i) else []) w12) := ⟨by
             rw [if_pos (by have := hko.out; omega), hlw.out, if_neg hw3.out, ← List.append_assoc]; exact HX12.out⟩
            go_roundg (L.length - (k + 1))
            case measure => omega
            case rel => exact ⟨k + 1, by omega, by omega, by go_num, HN⟩
       · have hdec : decide (bQ (bf L) k = bQ (bf L) (oN (bf L) i)) = false := decide_eq_false (fun e => hko (HI0.out k _ hlt2 hon e))
         have e0 : (if oN (bf L) i < k then lnL L (oN (bf L) i) else []) = if oN (bf L) i < k + 1 then lnL L (oN (bf L) i) else [] := by
          by_cases h : oN (bf L) i < k
          · rw [if_pos h, if_pos (by omega)]
          · rw [if_neg h, if_neg (by omega)]
         rw [e0] at HI
         replace hdec := ah.mk hdec
         clear e0
         go_wp2_with (first
          | (go_at_call 55; with_reducible refine HP2.mono ?_; rintro e w6 ⟨Aq, cq, rfl, hq, hb6⟩; have HI6 := amN HI.out hb6; have hsame := amO HI6 hq.out hps hdec.out; have HI6 := ah.mk HI6)
          | (go_at_call 52; with_reducible refine hsame.mono ?_; rintro e w7 ⟨rfl, hb7⟩; have HX := ah.mk (amN HI6.out hb7)))
         go_roundg (L.length - (k + 1))
         case measure => omega
         case rel => exact ⟨k + 1, by omega, by omega, by go_num, HX⟩
     · obtain rfl : k = L.length := by omega
       have HN : ah (Below W0.heap.size W0 wr ∧ Kd.N kLn 90 wr W0.heap.size (fun _ => True) u9 (acc L (i + 1))) := ⟨HI.out.below, by rw [amC]; have := HI.out.out; rwa [if_pos hon] at this⟩
       clear HI
       go_wp2
       go_roundg (L.length - (i + 1))
       case measure => omega
       case rel => exact ⟨i + 1, by omega, by omega, by go_num, HN⟩
  · obtain rfl : i = L.length := by omega
    have hb := hb30.trans (HI.out.1.mono hb30.size)
    have hN := HI.out.2
    rw [amM] at hN
    obtain ⟨A9, c9, rfl⟩ := Kd.VJ hN
    obtain ⟨_, t1, t2⟩ := Kd.sS hN
    clear HI hN
    go_wp2
    go_ret2
    exact ⟨_, _, rfl, t1, t2, hb⟩
def wtM (m : Nat) (x : It) : Nat := min x.f3.length (m + 1) + min x.f1.size (m + 1)
def BG (m : Nat) (L : List It) : Nat := (L.map (wtM m)).sum
def wJ (m : Nat) (L : List It) : Bool := decide (L.length ≤ 70) && decide (BG m L ≤ m)
theorem abT {m : Nat} {L : List It} {i : Nat} (h : i < L.length) : BG m (L.take (i + 1)) = BG m (L.take i) + wtM m L[i] := by
 unfold BG
 rw [List.take_succ_eq_append_getElem h, List.map_append, List.sum_append]; simp
theorem ahG {m : Nat} (hm : m ≤ 20000) (x : It) : wtM m x ≤ 40002 := by unfold wtM; omega
theorem Wi {m : Nat} (hm : m ≤ 20000) : ∀ (L : List It), BG m L ≤ L.length * 40002
 | [] => by simp [BG]
 | x :: L => by
  have h1 := Wi hm L
  have h2 := ahG hm x
  unfold BG at h1 ⊢
  rw [List.map_cons, List.sum_cons, List.length_cons]; omega
theorem aeT {m : Nat} {L : List It} {x : It} (h : x ∈ L) : wtM m x ≤ BG m L := by
 induction L with
 | nil => cases h
 | cons y L ih =>
  unfold BG at ih ⊢
  rw [List.map_cons, List.sum_cons]
  rcases List.mem_cons.1 h with rfl | h
  · omega
  · have := ih h; omega
theorem NU {m : Nat} {L : List It} (h : wJ m L = true) : L.length ≤ 70 ∧ ∀ x ∈ L, x.f1.size ≤ m ∧ x.f3.length ≤ m := by
 simp only [wJ, Bool.and_eq_true, decide_eq_true_eq] at h
 refine ⟨h.1, fun x hx => ?_⟩
 have h1 := aeT (m := m) hx
 have h2 : wtM m x ≤ m := by omega
 unfold wtM at h2
 generalize x.f1.size = a at *
 constructor <;> omega
theorem Ym {m : Nat} (hm : m ≤ 20000) {L : List It} (hL : L.length ≤ 70) : ∀ (t i : Nat), L.length - i ≤ t → i ≤ L.length → Ev (fun k => bn.l0 k L (m : Int) (BG m (L.take i) : Int) i) (decide (BG m L ≤ m)) := by
 intro t
 induction t with
 | zero =>
  intro i h1 h2
  obtain rfl : i = L.length := by omega
  rw [List.take_length]
  refine ⟨1, fun k hk => ?_⟩
  obtain ⟨k, rfl⟩ : ∃ q, k = q + 1 := ⟨k - 1, by omega⟩
  simp only [bn.l0]
  rw [if_neg (by omega)]
  congr 1
  exact decide_eq_decide.2 (by omega)
 | succ t ih =>
  intro i h1 h2
  by_cases hi : i = L.length
  · exact ih i (by omega) h2
  · have hlt : i < L.length := by omega
    refine Qd (fun k => ?_) (ih (i + 1) (by omega) (by omega))
    have hb := Wi hm (L.take i)
    have hbl : (L.take i).length ≤ 70 := by rw [List.length_take]; omega
    have hb2 : BG m (L.take i) ≤ 2800140 := by omega
    simp only [bn.l0]
    rw [if_pos (by omega), if_pos (by omega), show (aj L (i : Int)) = L[i] from bH hlt, abT hlt]
    have e1 : wrap64 ((m : Int) + 1) = ((m + 1 : Nat) : Int) := by rw [jL (by omega) (by omega)]; omega
    rw [e1, jL (x := (i : Int) + 1) (by omega) (by omega)]
    unfold wtM
    generalize L[i].f3.length = a
    generalize L[i].f1.size = b
    generalize BG m (L.take i) = s at *
    have m1 : mn (a : Int) ((m + 1 : Nat) : Int) = ((min a (m + 1) : Nat) : Int) := by unfold mn; omega
    have m2 : mn (b : Int) ((m + 1 : Nat) : Int) = ((min b (m + 1) : Nat) : Int) := by unfold mn; omega
    rw [m1, m2]
    rw [jL (x := (s : Int) + ((min a (m + 1) : Nat) : Int)) (by omega) (by omega)]
    rw [jL (by omega) (by omega)]
    congr 1 <;> omega
theorem Yn {m : Nat} (hm : m ≤ 20000) (L : List It) : Ev (fun k => bn.f k L (m : Int)) (wJ m L) := by
 unfold bn.f
 by_cases h : (L.length : Int) > 70
 · refine ⟨0, fun k _ => ?_⟩
   show (if (L.length : Int) > 70 then some false else _) = _
   rw [if_pos h]; simp only [wJ]; rw [decide_eq_false (by omega)]; rfl
 · have := Ym hm (L := L) (by omega) L.length 0 (by omega) (by omega)
   rw [show wJ m L = decide (BG m L ≤ m) from by simp only [wJ]; rw [decide_eq_true (by omega), Bool.true_and]]
   refine Ev.congr (fun k => ?_) this
   rw [if_neg h]; rfl
theorem SS (m : Nat) (hm : m ≤ 20000) (L : List It) (A : Option Addr) (c : Nat) (hc : L.length ≤ c) (w : World) (hC : Kd.C kIt w A L.length L) :
    Calls Tryz.prog 15 #[.slice A L.length c, .int .i64 (m : Int)] w fun e w' => e = .returned (.bool (wJ m L)) ∧ Below w.heap.size w w' := by
 obtain ⟨k, hk⟩ := (Yn hm L).rounds
 exact bn.calls k A c L (m : Int) _ w hC hc hk
def exL : List It := [⟨-1, ⟨#[101, 204, 129]⟩, false, [65, 204, 138]⟩, ⟨-1, ⟨#[120, 255]⟩, false, [255]⟩]
def exT : List It := [⟨-1, ⟨#[195, 169]⟩, false, [195, 133]⟩, ⟨-1, ⟨#[120, 255]⟩, false, [255]⟩]
def exS : List It := [⟨-1, ⟨#[120, 255]⟩, false, [255]⟩, ⟨-1, ⟨#[195, 169]⟩, false, [195, 133]⟩]
theorem aeX : codes [101, 204, 129] = some [101, 769] ∧ bP [233] = [195, 169] ∧ codes [120, 255] = none ∧ codes [65, 204, 138] = some [65, 778] ∧ bP [197] = [195, 133] ∧ codes [255] = none := by decide +kernel
theorem ex_t : comp (adn (bT [101, 769])) = [233] := by decide +kernel
theorem ex_u : nfc [101, 769] = [233] := by
 have h := ex_t
 rw [MG] at h; exact h
theorem ex_v : comp (adn (bT [65, 778])) = [197] := by decide +kernel
theorem ex_w : nfc [65, 778] = [197] := by
 have h := ex_v
 rw [MG] at h; exact h
theorem ex_1 : dn [101, 204, 129] = some [195, 169] := by
 obtain ⟨h1, h2, _⟩ := aeX
 unfold dn
 rw [h1, Option.map_some, ex_u, h2]
theorem ex_2 : dn [120, 255] = none := by
 unfold dn
 rw [aeX.2.2.1]; rfl
theorem ex_3 : dn [65, 204, 138] = some [195, 133] := by
 obtain ⟨_, _, _, h1, h2, _⟩ := aeX
 unfold dn
 rw [h1, Option.map_some, ex_w, h2]
theorem ex_4 : dn [255] = none := by
 unfold dn
 rw [aeX.2.2.2.2.2]; rfl
theorem aeY : checkN exL = 0 := by kernel_rfl
theorem afC : WfL exL := by
 intro x hx
 simp only [exL, List.mem_cons, List.not_mem_nil, or_false] at hx
 rcases hx with rfl | rfl <;> refine ⟨by decide, by decide, by decide, by decide, by decide⟩
theorem ahI : kT exL exL.length (-1) [195, 169] = 1 := by
 have h1 : cmB (itA exL ((0 : Nat) : Int)) = some [195, 169] := ex_1
 have h2 : cmB (itA exL ((1 : Nat) : Int)) = none := ex_2
 have s0 : kT exL 0 (-1) [195, 169] = 0 := by simp [kT]
 have s1 := oq (L := exL) (n := 0) (by decide) (-1) [195, 169]
 have s2 := oq (L := exL) (n := 1) (by decide) (-1) [195, 169]
 rw [if_pos ⟨rfl, h1⟩, s0] at s1
 rw [if_neg (fun h => by rw [h2] at h; cases h.2), s1] at s2
 exact s2
theorem afD : jNm exL (itA exL ((0 : Nat) : Int)) = (⟨#[195, 169]⟩, 0) :=
 Hg (x := itA exL ((0 : Nat) : Int)) ex_1 (by decide) (by
  have h := ahI
  show ¬ 1 < kT exL exL.length (-1) [195, 169]
  omega)
theorem afE : jNm exL (itA exL ((1 : Nat) : Int)) = (⟨#[120, 255]⟩, 1) := Hf (x := itA exL ((1 : Nat) : Int)) ex_2
theorem afF : jDt (itA exL ((0 : Nat) : Int)) = ([195, 133], 0) := by
 have h : dOf [65, 204, 138] = ([195, 133], 0) := by unfold dOf; rw [ex_3]; rfl
 show (if false = true then (([], 0) : List Int × Int) else (i8s (dOf [65, 204, 138]).1, (dOf [65, 204, 138]).2)) = _
 rw [h]; rfl
theorem afG : jDt (itA exL ((1 : Nat) : Int)) = ([255], 4) := by
 have h : dOf [255] = ([255], 4) := by unfold dOf; rw [ex_4]
 show (if false = true then (([], 0) : List Int × Int) else (i8s (dOf [255]).1, (dOf [255]).2)) = _
 rw [h]; rfl
theorem Wj : bf exL = exT := by
 have h0 : oM exL (itA exL ((0 : Nat) : Int)) = ⟨-1, ⟨#[195, 169]⟩, false, [195, 133]⟩ := by
  unfold oM
  rw [afD, afF]; rfl
 have h1 : oM exL (itA exL ((1 : Nat) : Int)) = ⟨-1, ⟨#[120, 255]⟩, false, [255]⟩ := by
  unfold oM
  rw [afE, afG]; rfl
 show [oM exL (itA exL ((0 : Nat) : Int)), oM exL (itA exL ((1 : Nat) : Int))] = _
 rw [h0, h1]; rfl
theorem aeZ : sortL exT = exS := by kernel_rfl
theorem ahJ : oL exT = [1, 0] := by kernel_rfl
theorem ahK : lI exL = exS := by
 unfold lI
 rw [if_pos aeY, Wj, aeZ]
theorem ahL : ∃ p q : List ByteArray, Qq exL = [⟨p, 1⟩, ⟨q, 4⟩] := by
 have h0 : lnL exL 0 = [] := by
  unfold lnL
  rw [show ((0 : Nat) : Int) = ((0 : Nat) : Int) from rfl, afD, afF]; rfl
 have h1 : lnL exL 1 = [⟨bQ (bf exL) ((1 : Nat) : Int), 1⟩, ⟨bQ (bf exL) ((1 : Nat) : Int), 4⟩] := by
  unfold lnL
  rw [afE, afG]; rfl
 refine ⟨bQ (bf exL) ((1 : Nat) : Int), bQ (bf exL) ((1 : Nat) : Int), ?_⟩
 unfold Qq Ht
 rw [if_pos aeY]
 conv => lhs; rw [Wj]
 rw [ahJ]
 show lnL exL 1 ++ (lnL exL 0 ++ []) = _
 rw [h0, h1]; rfl
def exW (w : World) : World := ((w.alloc (Obj.cells #[.int .u8 65, .int .u8 204, .int .u8 138] 5 (3, 4))).alloc (Obj.cells #[.int .u8 255] 5 (1, 2))).alloc (Obj.cells #[.int .i64 (-1), .string ⟨#[101, 204, 129]⟩, .bool false, .slice (some ⟨w.heap.size, 0, none⟩) 3 3, .int .i64 (-1), .string ⟨#[120, 255]⟩, .bool false, .slice (some ⟨w.heap.size + 1, 0, none⟩) 1 1] 53)
theorem oC (w : World) : Below w.heap.size w (exW w) := aI (aI (aI (Below.refl _ _) _) _) _
theorem nT (w : World) (i : Nat) {v : Value} (h : (#[.int .i64 (-1), .string ⟨#[101, 204, 129]⟩, .bool false, .slice (some ⟨w.heap.size, 0, none⟩) 3 3, .int .i64 (-1), .string ⟨#[120, 255]⟩, .bool false, .slice (some ⟨w.heap.size + 1, 0, none⟩) 1 1] : Array Value)[i]? = some v) : (exW w).cell? ⟨w.heap.size + 1 + 1, i, none⟩ = some v := by
 have hsz : ((w.alloc (Obj.cells #[.int .u8 65, .int .u8 204, .int .u8 138] 5 (3, 4))).alloc (Obj.cells #[.int .u8 255] 5 (1, 2))).heap.size = w.heap.size + 1 + 1 := by rw [World.size_alloc, World.size_alloc]
 rw [← hsz]
 exact kC _ _ _ _ _ h
theorem abV (w : World) (i : Nat) {v : Value} (h : (#[.int .u8 65, .int .u8 204, .int .u8 138] : Array Value)[i]? = some v) : (exW w).cell? ⟨w.heap.size, i, none⟩ = some v :=
 fZ (aI (Below.refl _ _) _) (fZ (aI (Below.refl _ _) _) (kC w _ _ _ _ h))
theorem aju (w : World) (i : Nat) {v : Value} (h : (#[.int .u8 255] : Array Value)[i]? = some v) : (exW w).cell? ⟨w.heap.size + 1, i, none⟩ = some v := by
 refine fZ (aI (Below.refl _ _) _) ?_
 have hsz : (w.alloc (Obj.cells #[.int .u8 65, .int .u8 204, .int .u8 138] 5 (3, 4))).heap.size = w.heap.size + 1 := by rw [World.size_alloc]
 rw [← hsz]
 exact kC _ _ _ _ _ h
theorem ex_C (w : World) : Kd.C kIt (exW w) (some ⟨w.heap.size + 1 + 1, 0, none⟩) 2 exL := by
 refine ⟨rfl, by decide, fun _ => ⟨_, rfl, fun j p hj => ?_⟩⟩
 match j, hj with
 | 0, hj =>
  cases hj
  refine ⟨[.int .i64 (-1), .string ⟨#[101, 204, 129]⟩, .bool false, .slice (some ⟨w.heap.size, 0, none⟩) 3 3], rfl, JW _ ⟨-1, ⟨#[101, 204, 129]⟩, false, [65, 204, 138]⟩ (Nat.le_refl _) ⟨rfl, by decide, fun _ => ⟨_, rfl, fun j p hj => ?_⟩⟩, fun i u hu => ?_⟩
  · match j, hj with
    | 0, hj =>
     cases hj
     refine ⟨[.int .u8 65], rfl, rfl, fun i u hu => ?_⟩
     match i, hu with
     | 0, hu => rw [ru]; exact abV w 0 hu
     | i + 1, hu => simp at hu
    | 1, hj =>
     cases hj
     refine ⟨[.int .u8 204], rfl, rfl, fun i u hu => ?_⟩
     match i, hu with
     | 0, hu => rw [ru]; exact abV w 1 hu
     | i + 1, hu => simp at hu
    | 2, hj =>
     cases hj
     refine ⟨[.int .u8 138], rfl, rfl, fun i u hu => ?_⟩
     match i, hu with
     | 0, hu => rw [ru]; exact abV w 2 hu
     | i + 1, hu => simp at hu
    | j + 3, hj => simp at hj
  · rw [ru]
    match i, hu with
    | 0, hu => exact nT w 0 hu
    | 1, hu => exact nT w 1 hu
    | 2, hu => exact nT w 2 hu
    | 3, hu => exact nT w 3 hu
    | i + 4, hu => simp at hu
 | 1, hj =>
  cases hj
  refine ⟨[.int .i64 (-1), .string ⟨#[120, 255]⟩, .bool false, .slice (some ⟨w.heap.size + 1, 0, none⟩) 1 1], rfl, JW _ ⟨-1, ⟨#[120, 255]⟩, false, [255]⟩ (Nat.le_refl _) ⟨rfl, by decide, fun _ => ⟨_, rfl, fun j p hj => ?_⟩⟩, fun i u hu => ?_⟩
  · match j, hj with
    | 0, hj =>
     cases hj
     refine ⟨[.int .u8 255], rfl, rfl, fun i u hu => ?_⟩
     match i, hu with
     | 0, hu => rw [ru]; exact aju w 0 hu
     | i + 1, hu => simp at hu
    | j + 1, hj => simp at hj
  · rw [ru]
    match i, hu with
    | 0, hu => exact nT w 4 hu
    | 1, hu => exact nT w 5 hu
    | 2, hu => exact nT w 6 hu
    | 3, hu => exact nT w 7 hu
    | i + 4, hu => simp at hu
 | j + 2, hj => simp [exL] at hj
theorem abW (w : World) : qy (exW w) (some ⟨w.heap.size + 1 + 1, 0, none⟩) 2 := by
 intro j hj
 match j, hj with
 | 0, _ => exact ⟨_, some ⟨w.heap.size, 0, none⟩, 3, 3, rfl, by rw [ru]; exact nT w 3 rfl, by decide, nofun⟩
 | 1, _ => exact ⟨_, some ⟨w.heap.size + 1, 0, none⟩, 1, 1, rfl, by rw [ru]; exact nT w 7 rfl, by decide, nofun⟩
theorem abX {W : World} {base g n c : Nat} {ok : Nat → Prop} (h : Kd.R kIt 53 W base ok (.slice (some ⟨g, 0, none⟩) n c) exS) :
    W.cell? ⟨g, 5, none⟩ = some (.string ⟨#[195, 169]⟩) ∧ ∃ A3 c3, W.cell? ⟨g, 7, none⟩ = some (.slice A3 2 c3) ∧ (Kd.int .u8).C W A3 2 [195, 133] := by
 obtain ⟨cs, hM, hc⟩ := r_at h 1 (by decide)
 obtain ⟨v3, rfl, h3⟩ := BK hM
 obtain ⟨A3, c3, rfl⟩ := Kd.bW h3
 exact ⟨(hc 1 _ rfl).1, A3, c3, (hc 3 _ rfl).1, (Kd.bJ h3).2.2⟩
theorem Qr (w : World) (ht : Tz w) (hu : Ut w) : Calls Tryz.prog 25 #[] w fun e w' => e = .returned (.bool true) ∧ Below w.heap.size w w' := by
 have hu41 := Tryz.underlying53
 have hu22 := Tryz.underlying22
 have k1 := fun (W : World) => run_convert_bytes_const (P := Tryz.prog) W 46 5 #[.int .u8 65, .int .u8 204, .int .u8 138] 3 3 Tryz.underlying46 Tryz.underlying5
 have k2 := run_convert_bytes_const (P := Tryz.prog) (w.alloc (Obj.cells #[.int .u8 65, .int .u8 204, .int .u8 138] 5 (3, 4))) 46 5 #[.int .u8 255] 1 1 Tryz.underlying46 Tryz.underlying5
 rw [World.size_alloc] at k2
 go_enter Tryz.func25, Tryz.ntmps25
 have HTg := Hw exL (some ⟨w.heap.size + 1 + 1, 0, none⟩) 2 (exW w) (oz ht (oC w)) (hu.gr (oC w)) (ex_C w) (abW w) afC
 have HRp := fun W (B : Below (exW w).heap.size (exW w) W) => SV exL (some ⟨w.heap.size + 1 + 1, 0, none⟩) 2 W (oz ht ((oC w).trans (B.mono (oC w).size))) (hu.gr ((oC w).trans (B.mono (oC w).size))) (Kd.aT (ex_C w) B) (qy.below (abW w) B) afC
 rw [ahK, aeY] at HTg
 obtain ⟨p, q, hr⟩ := ahL
 rw [hr, aeY] at HRp
 have HTg2 : Calls Tryz.prog 20 #[.slice (some ⟨w.heap.size + 1 + 1, 0, none⟩) 2 2] (exW w) fun e w4 => ∃ g4 c4, e = .returned (.tuple #[.slice (some ⟨g4, 0, none⟩) 2 c4, .int .i64 0]) ∧ Kd.R kIt 53 w4 (exW w).heap.size (fun _ => True) (.slice (some ⟨g4, 0, none⟩) 2 c4) exS ∧ Below (exW w).heap.size (exW w) w4 := HTg.mono fun e w4 h => by
  obtain ⟨v4, rfl, hr4, hb4⟩ := h
  obtain ⟨g4, c4, e4, _⟩ := Kd.jf hr4 (by decide)
  subst e4
  exact ⟨g4, c4, rfl, hr4, hb4⟩
 have HRp2 : ∀ W, Below (exW w).heap.size (exW w) W → Calls Tryz.prog 29 #[.slice (some ⟨w.heap.size + 1 + 1, 0, none⟩) 2 2] W fun e w5 => ∃ b5 o5 c5, e = .returned (.tuple #[.slice (some ⟨b5, o5, none⟩) 2 c5, .int .i64 0]) ∧ w5.cell? ⟨b5, o5 + 1, none⟩ = some (.int .u8 1) ∧ w5.cell? ⟨b5, o5 + 2 + 1, none⟩ = some (.int .u8 4) ∧ Below W.heap.size W w5 := fun W B => (HRp W B).mono fun e w5 h => by
  obtain ⟨A5, c5, rfl, _, hC5, hb5⟩ := h
  obtain ⟨ad, A2, c2, hA, x0, x1⟩ := YE hC5 ((0 : Nat) : Int) (by decide) (by simp)
  obtain ⟨ad', A3, c3, hA', _, x3⟩ := YE hC5 ((1 : Nat) : Int) (by decide) (by simp)
  subst hA
  cases hA'
  obtain ⟨b5, o5, sp⟩ := ad
  have hs : sp = none := World.cell?_spot x0
  subst hs
  exact ⟨b5, o5, c5, rfl, x1.1, x3.1, hb5⟩
 clear HTg HRp hr
 go_wp2_with (first
  | (go_at_call 20; refine HTg2.mono ?_; rintro e w4 ⟨g4, c4, rfl, hr4, hb4⟩)
  | (go_at_call 29; refine (HRp2 _ hb4).mono ?_; rintro e w5 ⟨b5, o5, c5, rfl, n1, n2, hb5⟩; have n3 : w5.cell? ⟨b5, o5 + 3, none⟩ = some (.int .u8 4) := n2; obtain ⟨x1, A3, c3, x2, x3⟩ := abX (Kd.dw hr4 hb5); have cv := Kd.jO (P := Tryz.prog) (w := w5) (A := A3) (c := c3) Tryz.underlying46 Tryz.underlying5 Tryz.underlying9 x3; rw [show strOfNums [195, 133] = ⟨#[195, 133]⟩ from by kernel_rfl] at cv; have hb50 := (oC w).trans ((hb4.trans (hb5.mono hb4.size)).mono (oC w).size)))
 go_ret
 exact ⟨rfl, hb50⟩
theorem amD (L : List It) (A : Option Addr) (c : Nat) (hc : L.length ≤ c) (w : World) (hC : Kd.C kIt w A L.length L) (hcap : qy w A L.length) (hwf : WfL L) (hs : ∀ x ∈ L, x.f1.size ≤ 20000 ∧ x.f3.length ≤ 20000) :
    Calls Tryz.prog 30 #[.slice A L.length c] w fun e w' => ∃ A3 c3, e = .returned (.tuple #[.slice A3 (Qq L).length c3, .int .i64 (checkN L)]) ∧ (Qq L).length ≤ c3 ∧ Kd.C kLn w' A3 (Qq L).length (Qq L) ∧ Below w.heap.size w w' := by
 by_cases h0 : checkN L = 0
 · unfold Qq
   rw [if_pos h0, h0]
   exact amF L A c hc w hC hcap hwf hs h0
 · have hj : Qq L = [] := if_neg h0
   have hj2 : Ql L = [] := if_neg h0
   rw [hj]
   have HT := ah.mk (SH L A c hc w hC hcap hwf hs)
   rw [hj2] at HT
   have hne : (checkN L != 0) = true := by simpa using h0
   generalize checkN L = y at HT hne ⊢
   clear hC hcap hwf hj hj2 h0 hs
   go_enter Tryz.func30, Tryz.ntmps30
   go_wp2_with (go_at_call 27; with_reducible refine HT.out.mono ?_; rintro e w1 ⟨v1, rfl, _, hb1⟩)
   go_ret2
   exact ⟨none, 0, rfl, Nat.le_refl _, Kd.aay _ _, hb1⟩
theorem aiX (L : List It) (A : Option Addr) (c : Nat) (hc : L.length ≤ c) (w : World) (ht : Tz w) (hu : Ut w) (hC : Kd.C kIt w A L.length L) (hcap : qy w A L.length) (hwf : WfL L) :
    Calls Tryz.prog 8 #[.slice A L.length c] w fun e w' => e = .returned (.bool true) ∧ Below w.heap.size w w' := by
 have HL := SS 1500 (by decide) L A c hc w hC
 simp only [Int.cast_ofNat_Int] at HL
 have HAw := fun W (B : Below w.heap.size w W) => Qr W (oz ht B) (hu.gr B)
 cases hli : wJ 1500 L with
 | false =>
  rw [hli] at HL
  have HL := ah.mk HL
  have HAw := ah.mk HAw
  clear hC hcap hwf ht hu
  go_enter Tryz.func8, Tryz.ntmps8
  go_wp2_with (first
   | (go_at_call 15; with_reducible refine HL.out.mono ?_; rintro e w1 ⟨rfl, hb1⟩)
   | (go_at_call 25; with_reducible refine (HAw.out _ hb1).mono ?_; rintro e w2 ⟨rfl, hb2⟩))
  go_ret
  exact ⟨rfl, hb1.trans (hb2.mono hb1.size)⟩
 | true =>
  rw [hli] at HL
  obtain ⟨hf1, hf2⟩ := NU hli
  have HR1 := fun W (B : Below w.heap.size w W) => SV L A c W (oz ht B) (hu.gr B) (Kd.aT hC B) (qy.below hcap B) hwf
  have HR2 := fun W (B : Below w.heap.size w W) => amD L A c hc W (Kd.aT hC B) (qy.below hcap B) hwf (fun x hx => by have := hf2 x hx; omega)
  have HSL := fun W A3 c3 A4 c4 (h1 : (Qq L).length ≤ c3) (h2 : (Qq L).length ≤ c4) (h3 : Kd.C kLn W A3 (Qq L).length (Qq L)) (h4 : Kd.C kLn W A4 (Qq L).length (Qq L)) => ajv (Qq L) ajA.1 ajA.2 A3 A4 c3 c4 h1 h2 W h3 h4
  have HL := ah.mk HL
  have HR1 := ah.mk HR1
  have HR2 := ah.mk HR2
  have HAw := ah.mk HAw
  have hcc : (checkN L == checkN L) = true := beq_self_eq_true _
  clear hC hcap hwf ht hu hf1 hf2 hli
  generalize Qq L = X at HSL HR1 HR2
  generalize checkN L = y at HR1 HR2 hcc
  have HSL := ah.mk HSL
  go_enter Tryz.func8, Tryz.ntmps8
  go_wp2_with (first
   | (go_at_call 15; with_reducible refine HL.out.mono ?_; rintro e w1 ⟨rfl, hb1⟩)
   | (go_at_call 29; with_reducible refine (HR1.out _ hb1).mono ?_; rintro e w2 ⟨A3, c3, rfl, l3, r3, hb2⟩; have hb20 := hb1.trans (hb2.mono hb1.size))
   | (go_at_call 30; with_reducible refine (HR2.out _ hb20).mono ?_; rintro e w3 ⟨A4, c4, rfl, l4, r4, hb3⟩; have hb30 := hb20.trans (hb3.mono hb20.size); have HS1 := HSL.out w3 A3 c3 A4 c4 l3 l4 (Kd.aT r3 hb3) r4)
   | (go_at_call 31; with_reducible refine HS1.mono ?_; rintro e w4 ⟨rfl, hb4⟩; have hb40 := hb30.trans (hb4.mono hb30.size))
   | (go_at_call 25; with_reducible refine (HAw.out _ hb40).mono ?_; rintro e w5 ⟨rfl, hb5⟩))
  go_ret
  exact ⟨rfl, hb40.trans (hb5.mono hb40.size)⟩
end Go.Proofs.YthlflglkdaainaaGreatDoor.Tr
