import Derived.Test.YthlflglkdaainaaGreatDoorP9
/- plan.Apply. -/
set_option maxRecDepth 100000
namespace Go.Proofs.YthlflglkdaainaaGreatDoor.Tr
open Go.RowKit Go.Lib Go.Maps Go.Proofs.YthlflglkdaainaaGreatDoorW.PrintWords Go.Proofs.YthlflglkdaainaaGreatDoorW.PrintLast Go.Proofs.YthlflglkdaainaaGreatDoorW.PrintMore Go.Proofs.YthlflglkdaainaaGreatDoor.Prt

/-- A copy whose item k may be written. -/
theorem copy_at (L : List It) (A : Option Addr) (c : Nat) (W : World) (hC : Kd.C kIt W A L.length L) (h14 : checkN L ≠ 14) {k : Nat} (hk : k < L.length) :
    Calls Tryz.prog 32 #[.slice A L.length c] W fun e w' => ∃ g cap, e = .returned (.slice (some ⟨g, 0, none⟩) L.length cap) ∧ W.heap.size ≤ g ∧ g < w'.heap.size ∧ (∃ u, w'.cell? ⟨g, k * 4 + 1, none⟩ = some u) ∧ w'.frozen? ⟨g, k * 4 + 1, none⟩ = false ∧ (∃ u, w'.cell? ⟨g, k * 4 + 3, none⟩ = some u) ∧ w'.frozen? ⟨g, k * 4 + 3, none⟩ = false ∧
      Aside0 (Kd.R kIt 53 w' W.heap.size (fun _ => True) (.slice (some ⟨g, 0, none⟩) L.length cap) L) ∧ Below W.heap.size W w' := by
  obtain ⟨q1, _, q3⟩ := check_ok h14
  rw [List.all_eq_true] at q3
  refine (copy_any L A c W hC (by omega) (fun x hx => by have := right_len (q3 x hx); omega)).mono fun e w' h => ?_
  obtain ⟨v, rfl, h1, h2⟩ := h
  obtain ⟨g, cap, rfl, g1, g2, _⟩ := Kd.R_form h1 (by omega)
  obtain ⟨cs, e1, _, e3, e4⟩ := Kd.R_elem h1 zIt (k : Int) (by omega) (by omega)
  rw [Int.toNat_natCast] at e3 e4
  have e1' : cs.length = 4 := e1
  match cs, e1' with
  | [x0, x1, x2, x3], _ => exact ⟨g, cap, rfl, g1, g2, ⟨_, e3 1 _ rfl⟩, e4 1, ⟨_, e3 3 _ rfl⟩, e4 3, ⟨h1⟩, h2⟩
/-- Its name is written. -/
theorem copy_name {L : List It} {W : World} {base g cap : Nat} (h : Kd.R kIt 53 W base (fun _ => True) (.slice (some ⟨g, 0, none⟩) L.length cap) L) {k : Nat} (hk : k < L.length) (s : ByteArray) :
    Kd.R kIt 53 (W.setCell ⟨g, k * 4 + 1, none⟩ (.string s)) base (fun _ => True) (.slice (some ⟨g, 0, none⟩) L.length cap) (setN L k s) := by
  obtain ⟨cs, e1, e2, e3, _⟩ := Kd.R_elem h zIt (k : Int) (by omega) (by omega)
  rw [Int.toNat_natCast] at e2 e3
  obtain ⟨v3, rfl, hv⟩ := k53_openM e2
  have ex : L.getD k zIt = itA L (k : Int) := by rw [itA_get hk, List.getD_eq_getElem?_getD, List.getElem?_eq_getElem hk]; rfl
  have := (Kd.R_seg h (k : Int) (by omega) (by omega) (c := _) (seg := [.string s]) (j := 1) (x' := ⟨(itA L k).f0, s, (itA L k).f2, (itA L k).f3⟩) (okp := fun b => True ∧ b ≠ g) e1 (by rw [Int.toNat_natCast]; exact e3) (show 1 + 1 ≤ 4 by decide) (by
    rw [ex] at hv ⊢
    exact k53_mkM _ _ _ ⟨(itA L k).f0, s, (itA L k).f2, (itA L k).f3⟩ hv) (fun _ h => h)).1
  rw [Int.toNat_natCast] at this
  exact this
/-- Its data is written. -/
theorem copy_data {L : List It} {W : World} {base g cap : Nat} (h : Kd.R kIt 53 W base (fun _ => True) (.slice (some ⟨g, 0, none⟩) L.length cap) L) {k : Nat} (hk : k < L.length) {d : List Int} {v : Value} {b2 : Nat} (hb : base ≤ b2) (hg : g < b2) (hv : Kd.R (Kd.int .u8) 5 W b2 (fun _ => True) v d) :
    Kd.R kIt 53 (W.setCell ⟨g, k * 4 + 3, none⟩ v) base (fun _ => True) (.slice (some ⟨g, 0, none⟩) L.length cap) (setD L k d) := by
  obtain ⟨cs, e1, e2, e3, _⟩ := Kd.R_elem h zIt (k : Int) (by omega) (by omega)
  rw [Int.toNat_natCast] at e2 e3
  obtain ⟨v3, rfl, _⟩ := k53_openM e2
  have ex : L.getD k zIt = itA L (k : Int) := by rw [itA_get hk, List.getD_eq_getElem?_getD, List.getElem?_eq_getElem hk]; rfl
  have := (Kd.R_seg h (k : Int) (by omega) (by omega) (c := _) (seg := [v]) (j := 3) (x' := ⟨(itA L k).f0, (itA L k).f1, (itA L k).f2, d⟩) (okp := fun b => b2 ≤ b) e1 (by rw [Int.toNat_natCast]; exact e3) (show 3 + 1 ≤ 4 by decide) (by
    rw [ex]
    exact k53_mkM _ _ _ ⟨(itA L k).f0, (itA L k).f1, (itA L k).f2, d⟩ (Kd.R_lower (Kd.R_mono (Kd.R_bound hv) (fun x hx => hx.2.1)) hb)) (fun x hx => ⟨trivial, fun e => by subst e; exact absurd hg (Nat.not_lt.2 hx)⟩)).1
  rw [Int.toNat_natCast] at this
  exact this

set_option maxHeartbeats 8000000 in
theorem Apply_any (L : List It) (A : Option Addr) (c : Nat) (hc : L.length ≤ c) (s : St) (Ap : Option Addr) (cp : Nat) (hcp : s.f1.length ≤ cp) (w : World) (ht : Tz w) (hu : Ut w) (hC : Kd.C kIt w A L.length L) (hcap : CapR w A L.length) (hwf : WfL L) (hP : Kd.C Kd.string w Ap s.f1.length s.f1) (hs : s.f2.size ≤ maxLen) :
    Calls Tryz.prog 35 #[.slice A L.length c, stV s Ap cp] w fun e w' => ∃ v, e = .returned (.tuple #[v, .int .i64 (applyT L s).2]) ∧ Kd.R kIt 53 w' w.heap.size (fun _ => True) v (applyT L s).1 ∧ Below w.heap.size w w' := by
  have hu53 := Tryz.underlying53
  have hu67 := Tryz.underlying67
  obtain ⟨sr, sp, st⟩ := s
  have hb0 : Below w.heap.size w (w.alloc (Obj.cells #[.bool sr, .slice Ap sp.length cp, .string st] 67)) := below_alloc (Below.refl _ _) _
  have n0 : (w.alloc (Obj.cells #[.bool sr, .slice Ap sp.length cp, .string st] 67)).cell? ⟨w.heap.size, 0, none⟩ = some (.bool sr) := World.cell?_alloc_new w _ _ 0
  have n1 : (w.alloc (Obj.cells #[.bool sr, .slice Ap sp.length cp, .string st] 67)).cell? ⟨w.heap.size, 1, none⟩ = some (.slice Ap sp.length cp) := World.cell?_alloc_new w _ _ 1
  have n2 : (w.alloc (Obj.cells #[.bool sr, .slice Ap sp.length cp, .string st] 67)).cell? ⟨w.heap.size, 2, none⟩ = some (.string st) := World.cell?_alloc_new w _ _ 2
  have hsz : (w.alloc (Obj.cells #[.bool sr, .slice Ap sp.length cp, .string st] 67)).heap.size = w.heap.size + 1 := World.size_alloc _ _
  have HK : Aside0 (∀ W, Below w.heap.size w W → Calls Tryz.prog 18 #[.slice A L.length c] W fun e w' => e = .returned (.int .i64 (checkN L)) ∧ Below W.heap.size W w') := ⟨fun W B => check_any L A c W (Kd.C_below hC B) hwf⟩
  have HF : Aside0 (∀ W, Below w.heap.size w W → Calls Tryz.prog 37 #[.slice A L.length c, .slice Ap sp.length cp] W fun e w' => e = .returned (.int .i64 (findT L sp)) ∧ Below W.heap.size W w') := ⟨fun W B => Find_any L A c hc sp Ap cp hcp W (Kd.C_below hC B) hwf (Kd.C_below hP B)⟩
  unfold stV
  show Calls _ _ #[.slice A L.length c, .agg #[.bool sr, .slice Ap sp.length cp, .string st]] w _
  generalize hW1 : w.alloc (Obj.cells #[.bool sr, .slice Ap sp.length cp, .string st] 67) = W1 at hb0 n0 n1 n2 hsz
  -- the step's cells, in whatever comes behind
  have NN : Aside0 (∀ W, Below W1.heap.size W1 W → W.cell? ⟨w.heap.size, 0, none⟩ = some (.bool sr) ∧ W.cell? ⟨w.heap.size, 1, none⟩ = some (.slice Ap sp.length cp) ∧ W.cell? ⟨w.heap.size, 2, none⟩ = some (.string st)) := ⟨fun W B => ⟨(B.cell (p := ⟨w.heap.size, 0, none⟩) (by show w.heap.size < _; omega)).trans n0, (B.cell (p := ⟨w.heap.size, 1, none⟩) (by show w.heap.size < _; omega)).trans n1, (B.cell (p := ⟨w.heap.size, 2, none⟩) (by show w.heap.size < _; omega)).trans n2⟩⟩
  have hHK1 := HK.out W1 hb0
  by_cases h0 : checkN L = 0
  · have h14 : checkN L ≠ 14 := by rw [h0]; decide
    rw [h0] at hHK1
    replace hHK1 : Aside0 (Calls Tryz.prog 18 #[.slice A L.length c] W1 fun e w' => e = .returned (.int .i64 0) ∧ Below W1.heap.size W1 w') := ⟨hHK1⟩
    by_cases hf : findT L sp < 0
    · have e : applyT L ⟨sr, sp, st⟩ = ([], 8) := by
        unfold applyT
        rw [if_pos h0]
        exact if_pos hf
      rw [e]
      generalize findT L sp = y at HF hf
      clear hC hcap hwf hP ht hu h0 h14 HK e n0 n1 n2
      subst hW1
      go_enter Tryz.func35, Tryz.ntmps35
      go_wp2_with (first
        | (go_at_call 18; with_reducible refine hHK1.out.mono ?_; rintro e w1 ⟨rfl, hb1⟩; have hb10 := below_then hb0 hb0.size hb1; obtain ⟨m0, m1, m2⟩ := NN.out w1 hb1)
        | (go_at_call 37; with_reducible refine (HF.out _ hb10).mono ?_; rintro e w2 ⟨rfl, hb2⟩))
      go_ret2
      exact ⟨_, rfl, Kd.R_nil _ _ _ _ _, below_then hb10 hb10.size hb2⟩
    · obtain ⟨k, hk, hkl⟩ := findT_lt hf
      have hap : applyT L ⟨sr, sp, st⟩ = if sr then (if checkN (setN L k st) = 0 then (setN L k st, (0 : Int)) else (([] : List It), (7 : Int)))
          else if (itA L (k : Int)).f2 then (([] : List It), (10 : Int))
          else match textB (u8s (itA L (k : Int)).f3) with
            | none => ([], 6)
            | some c => if 8192 < c.length then ([], 5) else (setD L k (i8s c), 0) := by
        unfold applyT
        rw [if_pos h0]
        show (if findT L sp < 0 then _ else _) = _
        rw [if_neg hf, hk, Int.toNat_natCast]
        rfl
      rw [hap]
      rw [hk] at HF
      have HCp : Aside0 (∀ W, Below w.heap.size w W → Calls Tryz.prog 32 #[.slice A L.length c] W fun e w' => ∃ g cap, e = .returned (.slice (some ⟨g, 0, none⟩) L.length cap) ∧ W.heap.size ≤ g ∧ g < w'.heap.size ∧ (∃ u, w'.cell? ⟨g, k * 4 + 1, none⟩ = some u) ∧ w'.frozen? ⟨g, k * 4 + 1, none⟩ = false ∧ (∃ u, w'.cell? ⟨g, k * 4 + 3, none⟩ = some u) ∧ w'.frozen? ⟨g, k * 4 + 3, none⟩ = false ∧
        Aside0 (Kd.R kIt 53 w' W.heap.size (fun _ => True) (.slice (some ⟨g, 0, none⟩) L.length cap) L) ∧ Below W.heap.size W w') := ⟨fun W B => copy_at L A c W (Kd.C_below hC B) h14 hkl⟩
      have hkz : ¬ (k : Int) < 0 := by omega
      have hklz : (k : Int) < (L.length : Int) := by omega
      cases sr with
      | true =>
        have hlen : (setN L k st).length = L.length := List.length_set
        have HK2 : ∀ W g cap base, Kd.R kIt 53 W base (fun _ => True) (.slice (some ⟨g, 0, none⟩) L.length cap) (setN L k st) → Calls Tryz.prog 18 #[.slice (some ⟨g, 0, none⟩) L.length cap] W fun e w' => e = .returned (.int .i64 (checkN (setN L k st))) ∧ Below W.heap.size W w' := fun W g cap base hr => by
          have := check_any (setN L k st) (some ⟨g, 0, none⟩) cap W (Kd.R_reads' hr).2.2 (setN_wf hwf hkl hs)
          rw [hlen] at this
          exact this
        have HR := fun W base g cap (h : Kd.R kIt 53 W base (fun _ => True) (.slice (some ⟨g, 0, none⟩) L.length cap) L) => copy_name h hkl st
        show Calls _ _ _ _ fun e w' => ∃ v, e = .returned (.tuple #[v, .int .i64 (if checkN (setN L k st) = 0 then (setN L k st, (0 : Int)) else ([], 7)).2]) ∧ Kd.R kIt 53 w' w.heap.size (fun _ => True) v (if checkN (setN L k st) = 0 then (setN L k st, (0 : Int)) else ([], 7)).1 ∧ _
        generalize setN L k st = M at HK2 HR hlen ⊢
        replace HK2 := Aside0.mk HK2
        replace HR := Aside0.mk HR
        have hdec : (checkN M = 0 ∧ (checkN M != 0) = false) ∨ (checkN M ≠ 0 ∧ (checkN M != 0) = true) := by
          by_cases h : checkN M = 0
          · exact .inl ⟨h, by rw [h]; rfl⟩
          · exact .inr ⟨h, by rw [bne_iff_ne]; exact h⟩
        clear hC hcap hwf hP ht hu h0 h14 HK n0 n1 n2 hf hk hap hs
        generalize checkN M = y at HK2 hdec ⊢
        rcases hdec with ⟨hy, hyb⟩ | ⟨hy, hyb⟩
        · subst hy
          rw [if_pos rfl]
          clear hyb
          subst hW1
          go_enter Tryz.func35, Tryz.ntmps35
          go_wp2_with (first
            | (go_at_call 18; with_reducible refine hHK1.out.mono ?_; rintro e w1 ⟨rfl, hb1⟩; have hb10 := below_then hb0 hb0.size hb1; obtain ⟨m0, m1, m2⟩ := NN.out w1 hb1)
            | (go_at_call 37; with_reducible refine (HF.out _ hb10).mono ?_; rintro e w2 ⟨rfl, hb2⟩; have hb20 := below_then hb10 hb10.size hb2)
            | (go_at_call 32; with_reducible refine (HCp.out _ hb20).mono ?_; rintro e w3 ⟨g, cap, rfl, g1, g2, ⟨c1, hc1⟩, f1, _, _, hr3, hb3⟩; have hb30 := below_then hb20 hb20.size hb3; obtain ⟨m30, m31, m32⟩ := NN.out w3 (below_then (below_then hb1 hb1.size hb2) (below_then hb1 hb1.size hb2).size hb3); have hr4 := Aside0.mk (HR.out w3 _ g cap hr3.out); have HK3 := HK2.out _ g cap _ hr4.out; have hb40 := Below.setCell hb30 (p := ⟨g, k * 4 + 1, none⟩) (Nat.le_trans hb20.size g1) (.string st))
            | (go_at_call 18; with_reducible refine HK3.mono ?_; rintro e w5 ⟨rfl, hb5⟩))
          go_ret2
          exact ⟨_, rfl, Kd.R_lower (Kd.R_below hr4.out hb5) hb20.size, below_then hb40 hb40.size hb5⟩
        · rw [if_neg hy]
          subst hW1
          go_enter Tryz.func35, Tryz.ntmps35
          go_wp2_with (first
            | (go_at_call 18; with_reducible refine hHK1.out.mono ?_; rintro e w1 ⟨rfl, hb1⟩; have hb10 := below_then hb0 hb0.size hb1; obtain ⟨m0, m1, m2⟩ := NN.out w1 hb1)
            | (go_at_call 37; with_reducible refine (HF.out _ hb10).mono ?_; rintro e w2 ⟨rfl, hb2⟩; have hb20 := below_then hb10 hb10.size hb2)
            | (go_at_call 32; with_reducible refine (HCp.out _ hb20).mono ?_; rintro e w3 ⟨g, cap, rfl, g1, g2, ⟨c1, hc1⟩, f1, _, _, hr3, hb3⟩; have hb30 := below_then hb20 hb20.size hb3; obtain ⟨m30, m31, m32⟩ := NN.out w3 (below_then (below_then hb1 hb1.size hb2) (below_then hb1 hb1.size hb2).size hb3); have hr4 := Aside0.mk (HR.out w3 _ g cap hr3.out); have HK3 := HK2.out _ g cap _ hr4.out; have hb40 := Below.setCell hb30 (p := ⟨g, k * 4 + 1, none⟩) (Nat.le_trans hb20.size g1) (.string st))
            | (go_at_call 18; with_reducible refine HK3.mono ?_; rintro e w5 ⟨rfl, hb5⟩))
          go_ret2
          exact ⟨_, rfl, Kd.R_nil _ _ _ _ _, below_then hb40 hb40.size hb5⟩
      | false =>
        obtain ⟨ad, A3, c3, hA, x0, x1, x2, x3, x4, x5⟩ := at_T53 hC (k : Int) (by omega) hklz
        rw [Int.toNat_natCast] at x0 x1 x2 x3
        change (w.cell? ⟨(ad.add (k * 4)).block, (ad.add (k * 4)).off + 2, none⟩ = some (.bool (itA L (k : Int)).f2)) at x2
        change (w.cell? ⟨(ad.add (k * 4)).block, (ad.add (k * 4)).off + 3, none⟩ = some (.slice A3 (itA L (k : Int)).f3.length c3)) at x3
        change ((itA L (k : Int)).f3.length ≤ c3) at x4
        change ((Kd.int .u8).C w A3 (itA L (k : Int)).f3.length (itA L (k : Int)).f3) at x5
        obtain ⟨q1, q2⟩ := cap_at hcap hkl hA x3
        have h8 : Bytes8 (itA L (k : Int)).f3 := (hwf _ (it_mem' hkl)).2.2.2.1
        have hlen8 : (itA L (k : Int)).f3.length ≤ 8192 := by
          obtain ⟨_, _, q3⟩ := check_ok h14
          rw [List.all_eq_true] at q3
          exact right_len (q3 _ (it_mem' hkl))
        have IT : Aside0 (∀ W, Below w.heap.size w W → W.cell? ⟨(ad.add (k * 4)).block, (ad.add (k * 4)).off + 2, none⟩ = some (.bool (itA L (k : Int)).f2) ∧ W.cell? ⟨(ad.add (k * 4)).block, (ad.add (k * 4)).off + 3, none⟩ = some (.slice A3 (itA L (k : Int)).f3.length c3)) := ⟨fun W B => ⟨(B.cell (World.block_lt_of_cell? w _ x2)).trans x2, (B.cell (World.block_lt_of_cell? w _ x3)).trans x3⟩⟩
        have HT := fun W (B : Below w.heap.size w W) => Text_any (.slice A3 (itA L (k : Int)).f3.length c3) (u8s (itA L (k : Int)).f3) W (tz_below ht B) (hu.gr B) (bs_of_C (Kd.C_below x5 B) h8 x4 q1 q2) (by rw [u8s_len]; omega)
        subst hA
        rw [if_neg (show ¬ (false = true) by decide)]
        have HD := fun W base g cap (h : Kd.R kIt 53 W base (fun _ => True) (.slice (some ⟨g, 0, none⟩) L.length cap) L) (d : List Int) (v : Value) (b2 : Nat) (q1 : base ≤ b2) (q2 : g < b2) (hv : Kd.R (Kd.int .u8) 5 W b2 (fun _ => True) v d) => copy_data h hkl q1 q2 hv
        replace HD := Aside0.mk HD
        clear hcap hwf hP ht hu h0 h14 HK n0 n1 n2 hf hk hap hs x0 x1 x2 x3 x4 x5 q1 q2 h8 hlen8 hC
        generalize (itA L (k : Int)).f3.length = n3 at IT HT
        generalize u8s (itA L (k : Int)).f3 = b3 at HT ⊢
        generalize (itA L (k : Int)).f2 = d3 at IT ⊢
        cases d3 with
        | true =>
          rw [if_pos rfl]
          clear HT HD
          subst hW1
          go_enter Tryz.func35, Tryz.ntmps35
          go_wp2_with (first
            | (go_at_call 18; with_reducible refine hHK1.out.mono ?_; rintro e w1 ⟨rfl, hb1⟩; have hb10 := below_then hb0 hb0.size hb1; obtain ⟨m0, m1, m2⟩ := NN.out w1 hb1)
            | (go_at_call 37; with_reducible refine (HF.out _ hb10).mono ?_; rintro e w2 ⟨rfl, hb2⟩; have hb20 := below_then hb10 hb10.size hb2)
            | (go_at_call 32; with_reducible refine (HCp.out _ hb20).mono ?_; rintro e w3 ⟨g, cap, rfl, g1, g2, _, _, ⟨c1, hc1⟩, f1, hr3, hb3⟩; have hb30 := below_then hb20 hb20.size hb3; obtain ⟨m30, m31, m32⟩ := NN.out w3 (below_then (below_then hb1 hb1.size hb2) (below_then hb1 hb1.size hb2).size hb3); obtain ⟨i2, i3⟩ := IT.out w3 hb30))
          go_ret2
          exact ⟨_, rfl, Kd.R_nil _ _ _ _ _, hb30⟩
        | false =>
          rw [if_neg (show ¬ (false = true) by decide)]
          cases hx : textB b3 with
          | none =>
            show Calls _ _ _ _ fun e w' => ∃ v, e = .returned (.tuple #[v, .int .i64 6]) ∧ Kd.R kIt 53 w' w.heap.size (fun _ => True) v [] ∧ _
            have HT2 : Aside0 (∀ W, Below w.heap.size w W → Calls Tryz.prog 34 #[.slice A3 n3 c3] W fun e w' => e = .returned (.tuple #[.slice none 0 0, .int .i64 6]) ∧ Below W.heap.size W w') := ⟨fun W B => (HT W B).mono fun e w' h => by
              rcases h with ⟨⟨_, h1⟩ | ⟨c', v', h1, _⟩, h2⟩
              · exact ⟨h1, h2⟩
              · rw [hx] at h1; cases h1⟩
            clear HT HD hx
            subst hW1
            go_enter Tryz.func35, Tryz.ntmps35
            go_wp2_with (first
              | (go_at_call 18; with_reducible refine hHK1.out.mono ?_; rintro e w1 ⟨rfl, hb1⟩; have hb10 := below_then hb0 hb0.size hb1; obtain ⟨m0, m1, m2⟩ := NN.out w1 hb1)
              | (go_at_call 37; with_reducible refine (HF.out _ hb10).mono ?_; rintro e w2 ⟨rfl, hb2⟩; have hb20 := below_then hb10 hb10.size hb2)
              | (go_at_call 32; with_reducible refine (HCp.out _ hb20).mono ?_; rintro e w3 ⟨g, cap, rfl, g1, g2, _, _, ⟨c1, hc1⟩, f1, hr3, hb3⟩; have hb30 := below_then hb20 hb20.size hb3; obtain ⟨m30, m31, m32⟩ := NN.out w3 (below_then (below_then hb1 hb1.size hb2) (below_then hb1 hb1.size hb2).size hb3); obtain ⟨i2, i3⟩ := IT.out w3 hb30)
              | (go_at_call 34; with_reducible refine (HT2.out _ hb30).mono ?_; rintro e w4 ⟨rfl, hb4⟩))
            go_ret2
            exact ⟨_, rfl, Kd.R_nil _ _ _ _ _, below_then hb30 hb30.size hb4⟩
          | some c' =>
            have HT2 : Aside0 (∀ W, Below w.heap.size w W → Calls Tryz.prog 34 #[.slice A3 n3 c3] W fun e w' => ∃ A' k, e = .returned (.tuple #[.slice A' c'.length k, .int .i64 0]) ∧ Aside0 (Kd.R (Kd.int .u8) 5 w' W.heap.size (fun _ => True) (.slice A' c'.length k) (i8s c')) ∧ Below W.heap.size W w') := ⟨fun W B => (HT W B).mono fun e w' h => by
              rcases h with ⟨⟨h1, _⟩ | ⟨c2, v', h1, h3, h4⟩, h2⟩
              · rw [hx] at h1; cases h1
              · rw [hx] at h1
                cases h1
                have hr := R_bytes h4
                obtain ⟨A', k, rfl⟩ := Kd.R_slice hr
                rw [i8s_len] at hr h3
                exact ⟨A', k, h3, ⟨hr⟩, h2⟩⟩
            clear HT hx
            by_cases hlen : 8192 < c'.length
            · show Calls _ _ _ _ fun e w' => ∃ v, e = .returned (.tuple #[v, .int .i64 (if 8192 < c'.length then (([] : List It), (5 : Int)) else (setD L k (i8s c'), 0)).2]) ∧ Kd.R kIt 53 w' w.heap.size (fun _ => True) v (if 8192 < c'.length then (([] : List It), (5 : Int)) else (setD L k (i8s c'), 0)).1 ∧ _
              rw [if_pos hlen]
              have hz : (8192 : Int) < (c'.length : Int) := by omega
              clear HD hlen
              subst hW1
              go_enter Tryz.func35, Tryz.ntmps35
              go_wp2_with (first
                | (go_at_call 18; with_reducible refine hHK1.out.mono ?_; rintro e w1 ⟨rfl, hb1⟩; have hb10 := below_then hb0 hb0.size hb1; obtain ⟨m0, m1, m2⟩ := NN.out w1 hb1)
                | (go_at_call 37; with_reducible refine (HF.out _ hb10).mono ?_; rintro e w2 ⟨rfl, hb2⟩; have hb20 := below_then hb10 hb10.size hb2)
                | (go_at_call 32; with_reducible refine (HCp.out _ hb20).mono ?_; rintro e w3 ⟨g, cap, rfl, g1, g2, _, _, ⟨c1, hc1⟩, f1, hr3, hb3⟩; have hb30 := below_then hb20 hb20.size hb3; obtain ⟨m30, m31, m32⟩ := NN.out w3 (below_then (below_then hb1 hb1.size hb2) (below_then hb1 hb1.size hb2).size hb3); obtain ⟨i2, i3⟩ := IT.out w3 hb30)
                | (go_at_call 34; with_reducible refine (HT2.out _ hb30).mono ?_; rintro e w4 ⟨A', kc, rfl, hr4, hb4⟩))
              go_ret2
              exact ⟨_, rfl, Kd.R_nil _ _ _ _ _, below_then hb30 hb30.size hb4⟩
            · show Calls _ _ _ _ fun e w' => ∃ v, e = .returned (.tuple #[v, .int .i64 (if 8192 < c'.length then (([] : List It), (5 : Int)) else (setD L k (i8s c'), 0)).2]) ∧ Kd.R kIt 53 w' w.heap.size (fun _ => True) v (if 8192 < c'.length then (([] : List It), (5 : Int)) else (setD L k (i8s c'), 0)).1 ∧ _
              rw [if_neg hlen]
              have hz : ¬ (8192 : Int) < (c'.length : Int) := by omega
              clear hlen
              subst hW1
              go_enter Tryz.func35, Tryz.ntmps35
              go_wp2_with (first
                | (go_at_call 18; with_reducible refine hHK1.out.mono ?_; rintro e w1 ⟨rfl, hb1⟩; have hb10 := below_then hb0 hb0.size hb1; obtain ⟨m0, m1, m2⟩ := NN.out w1 hb1)
                | (go_at_call 37; with_reducible refine (HF.out _ hb10).mono ?_; rintro e w2 ⟨rfl, hb2⟩; have hb20 := below_then hb10 hb10.size hb2)
                | (go_at_call 32; with_reducible refine (HCp.out _ hb20).mono ?_; rintro e w3 ⟨g, cap, rfl, g1, g2, _, _, ⟨c1, hc1⟩, f1, hr3, hb3⟩; have hb30 := below_then hb20 hb20.size hb3; obtain ⟨m30, m31, m32⟩ := NN.out w3 (below_then (below_then hb1 hb1.size hb2) (below_then hb1 hb1.size hb2).size hb3); obtain ⟨i2, i3⟩ := IT.out w3 hb30)
                | (go_at_call 34; with_reducible refine (HT2.out _ hb30).mono ?_; rintro e w4 ⟨A', kc, rfl, hr4, hb4⟩; have c4 := (hb4.cell (p := ⟨g, k * 4 + 3, none⟩) g2).trans hc1; have f4 := (hb4.frozen (p := ⟨g, k * 4 + 3, none⟩) g2).trans f1; have hr5 := Aside0.mk (HD.out w4 _ g cap (Kd.R_below hr3.out hb4) _ _ w3.heap.size hb3.size g2 hr4.out); have hb40 := Below.setCell (below_then hb30 hb30.size hb4) (p := ⟨g, k * 4 + 3, none⟩) (Nat.le_trans hb20.size g1) (.slice A' c'.length kc)))
              go_ret2
              exact ⟨_, rfl, Kd.R_lower hr5.out hb20.size, hb40⟩
  · have e : applyT L ⟨sr, sp, st⟩ = ([], checkN L) := by
      unfold applyT
      exact if_neg h0
    rw [e]
    have hne : (checkN L != 0) = true := by rw [bne_iff_ne]; exact h0
    replace hHK1 := Aside0.mk hHK1
    generalize checkN L = y at hHK1 hne ⊢
    clear hC hcap hwf hP ht hu h0 HK HF e n0 n1 n2 NN
    subst hW1
    go_enter Tryz.func35, Tryz.ntmps35
    go_wp2_with (go_at_call 18; with_reducible refine hHK1.out.mono ?_; rintro e w1 ⟨rfl, hb1⟩)
    go_ret2
    exact ⟨_, rfl, Kd.R_nil _ _ _ _ _, below_then hb0 hb0.size hb1⟩
end Go.Proofs.YthlflglkdaainaaGreatDoor.Tr
