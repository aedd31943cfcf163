import Derived.Test.YtgjlneedpbgfpaaDoorOrdW
/- The walks of gessoref06.Is, gessoref06.Order. -/
namespace Go.Proofs.YtgjlneedpbgfpaaDoor
open Go.RowKit

set_option maxRecDepth 20000 in
set_option maxHeartbeats 2000000 in
theorem rIs_any (v : Value) (L : List Nat) (w : World) (hv : Sl w v L) (hb : ∀ x ∈ L, x < 4294967296) (hl : L.length ≤ 1000000) : Calls Tryd.prog 39 #[v] w fun e w' => e = .returned (.bool (inOrd cls 0 L)) ∧ Gr w w' := by
  obtain ⟨ao, ca, rfl, _, hA⟩ := hv
  obtain ⟨n, hn⟩ : ∃ n, L.length = n := ⟨_, rfl⟩
  rw [hn] at hA ⊢
  have hnb : (n : Int) ≤ 1000000 := by omega
  have HN := hid hn
  have HA := hid hA
  have HB := hid hb
  obtain ⟨r, hr⟩ : ∃ r, inOrd cls 0 L = r := ⟨_, rfl⟩
  rw [hr]
  have H0 : Hid (n = 0 → r = true) := by
    show _ → _
    intro h
    have : L = [] := List.eq_nil_of_length_eq_zero (by omega)
    rw [← hr, this]; rfl
  have H1 : Hid (0 < n → inOrd cls (cls (L.getD 0 0)) (L.drop 1) = r) := by
    show _ → _
    intro h
    rw [← hr]
    have := drop_cons (L := L) (k := 0) (by omega)
    rw [List.drop_zero] at this
    conv => rhs; rw [this, inOrd_true (fun h => by omega)]
  clear hn hA hb hl hr
  go_enter Tryd.func39, Tryd.ntmps39
  go_wp2_with fail
  go_loopw [3] (fun vi wr => ∃ k : Nat, 1 ≤ k ∧ (k ≤ n ∨ n = 0) ∧ k ≤ n + 1 ∧ vi = .int .i64 k ∧ Hid (0 < n → inOrd cls (cls (L.getD (k - 1) 0)) (L.drop k) = r) ∧ Gr w wr) (fun vi _ => n - (intOf vi).toNat)
  case atStart => exact ⟨1, Nat.le_refl _, by omega, by omega, rfl, H1, Gr.refl _⟩
  case round =>
    obtain ⟨k, hk1, hk, hk2, rfl, HE, hgk⟩ := hrel
    clear H1
    by_cases hkn : k < n
    · obtain ⟨g, off, rfl, hcell⟩ := HA.out k hkn
      have hcellp := (HA.out (k - 1) (by omega))
      obtain ⟨g', off', e, hcellp⟩ := hcellp
      injection e with e; injection e with e1 e2
      subst e1 e2
      have hcell := hgk.cell hcell
      have hkL : k < L.length := by rw [HN.out]; exact hkn
      have hx : L.getD k 0 < 4294967296 := by
        rw [List.getD, List.getElem?_eq_getElem hkL]; exact HB.out _ (List.getElem_mem _)
      have hy : L.getD (k - 1) 0 < 4294967296 := by
        rw [List.getD, List.getElem?_eq_getElem (show k - 1 < L.length by omega)]; exact HB.out _ (List.getElem_mem _)
      have HC := hid (rclass_any (L.getD k 0) hx wr)
      have HCP := hid (fun W => rclass_any (L.getD (k - 1) 0) hy W)
      have HKP := hid hcellp
      have hE := HE.out (by omega)
      rw [drop_cons hkL] at hE
      obtain ⟨q, rfl⟩ : ∃ q, k = q + 1 := ⟨k - 1, by omega⟩
      have hE2 : inOrd cls (cls (L.getD q 0)) (L.getD (q + 1) 0 :: L.drop (q + 1 + 1)) = r := hE
      have HN2 : Hid (0 < n → inOrd cls (cls (L.getD (q + 1) 0)) (L.drop (q + 1 + 1)) = inOrd cls (cls (L.getD (q + 1 + 1 - 1) 0)) (L.drop (q + 1 + 1))) := fun _ => rfl
      have HKP : Hid (w.cell? ⟨g, off + q, none⟩ = some (.int .u32 ((L.getD q 0 : Nat) : Int))) := HKP.out
      have HCP : Hid (∀ W, Calls Tryd.prog 37 #[.int .u32 ((L.getD q 0 : Nat) : Int)] W fun e w' => e = .returned (.int .i64 (cls (L.getD q 0) : Nat)) ∧ Gr W w') := HCP.out
      clear hx hy hE hcellp HE
      have HX : Hid (L.getD (q + 1) 0 = L.getD (q + 1 + 1 - 1) 0) := rfl
      generalize L.getD (q + 1) 0 = x at hcell HC hE2 HX
      generalize L.getD q 0 = y at HKP HCP hE2
      have HE2 := hid hE2
      clear hE2
      have hlt : (q : Int) + 1 < n := by omega
      by_cases h0 : cls x = 0
      · have HE3 : Hid (inOrd cls (cls x) (L.drop (q + 1 + 1)) = r) := by show _ = _; rw [← HE2.out, inOrd_true (fun h => h.1 h0)]
        rw [h0] at HC
        clear h0
        go_wp2_with (go_at_call 37; refine HC.out.mono ?_; rintro e w1 ⟨rfl, g1⟩)
        go_roundw
        case rel => exact ⟨q + 1 + 1, by omega, by omega, by omega, by go_num, fun _ => by rw [← HX.out]; exact HE3.out, hgk.trans g1⟩
        case measure => simp [intOf]; omega
      · have h0z : ((cls x : Int) != 0) = true := by rw [bne_iff_ne]; omega
        have h0y : ¬ (cls x : Int) = 0 := by omega
        have hwq : IntKind.i64.wrap (q : Int) = (q : Int) := by rw [IntKind.wrap_i64]; omega
        by_cases hlp : cls x < cls y
        · have HF : Hid (r = false) := by show _ = _; rw [← HE2.out, inOrd_false ⟨h0, hlp⟩]
          have hlpz : ((cls x : Nat) : Int) < ((cls y : Nat) : Int) := by omega
          obtain ⟨c, hcx⟩ : ∃ c, cls x = c := ⟨_, rfl⟩
          obtain ⟨d, hdx⟩ : ∃ d, cls y = d := ⟨_, rfl⟩
          rw [hcx] at HC h0z h0y hlpz
          rw [hdx] at HCP hlpz
          clear h0 hcx hlp hdx
          go_wp2_with (first
            | (go_at_call 37; ((with_reducible refine HC.out.mono ?_); rintro e w1 ⟨rfl, g1⟩); have hcp := (hgk.trans g1).cell HKP.out; clear HC)
            | (go_at_call 37; refine (HCP.out _).mono ?_; rintro e w2 ⟨rfl, g2⟩))
          go_ret
          exact ⟨by rw [HF.out]; rfl, (hgk.trans g1).trans g2⟩
        · have HE3 : Hid (inOrd cls (cls x) (L.drop (q + 1 + 1)) = r) := by show _ = _; rw [← HE2.out, inOrd_true (fun h => hlp h.2)]
          have hlpz : ¬ ((cls x : Nat) : Int) < ((cls y : Nat) : Int) := by omega
          have HX3 : Hid (inOrd cls (cls (L.getD (q + 1 + 1 - 1) 0)) (L.drop (q + 1 + 1)) = r) := by show _ = _; rw [← HX.out]; exact HE3.out
          obtain ⟨c, hcx⟩ : ∃ c, cls x = c := ⟨_, rfl⟩
          obtain ⟨d, hdx⟩ : ∃ d, cls y = d := ⟨_, rfl⟩
          rw [hcx] at HC h0z h0y hlpz
          rw [hdx] at HCP hlpz
          clear h0 hcx hlp hdx
          go_wp2_with (first
            | (go_at_call 37; ((with_reducible refine HC.out.mono ?_); rintro e w1 ⟨rfl, g1⟩); have hcp := (hgk.trans g1).cell HKP.out; clear HC)
            | (go_at_call 37; refine (HCP.out _).mono ?_; rintro e w2 ⟨rfl, g2⟩))
          go_roundw
          case rel => exact ⟨q + 1 + 1, by omega, by omega, by omega, by go_num, fun _ => HX3.out, (hgk.trans g1).trans g2⟩
          case measure => simp [intOf]; omega
    · have HF : Hid (r = true) := by
        show _ = _
        rcases Nat.eq_zero_or_pos n with h | h
        · exact H0.out h
        · rw [← HE.out h, List.drop_of_length_le (by rw [HN.out]; omega)]; rfl
      have hlt : ¬ (k : Int) < n := by omega
      go_wp2
      go_ret
      exact ⟨by rw [HF.out]; rfl, hgk⟩
end Go.Proofs.YtgjlneedpbgfpaaDoor
