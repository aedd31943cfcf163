import Derived.Test.YtgjlneedpbgfpaaDoorDeepW
/- Slices of numbers as lists; the walk of gessoref01.Same. -/
namespace Go.Proofs.YtgjlneedpbgfpaaDoor
open Go.RowKit

/-- A slice of numbers that reads as a list. -/
def Sl (w : World) (v : Value) (L : List Nat) : Prop := ∃ (ao : Option Addr) (cap : Nat), v = .slice ao L.length cap ∧ (ao = none → cap = 0) ∧ ∀ k, k < L.length → ∃ g o, ao = some ⟨g, o, none⟩ ∧ w.cell? ⟨g, o + k, none⟩ = some (.int .u32 ((L.getD k 0 : Nat) : Int))
theorem Sl.gr {w w' : World} {v : Value} {L : List Nat} (h : Sl w v L) (g : Gr w w') : Sl w' v L := by
  obtain ⟨ao, cap, h1, h0, h2⟩ := h
  exact ⟨ao, cap, h1, h0, fun k hk => by obtain ⟨b, o, h3, h4⟩ := h2 k hk; exact ⟨b, o, h3, g.cell h4⟩⟩
theorem Sl.of_row {w : World} {base : Nat} {v : Value} {L : List Nat} (h : w.ownsRow base 22 1 v L.length (u32s L)) : Sl w v L := by
  rcases h.2 with ⟨h1, h2⟩ | ⟨g, cap, cur, h1, _⟩
  · exact ⟨none, 0, by rw [h1, h2], fun _ => rfl, fun k hk => by omega⟩
  · subst h1
    exact ⟨_, cap, rfl, fun h => by (cases h), fun k hk => ⟨g, 0, rfl, by rw [Nat.zero_add]; exact row_cell h k hk⟩⟩

theorem list_ext_take {A B : List Nat} {n : Nat} (ha : A.length = n) (hb : B.length = n) (h : ∀ k, k < n → A.getD k 0 = B.getD k 0) : A = B := by
  refine List.ext_getElem (by omega) fun i h1 h2 => ?_
  have := h i (by omega)
  simpa [List.getD, h1, h2] using this

set_option maxHeartbeats 1000000 in
theorem same_any (va vb : Value) (A B : List Nat) (w : World) (ha : Sl w va A) (hb : Sl w vb B) (hbig : A.length < 4611686018427387904) : Calls Tryd.prog 27 #[va, vb] w fun e w' => e = .returned (.bool (decide (A = B))) ∧ Gr w w' := by
  obtain ⟨ao, ca, rfl, _, ha⟩ := ha
  obtain ⟨bo, cb, rfl, _, hb⟩ := hb
  by_cases hl : A.length = B.length
  · obtain ⟨n, hn⟩ : ∃ n, A.length = n := ⟨_, rfl⟩
    have hm : B.length = n := by omega
    have hnb : (n : Int) < 4611686018427387904 := by omega
    rw [hn] at ha ⊢
    rw [hm] at hb ⊢
    have HN := hid hn
    have HM := hid hm
    clear hl hn hm
    obtain ⟨r, hr⟩ : ∃ r, decide (A = B) = r := ⟨_, rfl⟩
    rw [hr]
    have HR := hid hr
    clear hr
    have HAC := hid ha
    have HBC := hid hb
    clear ha hb
    go_enter Tryd.func27, Tryd.ntmps27
    go_wp2
    go_loopw [5] (fun vi wr => ∃ k : Nat, k ≤ n ∧ vi = .int .i64 k ∧ Hid (∀ j, j < k → A.getD j 0 = B.getD j 0) ∧ Gr w wr) (fun vi _ => n - (intOf vi).toNat)
    case atStart => exact ⟨0, Nat.zero_le _, rfl, fun j hj => by omega, Gr.refl _⟩
    case round =>
      obtain ⟨k, hk, rfl, HE, hgk⟩ := hrel
      by_cases hkn : k < n
      · obtain ⟨ga, oa, rfl, hca⟩ := HAC.out k hkn
        obtain ⟨gb, ob, rfl, hcb⟩ := HBC.out k hkn
        have hca := hgk.cell hca
        have hcb := hgk.cell hcb
        by_cases hxy : A.getD k 0 = B.getD k 0
        · have HXY := hid hxy
          rw [← hxy] at hcb
          clear hxy
          obtain ⟨x, hx⟩ : ∃ x, A.getD k 0 = x := ⟨_, rfl⟩
          rw [hx] at hca hcb
          clear hx
          have hlt : (k : Int) < n := by omega
          go_wp2
          go_quiet (fail)
          go_wp2
          go_roundw
          case rel => exact ⟨k + 1, hkn, by simp, fun j hj => (Nat.lt_or_eq_of_le (Nat.le_of_lt_succ hj)).elim (HE.out j) (fun e => by rw [e]; exact HXY.out), hgk.trans (Gr.drewN _ _)⟩
          case measure => simp [intOf]; omega
        · have HXY := hid hxy
          obtain ⟨x, hx⟩ : ∃ x, A.getD k 0 = x := ⟨_, rfl⟩
          obtain ⟨y, hy⟩ : ∃ y, B.getD k 0 = y := ⟨_, rfl⟩
          rw [hx] at hca hxy
          rw [hy] at hcb hxy
          clear hx hy
          have h1 : ((x : Int) != y) = true := by rw [bne_iff_ne]; omega
          have h2 : ¬ (x : Int) = y := by omega
          have hlt : (k : Int) < n := by omega
          go_wp2
          go_quiet (fail)
          go_wp2
          go_ret
          refine ⟨?_, hgk.trans (Gr.drewN _ _)⟩
          rw [← HR.out, decide_eq_false (fun e => HXY.out (by rw [e]))]
          rfl
      · go_wp2
        go_ret
        refine ⟨?_, hgk⟩
        rw [← HR.out, decide_eq_true (list_ext_take HN.out HM.out fun j hj => HE.out j (by omega))]
        rfl
  · have h1 : ((A.length : Int) != B.length) = true := by rw [bne_iff_ne]; omega
    have h2 : ¬ (A.length : Int) = B.length := by omega
    rw [decide_eq_false (fun e => hl (by rw [e]))]
    clear ha hb
    go_enter Tryd.func27, Tryd.ntmps27
    go_wp2
    go_ret
    exact ⟨rfl, Gr.refl _⟩
end Go.Proofs.YtgjlneedpbgfpaaDoor
