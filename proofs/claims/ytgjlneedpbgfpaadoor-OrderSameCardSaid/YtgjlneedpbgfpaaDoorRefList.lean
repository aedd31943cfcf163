import Derived.Test.YtgjlneedpbgfpaaDoorList
/- gessoref05.List. -/
namespace Go.Proofs.YtgjlneedpbgfpaaDoor
open Go.RowKit

set_option maxRecDepth 20000 in
set_option maxHeartbeats 2000000 in
theorem rList_any (v : Value) (L : List Nat) (w : World) (hv : Sl w v L) (hb : ∀ x ∈ L, x < 4294967296) (hl : L.length ≤ 1000000) : Calls Tryd.prog 81 #[v] w (RowOf (fullL L) w) := by
  obtain ⟨ao, ca, rfl, _, hA⟩ := hv
  obtain ⟨n, hn⟩ : ∃ n, L.length = n := ⟨_, rfl⟩
  rw [hn] at hA ⊢
  have hnb : (n : Int) ≤ 1000000 := by omega
  have HN := hid hn
  have HA := hid hA
  have HB := hid hb
  clear hn hA hb hl
  obtain ⟨i0, hi, hz0, hz1, hz2⟩ := info_parts info_u32
  go_enter Tryd.func81, Tryd.ntmps81
  go_wp2_with fail
  go_loopw [3, 4] (fun vo vi wr => ∃ k : Nat, k ≤ n ∧ vi = .int .i64 k ∧ wr.ownsRow w.heap.size 22 1 vo (fullL (L.take k)).length (u32s (fullL (L.take k))) ∧ Gr w wr) (fun _ vi _ => n - (intOf vi).toNat)
  case atStart => exact ⟨0, Nat.zero_le _, rfl, by simp [fullL]; exact World.ownsRow_nil _ _ _ _, Gr.refl _⟩
  case round =>
    obtain ⟨k, hk, rfl, hown, hgk⟩ := hrel
    by_cases hkn : k < n
    · obtain ⟨g, off, rfl, hcell⟩ := HA.out k hkn
      have hcell := hgk.cell hcell
      have hkL : k < L.length := by rw [HN.out]; exact hkn
      have hx : L.getD k 0 < 4294967296 := by
        rw [List.getD, List.getElem?_eq_getElem hkL]; exact HB.out _ (List.getElem_mem _)
      have htk : L.take (k + 1) = L.take k ++ [L.getD k 0] := by
        rw [List.take_succ_eq_append_getElem hkL, List.getD, List.getElem?_eq_getElem hkL]; rfl
      have HT : Hid (fullL (L.take (k + 1)) = fullL (L.take k) ++ full (L.getD k 0)) := by show _ = _; rw [htk, fullL_snoc]
      have HLEN : Hid ((fullL (L.take k)).length ≤ 4 * k) := by show _ ≤ _; have := (fullL_len (L.take k)).2; rw [List.length_take] at this; omega
      have HF := hid (rFull_any (L.getD k 0) hx wr)
      have hfl := full_len (L.getD k 0)
      clear htk hx
      generalize full (L.getD k 0) = M at HT HF hfl
      generalize L.getD k 0 = x at hcell HF
      generalize fullL (L.take k) = P at hown HT HLEN
      have hlt : (k : Int) < n := by omega
      go_wp2_with (first
        | (go_at_call 104; refine HF.out.mono ?_; clear HF; rintro e w1 ⟨v1, rfl, hv1, g1⟩; obtain ⟨gg, cap, rfl, hg1, hg2⟩ := row_cells hv1 (by omega))
        | (at_builtin; refine wpList_append_own _ rfl _ _ 27 rfl w.heap.size 22 i0 (.int .u32 0) 1 4 Tryd.underlying27 hi hz0 hz1 hz2 rfl (by decide) _ _ _ rfl (ownsRow_gr hown g1) ⟨gg, 0, none⟩ M.length cap (u32s M) rfl (by rw [u32s_length]; omega) hg2 (fun x hx => by unfold u32s at hx; rw [List.mem_map] at hx; obtain ⟨y, _, rfl⟩ := hx; rfl) (by have := HLEN.out; unfold maxLen; omega) (by have := HLEN.out; omega) (hgk.trans g1).size ?_; intro v' w4 hown' hgrow _))
      have hG := gr_add2 (hgk.trans g1) (ownsRow_gr hown g1) hgrow
      have hO := own_conv (K := M) hown' HT.out rfl rfl
      clear hgrow hown' hown hcell hv1 hg2
      go_roundw
      case rel => exact ⟨k + 1, hkn, by simp, hO, hG⟩
      case measure => simp [intOf]; omega
    · have hkn' : k = n := by omega
      have HO : Hid (L.take k = L) := by show _ = _; rw [hkn', ← HN.out, List.take_length]
      rw [HO.out] at hown
      go_wp2
      go_ret
      exact ⟨_, rfl, hown, hgk⟩
end Go.Proofs.YtgjlneedpbgfpaaDoor
