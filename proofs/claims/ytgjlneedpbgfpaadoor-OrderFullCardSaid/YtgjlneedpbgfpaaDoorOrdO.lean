import Derived.Test.YtgjlneedpbgfpaaDoorOrdF
/- The walk of order.Order. -/
namespace Go.Proofs.YtgjlneedpbgfpaaDoor
open Go.Shelf Go.RowKit Go.Lib Go.Sort

theorem cells_two_new (w : World) (a b : Value) (t : TypeId) : ∀ (j : Nat) (u : Value), [a, b][j]? = some u → (w.alloc (.cells #[a, b] t)).cell? ((⟨w.heap.size, 0, none⟩ : Addr).add j) = some u := by
  intro j u h
  match j, h with
  | 0, h => simp at h; subst h; simp [Addr.add, World.cell?_alloc_new]
  | 1, h => simp at h; subst h; simp [Addr.add, World.cell?_alloc_new]
  | j + 2, h => simp at h

set_option maxRecDepth 20000 in
set_option maxHeartbeats 4000000 in
theorem Order_any (v : Value) (L : List Nat) (w : World) (ht : Tz w) (hv : Sl w v L) (hb : ∀ x ∈ L, x < 4294967296) (hl : L.length ≤ 1000000) : Calls Tryd.prog 34 #[v] w (RowOf (ordL L) w) := by
  obtain ⟨ao, ca, rfl, _, hA⟩ := hv
  obtain ⟨n, hn⟩ : ∃ n, L.length = n := ⟨_, rfl⟩
  rw [hn] at hA ⊢
  have hnb : (n : Int) ≤ 1000000 := by omega
  have HN := hid hn
  have HA := hid hA
  have HB := hid hb
  obtain ⟨F, hF⟩ : ∃ F, ordL L = F := ⟨_, rfl⟩
  rw [hF]
  have HF : Hid ([] ++ ordG [] (L.drop 0) = F) := hF
  clear hn hA hb hl hF
  obtain ⟨i0, hi, hz0, hz1, hz2⟩ := info_parts info_u32
  obtain ⟨j0, hj, hy0, hy1, hy2⟩ := info_parts info_mark
  have S0 : St w.heap.size (w.heap.size + 1) w.heap.size [] [] (.slice none 0 0) (.slice none 0 0) ((w.alloc (.cells #[.slice none 0 0] 27)).alloc (.cells #[.slice none 0 0] 53)) := by
    refine ⟨?_, (Boxed.new w _ _).alloc _, World.ownsRow_nil _ _ _ _, World.ownsRow_nil _ _ _ _⟩
    have := Boxed.new (w.alloc (.cells #[.slice none 0 0] 27)) 53 (.slice none 0 0)
    rw [World.size_alloc] at this
    exact this
  have HS0 := hid S0
  clear S0
  obtain ⟨n₀, hn₀⟩ : ∃ n₀, w.heap.size = n₀ := ⟨_, rfl⟩
  have HN0 := hid hn₀
  go_enter Tryd.func34, Tryd.ntmps34
  go_wp2_with fail
  rw [HN0.out] at HS0
  clear hn₀
  go_loopw [12] (fun vi wr => ∃ (k : Nat) (R O : List Nat) (vr vo : Value), k ≤ n ∧ vi = .int .i64 k ∧ O.length + R.length = k ∧ Hid (St n₀ (n₀ + 1) n₀ R O vr vo wr) ∧ Hid (O ++ ordG R (L.drop k) = F) ∧ Gr w wr ∧ n₀ + 2 ≤ wr.heap.size) (fun vi _ => n - (intOf vi).toNat)
  case atStart => exact ⟨0, [], [], _, _, Nat.zero_le _, rfl, rfl, HS0, HF, (Gr.alloc _ _).trans (Gr.alloc _ _), by simp; have := HN0.out; omega⟩
  case round =>
    obtain ⟨k, R, O, vr, vo, hk, rfl, hRO, HS, HE, hgk, hzk⟩ := hrel
    clear HS0 HF
    have hne : n₀ + 1 ≠ n₀ := by omega
    by_cases hkn : k < n
    · obtain ⟨g, off, rfl, hcell⟩ := HA.out k hkn
      have hcell := hgk.cell hcell
      have hkL : k < L.length := by rw [HN.out]; exact hkn
      have hx : L.getD k 0 < 4294967296 := by
        rw [List.getD, List.getElem?_eq_getElem hkL]; exact HB.out _ (List.getElem_mem _)
      have HC := hid (class_any (L.getD k 0) hx wr (ht.gr hgk))
      have hE := HE.out
      rw [drop_cons hkL] at hE
      have HE2 := hid hE
      clear hx hE HE
      generalize L.getD k 0 = x at hcell HC HE2
      have hlt : (k : Int) < n := by omega
      by_cases h0 : cls x = 0
      · -- a starter: the row is flushed
        have HE3 : Hid (O ++ srt R ++ [x] ++ ordG [] (L.drop (k + 1)) = F) := by
          show _ = _
          rw [← HE2.out, ordG_s h0]; simp
        rw [h0] at HC
        clear HE2 h0
        have hlR : R.length ≤ 1000000 := by omega
        go_wp2_with (first
          | (go_at_call 46; refine HC.out.mono ?_; rintro e w1 ⟨rfl, g1⟩; have hS1 := HS.out.gr g1; have hzw1 := g1.size; have HS1 := hid hS1; clear hS1)
          | (go_at_call 66; refine (flush_any hne (by omega) (Nat.le_refl _) hlR (by omega) HS1.out).mono ?_; rintro e w2 ⟨rfl, ⟨vr2, vo2, S2⟩, hB2, hzw2⟩; have hco := S2.bo.cell; have hcoa := fun o => (S2.bo.alloc o).cell; have HOL : Hid ((O ++ srt R).length = k) := (by show _ = _; rw [List.length_append, srt_length]; exact hRO); generalize O ++ srt R = P at S2 HE3 HOL; have HS2 := hid S2; clear S2)
          | (at_builtin; go_loud ((refine wpList_append_own _ rfl _ _ 27 rfl n₀ 22 i0 (.int .u32 0) 1 4 Tryd.underlying27 hi hz0 hz1 hz2 rfl (by decide) vo2 _ _ rfl (HS2.out.alloc _).out ⟨w2.heap.size, 0, none⟩ 1 1 [.int .u32 (x : Int)] rfl rfl (cell_one_new _ _ _) (by simp [Value.oneCell']) (by rw [HOL.out]; unfold maxLen; omega) (by rw [HOL.out]; omega) (by simp; omega) ?_; intro v' w3 hown' hgrow _; obtain ⟨g', cap', rfl⟩ := ownsRow_succ hown'; obtain ⟨hb2, S3⟩ := (HS2.out.alloc _).outTurn (O' := P ++ [x]) hne hgrow hown' (by simp) (by unfold u32s; rw [List.map_append]; rfl); have hcb2 := hb2.cell; have hfb2 := hb2.frozen; have HS3 := hid S3; clear S3 hb2))))
        go_roundw
        case rel =>
          have hrow := HS2.out.out
          rw [← HN0.out] at hrow
          have hG := gr_added (Below.trans (hgk.trans g1) (by rw [HN0.out]; exact hB2)) hrow hgrow
          have hzz := hgrow.size
          exact ⟨k + 1, [], P ++ [x], _, _, hkn, by go_num, by simp; have := HOL.out; omega, HS3, HE3, hG.setCell (p := ⟨n₀, 0, none⟩) (by have := HN0.out; simp; omega) _, by simp [World.setCell] at hzz ⊢; omega⟩
        case measure => simp [intOf]; omega
      · have HE3 : Hid (O ++ ordG (R ++ [x]) (L.drop (k + 1)) = F) := by show _ = _; rw [← HE2.out, ordG_m h0]
        have h0z : ((cls x : Int) != 0) = true := by rw [bne_iff_ne]; omega
        have h0y : ¬ (cls x : Int) = 0 := by omega
        have hm : mk2 (R ++ [x]) = mk2 R ++ [Value.int .u32 (x : Int), Value.int .i64 (cls x : Int)] := by rw [mk2_append]; rfl
        have hlR : R.length ≤ 1000000 := by omega
        have HM := hid hm
        clear HE2 h0 hm
        generalize cls x = c at HC h0z h0y HM
        go_wp2_with (first
          | (go_at_call 46; refine HC.out.mono ?_; rintro e w1 ⟨rfl, g1⟩; have hS1 := HS.out.gr g1; have hcr := hS1.br.cell; have hcra := fun o => (hS1.br.alloc o).cell; have hzw1 := g1.size; have HS1 := hid hS1; clear hS1)
          | (at_builtin; (refine wpList_append_own _ rfl _ _ 53 rfl n₀ 56 j0 (.agg #[.int .u32 0, .int .i64 0]) 2 16 Tryd.underlying53 hj hy0 hy1 hy2 rfl (by decide) vr _ _ rfl (HS1.out.alloc _).row ⟨w1.heap.size, 0, none⟩ 1 1 [.int .u32 (x : Int), .int .i64 (c : Int)] rfl rfl (cells_two_new _ _ _ _) (by simp [Value.oneCell']) (by unfold maxLen; omega) (by omega) (by simp; omega) ?_; intro v' w2 hown' hgrow _; obtain ⟨g', cap', rfl⟩ := ownsRow_succ hown'; obtain ⟨hb2, S3⟩ := (HS1.out.alloc _).rowTurn (R' := R ++ [x]) hne hgrow hown' (by simp) HM.out.symm; have hcb2 := hb2.cell; have hfb2 := hb2.frozen; have HS3 := hid S3; clear S3 hb2)))
        go_roundw
        case rel =>
          have hrow := HS1.out.row
          rw [← HN0.out] at hrow
          have hG := gr_added (hgk.trans g1) hrow hgrow
          have hzz := hgrow.size
          exact ⟨k + 1, R ++ [x], O, _, _, hkn, by go_num, by simp; omega, HS3, HE3, hG.setCell (p := ⟨n₀ + 1, 0, none⟩) (by have := HN0.out; simp; omega) _, by simp [World.setCell] at hzz ⊢; omega⟩
        case measure => simp [intOf]; omega
    · have hlR : R.length ≤ 1000000 := by omega
      have hE : O ++ srt R = F := by
        have := HE.out
        rw [List.drop_of_length_le (by rw [HN.out]; omega), ordG_n] at this
        exact this
      have HE2 := hid hE
      clear hE HE
      go_wp2_with (go_at_call 66; refine (flush_any hne (by omega) (Nat.le_refl _) hlR (by omega) HS.out).mono ?_; rintro e w2 ⟨rfl, ⟨vr2, vo2, S2⟩, hB2, hzw2⟩; rw [HE2.out] at S2; have hco := S2.bo.cell; have hro := S2.out)
      go_ret
      refine ⟨vo2, rfl, by rw [HN0.out]; exact hro, ?_⟩
      exact Below.trans hgk (by rw [HN0.out]; exact hB2)
end Go.Proofs.YtgjlneedpbgfpaaDoor
