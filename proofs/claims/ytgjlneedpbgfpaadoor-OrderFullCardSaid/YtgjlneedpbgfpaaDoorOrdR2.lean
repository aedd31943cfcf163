import Derived.Test.YtgjlneedpbgfpaaDoorOrdR
import Derived.RegionTactic
/- The walk of gessoref06.Order. -/
namespace Go.Proofs.YtgjlneedpbgfpaaDoor
open Go.RowKit

noncomputable def preF (L : List Nat) (i : Nat) : List Nat := (L.take i).foldl putIn []
theorem putIn_length (T : List Nat) (x : Nat) : (putIn T x).length = T.length + 1 := by
  unfold putIn
  split
  · simp
  · have := posn_le (clsAt T) (cls x) T.length
    rw [List.length_append, List.length_cons, List.length_take, List.length_drop]; omega
theorem foldl_putIn_length : ∀ (l T : List Nat), (l.foldl putIn T).length = T.length + l.length
  | [], T => rfl
  | x :: l, T => by rw [List.foldl_cons, foldl_putIn_length l, putIn_length, List.length_cons]; omega
theorem preF_length {L : List Nat} {i : Nat} (h : i ≤ L.length) : (preF L i).length = i := by
  unfold preF; rw [foldl_putIn_length, List.length_take]; simp; omega
theorem preF_succ {L : List Nat} {i : Nat} (h : i < L.length) : preF L (i + 1) = putIn (preF L i) (L.getD i 0) := by
  unfold preF
  rw [List.take_succ_eq_append_getElem h, List.foldl_append, List.getD, List.getElem?_eq_getElem h]; rfl
theorem preF_all {L : List Nat} : preF L L.length = ordL L := by unfold preF; rw [List.take_length]; exact ordF_eq L

/-- What stands in memory while a number goes back: it stands at k. -/
def arr (T : List Nat) (x : Nat) (D : List Nat) (k : Nat) : List Nat := T.take k ++ x :: (T.drop k ++ D)
theorem arr_length (T : List Nat) (x : Nat) (D : List Nat) (k : Nat) : (arr T x D k).length = T.length + 1 + D.length := by
  unfold arr; rw [List.length_append, List.length_cons, List.length_append, List.length_take, List.length_drop]; omega
theorem arr_form {T : List Nat} {q : Nat} (hq : q < T.length) (x : Nat) (D : List Nat) : arr T x D (q + 1) = T.take q ++ T.getD q 0 :: x :: (T.drop (q + 1) ++ D) := by
  unfold arr
  rw [List.take_succ_eq_append_getElem hq, List.getD, List.getElem?_eq_getElem hq, List.append_assoc]; rfl
theorem arr_form' {T : List Nat} {q : Nat} (hq : q < T.length) (x : Nat) (D : List Nat) : arr T x D q = T.take q ++ x :: T.getD q 0 :: (T.drop (q + 1) ++ D) := by
  unfold arr
  rw [drop_cons hq]; rfl
theorem arr_at (T : List Nat) (x : Nat) (D : List Nat) {k : Nat} (hk : k ≤ T.length) : (arr T x D k)[k]? = some x := by
  unfold arr
  rw [List.getElem?_append_right (by rw [List.length_take]; omega), List.length_take, Nat.min_eq_left hk, Nat.sub_self]; rfl
theorem arr_ahead {T : List Nat} {q : Nat} (hq : q < T.length) (x : Nat) (D : List Nat) : (arr T x D (q + 1))[q]? = some (T.getD q 0) := by
  rw [arr_form hq, List.getElem?_append_right (by rw [List.length_take]; omega), List.length_take, Nat.min_eq_left (by omega), Nat.sub_self]; rfl
theorem arr_swap {T : List Nat} {q : Nat} (hq : q < T.length) (x : Nat) (D : List Nat) : ((arr T x D (q + 1)).set q x).set (q + 1) (T.getD q 0) = arr T x D q := by
  rw [arr_form hq, arr_form' hq]
  have hl : (T.take q).length = q := by rw [List.length_take]; omega
  rw [List.set_append_right _ _ (by omega), hl, Nat.sub_self, List.set_cons_zero, List.set_append_right _ _ (by omega), hl, show q + 1 - q = 0 + 1 by omega, List.set_cons_succ, List.set_cons_zero]

theorem u32s_at {l : List Nat} {k x : Nat} (h : l[k]? = some x) : (u32s l)[k]? = some (.int .u32 (x : Int)) := by
  unfold u32s; rw [List.getElem?_map, h]; rfl
theorem u32s_set (l : List Nat) (k x : Nat) : (u32s l).set k (.int .u32 (x : Int)) = u32s (l.set k x) := by unfold u32s; rw [List.map_set]

theorem putIn_mem {T : List Nat} {x y : Nat} (h : y ∈ putIn T x) : y ∈ T ∨ y = x := by
  unfold putIn at h
  split at h
  · rcases List.mem_append.1 h with h | h
    · exact .inl h
    · exact .inr (List.mem_singleton.1 h)
  · rcases List.mem_append.1 h with h | h
    · exact .inl (List.mem_of_mem_take h)
    · rcases List.mem_cons.1 h with h | h
      · exact .inr h
      · exact .inl (List.mem_of_mem_drop h)
theorem foldl_putIn_mem {y : Nat} : ∀ (l T : List Nat), y ∈ l.foldl putIn T → y ∈ T ∨ y ∈ l
  | [], T, h => .inl h
  | x :: l, T, h => by
    rw [List.foldl_cons] at h
    rcases foldl_putIn_mem l _ h with h | h
    · rcases putIn_mem h with h | h
      · exact .inl h
      · exact .inr (by rw [h]; simp)
    · exact .inr (List.mem_cons_of_mem _ h)
theorem preF_mem {L : List Nat} {i y : Nat} (h : y ∈ preF L i) : y ∈ L := by
  rcases foldl_putIn_mem _ _ h with h | h
  · cases h
  · exact List.mem_of_mem_take h

set_option maxRecDepth 20000 in
set_option maxHeartbeats 4000000 in
theorem rOrder_any (v : Value) (L : List Nat) (w : World) (hv : Sl w v L) (hb : ∀ x ∈ L, x < 4294967296) (hl : L.length ≤ 1000000) : Calls Tryd.prog 35 #[v] w (RowOf (ordL L) w) := by
  have S0 := hid hv
  clear hv
  have HB := hid hb
  clear hb
  obtain ⟨n, hn⟩ : ∃ n, L.length = n := ⟨_, rfl⟩
  have hnb : (n : Int) ≤ 1000000 := by omega
  have HN := hid hn
  have mixed : Tryd.prog.follows .mixedOrders = true := by kernel_rfl
  have hlL : L.length ≤ 1000000 := hl
  have HL := hid hlL
  clear hn hl hlL
  go_enter Tryd.func35, Tryd.ntmps35
  go_wp2_with (at_builtin; refine wpList_copy_sl rfl _ _ rfl L rfl _ rfl S0.out HL.out ?_; intro vi wi hvi gi; obtain ⟨ao, ca, rfl⟩ := row_shape hvi; have HVI := hid hvi; clear hvi)
  have HO0 : Hid (wi.ownsRow w.heap.size 22 1 (.slice ao n ca) n (u32s (preF L 0 ++ L.drop 0))) := by
    show World.ownsRow _ _ _ _ _ _ _
    have := HVI.out
    rw [HN.out] at this
    exact this
  rw [HN.out]
  clear HVI
  go_loopw [4] (fun vk wr => ∃ i : Nat, i ≤ n ∧ vk = .int .i64 i ∧ Hid (wr.ownsRow w.heap.size 22 1 (.slice ao n ca) n (u32s (preF L i ++ L.drop i))) ∧ Gr w wr) (fun vk _ => n - (intOf vk).toNat)
  case atStart => exact ⟨0, Nat.zero_le _, rfl, HO0, gi⟩
  case round =>
    obtain ⟨i, hi, rfl, HO, hgk⟩ := hrel
    clear HO0 gi
    by_cases hin : i < n
    · obtain ⟨g, cap, e, hg1, hg2⟩ := row_form HO.out (by omega)
      injection e with e1 e2 e3
      subst e1 e3
      have hiL : i < L.length := by rw [HN.out]; exact hin
      obtain ⟨T, hT⟩ : ∃ T, preF L i = T := ⟨_, rfl⟩
      obtain ⟨x, hx⟩ : ∃ x, L.getD i 0 = x := ⟨_, rfl⟩
      obtain ⟨D, hD⟩ : ∃ D, L.drop (i + 1) = D := ⟨_, rfl⟩
      have hTl : T.length = i := by rw [← hT]; exact preF_length (by omega)
      have hTb : ∀ y ∈ T, y < 4294967296 := fun y hy => HB.out y (preF_mem (by rw [hT]; exact hy))
      have hxb : x < 4294967296 := by
        rw [← hx, List.getD, List.getElem?_eq_getElem hiL]; exact HB.out _ (List.getElem_mem _)
      have HP : Hid (preF L (i + 1) = putIn T x) := by show _ = _; rw [preF_succ hiL, hT, hx]
      have HDl : Hid (D.length = n - (i + 1)) := by show _ = _; rw [← hD, List.length_drop, HN.out]
      have hO : wr.ownsRow w.heap.size 22 1 (.slice (some ⟨g, 0, none⟩) n ca) n (u32s (arr T x D i)) := by
        have := HO.out
        rw [drop_cons hiL, hT, hx, hD] at this
        have e : arr T x D i = T ++ x :: D := by unfold arr; rw [List.take_of_length_le (by omega), List.drop_of_length_le (by omega)]; rfl
        rw [e]; exact this
      have hcell := hO.cellAt i (by omega)
      rw [u32s_at (arr_at T x D (by omega))] at hcell
      have HC := hid (rclass_any x hxb wr)
      have HTL := hid hTl
      have HTB := hid hTb
      have HDD := hid hD
      have HO2 := hid hO
      obtain ⟨c, hc⟩ : ∃ c, cls x = c := ⟨_, rfl⟩
      rw [hc] at HC
      have HCX := hid hc
      clear hx hT hTl hTb hxb hD hO HO hc
      have hlt : (i : Int) < n := by omega
      go_wp2_with (go_at_call 37; refine HC.out.mono ?_; rintro e w1 ⟨rfl, g1⟩)
      have HO3 := hid (ownsRow_gr HO2.out g1)
      have G1 := hgk.trans g1
      clear HO2 hcell HC g1 hgk
      obtain ⟨wo, rfl⟩ : ∃ wo : World, wo = w1 := ⟨_, rfl⟩
      go_loopw [6] (fun vk wr => ∃ k : Nat, k ≤ i ∧ vk = .int .i64 k ∧ Hid (wr.ownsRow w.heap.size 22 1 (.slice (some ⟨g, 0, none⟩) n ca) n (u32s (arr T x D k))) ∧ Hid (posn (clsAt T) c i = posn (clsAt T) c k) ∧ (c = 0 → k = i) ∧ Gr w wr) (fun vk _ => (intOf vk).toNat)
      case atStart => exact ⟨i, Nat.le_refl _, rfl, HO3, rfl, fun _ => rfl, G1⟩
      case round =>
        obtain ⟨k, hk, rfl, HOk, HPk, hck, hgj⟩ := hrel
        clear HO3 G1
        have leave : (c = 0 ∨ k = 0 ∨ clsAt T (k - 1) ≤ c) → Hid (putIn T x ++ D = arr T x D k) := fun h => by
          show _ = _
          unfold putIn arr
          rw [HCX.out, HTL.out]
          by_cases h0 : c = 0
          · rw [if_pos h0, hck h0, List.take_of_length_le (by rw [HTL.out]; exact Nat.le_refl _), List.drop_of_length_le (by rw [HTL.out]; exact Nat.le_refl _)]; simp
          · rw [if_neg h0, HPk.out]
            have : posn (clsAt T) c k = k := by
              rcases h with h | h | h
              · exact absurd h h0
              · rw [h]; rfl
              · cases k with
                | zero => rfl
                | succ k => rw [posn, if_pos (by simpa using h)]
            rw [this]; simp
        have LV : Hid _ := leave
        clear leave
        by_cases h0 : c = 0
        · have HL2 := LV.out (.inl h0)
          have h0z : ((c : Int) != 0) = false := by rw [bne_eq_false_iff_eq]; omega
          have h0y : (c : Int) = 0 := by omega
          clear hck h0
          by_cases hk0 : 0 < k
          · have hk0z : (0 : Int) < (k : Int) := by omega
            go_wp2
            go_roundw
            case rel => exact ⟨i + 1, hin, by go_num, by rw [HP.out, HDD.out, HL2.out]; exact HOk, hgj⟩
            case measure => simp [intOf]; omega
          · have hk0z : ¬ (0 : Int) < (k : Int) := by omega
            go_wp2
            go_roundw
            case rel => exact ⟨i + 1, hin, by go_num, by rw [HP.out, HDD.out, HL2.out]; exact HOk, hgj⟩
            case measure => simp [intOf]; omega
        · have h0z : ((c : Int) != 0) = true := by rw [bne_iff_ne]; omega
          have h0y : ¬ (c : Int) = 0 := by omega
          clear hck
          by_cases hk0 : 0 < k
          · obtain ⟨q, rfl⟩ : ∃ q, k = q + 1 := ⟨k - 1, by omega⟩
            have hqT : q < T.length := by rw [HTL.out]; omega
            have hcell := HOk.out.cellAt q (by omega)
            rw [u32s_at (arr_ahead hqT x D)] at hcell
            have hcell2 := HOk.out.cellAt (q + 1) (by omega)
            rw [u32s_at (arr_at T x D (by rw [HTL.out]; exact hk))] at hcell2
            have hf1 := HOk.out.frozenAt q
            have hf2 := HOk.out.frozenAt (q + 1)
            have hyb : T.getD q 0 < 4294967296 := by
              rw [List.getD, List.getElem?_eq_getElem hqT]; exact HTB.out _ (List.getElem_mem _)
            have HC := hid (rclass_any (T.getD q 0) hyb wr)
            have HSW := hid (arr_swap hqT x D)
            have HCA : Hid (clsAt T q = cls (T.getD q 0)) := rfl
            generalize T.getD q 0 = y at hcell HC HSW HCA
            obtain ⟨d, hd⟩ : ∃ d, cls y = d := ⟨_, rfl⟩
            rw [hd] at HC HCA
            clear hyb hd h0
            have hwq : IntKind.i64.wrap (q : Int) = (q : Int) := by rw [IntKind.wrap_i64]; omega
            have hqz : (0 : Int) < (q : Int) + 1 := by omega
            have hqn : (q : Int) + 1 < (n : Int) := by omega
            have hqn2 : (q : Int) < (n : Int) := by omega
            by_cases hdc : d ≤ c
            · have hdcz : (d : Int) ≤ (c : Int) := by omega
              have HL2 := LV.out (.inr (.inr (by simp only [Nat.add_sub_cancel]; rw [HCA.out]; exact hdc)))
              clear hcell2 hf1 hf2
              go_wp2_with (go_at_call 37; refine HC.out.mono ?_; rintro e w2 ⟨rfl, g2⟩)
              go_roundw
              case rel => exact ⟨i + 1, hin, by go_num, by rw [HP.out, HDD.out, HL2.out]; exact ownsRow_gr HOk.out g2, hgj.trans g2⟩
              case measure => simp [intOf]; omega
            · have hdcz : ¬ (d : Int) ≤ (c : Int) := by omega
              have HP2 : Hid (posn (clsAt T) c i = posn (clsAt T) c q) := by show _ = _; rw [HPk.out, posn, HCA.out, if_neg hdc]
              go_wp2_with (go_at_call 37; refine HC.out.mono ?_; rintro e w2 ⟨rfl, g2⟩; have hO2 := ownsRow_gr HOk.out g2; have hcell := g2.cell hcell; have hcell2 := g2.cell hcell2; have hf1 := hO2.frozenAt q; have hf2 := hO2.frozenAt (q + 1); have HO2 := hid hO2; clear hO2)
              have hST : ∀ W : World, W.ownsRow w.heap.size 22 1 (.slice (some ⟨g, 0, none⟩) n ca) n (u32s (arr T x D (q + 1))) → ((W.setCell ⟨g, q, none⟩ (.int .u32 (x : Int))).setCell ⟨g, q + 1, none⟩ (.int .u32 (y : Int))).ownsRow w.heap.size 22 1 (.slice (some ⟨g, 0, none⟩) n ca) n (u32s (arr T x D q)) := fun W h => by
                have h2 := ((h.stored q (.int .u32 (x : Int))).1.stored (q + 1) (.int .u32 (y : Int))).1
                rw [u32s_set, u32s_set, HSW.out] at h2
                exact h2
              have HST := hid hST
              clear hST
              go_region
              all_goals go_wp2
              all_goals
                go_roundw
                case rel => exact ⟨q, by omega, rfl, HST.out _ HO2.out, HP2, fun h => by omega, (((hgj.trans g2).setCell (p := ⟨g, q, none⟩) hg1 _).setCell (p := ⟨g, q + 1, none⟩) hg1 _).trans (Gr.drew _)⟩
                case measure => simp [intOf]
          · have hk0z : ¬ (0 : Int) < (k : Int) := by omega
            have HL2 := LV.out (.inr (.inl (by omega)))
            go_wp2
            go_roundw
            case rel => exact ⟨i + 1, hin, by go_num, by rw [HP.out, HDD.out, HL2.out]; exact HOk, hgj⟩
            case measure => simp [intOf]; omega
    · have hin' : i = n := by omega
      go_wp2
      go_ret
      refine ⟨_, rfl, ?_, hgk⟩
      have := HO.out
      rw [hin', ← HN.out, preF_all, List.drop_length, List.append_nil] at this
      rw [ordL_length]
      rw [← HN.out]
      exact this
end Go.Proofs.YtgjlneedpbgfpaaDoor
