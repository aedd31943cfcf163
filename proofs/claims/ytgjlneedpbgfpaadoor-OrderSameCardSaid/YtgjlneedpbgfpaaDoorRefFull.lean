import Derived.Test.YtgjlneedpbgfpaaDoorFull
import Derived.Test.YtgjlneedpbgfpaaDoorSame
import Derived.Test.YtgjlneedpbgfpaaDoorRef7
/- The walk of the document's answer: gessoref05.full, Full. -/
namespace Go.Proofs.YtgjlneedpbgfpaaDoor
open Go.RowKit

theorem fullF_le (n : Nat) : ∀ c, (fullF n c).length ≤ 3 * 2 ^ n := by
  induction n with
  | zero =>
    intro c; rw [fullF]
    split
    · have := hsp_len c; omega
    · simp
  | succ n ih =>
    intro c; rw [fullF]
    have h2 : 2 ^ (n + 1) = 2 * 2 ^ n := by rw [Nat.pow_succ]; omega
    have hp : 0 < 2 ^ n := Nat.two_pow_pos n
    split
    · have := hsp_len c; omega
    · split
      · simp; omega
      · rename_i e _
        rw [List.length_append]
        have h3 := ih e.2.1
        split
        · simp; omega
        · have h4 := ih e.2.2.1; omega

theorem row_cells {w : World} {base : Nat} {v : Value} {L : List Nat} (h : w.ownsRow base 22 1 v L.length (u32s L)) (hL : 0 < L.length) :
    ∃ g cap, v = .slice (some ⟨g, 0, none⟩) L.length cap ∧ g < w.heap.size ∧ ∀ (j : Nat) u, (u32s L)[j]? = some u → w.cell? ((⟨g, 0, none⟩ : Addr).add j) = some u := by
  obtain ⟨g, cap, rfl, _, hg⟩ := row_form h hL
  refine ⟨g, cap, rfl, hg, fun j u hj => ?_⟩
  have hjl : j < L.length := by
    have := (List.getElem?_eq_some_iff.1 hj).1; rwa [u32s_length] at this
  have hc := row_cell h j hjl
  unfold u32s at hj
  rw [List.getElem?_map, List.getElem?_eq_getElem hjl] at hj
  have hd : L.getD j 0 = L[j] := by simp [List.getD, hjl]
  rw [hd] at hc
  simp only [Option.map_some, Option.some.injEq] at hj
  rw [← hj, ← hc]
  simp only [Addr.add]
  split
  · rename_i h0; subst h0; rfl
  · simp

/-- What such a call comes to. -/
def RowOf (L : List Nat) (w : World) (e : Ending) (w' : World) : Prop := ∃ v, e = .returned v ∧ w'.ownsRow w.heap.size 22 1 v L.length (u32s L) ∧ Gr w w'

set_option maxRecDepth 20000 in
set_option maxHeartbeats 2000000 in
/-- A syllable. -/
theorem rfull_h (c : Nat) (t : Int) (w : World) (hh : isH c = true) : Calls Tryd.prog 118 #[.int .u32 c, .int .i64 t] w (RowOf (hsp c) w) := by
  have hs := split4_yes c w hh
  have hlt : (hL c : Int) < 4294967296 := by have := (hsp_lt c hh (hL c) (by unfold hsp; split <;> simp)).2; omega
  unfold hsp
  by_cases hz : hT c = 0
  · rw [if_pos hz]
    rw [hz] at hs
    generalize hL c = a at hs
    generalize hV c = b at hs
    clear hz hh hlt
    go_enter Tryd.func118, Tryd.ntmps118
    go_wp2_with (go_at_call 89; refine hs.mono ?_; rintro e w1 ⟨rfl, rfl⟩)
    go_ret
    exact ⟨_, rfl, World.ownsRow_lit _ #[.int .u32 a, .int .u32 b] 2 (Nat.le_refl _) (by unfold maxLen; omega) rfl, Gr.alloc _ _⟩
  · rw [if_neg hz]
    have hz' : ((hT c : Int) == 0) = false := by rw [beq_eq_false_iff_ne]; omega
    generalize hL c = a at hs
    generalize hV c = b at hs
    generalize hT c = d at hs hz' hz
    clear hh hlt
    go_enter Tryd.func118, Tryd.ntmps118
    go_wp2_with (go_at_call 89; refine hs.mono ?_; rintro e w1 ⟨rfl, rfl⟩)
    go_ret
    exact ⟨_, rfl, World.ownsRow_lit _ #[.int .u32 a, .int .u32 b, .int .u32 d] 3 (Nat.le_refl _) (by unfold maxLen; omega) rfl, Gr.alloc _ _⟩

set_option maxRecDepth 20000 in
set_option maxHeartbeats 2000000 in
/-- What is not decomposed. -/
theorem rfull_leaf (c : Nat) (hc : c < 4294967296) (t : Int) (w : World) (hh : isH c = false) (hd : dfind c = none) : Calls Tryd.prog 118 #[.int .u32 c, .int .i64 t] w (RowOf [c] w) := by
  have hs := split4_no c w hh
  have hr := rdecomp_any c hc w
  have hv : dval c = .tuple #[.int .u32 0, .int .u32 0, .bool false] := by unfold dval; rw [hd]
  rw [hv] at hr
  clear hh hd hv
  go_enter Tryd.func118, Tryd.ntmps118
  go_wp2_with (first | (go_at_call 89; refine hs.mono ?_; rintro e w1 ⟨rfl, rfl⟩) | (go_at_call 124; refine hr.mono ?_; rintro e w1 ⟨rfl, g1⟩))
  all_goals go_ret
  all_goals exact ⟨_, rfl, World.ownsRow.mono' (World.ownsRow_lit _ #[.int .u32 c] 1 (Nat.le_refl _) (by unfold maxLen; omega) rfl) g1.size, g1.trans (Gr.alloc _ _)⟩

set_option maxRecDepth 20000 in
set_option maxHeartbeats 2000000 in
/-- What is, at the last time. -/
theorem rfull_end (c : Nat) (hc : c < 4294967296) (w : World) (hh : isH c = false) (e) (hd : dfind c = some e) : Calls Tryd.prog 118 #[.int .u32 c, .int .i64 0] w (RowOf [c] w) := by
  have hs := split4_no c w hh
  have hr := rdecomp_any c hc w
  have hv : dval c = .tuple #[.int .u32 e.2.1, .int .u32 e.2.2.1, .bool true] := by unfold dval; rw [hd]
  rw [hv] at hr
  generalize e.2.1 = a at hr
  generalize e.2.2.1 = b at hr
  clear hh hd hv
  go_enter Tryd.func118, Tryd.ntmps118
  go_wp2_with (first | (go_at_call 89; refine hs.mono ?_; rintro e w1 ⟨rfl, rfl⟩) | (go_at_call 124; refine hr.mono ?_; rintro e w1 ⟨rfl, g1⟩))
  all_goals go_ret
  all_goals exact ⟨_, rfl, World.ownsRow.mono' (World.ownsRow_lit _ #[.int .u32 c] 1 (Nat.le_refl _) (by unfold maxLen; omega) rfl) g1.size, g1.trans (Gr.alloc _ _)⟩

set_option maxRecDepth 20000 in
set_option maxHeartbeats 2000000 in
/-- What is, to one. -/
theorem rfull_one (c a : Nat) (t u : Int) (w : World) (hs : ∀ w, Calls Tryd.prog 89 #[.int .u32 c] w fun e w' => e = .returned (.tuple #[.int .u32 0, .int .u32 0, .int .u32 0, .bool false]) ∧ w = w')
    (hr : Calls Tryd.prog 124 #[.int .u32 c] w fun e w' => e = .returned (.tuple #[.int .u32 a, .int .u32 0, .bool true]) ∧ Gr w w')
    (ht : (t == 0) = false) (hw : wrap64 (t - 1) = u) (L : List Nat) (ih : ∀ w, Calls Tryd.prog 118 #[.int .u32 a, .int .i64 u] w (RowOf L w)) :
    Calls Tryd.prog 118 #[.int .u32 c, .int .i64 t] w (RowOf L w) := by
  have ht2 : ¬ t = 0 := by rw [beq_eq_false_iff_ne] at ht; exact ht
  go_enter Tryd.func118, Tryd.ntmps118
  go_wp2_with (first | (go_at_call 89; refine (hs _).mono ?_; rintro e w1 ⟨rfl, rfl⟩) | (go_at_call 124; refine hr.mono ?_; rintro e w1 ⟨rfl, g1⟩) | (go_at_call 118; refine (ih _).mono ?_; rintro e w2 ⟨v, rfl, hv, g2⟩))
  all_goals go_ret
  all_goals exact ⟨_, rfl, hv.mono' g1.size, g1.trans g2⟩

theorem gr_add2 {wo w1 w2 : World} {e : TypeId} {size n : Nat} {v : Value} {xs : List Value} (h : Gr wo w1) (hn : w1.ownsRow wo.heap.size e size v n xs) (hg : w1.grownBy w2 v.ownBlock) : Gr wo w2 := Below.grown h hg h.size (row_block hn)

set_option maxRecDepth 20000 in
set_option maxHeartbeats 2000000 in
/-- What is, to two. -/
theorem rfull_two (c a b : Nat) (t u : Int) (w : World) (hs : ∀ w, Calls Tryd.prog 89 #[.int .u32 c] w fun e w' => e = .returned (.tuple #[.int .u32 0, .int .u32 0, .int .u32 0, .bool false]) ∧ w = w')
    (hr : Calls Tryd.prog 124 #[.int .u32 c] w fun e w' => e = .returned (.tuple #[.int .u32 a, .int .u32 b, .bool true]) ∧ Gr w w') (hb : (b : Int) ≠ 0)
    (ht : (t == 0) = false) (hw : wrap64 (t - 1) = u) (L M : List Nat) (hM : 0 < M.length) (hLM : L.length + M.length ≤ 4096) (ih : ∀ w, Calls Tryd.prog 118 #[.int .u32 a, .int .i64 u] w (RowOf L w))
    (ih2 : ∀ w, Calls Tryd.prog 118 #[.int .u32 b, .int .i64 u] w (RowOf M w)) :
    Calls Tryd.prog 118 #[.int .u32 c, .int .i64 t] w (RowOf (L ++ M) w) := by
  have ht2 : ¬ t = 0 := by rw [beq_eq_false_iff_ne] at ht; exact ht
  have hb1 : ((b : Int) != 0) = true := by rw [bne_iff_ne]; exact hb
  have hb2 : ¬ b = 0 := by omega
  obtain ⟨i0, hi, hz0, hz1, hz2⟩ := info_parts info_u32
  go_enter Tryd.func118, Tryd.ntmps118
  go_wp2_with (first
    | (go_at_call 89; refine (hs _).mono ?_; rintro e w1 ⟨rfl, rfl⟩) | (go_at_call 124; refine hr.mono ?_; rintro e w1 ⟨rfl, g1⟩) | (go_at_call 118; refine (ih _).mono ?_; clear ih; rintro e w2 ⟨v, rfl, hv, g2⟩)
    | (go_at_call 118; refine (ih2 _).mono ?_; clear ih2; rintro e w3 ⟨v2, rfl, hv2, g3⟩; obtain ⟨gg, cap, rfl, hg1, hg2⟩ := row_cells hv2 hM)
    | (at_builtin; refine wpList_append_own _ rfl _ _ 27 rfl w.heap.size 22 i0 (.int .u32 0) 1 4 Tryd.underlying27 hi hz0 hz1 hz2 rfl (by decide) _ _ _ rfl (ownsRow_gr (hv.mono' g1.size) g3) ⟨gg, 0, none⟩ M.length cap (u32s M) rfl (by rw [u32s_length]; omega) hg2 (fun x hx => by unfold u32s at hx; rw [List.mem_map] at hx; obtain ⟨y, _, rfl⟩ := hx; rfl) (by unfold maxLen; omega) (by omega) ((g1.trans g2).trans g3).size ?_; intro v' w4 hown' hgrow _))
  go_ret
  exact ⟨_, rfl, own_conv hown' rfl rfl rfl, gr_add2 ((g1.trans g2).trans g3) (ownsRow_gr (hv.mono' g1.size) g3) hgrow⟩

theorem fullF_pos (n : Nat) : ∀ c, 0 < (fullF n c).length := by
  induction n with
  | zero =>
    intro c; rw [fullF]
    split
    · have := hsp_len c; omega
    · simp
  | succ n ih =>
    intro c; rw [fullF]
    split
    · have := hsp_len c; omega
    · split
      · simp
      · rename_i e _
        have := ih e.2.1
        rw [List.length_append]; omega

theorem wrap_pred {n : Nat} (h : n < 100) : wrap64 (((n + 1 : Nat) : Int) - 1) = (n : Int) := by
  rw [show ((n + 1 : Nat) : Int) - 1 = n by omega]; unfold wrap64; omega

theorem rfull_any (n : Nat) (hn : n ≤ 6) : ∀ (c : Nat), c < 4294967296 → ∀ w, Calls Tryd.prog 118 #[.int .u32 c, .int .i64 (n : Int)] w (RowOf (fullF n c) w) := by
  induction n with
  | zero =>
    intro c hc w
    cases hh : isH c with
    | true => rw [fullF, if_pos hh]; exact rfull_h c _ w hh
    | false =>
      rw [fullF, if_neg (by rw [hh]; exact Bool.false_ne_true)]
      cases hd : dfind c with
      | none => exact rfull_leaf c hc _ w hh hd
      | some e => exact rfull_end c hc w hh e hd
  | succ n ih =>
    intro c hc w
    have ih := ih (by omega)
    cases hh : isH c with
    | true => rw [fullF, if_pos hh]; exact rfull_h c _ w hh
    | false =>
      cases hd : dfind c with
      | none => rw [fullF_none hd, if_neg (by rw [hh]; exact Bool.false_ne_true)]; exact rfull_leaf c hc _ w hh hd
      | some e =>
        have hb := D_bd2 e (dfind_some hd).1
        have hr := rdecomp_any c hc w
        have hv : dval c = .tuple #[.int .u32 e.2.1, .int .u32 e.2.2.1, .bool true] := by unfold dval; rw [hd]
        rw [hv] at hr
        have hs := fun w => split4_no c w hh
        rw [fullF, if_neg (by rw [hh]; exact Bool.false_ne_true), hd]
        dsimp only
        have h3 : 2 ^ n ≤ 2 ^ 6 := Nat.pow_le_pow_right (by decide) (by omega)
        have h4 := fullF_le n e.2.1
        have h5 := fullF_le n e.2.2.1
        by_cases hz : e.2.2.1 = 0
        · rw [if_pos hz, List.append_nil]
          rw [hz] at hr
          exact rfull_one c e.2.1 _ _ w hs hr (by rw [beq_eq_false_iff_ne]; omega) (wrap_pred (by omega)) _ (ih e.2.1 (by omega))
        · rw [if_neg hz]
          exact rfull_two c e.2.1 e.2.2.1 _ _ w hs hr (by omega) (by rw [beq_eq_false_iff_ne]; omega) (wrap_pred (by omega)) _ _ (fullF_pos _ _) (by omega) (ih e.2.1 (by omega)) (ih e.2.2.1 (by omega))

theorem rFull_any (c : Nat) (hc : c < 4294967296) (w : World) : Calls Tryd.prog 104 #[.int .u32 c] w (RowOf (full c) w) := by
  have h := fun w => rfull_any 6 (by decide) c hc w
  rw [fullF_full 6 c (by decide)] at h
  have H : ∀ w, Calls Tryd.prog 118 #[.int .u32 c, .int .i64 6] w (RowOf (full c) w) := h
  clear h
  go_enter Tryd.func104, Tryd.ntmps104
  go_wp2_with (go_at_call 118; refine (H _).mono ?_; rintro e w2 ⟨v, rfl, hv, g2⟩)
  go_ret
  exact ⟨_, rfl, hv, g2⟩
end Go.Proofs.YtgjlneedpbgfpaaDoor
