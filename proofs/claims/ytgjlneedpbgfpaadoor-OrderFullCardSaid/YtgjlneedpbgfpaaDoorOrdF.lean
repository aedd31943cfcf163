import Derived.Test.YtgjlneedpbgfpaaDoorOrdC
/- The walk of order.Order and of its closure. -/
namespace Go.Proofs.YtgjlneedpbgfpaaDoor
open Go.Shelf Go.RowKit Go.Lib Go.Sort

theorem info_mark : (Tryd.prog.info? 56).map (fun i => (i.zero, i.size, i.bytes)) = some (some (.agg #[.int .u32 0, .int .i64 0]), 2, 16) := by kernel_rfl

theorem rows_ne {W : World} {n₀ e1 e2 s1 s2 k1 k2 : Nat} {v1 v2 : Value} {x1 x2 : List Value} (h1 : W.ownsRow n₀ e1 s1 v1 k1 x1) (h2 : W.ownsRow n₀ e2 s2 v2 k2 x2) (hne : e1 ≠ e2) : v1.ownBlock = none ∨ v1.ownBlock ≠ v2.ownBlock := by
  rcases h1.2 with ⟨rfl, _⟩ | ⟨g, cap, cur, rfl, _, hg, _⟩
  · exact .inl rfl
  · right
    rcases h2.2 with ⟨rfl, _⟩ | ⟨g2, cap2, cur2, rfl, _, hg2, _⟩
    · simp [Value.ownBlock]
    · intro e
      obtain rfl : g = g2 := by simpa [Value.ownBlock] using e
      rw [hg] at hg2
      injection hg2 with hg2; injection hg2 with _ h; exact hne h

/-- The two captured variables of order.Order: the row of marks, and what has come out. -/
structure St (n₀ Br Bo : Nat) (R O : List Nat) (vr vo : Value) (W : World) : Prop where
  br : Boxed W Br 53 vr
  bo : Boxed W Bo 27 vo
  row : W.ownsRow n₀ 56 2 vr R.length (mk2 R)
  out : W.ownsRow n₀ 22 1 vo O.length (u32s O)

variable {n₀ Br Bo : Nat} {R O : List Nat} {vr vo : Value} {W W' : World}
theorem St.gr (h : St n₀ Br Bo R O vr vo W) (g : Gr W W') : St n₀ Br Bo R O vr vo W' :=
  ⟨(g.block Br h.br.lt).trans h.br, (g.block Bo h.bo.lt).trans h.bo, ownsRow_gr h.row g, ownsRow_gr h.out g⟩
theorem St.ne (h : St n₀ Br Bo R O vr vo W) : some Br ≠ vr.ownBlock ∧ some Br ≠ vo.ownBlock ∧ some Bo ≠ vr.ownBlock ∧ some Bo ≠ vo.ownBlock :=
  ⟨h.br.not_row (by decide) h.row, h.br.not_row (by decide) h.out, h.bo.not_row (by decide) h.row, h.bo.not_row (by decide) h.out⟩
/-- The row has turned. -/
theorem St.rowTurn {R' : List Nat} {n : Nat} {vr' : Value} {xs : List Value} (h : St n₀ Br Bo R O vr vo W) (hne : Br ≠ Bo) (hg : W.grownBy W' vr.ownBlock) (hr : W'.ownsRow n₀ 56 2 vr' n xs) (hn : n = R'.length) (hx : xs = mk2 R') :
    Boxed W' Br 53 vr ∧ St n₀ Br Bo R' O vr' vo (W'.setCell ⟨Br, 0, none⟩ vr') := by
  subst hn hx
  obtain ⟨h1, h2, h3, h4⟩ := h.ne
  have b1 := h.br.kept hg h1
  have b2 := h.bo.kept hg h3
  have o2 := h.out.kept hg (rows_ne h.out h.row (by decide))
  refine ⟨b1, b1.set _, b2.kept (grownBy_setCell' W' Br vr') (by simpa using (Ne.symm hne)), hr.kept (grownBy_setCell' W' Br vr') (.inr (b1.not_row (by decide) hr).symm), o2.kept (grownBy_setCell' W' Br vr') (.inr (b1.not_row (by decide) o2).symm)⟩
theorem St.outTurn {O' : List Nat} {n : Nat} {vo' : Value} {xs : List Value} (h : St n₀ Br Bo R O vr vo W) (hne : Br ≠ Bo) (hg : W.grownBy W' vo.ownBlock) (hr : W'.ownsRow n₀ 22 1 vo' n xs) (hn : n = O'.length) (hx : xs = u32s O') :
    Boxed W' Bo 27 vo ∧ St n₀ Br Bo R O' vr vo' (W'.setCell ⟨Bo, 0, none⟩ vo') := by
  subst hn hx
  obtain ⟨h1, h2, h3, h4⟩ := h.ne
  have b1 := h.bo.kept hg h4
  have b2 := h.br.kept hg h2
  have o2 := h.row.kept hg (rows_ne h.row h.out (by decide))
  refine ⟨b1, b2.kept (grownBy_setCell' W' Bo vo') (by simpa using hne), b1.set _, o2.kept (grownBy_setCell' W' Bo vo') (.inr (b1.not_row (by decide) o2).symm), hr.kept (grownBy_setCell' W' Bo vo') (.inr (b1.not_row (by decide) hr).symm)⟩
theorem St.alloc (h : St n₀ Br Bo R O vr vo W) (o : Obj) : St n₀ Br Bo R O vr vo (W.alloc o) := h.gr (Gr.alloc _ _)

theorem own_cut {w : World} {base g cap n size : Nat} {e : TypeId} {xs : List Value} (h : w.ownsRow base e size (.slice (some ⟨g, 0, none⟩) n cap) n xs) : w.ownsRow base e size (.slice (some ⟨g, 0, none⟩) 0 cap) 0 [] := by
  rcases h.2 with ⟨h', _⟩ | ⟨g', cap', cur, h', hb, hg, hnc, hcm, hcs, _⟩
  · simp at h'
  · simp only [Value.slice.injEq, Option.some.injEq, Addr.mk.injEq, and_true, true_and] at h'
    obtain ⟨rfl, rfl⟩ := h'
    exact ⟨by simp, .inr ⟨g, cap, cur, rfl, hb, hg, Nat.zero_le _, hcm, hcs, by simp⟩⟩

set_option maxHeartbeats 1000000 in
theorem insNil_any (w : World) (f : Value) : Calls Tryd.prog 110 #[.slice none 0 0, .int .i64 0, .int .i64 0, f] w fun e w' => e = .returned (.tuple #[]) ∧ w' = w := by
  go_enter Tryd.func110, Tryd.ntmps110
  go_wp2_with fail
  go_loop [8] (fun v => v = .int .i64 1) (fun _ => 0)
  case atStart => rfl
  case round =>
    subst hrel
    go_wp2
    go_end0
    exact ⟨rfl, rfl⟩
set_option maxHeartbeats 1000000 in
theorem stableNil_any (w : World) (f : Value) : Calls Tryd.prog 97 #[.slice none 0 0, .int .i64 0, f] w fun e w' => e = .returned (.tuple #[]) ∧ w' = w := by
  go_enter Tryd.func97, Tryd.ntmps97
  go_wp2_with fail
  go_loop [7, 8] (fun v u => v = .int .i64 0 ∧ u = .int .i64 20) (fun _ _ => 0)
  case atStart => exact ⟨rfl, rfl⟩
  case round =>
    obtain ⟨rfl, rfl⟩ := hrel
    go_wp2_with (go_at_call 110; refine (insNil_any _ _).mono ?_; rintro e w2 ⟨rfl, rfl⟩)
    go_loop [6] (fun v => v = .int .i64 20) (fun _ => 0)
    case atStart => rfl
    case round =>
      subst hrel
      go_wp2
      go_end0
      exact ⟨rfl, rfl⟩
set_option maxHeartbeats 1000000 in
theorem sortNil_any (w : World) (f : Value) : Calls Tryd.prog 67 #[.slice none 0 0, f] w fun e w' => e = .returned (.tuple #[]) ∧ w' = w := by
  go_enter Tryd.func67, Tryd.ntmps67
  go_wp2_with (go_at_call 97; refine (stableNil_any _ _).mono ?_; rintro e w2 ⟨rfl, rfl⟩)
  go_end0
  exact ⟨rfl, rfl⟩

/-- What the closure leaves. -/
def Flushed (n₀ Br Bo : Nat) (R O : List Nat) (w : World) (e : Ending) (w' : World) : Prop := e = .returned (.tuple #[]) ∧ (∃ vr vo, St n₀ Br Bo [] (O ++ srt R) vr vo w') ∧ Below n₀ w w' ∧ w.heap.size ≤ w'.heap.size

set_option maxRecDepth 20000 in
set_option maxHeartbeats 4000000 in
theorem flush_any (hne : Br ≠ Bo) (hn1 : n₀ ≤ Br) (hn2 : n₀ ≤ Bo) (hR : R.length ≤ 1000000) (hO : O.length + R.length ≤ 1000000) (h : St n₀ Br Bo R O vr vo W) :
    Calls Tryd.prog 66 #[.pointer (some ⟨Br, 0, none⟩), .pointer (some ⟨Bo, 0, none⟩)] W (Flushed n₀ Br Bo R O W) := by
  have hsz : n₀ ≤ W.heap.size := by have := h.br.lt; omega
  have hc1 := h.br.cell
  have hc2 := h.bo.cell
  have hf1 := h.br.frozen
  rcases h.row.2 with ⟨rfl, h0⟩ | ⟨g, cap, cur, rfl, hgb, _⟩
  · have hR0 : R = [] := List.eq_nil_of_length_eq_zero h0
    subst hR0
    have HS := hid h
    clear h h0 hc2
    go_enter Tryd.func66, Tryd.ntmps66
    go_wp2_with (go_at_call 67; refine (sortNil_any _ _).mono ?_; rintro e w2 ⟨rfl, rfl⟩)
    go_loop [8] (fun v => v = .int .i64 0) (fun _ => 0)
    case atStart => rfl
    case round =>
      subst hrel
      go_wp2
      go_end0
      have ht := HS.out.rowTurn (R' := []) hne (World.grownBy.refl _ _) HS.out.row rfl rfl
      refine ⟨rfl, ⟨.slice none 0 0, vo, ?_⟩, (Below.refl _ _).setCell hn1 _, by simp [World.setCell]⟩
      rw [show srt [] = [] from List.eq_nil_of_length_eq_zero (srt_length []), List.append_nil]
      exact ht.2
  · have hl := hR
    have HSR := hid (sortRow_any W n₀ g cap R hR h.row)
    obtain ⟨n, hn⟩ : ∃ n, R.length = n := ⟨_, rfl⟩
    have hsl : (srt R).length = n := by rw [srt_length]; exact hn
    rw [hn] at HSR hc1 hO hl
    have hnb : (n : Int) ≤ 1000000 := by omega
    have HS := hid h
    have HN := hid hn
    have HSL := hid hsl
    obtain ⟨i0, hi, hz0, hz1, hz2⟩ := info_parts info_u32
    clear h hR hn hsl
    go_enter Tryd.func66, Tryd.ntmps66
    go_wp2_with (go_at_call 67; refine HSR.out.mono ?_; rintro e w2 ⟨rfl, hr2, hg2⟩; obtain ⟨q1, q2, q3, q4⟩ := HS.out.ne; have S2 : St n₀ Br Bo (srt R) O (.slice (some ⟨g, 0, none⟩) n cap) vo w2 := ⟨by have := HS.out.br.kept hg2 q1; rw [HN.out] at this; exact this, HS.out.bo.kept hg2 q3, by rw [HSL.out]; exact hr2, HS.out.out.kept hg2 (rows_ne HS.out.out HS.out.row (by decide))⟩; have B2 : Below n₀ W w2 := (Below.refl n₀ W).grown hg2 hsz (fun k hk => by have : g = k := Option.some.inj hk; omega); have z2 := hg2.size; have hc1 := S2.br.cell; have HS2 := hid S2; clear S2 hr2 hg2 q1 q2 q3 q4)
    go_loopw [8] (fun vi wr => ∃ (k : Nat) (vo' : Value), k ≤ n ∧ vi = .int .i64 k ∧ Hid (St n₀ Br Bo (srt R) (O ++ (srt R).take k) (.slice (some ⟨g, 0, none⟩) n cap) vo' wr) ∧ Below n₀ W wr ∧ W.heap.size ≤ wr.heap.size) (fun vi _ => n - (intOf vi).toNat)
    case atStart => exact ⟨0, vo, Nat.zero_le _, rfl, by rw [List.take_zero, List.append_nil]; exact HS2, B2, z2⟩
    case round =>
      obtain ⟨k, vo', hk, rfl, HK, hBk, hzk⟩ := hrel
      clear HS HS2 B2 z2 HSR hc1 hc2 hf1
      by_cases hkn : k < n
      · have hkL : k < (srt R).length := by rw [HSL.out]; exact hkn
        have hm := mk2_get (srt R) k hkL
        have hr := HK.out.row
        rw [HSL.out] at hr
        have hce1 := hr.cellAt (k * 2) (by omega)
        have hce2 := hr.cellAt (k * 2 + 1) (by omega)
        rw [hm.1] at hce1
        rw [hm.2] at hce2
        have hcb := HK.out.bo.cell
        have hca := fun o => (HK.out.bo.alloc o).cell
        have hcaa := fun o o' => ((HK.out.bo.alloc o).alloc o').cell
        have HT : Hid (O ++ (srt R).take (k + 1) = (O ++ (srt R).take k) ++ [(srt R).getD k 0]) := by
          show _ = _
          rw [List.take_succ_eq_append_getElem hkL, List.getD, List.getElem?_eq_getElem hkL, List.append_assoc]; rfl
        have HOL : Hid ((O ++ (srt R).take k).length ≤ 1000000) := by show _ ≤ _; rw [List.length_append, List.length_take]; omega
        have hnw : n₀ ≤ wr.heap.size := by omega
        clear hm hr
        generalize cls ((srt R).getD k 0) = c at hce2
        generalize (srt R).getD k 0 = x at hce1 HT
        generalize O ++ (srt R).take k = P at HK HT HOL
        have hlt : (k : Int) < n := by omega
        have e0 : (k : Int).toNat = k := by omega
        go_wp2_with (at_builtin; (refine wpList_append_own _ rfl _ _ 27 rfl n₀ 22 i0 (.int .u32 0) 1 4 Tryd.underlying27 hi hz0 hz1 hz2 rfl (by decide) vo' _ _ rfl ((HK.out.alloc _).alloc _).out ⟨wr.heap.size + 1, 0, none⟩ 1 1 [.int .u32 (x : Int)] rfl rfl (by simpa using cell_one_new (wr.alloc _) _ _) (by simp [Value.oneCell']) (by have := HOL.out; unfold maxLen; omega) (by have := HOL.out; omega) (by simp; omega) ?_; intro v' w1 hown' hgrow _; obtain ⟨g', cap', rfl⟩ := ownsRow_succ hown'; obtain ⟨hb1, S3⟩ := ((HK.out.alloc _).alloc _).outTurn (O' := P ++ [x]) hne hgrow hown' (by simp) (by unfold u32s; rw [List.map_append]; rfl); have hcb1 := hb1.cell; have hfb1 := hb1.frozen; have HS3 := hid S3; clear S3 hb1))
        go_roundw
        case rel =>
          have hB1 : Below n₀ W w1 := Below.grown ((hBk.alloc hnw _).alloc (by simp; omega) _) hgrow (by simp; omega) (row_block HK.out.out)
          have hz1 := hgrow.size
          exact ⟨k + 1, _, hkn, by go_num, by rw [HT.out]; exact HS3, hB1.setCell hn2 _, by simp [World.setCell] at hz1 ⊢; omega⟩
        case measure => simp [intOf]; omega
      · have hkn' : k = n := by omega
        have hcr := HK.out.br.cell
        have hfr := HK.out.br.frozen
        have HT : Hid (O ++ (srt R).take k = O ++ srt R) := by show _ = _; rw [List.take_of_length_le (by rw [HSL.out]; omega)]
        rw [HT.out] at HK
        go_wp2
        go_end0
        have ht := HK.out.rowTurn (R' := []) (vr' := .slice (some ⟨g, 0, none⟩) 0 cap) (n := 0) (xs := []) hne (World.grownBy.refl _ _) (by have := HK.out.row; rw [HSL.out] at this; exact own_cut this) rfl rfl
        exact ⟨rfl, ⟨_, _, ht.2⟩, hBk.setCell hn1 _, by simp [World.setCell]; omega⟩
end Go.Proofs.YtgjlneedpbgfpaaDoor
