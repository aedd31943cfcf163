import Derived.Test.YtknlnllmoilglaaDoorAwake3
import Derived.Test.YtknlnllmoilglaaDoorTree
/- The walk of UcdDeep. -/
namespace Go.Proofs.YtknlnllmoilglaaDoor
open Go.RowKit

/-- A character, decomposed once. -/
noncomputable def dstep (c : Nat) : List Nat := match dfind c with | some e => if e.2.2.1 = 0 then [e.2.1] else [e.2.1, e.2.2.1] | none => [c]
/-- All, decomposed once. -/
noncomputable def stepL (l : List Nat) : List Nat := l.flatMap dstep

/-- A list that is decomposed i times more at the most: only the first one still is. -/
def Dep : Nat → List Nat → Prop
  | i, l => ∃ h t, l = h :: t ∧ l.length ≤ 4 - i ∧ (∀ x ∈ t, dfind x = none) ∧ (∀ x ∈ l, x < 4294967296) ∧
    (match i with
     | 0 => dfind h = none
     | 1 => dfind h = none ∨ ∃ e, dfind h = some e ∧ dfind e.2.1 = none
     | 2 => dfind h = none ∨ ∃ e, dfind h = some e ∧ (dfind e.2.1 = none ∨ ∃ x, dfind e.2.1 = some x ∧ dfind x.2.1 = none)
     | _ => True)

theorem step_tail (t : List Nat) (h : ∀ x ∈ t, dfind x = none) : stepL t = t := by
  induction t with
  | nil => rfl
  | cons a t ih =>
    have ha : dstep a = [a] := by unfold dstep; rw [h a (by simp)]
    show dstep a ++ stepL t = a :: t
    rw [ha, ih (fun x hx => h x (List.mem_cons_of_mem _ hx))]; rfl

theorem Dep.step {i : Nat} {l : List Nat} (hi : i < 3) (h : Dep (i + 1) l) : Dep i (stepL l) := by
  obtain ⟨a, t, rfl, hl, ht, hb, hd⟩ := h
  have hs : stepL (a :: t) = dstep a ++ t := by show dstep a ++ stepL t = _; rw [step_tail t ht]
  rw [hs]
  simp only [List.length_cons] at hl
  cases ha : dfind a with
  | none =>
    have hda : dstep a = [a] := by unfold dstep; rw [ha]
    rw [hda]
    refine ⟨a, t, rfl, by simp only [List.length_append, List.length_cons, List.length_nil]; omega, ht, hb, ?_⟩
    match i, hi with
    | 0, _ => exact ha
    | 1, _ => exact .inl ha
    | 2, _ => exact .inl ha
  | some e =>
    have he := D_bd2 e (dfind_some ha).1
    obtain ⟨d1, d2⟩ := dec_deep ha
    have hcase : ∃ t', dstep a ++ t = e.2.1 :: t' ∧ t'.length ≤ t.length + 1 ∧ (∀ x ∈ t', dfind x = none) ∧ ∀ x ∈ t', x < 4294967296 := by
      unfold dstep; rw [ha]; dsimp only
      split
      · exact ⟨t, rfl, by omega, ht, fun x hx => hb x (List.mem_cons_of_mem _ hx)⟩
      · refine ⟨e.2.2.1 :: t, rfl, by simp, fun x hx => ?_, fun x hx => ?_⟩
        · rcases List.mem_cons.1 hx with rfl | hx
          · exact d1
          · exact ht x hx
        · rcases List.mem_cons.1 hx with rfl | hx
          · omega
          · exact hb x (List.mem_cons_of_mem _ hx)
    obtain ⟨t', h1, h2, h3, h4⟩ := hcase
    rw [h1]
    refine ⟨e.2.1, t', rfl, by simp only [List.length_cons]; omega, h3, fun x hx => ?_, ?_⟩
    · rcases List.mem_cons.1 hx with rfl | hx
      · omega
      · exact h4 x hx
    · match i, hi, hd with
      | 0, _, hd =>
        rcases hd with hd | ⟨e', he', hd⟩
        · rw [ha] at hd; cases hd
        · rw [ha] at he'; obtain rfl := Option.some.inj he'; exact hd
      | 1, _, hd =>
        rcases hd with hd | ⟨e', he', hd⟩
        · rw [ha] at hd; cases hd
        · rw [ha] at he'; obtain rfl := Option.some.inj he'; exact hd
      | 2, _, _ => exact d2
theorem Dep.start (c : Nat) (hc : c < 4294967296) : Dep 3 [c] := ⟨c, [], rfl, by simp, fun x hx => by simp at hx, fun x hx => by simp at hx; omega, trivial⟩
theorem Dep.all {l : List Nat} (h : Dep 0 l) : ∀ x ∈ l, dfind x = none := by
  obtain ⟨a, t, rfl, _, ht, _, hd⟩ := h
  intro x hx
  rcases List.mem_cons.1 hx with rfl | hx
  · exact hd
  · exact ht x hx

theorem stepL_snoc (l : List Nat) (x : Nat) : stepL (l ++ [x]) = stepL l ++ dstep x := by unfold stepL; rw [List.flatMap_append]; simp
theorem stepL_len (l : List Nat) : (stepL l).length ≤ 2 * l.length := by
  induction l with
  | nil => simp [stepL]
  | cons a l ih =>
    have : (dstep a).length ≤ 2 := by unfold dstep; split <;> (try split) <;> simp
    show (dstep a ++ stepL l).length ≤ _
    rw [List.length_append, List.length_cons]; omega

/-- Numbers, as they lie in a slice. -/
def u32s (l : List Nat) : List Value := l.map fun (x : Nat) => Value.int .u32 (x : Int)
theorem u32s_length (l : List Nat) : (u32s l).length = l.length := by unfold u32s; simp
theorem info_u32 : (Tryd.prog.info? 22).map (fun i => (i.zero, i.size, i.bytes)) = some (some (.int .u32 0), 1, 4) := by kernel_rfl

theorem ownsRow_gr {w w' : World} {base : Nat} {e : TypeId} {size : Nat} {v : Value} {n : Nat} {xs : List Value} (h : w.ownsRow base e size v n xs) (g : Gr w w') : w'.ownsRow base e size v n xs := by
  refine ⟨h.1, ?_⟩
  rcases h.2 with h0 | ⟨b, cap, cur, h1, h2, h3, h4⟩
  · exact .inl h0
  · refine .inr ⟨b, cap, cur, h1, h2, ?_, h4⟩
    have : b < w.heap.size := by
      rcases Nat.lt_or_ge b w.heap.size with hlt | hge
      · exact hlt
      · rw [Array.getElem?_eq_none hge] at h3; cases h3
    rw [Below.block g b this]; exact h3
theorem gr_grown {w w' : World} {row : Option Nat} {B : Nat} (hB : B ≤ w.heap.size) (hg : w.grownBy w' row) (hr : ∀ k, row = some k → B ≤ k) : Below B w w' := (Below.refl B w).grown hg hB hr
theorem row_block {w : World} {base : Nat} {e : TypeId} {size : Nat} {v : Value} {n : Nat} {xs : List Value} (h : w.ownsRow base e size v n xs) : ∀ k, v.ownBlock = some k → base ≤ k := fun k hk => (h.lt k hk).1
theorem row_form {w : World} {base : Nat} {e : TypeId} {size : Nat} {v : Value} {n : Nat} {xs : List Value} (h : w.ownsRow base e size v n xs) (hn : 0 < n) :
    ∃ g cap, v = .slice (some ⟨g, 0, none⟩) n cap ∧ base ≤ g ∧ g < w.heap.size := by
  rcases h.2 with ⟨_, h0⟩ | ⟨g, cap, cur, hv, hb, hg, _⟩
  · omega
  · refine ⟨g, cap, hv, hb, ?_⟩
    rcases Nat.lt_or_ge g w.heap.size with hlt | hge
    · exact hlt
    · rw [Array.getElem?_eq_none hge] at hg; cases hg
theorem _root_.Go.World.ownsRow.mono' {w : World} {base base' : Nat} {e : TypeId} {size : Nat} {v : Value} {n : Nat} {xs : List Value} (h : w.ownsRow base e size v n xs) (hb : base' ≤ base) : w.ownsRow base' e size v n xs := by
  refine ⟨h.1, ?_⟩
  rcases h.2 with h0 | ⟨g, cap, cur, hv, h1, h2⟩
  · exact .inl h0
  · exact .inr ⟨g, cap, cur, hv, Nat.le_trans hb h1, h2⟩
/-- An own row's element. -/
theorem row_cell {w : World} {base g cap : Nat} {l : List Nat} (h : w.ownsRow base 22 1 (.slice (some ⟨g, 0, none⟩) l.length cap) l.length (u32s l)) (k : Nat) (hk : k < l.length) : w.cell? ⟨g, k, none⟩ = some (.int .u32 ((l.getD k 0 : Nat) : Int)) := by
  rw [h.cellAt k (by omega)]
  unfold u32s
  rw [List.getElem?_map, List.getElem?_eq_getElem hk]; simp [List.getD, List.getElem?_eq_getElem hk]

theorem own_conv {w : World} {B : Nat} {e : TypeId} {v : Value} {M N K : List Nat} {n : Nat} {xs : List Value} (h : w.ownsRow B e 1 v (M.length + n) (u32s M ++ xs)) (hN : N = M ++ K) (hn : n = K.length) (hx : xs = u32s K) : w.ownsRow B e 1 v N.length (u32s N) := by
  subst hN hn hx
  rw [List.length_append, show u32s (M ++ K) = u32s M ++ u32s K by unfold u32s; rw [List.map_append]]
  exact h
theorem gr_added {wo w1 w2 : World} {o : Obj} {e : TypeId} {size n : Nat} {v : Value} {xs : List Value} (h : Gr wo w1) (hn : w1.ownsRow wo.heap.size e size v n xs) (hg : (w1.alloc o).grownBy w2 v.ownBlock) : Gr wo w2 :=
  (Below.alloc (B := wo.heap.size) h h.size o).grown hg (by have := h.size; simp; omega) (row_block hn)

set_option maxRecDepth 100000 in
set_option maxHeartbeats 4000000 in
theorem deep_walk (c : Nat) (hc : c < 4294967296) (w : World) (ht : Tz w) :
    Calls Tryd.prog 7 #[.int .u32 c] w fun e w' => e = .returned (.bool true) ∧ Gr w w' := by
  obtain ⟨i0, hi, hz0, hz1, hz2⟩ := info_parts info_u32
  go_enter Tryd.func7, Tryd.ntmps7
  go_wp2_with fail
  go_loopw [3, 4] (fun vl vi wr => ∃ (i : Nat) (L : List Nat), i ≤ 3 ∧ vi = .int .i64 i ∧ wr.ownsRow w.heap.size 22 1 vl L.length (u32s L) ∧ Hid (Dep (3 - i) L) ∧ Gr w wr) (fun _ vi _ => (3 - intOf vi).toNat)
  case atStart =>
    refine ⟨0, [c], by omega, rfl, ?_, Dep.start c hc, Gr.alloc _ _⟩
    exact World.ownsRow_lit w #[.int .u32 c] 1 (Nat.le_refl _) (by unfold maxLen; omega) rfl
  case round =>
    obtain ⟨i, L, hi3, rfl, hown, HD, hgr⟩ := hrel
    have hlen : 1 ≤ L.length ∧ L.length ≤ 4 := by
      obtain ⟨a, t, h1, h2, _⟩ := HD.out
      rw [h1] at h2 ⊢; simp only [List.length_cons] at h2 ⊢; omega
    obtain ⟨g, cap, rfl, hg1, hg2⟩ := row_form hown (by omega)
    have hl1 : (1 : Int) ≤ L.length := by omega
    have hl4 : (L.length : Int) ≤ 4 := by omega
    by_cases hlt : i < 3
    · have hdi : decide ((i : Int) < 3) = true := by simp; omega
      go_wp2_with fail
      obtain ⟨wo, rfl⟩ : ∃ wo : World, wo = wr := ⟨_, rfl⟩
      have hto := ht.gr hgr
      go_loopw [5, 6] (fun vn vk wr => ∃ k : Nat, k ≤ L.length ∧ vk = .int .i64 k ∧ wr.ownsRow wo.heap.size 22 1 vn (stepL (L.take k)).length (u32s (stepL (L.take k))) ∧ Gr wo wr) (fun _ vk _ => L.length - (intOf vk).toNat)
      case atStart => exact ⟨0, Nat.zero_le _, rfl, by simp [stepL]; exact World.ownsRow_nil _ _ _ _, Gr.refl _⟩
      case round =>
        obtain ⟨k, hk, rfl, hn, hgk⟩ := hrel
        by_cases hkl : k < L.length
        · have hcell : wr.cell? ⟨g, k, none⟩ = some (.int .u32 ((L.getD k 0 : Nat) : Int)) := hgk.cell (row_cell hown k hkl)
          have hx : L.getD k 0 < 4294967296 := by
            rw [List.getD, List.getElem?_eq_getElem hkl]
            obtain ⟨_, _, _, _, _, hbb, _⟩ := HD.out
            exact hbb _ (List.getElem_mem _)
          have htk : L.take (k + 1) = L.take k ++ [L.getD k 0] := by
            rw [List.take_succ_eq_append_getElem hkl, List.getD, List.getElem?_eq_getElem hkl]; rfl
          have HT : Hid (stepL (L.take (k + 1)) = stepL (L.take k) ++ dstep (L.getD k 0)) := by show _ = _; rw [htk, stepL_snoc]
          have HLEN : Hid ((stepL (L.take k)).length ≤ 8) := by show _ ≤ _; have := stepL_len (L.take k); have := List.length_take_le k L; omega
          clear htk
          generalize L.getD k 0 = x at hcell hx HT
          cases hd : dfind x with
          | none =>
            have HS : Hid (dstep x = [x]) := by show _ = _; unfold dstep; rw [hd]
            have HDD := hid (decomp_no x hx _ (hto.gr hgk) hd)
            clear hd
            go_wp2_with (first | (go_at_call 31; refine HDD.out.mono ?_; rintro e w1 ⟨rfl, g1⟩; have hn1 := ownsRow_gr hn g1; have hcell1 := g1.cell hcell; have hsz := (hgk.trans g1).size) | (at_builtin; refine wpList_append_own _ rfl _ _ 23 rfl wo.heap.size 22 i0 (.int .u32 0) 1 4 Tryd.underlying23 hi hz0 hz1 hz2 rfl (by decide) _ _ _ rfl (hn1.alloc _) ⟨w1.heap.size, 0, none⟩ 1 1 [.int .u32 x] rfl rfl (cell_one_new _ _ _) (by simp [Value.oneCell']) (by have := HLEN.out; unfold maxLen; omega) (by have := HLEN.out; omega) (by simp; omega) ?_; intro v' w2 hown' hgrow _))
            have hG := gr_added (hgk.trans g1) hn1 hgrow
            have hO := own_conv (K := [x]) hown' (HT.out.trans (by rw [HS.out])) rfl rfl
            clear hgrow hown' hn1 hn hcell hcell1
            go_roundw
            case rel => exact ⟨k + 1, hkl, by simp, hO, hG⟩
            case measure => simp [intOf]; omega
          | some e =>
            have hbe := D_bd2 e (dfind_some hd).1
            have hb1 : (e.2.1 : Int) < 1048576 := by omega
            have hb2 : (e.2.2.1 : Int) < 1048576 := by omega
            have HDD := hid (decomp_yes x hx _ (hto.gr hgk) e hd)
            by_cases hz : e.2.2.1 = 0
            · have HS : Hid (dstep x = [e.2.1]) := by show _ = _; unfold dstep; rw [hd]; dsimp only; rw [if_pos hz]
              have hzb : ((e.2.2.1 : Int) == 0) = true := by rw [hz]; rfl
              clear hd hz hbe
              go_wp2_with (first | (go_at_call 31; refine HDD.out.mono ?_; rintro e w1 ⟨rfl, g1⟩; have hn1 := ownsRow_gr hn g1; have hsz := (hgk.trans g1).size) | (at_builtin; refine wpList_append_own _ rfl _ _ 23 rfl wo.heap.size 22 i0 (.int .u32 0) 1 4 Tryd.underlying23 hi hz0 hz1 hz2 rfl (by decide) _ _ _ rfl (hn1.alloc _) ⟨w1.heap.size, 0, none⟩ 1 1 [.int .u32 e.2.1] rfl rfl (cell_one_new _ _ _) (by simp [Value.oneCell']) (by have := HLEN.out; unfold maxLen; omega) (by have := HLEN.out; omega) (by simp; omega) ?_; intro v' w2 hown' hgrow _))
              have hG := gr_added (hgk.trans g1) hn1 hgrow
              have hO := own_conv (K := [e.2.1]) hown' (HT.out.trans (by rw [HS.out])) rfl rfl
              clear hgrow hown' hn1 hn hcell
              go_roundw
              case rel => exact ⟨k + 1, hkl, by simp, hO, hG⟩
              case measure => simp [intOf]; omega
            · have HS : Hid (dstep x = [e.2.1, e.2.2.1]) := by show _ = _; unfold dstep; rw [hd]; dsimp only; rw [if_neg hz]
              have hzb : ((e.2.2.1 : Int) == 0) = false := by rw [beq_eq_false_iff_ne]; omega
              clear hd hz hbe
              go_wp2_with (first | (go_at_call 31; refine HDD.out.mono ?_; rintro e w1 ⟨rfl, g1⟩; have hn1 := ownsRow_gr hn g1; have hsz := (hgk.trans g1).size) | (at_builtin; refine wpList_append_own _ rfl _ _ 23 rfl wo.heap.size 22 i0 (.int .u32 0) 1 4 Tryd.underlying23 hi hz0 hz1 hz2 rfl (by decide) _ _ _ rfl (hn1.alloc _) ⟨w1.heap.size, 0, none⟩ 2 2 [.int .u32 e.2.1, .int .u32 e.2.2.1] rfl rfl (cell_two_new _ _ _ _) (by simp [Value.oneCell']) (by have := HLEN.out; unfold maxLen; omega) (by have := HLEN.out; omega) (by simp; omega) ?_; intro v' w2 hown' hgrow _))
              have hG := gr_added (hgk.trans g1) hn1 hgrow
              have hO := own_conv (K := [e.2.1, e.2.2.1]) hown' (HT.out.trans (by rw [HS.out])) rfl rfl
              clear hgrow hown' hn1 hn hcell
              go_roundw
              case rel => exact ⟨k + 1, hkl, by simp, hO, hG⟩
              case measure => simp [intOf]; omega
        · have hkL : k = L.length := by omega
          have HO : Hid (wr.ownsRow wo.heap.size 22 1 u5 (stepL L).length (u32s (stepL L))) := by have := hn; rw [hkL, List.take_length] at this; exact this
          clear hn
          go_wp2
          exact ⟨⟨i + 1, stepL L, by omega, by simp, World.ownsRow.mono' HO.out hgr.size, (by have := HD.out; rw [show 3 - i = (3 - (i + 1)) + 1 by omega] at this; exact this.step (by omega)), hgr.trans hgk⟩, by simp [intOf]; omega⟩
    · have hi : i = 3 := by omega
      have hdi : decide ((i : Int) < 3) = false := by simp; omega
      have HA : Hid (∀ x ∈ L, dfind x = none) := by have := HD.out; rw [hi] at this; exact this.all
      clear hi
      go_wp2_with fail
      obtain ⟨wo, rfl⟩ : ∃ wo : World, wo = wr := ⟨_, rfl⟩
      go_loopw [10] (fun vk wr' => ∃ k : Nat, k ≤ L.length ∧ vk = .int .i64 k ∧ Gr wo wr') (fun vk _ => L.length - (intOf vk).toNat)
      case atStart => exact ⟨0, Nat.zero_le _, rfl, Gr.refl _⟩
      case round =>
        obtain ⟨k, hk, rfl, hgk⟩ := hrel
        by_cases hkl : k < L.length
        · have hcell : wr.cell? ⟨g, k, none⟩ = some (.int .u32 ((L.getD k 0 : Nat) : Int)) := hgk.cell (row_cell hown k hkl)
          have hmem : L.getD k 0 ∈ L := by rw [List.getD, List.getElem?_eq_getElem hkl]; exact List.getElem_mem _
          have hx : L.getD k 0 < 4294967296 := by
            obtain ⟨_, _, _, _, _, hbb, _⟩ := HD.out
            exact hbb _ hmem
          have HDD := hid (decomp_no (L.getD k 0) hx _ (ht.gr (hgr.trans hgk)) (HA.out _ hmem))
          clear hmem
          generalize L.getD k 0 = x at hcell hx HDD
          go_wp2_with (go_at_call 31; refine HDD.out.mono ?_; rintro e w1 ⟨rfl, g1⟩)
          go_roundw
          case rel => exact ⟨k + 1, hkl, by simp, hgk.trans g1⟩
          case measure => simp [intOf]; omega
        · go_wp2_with (go_at_call 22; refine (awake3_any _ (ht.gr (hgr.trans hgk))).mono ?_; rintro e w1 ⟨rfl, g1⟩)
          go_ret
          exact ⟨rfl, (hgr.trans hgk).trans g1⟩
end Go.Proofs.YtknlnllmoilglaaDoor
