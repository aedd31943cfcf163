import Derived.Test.YtgjlneedpbgfpaaDoorGTwo
import Derived.Test.YtgjlneedpbgfpaaDoorGOrd
import Derived.WalkSpells
import Derived.Deep.CutBlock
import Derived.Deep.DeepCutAuto
import Derived.Deep.LoopGhost
import Derived.Deep.RegionLaw
/- The walks of gessoref07.blocked and Compose. -/
namespace Go.Proofs.YtgjlneedpbgfpaaDoor
open Go.RowKit

noncomputable def blkB (last : Bool) (y c : Nat) : Bool := !last && (Nat.beq (cls y) 0 || Nat.ble (cls c) (cls y))

set_option maxHeartbeats 2000000 in
theorem blocked_any (g n cap : Nat) (s : Nat) (y c : Nat) (hy : y < 4294967296) (hc : c < 4294967296) (w : World) (hn : n + 1 ≤ 1000000) (hcell : w.cell? ⟨g, n, none⟩ = some (.int .u32 (y : Int))) :
    Calls Tryd.prog 60 #[.slice (some ⟨g, 0, none⟩) (n + 1) cap, .int .i64 (s : Int), .int .u32 (c : Int)] w fun e w' => e = .returned (.bool (blkB (Nat.beq s n) y c)) ∧ Gr w w' := by
  have hnb : (n : Int) ≤ 1000000 := by omega
  have hwn : IntKind.i64.wrap (n : Int) = (n : Int) := by rw [IntKind.wrap_i64]; omega
  by_cases hs : s = n
  · subst hs
    rw [show blkB (Nat.beq s s) y c = false by unfold blkB; rw [Nat.beq_eq.mpr rfl]; rfl]
    clear hcell
    go_enter Tryd.func60, Tryd.ntmps60
    go_wp2
    go_ret
    exact ⟨rfl, Gr.refl _⟩
  · rw [show blkB (Nat.beq s n) y c = (Nat.beq (cls y) 0 || Nat.ble (cls c) (cls y)) by unfold blkB; rw [show Nat.beq s n = false by rw [← Bool.not_eq_true, Nat.beq_eq]; exact hs]; rfl]
    have hsz : ¬ (s : Int) = (n : Int) := by omega
    have hsy : ((s : Int) == (n : Int)) = false := by rw [beq_eq_false_iff_ne]; exact hsz
    have HY := hid (fun W => rclass_any y hy W)
    have HC := hid (fun W => rclass_any c hc W)
    obtain ⟨p, hp⟩ : ∃ p, cls y = p := ⟨_, rfl⟩
    obtain ⟨q, hq⟩ : ∃ q, cls c = q := ⟨_, rfl⟩
    rw [hp] at HY ⊢
    rw [hq] at HC ⊢
    clear hp hq hy hc hs
    by_cases h0 : p = 0
    · subst h0
      clear HC
      go_enter Tryd.func60, Tryd.ntmps60
      go_wp2_with (go_at_call 37; refine (HY.out _).mono ?_; rintro e w1 ⟨rfl, g1⟩)
      go_ret
      exact ⟨rfl, g1⟩
    · have h0z : ¬ (p : Int) = 0 := by omega
      have h0y : ((p : Int) == 0) = false := by rw [beq_eq_false_iff_ne]; exact h0z
      have h0x : Nat.beq p 0 = false := by rw [← Bool.not_eq_true, Nat.beq_eq]; exact h0
      rw [h0x, Bool.false_or]
      clear h0x h0
      by_cases hpq : q ≤ p
      · have hpz : (q : Int) ≤ (p : Int) := by omega
        rw [show Nat.ble q p = true from Nat.ble_eq.mpr hpq]
        go_enter Tryd.func60, Tryd.ntmps60
        go_wp2_with (first
          | (go_at_call 37; refine (HY.out _).mono ?_; clear HY; rintro e w1 ⟨rfl, g1⟩)
          | (go_at_call 37; refine (HC.out _).mono ?_; rintro e w2 ⟨rfl, g2⟩))
        go_ret
        exact ⟨rfl, g1.trans g2⟩
      · have hpz : ¬ (q : Int) ≤ (p : Int) := by omega
        rw [show Nat.ble q p = false by rw [← Bool.not_eq_true, Nat.ble_eq]; exact hpq]
        go_enter Tryd.func60, Tryd.ntmps60
        go_wp2_with (first
          | (go_at_call 37; refine (HY.out _).mono ?_; clear HY; rintro e w1 ⟨rfl, g1⟩)
          | (go_at_call 37; refine (HC.out _).mono ?_; rintro e w2 ⟨rfl, g2⟩))
        go_ret
        exact ⟨rfl, g1.trans g2⟩

/-- Where the reference stands: no starter yet, or so much is done, then a starter and its marks. -/
theorem own_conv' {w : World} {B m k : Nat} {v : Value} {K : List Nat} {c : Nat} (hKm : K.length = m + 1) (h : w.ownsRow B 22 1 v (m + 1 + 1) (u32s K ++ [.int .u32 (c : Int)])) (hk : k = (K ++ [c]).length := by rfl) : w.ownsRow B 22 1 v k (u32s (K ++ [c])) := by
  subst hk; rw [← hKm] at h; exact own_conv h rfl rfl rfl
theorem u32s_set' (l : List Nat) (k x : Nat) : (u32s l).set k (.int .u32 (x : Int)) = u32s (l.set k x) := by unfold u32s; rw [List.map_set]
def RS (L : List Nat) (i : Nat) (K : List Nat) (s : Int) : Prop :=
  (s = -1 ∧ Marks K ∧ comp L = K ++ comp (L.drop i)) ∨ (∃ out st M, K = out ++ st :: M ∧ s = (out.length : Int) ∧ Marks M ∧ comp L = out ++ compG (L.drop i) st M (lastC M))
theorem RS.markA {L K : List Nat} {i c : Nat} (hm : Marks K) (hd : L.drop i = c :: L.drop (i + 1)) (hL : comp L = K ++ comp (L.drop i)) (hc : cls c ≠ 0) : RS L (i + 1) (K ++ [c]) (-1) := by
  refine .inl ⟨rfl, fun x hx => ?_, by rw [hL, hd, comp_m hc]; simp⟩
  rcases List.mem_append.1 hx with hx | hx
  · exact hm x hx
  · rw [List.mem_singleton] at hx; rw [hx]; exact hc
theorem RS.startA {L K : List Nat} {i c : Nat} (hd : L.drop i = c :: L.drop (i + 1)) (hL : comp L = K ++ comp (L.drop i)) (hc : cls c = 0) : RS L (i + 1) (K ++ [c]) (K.length : Int) :=
  .inr ⟨K, c, [], rfl, rfl, (fun x hx => by cases hx), by rw [hL, hd, comp_s hc]; rfl⟩
theorem RS.twoB {L out M : List Nat} {i c st x : Nat} (hm : Marks M) (hd : L.drop i = c :: L.drop (i + 1)) (hL : comp L = out ++ compG (L.drop i) st M (lastC M)) (ht : tryTwo st M (lastC M) c = some x) : RS L (i + 1) (out ++ x :: M) (out.length : Int) :=
  .inr ⟨out, x, M, rfl, rfl, hm, by rw [hL, hd, compG_some ht]⟩
theorem RS.markB {L out M : List Nat} {i c st : Nat} (hm : Marks M) (hd : L.drop i = c :: L.drop (i + 1)) (hL : comp L = out ++ compG (L.drop i) st M (lastC M)) (ht : tryTwo st M (lastC M) c = none) (hc : cls c ≠ 0) : RS L (i + 1) (out ++ st :: M ++ [c]) (out.length : Int) :=
  .inr ⟨out, st, M ++ [c], by simp, rfl, fun x hx => by
    rcases List.mem_append.1 hx with hx | hx
    · exact hm x hx
    · rw [List.mem_singleton] at hx; rw [hx]; exact hc, by rw [hL, hd, compG_m ht hc, lastC_snoc]⟩
theorem RS.startB {L out M : List Nat} {i c st : Nat} (hd : L.drop i = c :: L.drop (i + 1)) (hL : comp L = out ++ compG (L.drop i) st M (lastC M)) (ht : tryTwo st M (lastC M) c = none) (hc : cls c = 0) : RS L (i + 1) (out ++ st :: M ++ [c]) ((out ++ st :: M).length : Int) :=
  .inr ⟨out ++ st :: M, c, [], rfl, rfl, (fun x hx => by cases hx), by rw [hL, hd, compG_s ht hc]; simp [lastC]⟩
/-- Whether it is blocked. -/
theorem blk_opn {st c : Nat} {out M : List Nat} (hm : Marks M) {n y : Nat} (hn : (out ++ st :: M).length = n + 1) (hy : (out ++ st :: M)[n]? = some y) : blkB (Nat.beq out.length n) y c = !opn M (lastC M) (cls c) := by
  unfold blkB opn
  by_cases hM : M = []
  · subst hM
    have : out.length = n := by simp at hn; omega
    rw [this, Nat.beq_eq.mpr rfl]; rfl
  · obtain ⟨B, z, rfl⟩ := snoc_of hM
    have hne : Nat.beq out.length n = false := by
      rw [← Bool.not_eq_true, Nat.beq_eq]
      intro h; simp at hn; omega
    have hyz : y = z := by
      have hl : n = (out ++ st :: B).length := by simp at hn ⊢; omega
      rw [show out ++ st :: (B ++ [z]) = (out ++ st :: B) ++ [z] by simp, hl, List.getElem?_append_right (Nat.le_refl _), Nat.sub_self] at hy
      simpa using hy.symm
    have hz : cls z ≠ 0 := hm z (by simp)
    rw [hne, hyz, lastC_snoc]
    have e1 : (B ++ [z]).isEmpty = false := by simp
    have e2 : Nat.beq (cls z) 0 = false := by rw [← Bool.not_eq_true, Nat.beq_eq]; exact hz
    have e3 : (cls z == 0) = false := by rw [beq_eq_false_iff_ne]; exact hz
    rw [e1, e2, e3]
    simp only [Bool.not_false, Bool.true_and, Bool.false_or]
    rw [Bool.eq_iff_iff, Nat.ble_eq, Bool.not_eq_true', decide_eq_false_iff_not]; omega

set_option maxRecDepth 20000 in
set_option maxHeartbeats 8000000 in
theorem rCompose_any (v : Value) (L : List Nat) (w : World) (hv : Sl w v L) (hb : ∀ x ∈ L, x < 4294967296) (hl : L.length ≤ 100000) : Calls Tryd.prog 28 #[v] w (RowOf (comp L) w) := by
  obtain ⟨ao, ca, rfl, _, hA⟩ := hv
  obtain ⟨n, hn⟩ : ∃ n, L.length = n := ⟨_, rfl⟩
  rw [hn] at hA ⊢
  have hnb : (n : Int) ≤ 100000 := by omega
  have HN := hid hn
  have HA := hid hA
  have HB := hid hb
  clear hn hA hb hl
  obtain ⟨i0, hi, hz0, hz1, hz2⟩ := info_parts info_u32
  go_enter Tryd.func28, Tryd.ntmps28
  go_wp2_with fail
  go_loopw [3, 4, 5] (fun vk vs vi wr => ∃ (i : Nat) (K : List Nat) (s : Int), i ≤ n ∧ vi = .int .i64 i ∧ vs = .int .i64 s ∧ Hid (RS L i K s) ∧ Hid (∀ x ∈ K, x < 4294967296) ∧ K.length ≤ i ∧ Hid (wr.ownsRow w.heap.size 22 1 vk K.length (u32s K)) ∧ Gr w wr) (fun _ _ vi _ => n - (intOf vi).toNat)
  case atStart => exact ⟨0, [], -1, Nat.zero_le _, rfl, rfl, .inl ⟨rfl, (fun x hx => by cases hx), rfl⟩, (fun x hx => by cases hx), Nat.le_refl _, World.ownsRow_nil _ _ _ _, Gr.refl _⟩
  case round =>
    obtain ⟨i, K, s, hin, rfl, rfl, HR, HKB, hKi, HO, hgk⟩ := hrel
    by_cases hlt : i < n
    · obtain ⟨g, off, rfl, hcell⟩ := HA.out i hlt
      have hcell := hgk.cell hcell
      have hiL : i < L.length := by rw [HN.out]; exact hlt
      have hx : L.getD i 0 < 4294967296 := by
        rw [List.getD, List.getElem?_eq_getElem hiL]; exact HB.out _ (List.getElem_mem _)
      have HD := hid (drop_cons hiL)
      have HCX := hid (fun W => rclass_any (L.getD i 0) hx W)
      have HX := hid hx
      clear hx
      generalize L.getD i 0 = c at hcell HD HCX HX
      have hltz : (i : Int) < n := by omega
      have HKC : Hid (∀ x ∈ K ++ [c], x < 4294967296) := fun x hx => by
        rcases List.mem_append.1 hx with hx | hx
        · exact HKB.out x hx
        · rw [List.mem_singleton] at hx; rw [hx]; exact HX.out
      rcases HR.out with ⟨rfl, hm, hL⟩ | ⟨out, st, M, rfl, rfl, hm, hL⟩
      · -- no starter yet
        by_cases h0 : cls c = 0
        · have HS := hid (RS.startA HD.out hL h0)
          rw [h0] at HCX
          clear hm hL h0 HR
          go_wp2_with (first
            | (at_builtin; refine wpList_append_own _ rfl _ _ 27 rfl w.heap.size 22 i0 (.int .u32 0) 1 4 Tryd.underlying27 hi hz0 hz1 hz2 rfl (by decide) _ _ _ rfl (HO.out.alloc _) ⟨wr.heap.size, 0, none⟩ 1 1 [.int .u32 (c : Int)] rfl rfl (cell_one_new _ _ _) (by simp [Value.oneCell']) (by unfold maxLen; omega) (by omega) (by have := hgk.size; simp; omega) ?_; intro v' w1 hown' hgrow _; obtain ⟨g', cap', rfl⟩ := ownsRow_succ hown'; have g1 := gr_added hgk HO.out hgrow; have HO1 : Hid (w1.ownsRow w.heap.size 22 1 (.slice (some ⟨g', 0, none⟩) (K.length + 1) cap') (K ++ [c]).length (u32s (K ++ [c]))) := own_conv hown' rfl rfl rfl; clear hown' hgrow)
            | (go_at_call 37; refine (HCX.out _).mono ?_; rintro e w2 ⟨rfl, g2⟩))
          go_roundw
          case rel => exact ⟨i + 1, K ++ [c], (K.length : Int), hlt, by go_num, by first | rfl | (congr 1; omega), HS, HKC, by simp; omega, ownsRow_gr HO1.out g2, g1.trans g2⟩
          case measure => simp [intOf]; omega
        · have HS := hid (RS.markA hm HD.out hL h0)
          have h0z : ¬ (cls c : Int) = 0 := by omega
          have h0y : ((cls c : Int) == 0) = false := by rw [beq_eq_false_iff_ne]; exact h0z
          obtain ⟨q, hq⟩ : ∃ q, cls c = q := ⟨_, rfl⟩
          rw [hq] at HCX h0z h0y
          clear hm hL h0 HR hq
          go_wp2_with (first
            | (at_builtin; refine wpList_append_own _ rfl _ _ 27 rfl w.heap.size 22 i0 (.int .u32 0) 1 4 Tryd.underlying27 hi hz0 hz1 hz2 rfl (by decide) _ _ _ rfl (HO.out.alloc _) ⟨wr.heap.size, 0, none⟩ 1 1 [.int .u32 (c : Int)] rfl rfl (cell_one_new _ _ _) (by simp [Value.oneCell']) (by unfold maxLen; omega) (by omega) (by have := hgk.size; simp; omega) ?_; intro v' w1 hown' hgrow _; obtain ⟨g', cap', rfl⟩ := ownsRow_succ hown'; have g1 := gr_added hgk HO.out hgrow; have HO1 : Hid (w1.ownsRow w.heap.size 22 1 (.slice (some ⟨g', 0, none⟩) (K.length + 1) cap') (K ++ [c]).length (u32s (K ++ [c]))) := own_conv hown' rfl rfl rfl; clear hown' hgrow)
            | (go_at_call 37; refine (HCX.out _).mono ?_; rintro e w2 ⟨rfl, g2⟩))
          go_roundw
          case rel => exact ⟨i + 1, K ++ [c], -1, hlt, by go_num, rfl, HS, HKC, by simp; omega, ownsRow_gr HO1.out g2, g1.trans g2⟩
          case measure => simp [intOf]; omega
      · -- behind a starter
        have hlen : (out ++ st :: M).length = out.length + M.length + 1 := by simp; omega
        obtain ⟨K, hK⟩ : ∃ K, out ++ st :: M = K := ⟨_, rfl⟩
        obtain ⟨m, hmm⟩ : ∃ m, out.length + M.length = m := ⟨_, rfl⟩
        rw [hK, hmm] at hlen
        rw [hK] at HKB HKC hKi HO
        have hKm := hlen
        have hom : out.length ≤ m := by omega
        have hym : K[m]? = some (K.getD m 0) := by rw [List.getD, List.getElem?_eq_getElem (by omega)]; rfl
        have hso : K[out.length]? = some st := by rw [← hK, List.getElem?_append_right (Nat.le_refl _), Nat.sub_self]; rfl
        have hbo := blk_opn (c := c) hm (by rw [hK]; exact hKm) (by rw [hK]; exact hym)
        have hyb : K.getD m 0 < 4294967296 := HKB.out _ (by rw [List.getD, List.getElem?_eq_getElem (by omega)]; exact List.getElem_mem _)
        have hsb : st < 4294967296 := HKB.out _ (List.mem_of_getElem? hso)
        obtain ⟨gb, cap, e, hg1, hg2⟩ := row_form HO.out (by omega)
        rw [hKm] at e
        subst e
        have HO' : Hid (wr.ownsRow w.heap.size 22 1 (.slice (some ⟨gb, 0, none⟩) (m + 1) cap) (m + 1) (u32s K)) := by
          have := HO.out
          rw [hKm] at this
          exact this
        clear HO
        have HO := HO'
        clear HO'
        have hO := HO.out
        have hly : wr.cell? ⟨gb, m, none⟩ = some (.int .u32 ((K.getD m 0 : Nat) : Int)) := by
          have := hO
          rw [← hKm] at this
          exact row_cell this m (by omega)
        have hst : wr.cell? ⟨gb, out.length, none⟩ = some (.int .u32 (st : Int)) := by
          have := hO
          rw [← hKm] at this
          have h := row_cell this out.length (by omega)
          rw [List.getD, hso] at h; exact h
        have HBL := hid (blocked_any gb m cap out.length (K.getD m 0) c hyb HX.out wr (by omega) hly)
        rw [hbo] at HBL
        have HTW := hid (fun W => rtwo_any st c hsb HX.out W)
        have HK := hid hK
        clear hym hso hbo hyb hsb hO hly hK hlen
        generalize K.getD m 0 = y at HBL
        have homz : (out.length : Int) < (m : Int) + 1 := by omega
        have hoz : (0 : Int) ≤ (out.length : Int) := by omega
        cases hop : opn M (lastC M) (cls c) with
        | true =>
          rw [hop] at HBL
          cases ht2 : two st c with
          | some x =>
            have ht : tryTwo st M (lastC M) c = some x := by unfold tryTwo; rw [if_pos hop]; exact ht2
            rw [twoV_some ht2] at HTW
            have HS := hid (RS.twoB hm HD.out hL ht)
            have hxs := (two_of ht2).small
            have HKX : Hid (∀ z ∈ out ++ x :: M, z < 4294967296) := fun z hz => by
              rcases List.mem_append.1 hz with hz | hz
              · exact HKB.out z (by rw [← HK.out]; exact List.mem_append_left _ hz)
              · rcases List.mem_cons.1 hz with hz | hz
                · omega
                · exact HKB.out z (by rw [← HK.out]; exact List.mem_append_right _ (List.mem_cons_of_mem _ hz))
            clear ht2 hop ht hL hxs
            go_wp2_with (first
              | (go_at_call 60; refine HBL.out.mono ?_; clear HBL; rintro e w1 ⟨rfl, g1'⟩; have g1 := hgk.trans g1'; have hst1 := g1'.cell hst; have HO1 := hid (ownsRow_gr HO.out g1'))
              | (go_at_call 24; (refine (HTW.out _).mono ?_; clear HTW; rintro e w2 ⟨rfl, g2'⟩; have g2 := g1.trans g2'; have HO2 := hid (ownsRow_gr HO1.out g2'); have hc2 := g2'.cell hst1; have hf2 := HO2.out.frozenAt out.length)))
            go_roundw
            case rel =>
              have hl2 : (out ++ x :: M).length = K.length := by rw [← HK.out]; simp
              have h3 := (HO2.out.stored out.length (.int .u32 (x : Int))).1
              rw [u32s_set', ← HK.out, List.set_append_right _ _ (Nat.le_refl _), Nat.sub_self, List.set_cons_zero] at h3
              exact ⟨i + 1, out ++ x :: M, (out.length : Int), hlt, by go_num, rfl, HS, HKX, by rw [hl2]; omega, by rw [hl2, hKm]; exact h3, g2.setCell hg1 _⟩
            case measure => simp [intOf]; omega
          | none =>
            have ht : tryTwo st M (lastC M) c = none := by unfold tryTwo; rw [if_pos hop]; exact ht2
            rw [twoV_none ht2] at HTW
            clear ht2 hop
            by_cases h0 : cls c = 0
            · have HS := hid (RS.startB HD.out hL ht h0)
              rw [h0] at HCX
              rw [HK.out] at HS
              clear hL h0 ht
              go_wp2_with (first
                | (go_at_call 60; refine HBL.out.mono ?_; clear HBL; rintro e w1 ⟨rfl, g1'⟩; have g1 := hgk.trans g1'; have hst1 := g1'.cell hst; have HO1 := hid (ownsRow_gr HO.out g1'))
                | (go_at_call 24; refine (HTW.out _).mono ?_; clear HTW; rintro e w2 ⟨rfl, g2'⟩; have g2 := g1.trans g2'; have HO2 := hid (ownsRow_gr HO1.out g2'))
                | (at_builtin; refine wpList_append_own _ rfl _ _ 27 rfl w.heap.size 22 i0 (.int .u32 0) 1 4 Tryd.underlying27 hi hz0 hz1 hz2 rfl (by decide) _ _ _ rfl (HO2.out.alloc _) ⟨w2.heap.size, 0, none⟩ 1 1 [.int .u32 (c : Int)] rfl rfl (cell_one_new _ _ _) (by simp [Value.oneCell']) (by unfold maxLen; omega) (by omega) (by have := g2.size; simp; omega) ?_; intro v' w5 hown' hgrow _; obtain ⟨g', cap', rfl⟩ := ownsRow_succ hown'; have g5 := gr_added g2 HO2.out hgrow; have HO5 : Hid (w5.ownsRow w.heap.size 22 1 (.slice (some ⟨g', 0, none⟩) (m + 1 + 1) cap') (K ++ [c]).length (u32s (K ++ [c]))) := own_conv' hKm hown'; clear hown' hgrow)
                | (go_at_call 37; refine (HCX.out _).mono ?_; rintro e w6 ⟨rfl, g6⟩))
              go_roundw
              case rel => exact ⟨i + 1, K ++ [c], (K.length : Int), hlt, by go_num, by rw [hKm]; first | rfl | (congr 1; omega) | (congr 1; simp), HS, HKC, by simp; omega, ownsRow_gr HO5.out g6, g5.trans g6⟩
              case measure => simp [intOf]; omega
            · have HS := hid (RS.markB hm HD.out hL ht h0)
              rw [HK.out] at HS
              have h0z : ¬ (cls c : Int) = 0 := by omega
              have h0y : ((cls c : Int) == 0) = false := by rw [beq_eq_false_iff_ne]; exact h0z
              obtain ⟨q, hq⟩ : ∃ q, cls c = q := ⟨_, rfl⟩
              rw [hq] at HCX h0z h0y
              clear hL h0 hq ht
              go_wp2_with (first
                | (go_at_call 60; refine HBL.out.mono ?_; clear HBL; rintro e w1 ⟨rfl, g1'⟩; have g1 := hgk.trans g1'; have hst1 := g1'.cell hst; have HO1 := hid (ownsRow_gr HO.out g1'))
                | (go_at_call 24; refine (HTW.out _).mono ?_; clear HTW; rintro e w2 ⟨rfl, g2'⟩; have g2 := g1.trans g2'; have HO2 := hid (ownsRow_gr HO1.out g2'))
                | (at_builtin; refine wpList_append_own _ rfl _ _ 27 rfl w.heap.size 22 i0 (.int .u32 0) 1 4 Tryd.underlying27 hi hz0 hz1 hz2 rfl (by decide) _ _ _ rfl (HO2.out.alloc _) ⟨w2.heap.size, 0, none⟩ 1 1 [.int .u32 (c : Int)] rfl rfl (cell_one_new _ _ _) (by simp [Value.oneCell']) (by unfold maxLen; omega) (by omega) (by have := g2.size; simp; omega) ?_; intro v' w5 hown' hgrow _; obtain ⟨g', cap', rfl⟩ := ownsRow_succ hown'; have g5 := gr_added g2 HO2.out hgrow; have HO5 : Hid (w5.ownsRow w.heap.size 22 1 (.slice (some ⟨g', 0, none⟩) (m + 1 + 1) cap') (K ++ [c]).length (u32s (K ++ [c]))) := own_conv' hKm hown'; clear hown' hgrow)
                | (go_at_call 37; refine (HCX.out _).mono ?_; rintro e w6 ⟨rfl, g6⟩))
              go_roundw
              case rel => exact ⟨i + 1, K ++ [c], (out.length : Int), hlt, by go_num, rfl, HS, HKC, by simp; omega, ownsRow_gr HO5.out g6, g5.trans g6⟩
              case measure => simp [intOf]; omega
        | false =>
          rw [hop] at HBL
          have ht : tryTwo st M (lastC M) c = none := by unfold tryTwo; rw [if_neg (by rw [hop]; exact Bool.false_ne_true)]
          clear hop HTW
          by_cases h0 : cls c = 0
          · have HS := hid (RS.startB HD.out hL ht h0)
            rw [h0] at HCX
            rw [HK.out] at HS
            clear hL h0 ht
            go_wp2_with (first
              | (go_at_call 60; refine HBL.out.mono ?_; clear HBL; rintro e w1 ⟨rfl, g1'⟩; have g1 := hgk.trans g1'; have hst1 := g1'.cell hst; have HO1 := hid (ownsRow_gr HO.out g1'))
              | (at_builtin; refine wpList_append_own _ rfl _ _ 27 rfl w.heap.size 22 i0 (.int .u32 0) 1 4 Tryd.underlying27 hi hz0 hz1 hz2 rfl (by decide) _ _ _ rfl (HO1.out.alloc _) ⟨w1.heap.size, 0, none⟩ 1 1 [.int .u32 (c : Int)] rfl rfl (cell_one_new _ _ _) (by simp [Value.oneCell']) (by unfold maxLen; omega) (by omega) (by have := g1.size; simp; omega) ?_; intro v' w5 hown' hgrow _; obtain ⟨g', cap', rfl⟩ := ownsRow_succ hown'; have g5 := gr_added g1 HO1.out hgrow; have HO5 : Hid (w5.ownsRow w.heap.size 22 1 (.slice (some ⟨g', 0, none⟩) (m + 1 + 1) cap') (K ++ [c]).length (u32s (K ++ [c]))) := own_conv' hKm hown'; clear hown' hgrow)
              | (go_at_call 37; refine (HCX.out _).mono ?_; rintro e w6 ⟨rfl, g6⟩))
            go_roundw
            case rel => exact ⟨i + 1, K ++ [c], (K.length : Int), hlt, by go_num, by rw [hKm]; first | rfl | (congr 1; omega) | (congr 1; simp), HS, HKC, by simp; omega, ownsRow_gr HO5.out g6, g5.trans g6⟩
            case measure => simp [intOf]; omega
          · have HS := hid (RS.markB hm HD.out hL ht h0)
            rw [HK.out] at HS
            have h0z : ¬ (cls c : Int) = 0 := by omega
            have h0y : ((cls c : Int) == 0) = false := by rw [beq_eq_false_iff_ne]; exact h0z
            obtain ⟨q, hq⟩ : ∃ q, cls c = q := ⟨_, rfl⟩
            rw [hq] at HCX h0z h0y
            clear hL h0 hq ht
            go_wp2_with (first
              | (go_at_call 60; refine HBL.out.mono ?_; clear HBL; rintro e w1 ⟨rfl, g1'⟩; have g1 := hgk.trans g1'; have hst1 := g1'.cell hst; have HO1 := hid (ownsRow_gr HO.out g1'))
              | (at_builtin; refine wpList_append_own _ rfl _ _ 27 rfl w.heap.size 22 i0 (.int .u32 0) 1 4 Tryd.underlying27 hi hz0 hz1 hz2 rfl (by decide) _ _ _ rfl (HO1.out.alloc _) ⟨w1.heap.size, 0, none⟩ 1 1 [.int .u32 (c : Int)] rfl rfl (cell_one_new _ _ _) (by simp [Value.oneCell']) (by unfold maxLen; omega) (by omega) (by have := g1.size; simp; omega) ?_; intro v' w5 hown' hgrow _; obtain ⟨g', cap', rfl⟩ := ownsRow_succ hown'; have g5 := gr_added g1 HO1.out hgrow; have HO5 : Hid (w5.ownsRow w.heap.size 22 1 (.slice (some ⟨g', 0, none⟩) (m + 1 + 1) cap') (K ++ [c]).length (u32s (K ++ [c]))) := own_conv' hKm hown'; clear hown' hgrow)
              | (go_at_call 37; refine (HCX.out _).mono ?_; rintro e w6 ⟨rfl, g6⟩))
            go_roundw
            case rel => exact ⟨i + 1, K ++ [c], (out.length : Int), hlt, by go_num, rfl, HS, HKC, by simp; omega, ownsRow_gr HO5.out g6, g5.trans g6⟩
            case measure => simp [intOf]; omega
    · have hin' : i = n := by omega
      have hcomp : comp L = K := by
        rcases HR.out with ⟨rfl, hm, hL⟩ | ⟨out, st, M, rfl, rfl, hm, hL⟩
        · rw [hL, List.drop_of_length_le (by rw [HN.out]; omega), comp_nil, List.append_nil]
        · rw [hL, List.drop_of_length_le (by rw [HN.out]; omega), compG_nil]
      have HCM := hid hcomp
      clear hcomp HR
      go_wp2
      go_ret
      exact ⟨_, rfl, by rw [HCM.out]; exact HO.out, hgk⟩
end Go.Proofs.YtgjlneedpbgfpaaDoor

/- slices.Clone; the walk of compose.Compose. -/
namespace Go.Proofs.YtgjlneedpbgfpaaDoor
open Go.RowKit

/-- A slice of numbers that can be cut. -/
def SlC (w : World) (v : Value) (L : List Nat) : Prop := ∃ (ao : Option Addr) (cap : Nat), v = .slice ao L.length cap ∧ L.length ≤ cap ∧ cap ≤ maxLen ∧ ∀ k, k < L.length → ∃ g o, ao = some ⟨g, o, none⟩ ∧ w.cell? ⟨g, o + k, none⟩ = some (.int .u32 ((L.getD k 0 : Nat) : Int))
theorem SlC.gr {w w' : World} {v : Value} {L : List Nat} (h : SlC w v L) (g : Gr w w') : SlC w' v L := by
  obtain ⟨ao, cap, h1, h0, hm, h2⟩ := h
  exact ⟨ao, cap, h1, h0, hm, fun k hk => by obtain ⟨b, o, h3, h4⟩ := h2 k hk; exact ⟨b, o, h3, g.cell h4⟩⟩
def cutA (cap g o : Nat) : Option Addr := if cap = 1 then some ⟨g, o, none⟩ else some ⟨g, o + 1, none⟩
theorem SlC.cut {w : World} {g o n cap : Nat} {x : Nat} {L : List Nat} (h : SlC w (.slice (some ⟨g, o, none⟩) (n + 1) cap) (x :: L)) : SlC w (.slice (cutA cap g o) n (cap - 1)) L := by
  obtain ⟨ao, cap', h1, h0, hm, h2⟩ := h
  injection h1 with e1 e2 e3
  subst e1 e3
  simp only [List.length_cons] at e2 h0 h2
  have hn : n = L.length := by omega
  subst hn
  refine ⟨_, _, rfl, by omega, by omega, fun k hk => ?_⟩
  obtain ⟨g', o', e, hc⟩ := h2 (k + 1) (by omega)
  injection e with e; injection e with e1 e2
  subst e1 e2
  rw [cutA, if_neg (by omega)]
  refine ⟨g, o + 1, rfl, ?_⟩
  rw [show o + 1 + k = o + (k + 1) by omega, hc]
  simp [List.getD]
theorem SlC.head {w : World} {v : Value} {x : Nat} {L : List Nat} (h : SlC w v (x :: L)) : ∃ g o cap, v = .slice (some ⟨g, o, none⟩) (L.length + 1) cap ∧ w.cell? ⟨g, o, none⟩ = some (.int .u32 (x : Int)) ∧ L.length + 1 ≤ cap ∧ cap ≤ maxLen := by
  obtain ⟨ao, cap, h1, h0, hm, h2⟩ := h
  obtain ⟨g, o, rfl, hc⟩ := h2 0 (by simp)
  exact ⟨g, o, cap, h1, by simpa [List.getD] using hc, by simpa using h0, hm⟩
theorem SlC.nil_ {w : World} {v : Value} (h : SlC w v []) : ∃ ao cap, v = .slice ao 0 cap := by
  obtain ⟨ao, cap, h1, _⟩ := h
  exact ⟨ao, cap, h1⟩
theorem SlC.of_row {w : World} {base : Nat} {v : Value} {L : List Nat} (h : w.ownsRow base 22 1 v L.length (u32s L)) : SlC w v L := by
  rcases h.2 with ⟨h1, h2⟩ | ⟨g, cap, cur, h1, _, _, hnc, hcm, _⟩
  · exact ⟨none, 0, by rw [h1, h2], by omega, by omega, fun k hk => by omega⟩
  · subst h1
    exact ⟨_, cap, rfl, hnc, hcm, fun k hk => ⟨g, 0, rfl, by rw [Nat.zero_add]; exact row_cell h k hk⟩⟩

set_option maxRecDepth 20000 in
theorem isnil_sl (v : Option Addr) (n c : Nat) (W : World) : Sem.run Tryd.prog (binOp BinOp.eql 27 (.slice v n c) (.slice none 0 0)) W = .ok (.bool v.isNone) W :=
  Lib.run_eql_slice_nil W _ 22 v n c 0 0 rfl

set_option maxHeartbeats 2000000 in
set_option maxRecDepth 20000 in
theorem Clone_any (v : Value) (L : List Nat) (w : World) (hv : Sl w v L) (hl : L.length ≤ 1000000) : Calls Tryd.prog 59 #[v] w fun e w' => (∃ v', e = .returned v' ∧ SlC w' v' L) ∧ Gr w w' := by
  have S0 := hid hv
  obtain ⟨ao, ca, rfl, h0, hA⟩ := hv
  cases ao with
  | none =>
    have hL : L = [] := List.eq_nil_of_length_eq_zero (by
      rcases Nat.eq_zero_or_pos L.length with h | h
      · exact h
      · obtain ⟨g, o, e, _⟩ := hA 0 h; cases e)
    subst hL
    have hc := h0 rfl
    subst hc
    clear S0 hA h0 hl
    have hq : ∀ W, Sem.run Tryd.prog (binOp BinOp.eql 27 (.slice none 0 0) (.slice none 0 0)) W = .ok (.bool true) W := fun W => isnil_sl none 0 0 W
    go_enter Tryd.func59, Tryd.ntmps59
    go_wp2
    go_ret
    exact ⟨⟨_, rfl, none, 0, rfl, Nat.le_refl _, by unfold maxLen; omega, fun k hk => by simp at hk⟩, Gr.refl _⟩
  | some a =>
    clear hA h0
    have hq : ∀ W, Sem.run Tryd.prog (binOp BinOp.eql 27 (.slice (some a) L.length ca) (.slice none 0 0)) W = .ok (.bool false) W := fun W => isnil_sl (some a) _ _ W
    go_enter Tryd.func59, Tryd.ntmps59
    go_wp2_with (at_builtin; refine wpList_copy_sl rfl _ _ rfl L rfl _ rfl S0.out hl ?_; intro vi wi hvi gi; have HVI := hid (SlC.of_row hvi); clear hvi)
    go_ret
    exact ⟨⟨vi, rfl, HVI.out⟩, gi⟩

theorem cut_run (g o m cap : Nat) (W : World) : (Instr.slice 27 (.slice (some ⟨g, o, none⟩) (m + 1) cap) (some (.int .i64 1)) none none).run Tryd.prog W = .ok (.slice (cutA cap g o) m (cap - 1)) W := by
  rw [run_slice_l (P := Tryd.prog) W 27 (some ⟨g, o, none⟩) (m + 1) cap (by kernel_rfl) .i64 1 (by omega) (by omega)]
  have h : (sizeOf (Tryd.prog.elem 27)).run Tryd.prog W = .ok 1 W := by kernel_rfl
  rw [h]
  by_cases hc : cap = 1
  · subst hc; rfl
  · have hc1 : ¬ cap = Int.toNat 1 := hc
    simp only [Result.andThen, sliced, cutA]
    rw [if_neg hc, if_neg hc1]
    rfl
theorem cutAt_run (g o m cap : Nat) (W : World) : (Instr.sliceAt 27 (.slice (some ⟨g, o, none⟩) (m + 1) cap) (some (.int .i64 1)) none none).run Tryd.prog W = .ok (.slice (cutA cap g o) m (cap - 1)) W := by
  rw [run_sliceAt_slice (P := Tryd.prog) W 27 _ _ _ _ (by kernel_rfl)]
  exact cut_run g o m cap W

def slLen : Value → Nat | .slice _ n _ => n | _ => 0
theorem blocks_ne {W wr : World} {b e1 e2 z1 z2 k1 k2 : Nat} {v5 v3 : Value} {x5 x3 : List Value} (h5 : W.ownsRow wr.heap.size e1 z1 v5 k1 x5) (h3 : wr.ownsRow b e2 z2 v3 k2 x3) : v5.ownBlock = none ∨ v5.ownBlock ≠ v3.ownBlock := by
  cases e : v5.ownBlock with
  | none => exact .inl rfl
  | some k =>
    right; intro h
    have h1 := (h5.lt k e).1
    have h2 := (h3.lt k h.symm).2
    omega
theorem step_append_own {P : Program} {ops : Array Oper} {o : Oper} {a : Act} {w : World} {K : Act → World → Prop} {Q : Exit → Act → World → Prop} {E : Prop}
    (hg : o.guard = none) (s x : Operand) (t : TypeId) (hop : o.op = Op.call { callee := Callee.builtin Builtin.append, args := #[s, x], argTypes := #[t, t] })
    (base : Nat) (e : TypeId) (i : TypeInfo) (z : Value) (size bytes : Nat) (h1 : P.underlying t = some (.slice e)) (h2 : P.info? e = some i) (h3 : i.zero = some z) (h4 : i.size = size) (h5 : i.bytes = bytes) (h6 : z.cells.size = size) (h7 : 0 < size)
    (v : Value) (n : Nat) (xs : List Value) (hs : a.eval s = v) (hown : w.ownsRow base e size v n xs)
    (ad : Addr) (m c : Nat) (news : List Value) (hx : a.eval x = .slice (some ad) m c) (hl : news.length = m * size) (hnews : ∀ j u, news[j]? = some u → w.cell? (ad.add j) = some u) (h1c : ∀ u ∈ news, u.oneCell' = true)
    (h63 : n + m ≤ maxLen) (hbytes : (n + m) * bytes ≤ 140737488355328) (hbase : base ≤ w.heap.size)
    (hK : ∀ v' w', w'.ownsRow base e size v' (n + m) (xs ++ news) → w.grownBy w' v.ownBlock → K (a.put o.dst v') w') :
    if Region.wanted o (yielded ops a.tmps) = true then Oper.wp P o a w K Q else E := by
  rw [if_pos (by simp [Region.wanted, hg])]
  exact wp_append_own w s x t hop base e i z size bytes h1 h2 h3 h4 h5 h6 h7 v n xs hs hown ad m c news hx hl hnews h1c h63 hbytes hbase fun v' w' k1 k2 _ => hK v' w' k1 k2
theorem twoV_shape (a b : Nat) : ∃ (y : Nat) (r : Bool), twoV a b = .tuple #[.int .u32 (y : Int), .bool r] := by
  cases h : two a b with
  | none => exact ⟨0, false, twoV_none h⟩
  | some y => exact ⟨y, true, twoV_some h⟩
/-- The state at a loop's head: what is left, what is out. -/
def CP (F : List Nat) (n : Nat) (w1 : World) (s0 s3 : Value) (T O : List Nat) (wx : World) : Prop :=
  Hid (SlC w1 s0 T) ∧ Hid (wx.ownsRow w1.heap.size 22 1 s3 O.length (u32s O)) ∧ Hid (O ++ comp T = F) ∧ Hid (O.length + T.length ≤ n) ∧ Hid (∀ x ∈ T, x < 4294967296) ∧ Gr w1 wx

/-- The state at the inner loop's head: the starter, its marks. -/
def CQ (F : List Nat) (n : Nat) (w1 wo : World) (s0 s3 s5 : Value) (st : Nat) (U M O : List Nat) (wx : World) : Prop :=
  Hid (SlC w1 s0 U) ∧ Hid (wo.ownsRow w1.heap.size 22 1 s3 O.length (u32s O)) ∧ Hid (wx.ownsRow wo.heap.size 22 1 s5 M.length (u32s M)) ∧ Hid (O ++ compG U st M (lastC M) = F) ∧ Hid (O.length + 1 + M.length + U.length ≤ n) ∧ Hid (∀ x ∈ U, x < 4294967296) ∧ st < 4294967296 ∧ Gr w1 wo ∧ Gr wo wx

set_option maxRecDepth 20000 in
set_option maxHeartbeats 4000000 in
theorem Compose_any (v : Value) (L : List Nat) (w : World) (ht : Tz w) (hv : Sl w v L) (hb : ∀ x ∈ L, x < 4294967296) (hl : L.length ≤ 100000) : Calls Tryd.prog 26 #[v] w (RowOf (comp L) w) := by
  have HCl := hid (Clone_any v L w hv (by omega))
  obtain ⟨F, hF⟩ : ∃ F, comp L = F := ⟨_, rfl⟩
  rw [hF]
  have HF := hid hF
  have HB := hid hb
  obtain ⟨n, hn⟩ : ∃ n, L.length = n := ⟨_, rfl⟩
  have HN := hid hn
  rw [hn] at hl
  clear hF hb hv hn
  obtain ⟨i0, hi, hz0, hz1, hz2⟩ := info_parts info_u32
  go_enter Tryd.func26, Tryd.ntmps26
  go_wp2
  go_step3
  go_upto_block 0 with (go_at_call 59; refine HCl.out.mono ?_; clear HCl; rintro e w1 ⟨⟨v1, rfl, hs1⟩, g1⟩; have HS1 := hid hs1; clear hs1)
  have htw := fun W (k : Gr w1 W) => ht.gr (g1.trans k)
  go_cut [0, 3] (fun s0 s3 wx => ∃ (T O : List Nat), (T = [] ∨ cls (T.headD 0) = 0) ∧ Hid (CP F n w1 s0 s3 T O wx))
  case first =>
    go_wp2_with fail
    go_loopw [0, 3] (fun s0 s3 wr => ∃ (T O : List Nat), Hid (CP F n w1 s0 s3 T O wr)) (fun s0 _ _ => slLen s0)
    case atStart => exact ⟨L, [], HS1, World.ownsRow_nil _ _ _ _, by show _ = _; rw [List.nil_append]; exact HF.out, by show _ ≤ _; rw [HN.out]; simp, HB, Gr.refl _⟩
    case round =>
      obtain ⟨T, O, HC⟩ := hrel
      clear HS1 HF HB HN
      obtain ⟨HT, HO, HE, HL, HX, hg⟩ := HC.out
      cases T with
      | nil =>
        obtain ⟨ao, cap, rfl⟩ := HT.out.nil_
        clear HT HO HE HL HX
        go_wp2_with fail
        go_meet
        case rel => exact ⟨[], O, .inl rfl, HC⟩
      | cons x t =>
        obtain ⟨g, o, cap, rfl, hc, hcap, hcm⟩ := HT.out.head
        have hc := hg.cell hc
        have hx : x < 4294967296 := HX.out x (by simp)
        have HK := hid (class_any x hx wr (htw _ hg))
        obtain ⟨m, hm⟩ : ∃ m, t.length = m := ⟨_, rfl⟩
        have HM := hid hm
        rw [hm] at HT hcap HC ⊢
        by_cases h0 : cls x = 0
        · have H0 := hid h0
          rw [h0] at HK
          clear HT HO HE HL HX hm hx h0
          go_wp2_with (go_at_call 46; refine HK.out.mono ?_; clear HK; rintro e w2 ⟨rfl, g2⟩)
          go_meet
          case rel =>
            obtain ⟨HT, HO, HE, HL, HX, hg⟩ := HC.out
            exact ⟨x :: t, O, .inr H0.out, HT, ownsRow_gr HO.out g2, HE, HL, HX, hg.trans g2⟩
        · have H0 := hid h0
          have h0z : ¬ (cls x : Int) = 0 := by omega
          have h0y : ((cls x : Int) != 0) = true := by rw [bne_iff_ne]; exact h0z
          obtain ⟨q, hq⟩ : ∃ q, cls x = q := ⟨_, rfl⟩
          rw [hq] at HK h0z h0y
          have hcut := cut_run g o m cap
          have hcut2 := cutAt_run g o m cap
          have HS2 := hid HT.out.cut
          have hOb : O.length ≤ 100000 := by have := HL.out; omega
          have HOb := hid hOb
          clear HT HC hm hx h0 hq hOb
          go_wp2_with (first
            | (go_at_call 46; refine HK.out.mono ?_; clear HK; rintro e w2 ⟨rfl, g2⟩; have HO2 := hid (ownsRow_gr HO.out g2); have hc2 := g2.cell hc)
            | (at_builtin; go_loud (refine wpList_append_own _ rfl _ _ 27 rfl w1.heap.size 22 i0 (.int .u32 0) 1 4 Tryd.underlying27 hi hz0 hz1 hz2 rfl (by decide) _ _ _ rfl (HO2.out.alloc _) ⟨w2.heap.size, 0, none⟩ 1 1 [.int .u32 (x : Int)] rfl rfl (cell_one_new _ _ _) (by simp [Value.oneCell']) (by have := HOb.out; unfold maxLen; omega) (by have := HOb.out; omega) (by have := g2.size; have := hg.size; simp; omega) ?_; intro v' w5 hown' hgrow _; obtain ⟨g', cap', rfl⟩ := ownsRow_succ hown'; have g5 := gr_added (hg.trans g2) HO2.out hgrow; have HO5 : Hid (w5.ownsRow w1.heap.size 22 1 (.slice (some ⟨g', 0, none⟩) (O.length + 1) cap') (O ++ [x]).length (u32s (O ++ [x]))) := own_conv hown' rfl rfl rfl; clear hown' hgrow)))
          go_roundw
          case rel =>
            refine ⟨t, O ++ [x], HS2, ?_, ?_, ?_, fun y hy => HX.out y (List.mem_cons_of_mem _ hy), g5⟩
            · exact HO5.out
            · show _ = _
              rw [← HE.out, comp_m H0.out, List.append_assoc]; rfl
            · have := HL.out
              show _ ≤ _
              simp at this ⊢; omega
          case measure => simp [slLen]
  case rest =>
    obtain ⟨T, O, hT, HC⟩ := hcut
    clear HS1 HF HB HN
    go_wp2_with fail
    go_step3
    go_wp2_with fail
    go_loopg [0, 3] n (fun gk s0 s3 wr => ∃ (T O : List Nat), T.length ≤ gk ∧ (T = [] ∨ cls (T.headD 0) = 0) ∧ Hid (CP F n w1 s0 s3 T O wr))
    case atStart =>
      refine ⟨T, O, ?_, hT, HC⟩
      obtain ⟨HT, HO, HE, HL, HX, hg⟩ := HC.out
      have := HL.out; omega
    case round =>
      clear HC hT
      obtain ⟨T, O, hTk, hT, HC⟩ := hrel
      obtain ⟨HT, HO, HE, HL, HX, hg⟩ := HC.out
      clear HC
      cases T with
      | nil =>
        obtain ⟨ao, cap, rfl⟩ := HT.out.nil_
        have HR : Hid (O = F) := by have := HE.out; rw [comp_nil, List.append_nil] at this; exact this
        clear HE HT HL HX hT hTk
        go_wp2_with fail
        go_ret
        exact ⟨_, rfl, by rw [← HR.out]; exact HO.out.mono' g1.size, g1.trans hg⟩
      | cons x t =>
        have h0 : cls x = 0 := by simpa using hT
        obtain ⟨g, o, cap, rfl, hc, hcap, hcm⟩ := HT.out.head
        have hc := hg.cell hc
        have hx : x < 4294967296 := HX.out x (by simp)
        have HCE : Hid (O ++ compG t x [] 0 = F) := by show _ = _; rw [← HE.out, comp_s h0]
        have HCX : Hid (∀ y ∈ t, y < 4294967296) := fun y hy => HX.out y (List.mem_cons_of_mem _ hy)
        have HCL : Hid (O.length + 1 + t.length ≤ n) := by have := HL.out; show _ ≤ _; simp at this; omega
        have htk : t.length < gk := by simp at hTk; omega
        obtain ⟨m, hm⟩ : ∃ m, t.length = m := ⟨_, rfl⟩
        have HM := hid hm
        have hcut := cut_run g o m cap
        have hcut2 := cutAt_run g o m cap
        rw [hm] at HT hcap htk ⊢
        have HS2 := hid HT.out.cut
        clear HT HE HL HX hT hTk h0 hm
        go_wp2_with fail
        clear hcut hcut2 hc
        obtain ⟨wo, rfl⟩ : ∃ wo, wo = wr := ⟨wr, rfl⟩
        obtain ⟨vo, rfl⟩ : ∃ vo, vo = u3 := ⟨u3, rfl⟩
        go_loopg [0, 3, 4, 5, 6] m (fun gj s0 s3 s4 s5 s6 wq => ∃ (U M : List Nat) (st : Nat), U.length ≤ gj ∧ U.length ≤ m ∧ s3 = vo ∧ s4 = .int .u32 st ∧ s6 = .int .i64 (lastC M) ∧ Hid (CQ F n w1 wo s0 vo s5 st U M O wq))
        case atStart => exact ⟨t, [], x, by rw [HM.out]; exact Nat.le_refl _, by rw [HM.out]; exact Nat.le_refl _, rfl, rfl, rfl, HS2, HO, World.ownsRow_nil _ _ _ _, HCE, by have := HCL.out; show _ ≤ _; simp; omega, HCX, hx, hg, Gr.refl _⟩
        case round =>
          clear HS2 HCE HCL HCX HM hcap hcm HO hx
          obtain ⟨U, M, st, hU, hUm, rfl, rfl, rfl, HQ⟩ := hrel
          obtain ⟨HT, HOO, HMM, HE, HL, HX, hst, hgo, hgq⟩ := HQ.out
          clear HQ
          have hgk := hgo.trans hgq
          have HOb : Hid (O.length + 1 + M.length ≤ 100000) := by have := HL.out; show _ ≤ _; omega
          cases U with
          | nil =>
            obtain ⟨ao, cap, rfl⟩ := HT.out.nil_
            have HMW := HMM
            have HOW := hid (ownsRow_gr HOO.out hgq)
            have gWZ := hgk
            have HE2 : Hid (O ++ [st] ++ M ++ comp [] = F) := by show _ = _; rw [← HE.out, compG_nil, comp_nil]; simp
            go_wp2_with (first
              | (at_builtin; refine wpList_append_own _ rfl _ _ 27 rfl w1.heap.size 22 i0 (.int .u32 0) 1 4 Tryd.underlying27 hi hz0 hz1 hz2 rfl (by decide) _ _ _ rfl (HOW.out.alloc _) ⟨_, 0, none⟩ 1 1 [.int .u32 (st : Int)] rfl rfl (cell_one_new _ _ _) (by simp [Value.oneCell']) (by have := HOb.out; unfold maxLen; omega) (by have := HOb.out; omega) (by have := gWZ.size; simp; omega) ?_; intro v5 w5 hown' hgrow _; have HM5 := hid (Sl.of_row ((HMW.out.alloc _).kept hgrow (blocks_ne HMW.out HOO.out))); have g5 := gr_added gWZ HOW.out hgrow; have HO5 : Hid (w5.ownsRow w1.heap.size 22 1 v5 (O ++ [st]).length (u32s (O ++ [st]))) := own_conv hown' rfl rfl rfl; clear hown' hgrow)
              | (at_builtin; refine wpList_append_sl rfl _ _ rfl w1.heap.size _ (O ++ [st]) M rfl HO5.out _ rfl HM5.out (by have := HOb.out; simp at this ⊢; omega) g5.size ?_; intro v6 w6 hown6 hgrow6; have HO6 := hid hown6; have g6 := gr_add2 g5 HO5.out hgrow6; clear hown6 hgrow6))
            go_roundg 0
            case rel => exact ⟨[], O ++ [st] ++ M, Nat.zero_le _, .inl rfl, HT, HO6, HE2, by have := HL.out; show _ ≤ _; simp at this ⊢; omega, HX, g6⟩
            case measure => omega
          | cons c u =>
            obtain ⟨g, o, cap, rfl, hc, hcap, hcm⟩ := HT.out.head
            have hc := hgk.cell hc
            have hcx : c < 4294967296 := HX.out c (by simp)
            have HK := class_any c hcx wr (htw _ hgk)
            have hcut := cut_run g o u.length cap
            have hcut2 := cutAt_run g o u.length cap
            have HS2 := hid HT.out.cut
            have hT := fun W (k : Gr w1 W) => two_any st c hst hcx W (htw _ k)
            have HUX : Hid (∀ y ∈ u, y < 4294967296) := fun y hy => HX.out y (List.mem_cons_of_mem _ hy)
            obtain ⟨a5, c5, rfl⟩ := row_shape HMM.out
            obtain ⟨q, hq⟩ : ∃ q, cls c = q := ⟨_, rfl⟩
            have HQc := hid hq
            rw [hq] at HK
            have HK := hid HK
            obtain ⟨la, hla⟩ : ∃ la, lastC M = la := ⟨_, rfl⟩
            have HLA := hid hla
            rw [hla] at HE ⊢
            clear hcx hq hla
            go_upto_region 13 with (go_at_call 46; refine HK.out.mono ?_; clear HK; rintro e w2 ⟨rfl, g2⟩; have g2k := hgk.trans g2; have hc2 := g2.cell hc)
            go_cut [8] from 39 to 89 (fun s8 wx => s8 = .bool (opn M la q) ∧ wx = w2)
            case first => as_aux_lemma =>
              clear hT hcut hcut2
              by_cases hm0 : M.length = 0
              · have ho : opn M la q = true := by
                  have : M = [] := List.eq_nil_of_length_eq_zero (by omega)
                  subst this; rfl
                have e1 : (M.length : Int) = 0 := by omega
                have e2 : ((M.length : Int) == 0) = true := by rw [e1]; rfl
                have HO := hid ho
                clear hm0 ho
                go_wp2_with fail
                go_meet
                case rel => exact ⟨by rw [HO.out], rfl⟩
              · have hM : M.isEmpty = false := by cases M with | nil => simp at hm0 | cons a b => rfl
                have e1 : ¬ (M.length : Int) = 0 := by omega
                have e2 : ((M.length : Int) == 0) = false := by rw [beq_eq_false_iff_ne]; exact e1
                by_cases hl0 : la = 0
                · have ho : opn M la q = false := by unfold opn; rw [hM, hl0]; rfl
                  have e3 : (la : Int) = 0 := by omega
                  have e4 : ((la : Int) != 0) = false := by rw [e3]; rfl
                  have HO := hid ho
                  clear hm0 ho hl0 hM
                  go_wp2_with fail
                  go_meet
                  case rel => exact ⟨by rw [HO.out], rfl⟩
                · have e3 : ¬ (la : Int) = 0 := by omega
                  have e4 : ((la : Int) != 0) = true := by rw [bne_iff_ne]; exact e3
                  have hl1 : (la == 0) = false := by rw [beq_eq_false_iff_ne]; exact hl0
                  by_cases hlq : la < q
                  · have ho : opn M la q = true := by unfold opn; rw [hM, hl1, decide_eq_true hlq]; rfl
                    have e5 : (la : Int) < (q : Int) := by omega
                    have HO := hid ho
                    clear hm0 ho hl0 hM hl1 hlq
                    go_wp2_with fail
                    go_meet
                    case rel => exact ⟨by rw [HO.out], rfl⟩
                  · have ho : opn M la q = false := by unfold opn; rw [hM, hl1, decide_eq_false hlq]; rfl
                    have e5 : ¬ (la : Int) < (q : Int) := by omega
                    have HO := hid ho
                    clear hm0 ho hl0 hM hl1 hlq
                    go_wp2_with fail
                    go_meet
                    case rel => exact ⟨by rw [HO.out], rfl⟩
            case rest =>
              obtain ⟨rfl, rfl⟩ := hcut
              obtain ⟨b, hop⟩ : ∃ b, opn M la q = b := ⟨_, rfl⟩
              rw [hop]
              cases b with
              | true =>
                cases h2 : two st c with
                | some y =>
                  rw [twoV_some h2] at hT
                  have hys := (two_of h2).small
                  have HT0 : Hid (tryTwo st M la c = some y) := by show _ = _; unfold tryTwo; rw [HQc.out, hop]; exact h2
                  have HE2 : Hid (O ++ compG u y M (lastC M) = F) := by show _ = _; rw [← HE.out, compG_some HT0.out, HLA.out]
                  have HTW := hid hT
                  clear hT hop h2
                  go_wp2_with (first              | (go_at_call 23; refine (HTW.out _ g2k).mono ?_; clear HTW; rintro e w3 ⟨rfl, g3⟩; have gWZ := g2k.trans g3; have HOW := hid (ownsRow_gr HOO.out ((hgq.trans g2).trans g3)); have HMW := hid (ownsRow_gr HMM.out (g2.trans g3)); have hc3 := g3.cell hc2))
                  go_region
                  all_goals (
                    go_wp2_with fail
                    go_roundg u.length)
                  case rel =>
                    exact ⟨u, M, y, Nat.le_refl _, by simp at hUm; omega, rfl, rfl, by rw [HLA.out], HS2, HOO, ownsRow_gr HMM.out ((g2.trans g3).trans (Gr.drewN _ 1)), HE2, by have := HL.out; show _ ≤ _; simp at this ⊢; omega, HUX, by omega, hgo, ((hgq.trans g2).trans g3).trans (Gr.drewN _ 1)⟩
                  case measure => simp at hU; omega
                | none =>
                  rw [twoV_none h2] at hT
                  have HT0 : Hid (tryTwo st M la c = none) := by show _ = _; unfold tryTwo; rw [HQc.out, hop]; exact h2
                  have HTW := hid hT
                  clear hT hop h2
                  by_cases h0 : cls c = 0
                  · have H0 := hid h0
                    have hqz : q = 0 := by rw [← HQc.out]; exact h0
                    have HE2 : Hid (O ++ [st] ++ M ++ comp (c :: u) = F) := by show _ = _; rw [← HE.out, comp_s h0, ← HLA.out, compG_s (by rw [HLA.out]; exact HT0.out) h0]; simp
                    subst hqz
                    clear h0
                    go_wp2_with (first
                                | (at_builtin; refine wpList_append_own _ rfl _ _ 27 rfl w1.heap.size 22 i0 (.int .u32 0) 1 4 Tryd.underlying27 hi hz0 hz1 hz2 rfl (by decide) _ _ _ rfl (HOW.out.alloc _) ⟨_, 0, none⟩ 1 1 [.int .u32 (st : Int)] rfl rfl (cell_one_new _ _ _) (by simp [Value.oneCell']) (by have := HOb.out; unfold maxLen; omega) (by have := HOb.out; omega) (by have := gWZ.size; simp; omega) ?_; intro v5 w5 hown' hgrow _; have HM5 := hid (Sl.of_row ((HMW.out.alloc _).kept hgrow (blocks_ne HMW.out HOO.out))); have g5 := gr_added gWZ HOW.out hgrow; have HO5 : Hid (w5.ownsRow w1.heap.size 22 1 v5 (O ++ [st]).length (u32s (O ++ [st]))) := own_conv hown' rfl rfl rfl; clear hown' hgrow)
                                | (at_builtin; refine wpList_append_sl rfl _ _ rfl w1.heap.size _ (O ++ [st]) M rfl HO5.out _ rfl HM5.out (by have := HOb.out; simp at this ⊢; omega) g5.size ?_; intro v6 w6 hown6 hgrow6; have HO6 := hid hown6; have g6 := gr_add2 g5 HO5.out hgrow6; clear hown6 hgrow6)
                                | (go_at_call 23; refine (HTW.out _ g2k).mono ?_; clear HTW; rintro e w3 ⟨rfl, g3⟩; have gWZ := g2k.trans g3; have HOW := hid (ownsRow_gr HOO.out ((hgq.trans g2).trans g3)); have HMW := hid (ownsRow_gr HMM.out (g2.trans g3)); have hc3 := g3.cell hc2))
                    go_roundg (u.length + 1)
                    case rel => exact ⟨c :: u, O ++ [st] ++ M, Nat.le_refl _, .inr H0.out, HT, HO6, HE2, by have := HL.out; show _ ≤ _; simp at this ⊢; omega, HX, g6⟩
                    case measure => simp at hUm; omega
                  · have hqz : ¬ (q : Int) = 0 := by rw [HQc.out] at h0; omega
                    have hqy : ((q : Int) == 0) = false := by rw [beq_eq_false_iff_ne]; exact hqz
                    have HE2 : Hid (O ++ compG u st (M ++ [c]) (lastC (M ++ [c])) = F) := by show _ = _; rw [← HE.out, ← HLA.out, compG_m (by rw [HLA.out]; exact HT0.out) h0, lastC_snoc]
                    have HQL : Hid (lastC (M ++ [c]) = q) := by show _ = _; rw [lastC_snoc]; exact HQc.out
                    clear h0
                    go_wp2_with (first | (go_at_call 23; refine (HTW.out _ g2k).mono ?_; clear HTW; rintro e w3 ⟨rfl, g3⟩; have gWZ := g2k.trans g3; have HOW := hid (ownsRow_gr HOO.out ((hgq.trans g2).trans g3)); have HMW := hid (ownsRow_gr HMM.out (g2.trans g3)); have hc3 := g3.cell hc2))
                    go_region_law ((refine step_append_own rfl _ _ 27 rfl wo.heap.size 22 i0 (.int .u32 0) 1 4 Tryd.underlying27 hi hz0 hz1 hz2 rfl (by decide) (.slice a5 M.length c5) _ _ (by simp [Act.eval]) (HMW.out.alloc _) ⟨_, 0, none⟩ 1 1 [.int .u32 (c : Int)] (by simp [Act.eval]) rfl (cell_one_new _ _ _) (by simp [Value.oneCell']) (by have := HOb.out; unfold maxLen; omega) (by have := HOb.out; omega) (by have := (hgq.trans g2).size; have := g3.size; simp; omega) ?_; intro v' w5 hown' hgrow; obtain ⟨g', cap', rfl⟩ := ownsRow_succ hown'; have g5 := gr_added (((hgq.trans g2).trans g3).trans (Gr.drewN _ 1)) HMW.out hgrow; have HM5 : Hid (w5.ownsRow wo.heap.size 22 1 (.slice (some ⟨g', 0, none⟩) (M.length + 1) cap') (M ++ [c]).length (u32s (M ++ [c]))) := own_conv hown' rfl rfl rfl; clear hown' hgrow))
                    all_goals (
                      go_wp2_with fail
                      go_roundg u.length)
                    case rel => exact ⟨u, M ++ [c], st, Nat.le_refl _, by simp at hUm; omega, rfl, rfl, by rw [HQL.out], HS2, HOO, HM5, HE2, by have := HL.out; show _ ≤ _; simp at this ⊢; omega, HUX, hst, hgo, g5⟩
                    case measure => simp at hU; omega
              | false =>
                have HT0 : Hid (tryTwo st M la c = none) := by show _ = _; unfold tryTwo; rw [HQc.out, hop]; rfl
                obtain ⟨y, r, hy⟩ := twoV_shape st c
                rw [hy] at hT
                have HTW := hid hT
                clear hT hop hy
                cases r with
                | true =>
                  by_cases h0 : cls c = 0
                  · have H0 := hid h0
                    have hqz : q = 0 := by rw [← HQc.out]; exact h0
                    have HE2 : Hid (O ++ [st] ++ M ++ comp (c :: u) = F) := by show _ = _; rw [← HE.out, comp_s h0, ← HLA.out, compG_s (by rw [HLA.out]; exact HT0.out) h0]; simp
                    subst hqz
                    clear h0
                    go_wp2_with (first
                                | (at_builtin; refine wpList_append_own _ rfl _ _ 27 rfl w1.heap.size 22 i0 (.int .u32 0) 1 4 Tryd.underlying27 hi hz0 hz1 hz2 rfl (by decide) _ _ _ rfl (HOW.out.alloc _) ⟨_, 0, none⟩ 1 1 [.int .u32 (st : Int)] rfl rfl (cell_one_new _ _ _) (by simp [Value.oneCell']) (by have := HOb.out; unfold maxLen; omega) (by have := HOb.out; omega) (by have := gWZ.size; simp; omega) ?_; intro v5 w5 hown' hgrow _; have HM5 := hid (Sl.of_row ((HMW.out.alloc _).kept hgrow (blocks_ne HMW.out HOO.out))); have g5 := gr_added gWZ HOW.out hgrow; have HO5 : Hid (w5.ownsRow w1.heap.size 22 1 v5 (O ++ [st]).length (u32s (O ++ [st]))) := own_conv hown' rfl rfl rfl; clear hown' hgrow)
                                | (at_builtin; refine wpList_append_sl rfl _ _ rfl w1.heap.size _ (O ++ [st]) M rfl HO5.out _ rfl HM5.out (by have := HOb.out; simp at this ⊢; omega) g5.size ?_; intro v6 w6 hown6 hgrow6; have HO6 := hid hown6; have g6 := gr_add2 g5 HO5.out hgrow6; clear hown6 hgrow6)
                                | (go_at_call 23; refine (HTW.out _ g2k).mono ?_; clear HTW; rintro e w3 ⟨rfl, g3⟩; have gWZ := g2k.trans g3; have HOW := hid (ownsRow_gr HOO.out ((hgq.trans g2).trans g3)); have HMW := hid (ownsRow_gr HMM.out (g2.trans g3)); have hc3 := g3.cell hc2))
                    go_roundg (u.length + 1)
                    case rel => exact ⟨c :: u, O ++ [st] ++ M, Nat.le_refl _, .inr H0.out, HT, HO6, HE2, by have := HL.out; show _ ≤ _; simp at this ⊢; omega, HX, g6⟩
                    case measure => simp at hUm; omega
                  · have hqz : ¬ (q : Int) = 0 := by rw [HQc.out] at h0; omega
                    have hqy : ((q : Int) == 0) = false := by rw [beq_eq_false_iff_ne]; exact hqz
                    have HE2 : Hid (O ++ compG u st (M ++ [c]) (lastC (M ++ [c])) = F) := by show _ = _; rw [← HE.out, ← HLA.out, compG_m (by rw [HLA.out]; exact HT0.out) h0, lastC_snoc]
                    have HQL : Hid (lastC (M ++ [c]) = q) := by show _ = _; rw [lastC_snoc]; exact HQc.out
                    clear h0
                    go_wp2_with (first | (go_at_call 23; refine (HTW.out _ g2k).mono ?_; clear HTW; rintro e w3 ⟨rfl, g3⟩; have gWZ := g2k.trans g3; have HOW := hid (ownsRow_gr HOO.out ((hgq.trans g2).trans g3)); have HMW := hid (ownsRow_gr HMM.out (g2.trans g3)); have hc3 := g3.cell hc2))
                    go_region_law ((refine step_append_own rfl _ _ 27 rfl wo.heap.size 22 i0 (.int .u32 0) 1 4 Tryd.underlying27 hi hz0 hz1 hz2 rfl (by decide) (.slice a5 M.length c5) _ _ (by simp [Act.eval]) (HMW.out.alloc _) ⟨_, 0, none⟩ 1 1 [.int .u32 (c : Int)] (by simp [Act.eval]) rfl (cell_one_new _ _ _) (by simp [Value.oneCell']) (by have := HOb.out; unfold maxLen; omega) (by have := HOb.out; omega) (by have := (hgq.trans g2).size; have := g3.size; simp; omega) ?_; intro v' w5 hown' hgrow; obtain ⟨g', cap', rfl⟩ := ownsRow_succ hown'; have g5 := gr_added (((hgq.trans g2).trans g3).trans (Gr.drewN _ 1)) HMW.out hgrow; have HM5 : Hid (w5.ownsRow wo.heap.size 22 1 (.slice (some ⟨g', 0, none⟩) (M.length + 1) cap') (M ++ [c]).length (u32s (M ++ [c]))) := own_conv hown' rfl rfl rfl; clear hown' hgrow))
                    all_goals (
                      go_wp2_with fail
                      go_roundg u.length)
                    case rel => exact ⟨u, M ++ [c], st, Nat.le_refl _, by simp at hUm; omega, rfl, rfl, by rw [HQL.out], HS2, HOO, HM5, HE2, by have := HL.out; show _ ≤ _; simp at this ⊢; omega, HUX, hst, hgo, g5⟩
                    case measure => simp at hU; omega
                | false =>
                  by_cases h0 : cls c = 0
                  · have H0 := hid h0
                    have hqz : q = 0 := by rw [← HQc.out]; exact h0
                    have HE2 : Hid (O ++ [st] ++ M ++ comp (c :: u) = F) := by show _ = _; rw [← HE.out, comp_s h0, ← HLA.out, compG_s (by rw [HLA.out]; exact HT0.out) h0]; simp
                    subst hqz
                    clear h0
                    go_wp2_with (first
                                | (at_builtin; refine wpList_append_own _ rfl _ _ 27 rfl w1.heap.size 22 i0 (.int .u32 0) 1 4 Tryd.underlying27 hi hz0 hz1 hz2 rfl (by decide) _ _ _ rfl (HOW.out.alloc _) ⟨_, 0, none⟩ 1 1 [.int .u32 (st : Int)] rfl rfl (cell_one_new _ _ _) (by simp [Value.oneCell']) (by have := HOb.out; unfold maxLen; omega) (by have := HOb.out; omega) (by have := gWZ.size; simp; omega) ?_; intro v5 w5 hown' hgrow _; have HM5 := hid (Sl.of_row ((HMW.out.alloc _).kept hgrow (blocks_ne HMW.out HOO.out))); have g5 := gr_added gWZ HOW.out hgrow; have HO5 : Hid (w5.ownsRow w1.heap.size 22 1 v5 (O ++ [st]).length (u32s (O ++ [st]))) := own_conv hown' rfl rfl rfl; clear hown' hgrow)
                                | (at_builtin; refine wpList_append_sl rfl _ _ rfl w1.heap.size _ (O ++ [st]) M rfl HO5.out _ rfl HM5.out (by have := HOb.out; simp at this ⊢; omega) g5.size ?_; intro v6 w6 hown6 hgrow6; have HO6 := hid hown6; have g6 := gr_add2 g5 HO5.out hgrow6; clear hown6 hgrow6)
                                | (go_at_call 23; refine (HTW.out _ g2k).mono ?_; clear HTW; rintro e w3 ⟨rfl, g3⟩; have gWZ := g2k.trans g3; have HOW := hid (ownsRow_gr HOO.out ((hgq.trans g2).trans g3)); have HMW := hid (ownsRow_gr HMM.out (g2.trans g3)); have hc3 := g3.cell hc2))
                    go_roundg (u.length + 1)
                    case rel => exact ⟨c :: u, O ++ [st] ++ M, Nat.le_refl _, .inr H0.out, HT, HO6, HE2, by have := HL.out; show _ ≤ _; simp at this ⊢; omega, HX, g6⟩
                    case measure => simp at hUm; omega
                  · have hqz : ¬ (q : Int) = 0 := by rw [HQc.out] at h0; omega
                    have hqy : ((q : Int) == 0) = false := by rw [beq_eq_false_iff_ne]; exact hqz
                    have HE2 : Hid (O ++ compG u st (M ++ [c]) (lastC (M ++ [c])) = F) := by show _ = _; rw [← HE.out, ← HLA.out, compG_m (by rw [HLA.out]; exact HT0.out) h0, lastC_snoc]
                    have HQL : Hid (lastC (M ++ [c]) = q) := by show _ = _; rw [lastC_snoc]; exact HQc.out
                    clear h0
                    go_wp2_with (first | (go_at_call 23; refine (HTW.out _ g2k).mono ?_; clear HTW; rintro e w3 ⟨rfl, g3⟩; have gWZ := g2k.trans g3; have HOW := hid (ownsRow_gr HOO.out ((hgq.trans g2).trans g3)); have HMW := hid (ownsRow_gr HMM.out (g2.trans g3)); have hc3 := g3.cell hc2))
                    go_region_law ((refine step_append_own rfl _ _ 27 rfl wo.heap.size 22 i0 (.int .u32 0) 1 4 Tryd.underlying27 hi hz0 hz1 hz2 rfl (by decide) (.slice a5 M.length c5) _ _ (by simp [Act.eval]) (HMW.out.alloc _) ⟨_, 0, none⟩ 1 1 [.int .u32 (c : Int)] (by simp [Act.eval]) rfl (cell_one_new _ _ _) (by simp [Value.oneCell']) (by have := HOb.out; unfold maxLen; omega) (by have := HOb.out; omega) (by have := (hgq.trans g2).size; have := g3.size; simp; omega) ?_; intro v' w5 hown' hgrow; obtain ⟨g', cap', rfl⟩ := ownsRow_succ hown'; have g5 := gr_added (((hgq.trans g2).trans g3).trans (Gr.drewN _ 1)) HMW.out hgrow; have HM5 : Hid (w5.ownsRow wo.heap.size 22 1 (.slice (some ⟨g', 0, none⟩) (M.length + 1) cap') (M ++ [c]).length (u32s (M ++ [c]))) := own_conv hown' rfl rfl rfl; clear hown' hgrow))
                    all_goals (
                      go_wp2_with fail
                      go_roundg u.length)
                    case rel => exact ⟨u, M ++ [c], st, Nat.le_refl _, by simp at hUm; omega, rfl, rfl, by rw [HQL.out], HS2, HOO, HM5, HE2, by have := HL.out; show _ ≤ _; simp at this ⊢; omega, HUX, hst, hgo, g5⟩
                    case measure => simp at hU; omega
end Go.Proofs.YtgjlneedpbgfpaaDoor

/- What is told of some lists put together: gessolaw07.awake. -/
namespace Go.Proofs.YtgjlneedpbgfpaaDoor
open Go.RowKit

theorem awake7_f : comp [101, 769] = [233] ∧ comp [4352, 4449, 4520] = [44033] ∧ comp [101, 789, 769] = [101, 789, 769] := by decide +kernel

theorem comp_lit (W : World) (t : Tz W) (L M : List Nat) (n : Nat) (cs : Array Value) (hn : n = L.length) (hc : cs.toList = u32s L) (hs : L.all (fun x => Nat.blt x 4294967296) = true) (hl : L.length ≤ 100000) (he : comp L = M) :
    Calls Tryd.prog 26 #[.slice (some ⟨W.heap.size, 0, none⟩) n n] (W.alloc (.cells cs 22)) (RowOf M (W.alloc (.cells cs 22))) := by
  subst hn
  have hsz : cs.size = L.length := by rw [← Array.length_toList, hc, u32s_length]
  have hrow : (W.alloc (.cells cs 22)).ownsRow W.heap.size 22 1 (.slice (some ⟨W.heap.size, 0, none⟩) L.length L.length) L.length (u32s L) := by
    have : (W.alloc (.cells cs 22)).ownsRow W.heap.size 22 1 (.slice (some ⟨W.heap.size, 0, none⟩) L.length L.length) L.length cs.toList := World.ownsRow_lit W cs L.length (Nat.le_refl _) (by unfold maxLen; omega) (by omega)
    rw [hc] at this; exact this
  have := Compose_any (.slice (some ⟨W.heap.size, 0, none⟩) L.length L.length) L (W.alloc (.cells cs 22)) (t.gr (Gr.alloc _ _)) (Sl.of_row hrow) (small_of hs) hl
  rw [he] at this
  exact this
theorem same_lit (W : World) (v : Value) (M : List Nat) (hv : Sl W v M) (n : Nat) (cs : Array Value) (hn : n = M.length) (hc : cs.toList = u32s M) (hl : M.length ≤ 100000) :
    Calls Tryd.prog 27 #[v, .slice (some ⟨W.heap.size, 0, none⟩) n n] (W.alloc (.cells cs 22)) fun e w' => e = .returned (.bool true) ∧ Gr (W.alloc (.cells cs 22)) w' := by
  subst hn
  have hsz : cs.size = M.length := by rw [← Array.length_toList, hc, u32s_length]
  have hrow : (W.alloc (.cells cs 22)).ownsRow W.heap.size 22 1 (.slice (some ⟨W.heap.size, 0, none⟩) M.length M.length) M.length (u32s M) := by
    have : (W.alloc (.cells cs 22)).ownsRow W.heap.size 22 1 (.slice (some ⟨W.heap.size, 0, none⟩) M.length M.length) M.length cs.toList := World.ownsRow_lit W cs M.length (Nat.le_refl _) (by unfold maxLen; omega) (by omega)
    rw [hc] at this; exact this
  exact (same_any v _ M M (W.alloc (.cells cs 22)) (hv.gr (Gr.alloc _ _)) (Sl.of_row hrow) (by omega)).mono fun e w' h => ⟨by rw [h.1]; simp, h.2⟩

set_option maxRecDepth 20000 in
set_option maxHeartbeats 4000000 in
theorem awake7_any (w : World) (ht : Tz w) : Calls Tryd.prog 25 #[] w fun e w' => e = .returned (.bool true) ∧ Gr w w' := by
  obtain ⟨f1, f2, f3⟩ := awake7_f
  have H1 := hid (fun W (t : Tz W) => comp_lit W t [101, 769] [233] 2 #[.int .u32 101, .int .u32 769] rfl rfl rfl (by simp) f1)
  have H2 := hid (fun W (t : Tz W) => comp_lit W t [4352, 4449, 4520] [44033] 3 #[.int .u32 4352, .int .u32 4449, .int .u32 4520] rfl rfl rfl (by simp) f2)
  have H3 := hid (fun W (t : Tz W) => comp_lit W t [101, 789, 769] [101, 789, 769] 3 #[.int .u32 101, .int .u32 789, .int .u32 769] rfl rfl rfl (by simp) f3)
  have E1 := hid (fun W v (s : Sl W v [233]) => same_lit W v [233] s 1 #[.int .u32 233] rfl rfl (by simp))
  have E2 := hid (fun W v (s : Sl W v [44033]) => same_lit W v [44033] s 1 #[.int .u32 44033] rfl rfl (by simp))
  have E3 := hid (fun W v (s : Sl W v [101, 789, 769]) => same_lit W v [101, 789, 769] s 3 #[.int .u32 101, .int .u32 789, .int .u32 769] rfl rfl (by simp))
  clear f1 f2 f3
  go_enter Tryd.func25, Tryd.ntmps25
  go_wp2_with (first
    | (go_at_call 26; ((with_reducible refine (H1.out w ht).mono ?_); rintro e w1 ⟨v1, rfl, hv1, g1'⟩; have g1 := (Gr.alloc w _).trans g1'; have HV1 := hid (Sl.of_row hv1); clear H1 hv1))
    | (go_at_call 27; ((with_reducible refine (E1.out w1 v1 HV1.out).mono ?_); clear E1; rintro e w2 ⟨rfl, g2'⟩; have g2 := (g1.trans (Gr.alloc _ _)).trans g2'))
    | (go_at_call 26; ((with_reducible refine (H2.out w2 (ht.gr g2)).mono ?_); rintro e w3 ⟨v3, rfl, hv3, g3'⟩; have g3 := (g2.trans (Gr.alloc _ _)).trans g3'; have HV3 := hid (Sl.of_row hv3); clear H2 hv3))
    | (go_at_call 27; ((with_reducible refine (E2.out w3 v3 HV3.out).mono ?_); clear E2; rintro e w4 ⟨rfl, g4'⟩; have g4 := (g3.trans (Gr.alloc _ _)).trans g4'))
    | (go_at_call 26; ((with_reducible refine (H3.out w4 (ht.gr g4)).mono ?_); rintro e w5 ⟨v5, rfl, hv5, g5'⟩; have g5 := (g4.trans (Gr.alloc _ _)).trans g5'; have HV5 := hid (Sl.of_row hv5); clear H3 hv5))
    | (go_at_call 27; ((with_reducible refine (E3.out w5 v5 HV5.out).mono ?_); clear E3; rintro e w6 ⟨rfl, g6'⟩; have g6 := (g5.trans (Gr.alloc _ _)).trans g6')))
  go_ret
  exact ⟨rfl, g6⟩
end Go.Proofs.YtgjlneedpbgfpaaDoor

/- What the laws on composing want told of a list's forms. -/
namespace Go.Proofs.YtgjlneedpbgfpaaDoor
open Go.RowKit

theorem comp_small {L : List Nat} (h : ∀ x ∈ L, x < 4294967296) : ∀ x ∈ comp L, x < 4294967296 := fun x hx => by
  rcases comp_mem L x hx with h1 | ⟨a, b, h1⟩
  · exact h x h1
  · have := (two_of h1).small; omega
/-- A list, decomposed (A), put into order (D), composed (C), decomposed again (E). -/
structure NF (L A D C E : List Nat) : Prop where
  full : fullL L = A
  ord : ordL A = D
  comp : Go.Proofs.YtgjlneedpbgfpaaDoor.comp D = C
  full2 : fullL C = E
  ord2 : ordL E = D
  again : Go.Proofs.YtgjlneedpbgfpaaDoor.comp C = C
  sA : ∀ x ∈ A, x < 4294967296
  sD : ∀ x ∈ D, x < 4294967296
  sC : ∀ x ∈ C, x < 4294967296
  sE : ∀ x ∈ E, x < 4294967296
  lA : A.length ≤ 4 * L.length
  lD : D.length = A.length
  lC : C.length ≤ D.length
  lE : E.length ≤ 4 * C.length
theorem NF.of {L : List Nat} (b : ∀ x ∈ L, x < 4294967296) : ∃ A D C E, NF L A D C E := by
  have s1 : ∀ x ∈ fullL L, x < 4294967296 := fun x hx => (fullL_whole b x hx).2
  have s2 : ∀ x ∈ nfd L, x < 4294967296 := fun x hx => s1 x (ordL_mem.1 hx)
  have s3 : ∀ x ∈ nfc L, x < 4294967296 := comp_small s2
  exact ⟨fullL L, nfd L, nfc L, fullL (nfc L), rfl, rfl, rfl, rfl, nfd_nfc L, comp_nfc L, s1, s2, s3, fun x hx => (fullL_whole s3 x hx).2, (fullL_len L).2, ordL_length _, nfc_length L, (fullL_len _).2⟩
theorem starts_cuts {s : Nat} (h : starts s = true) : cls s = 0 ∧ ∀ a, two a s = none := by
  unfold starts at h
  rw [Bool.and_eq_true, Nat.beq_eq, Nat.beq_eq] at h
  exact ⟨h.1, second_two (quick_zero h.2).1⟩
theorem comp_joins {A B : List Nat} {s : Nat} {t : List Nat} (hB : B = s :: t) (h : starts s = true) : comp (A ++ B) = comp A ++ comp B := by
  subst hB
  exact comp_parts (starts_cuts h).1 (starts_cuts h).2 t A
theorem full_same (c : Nat) : decide (comp (full c) = [c]) = (composes c || whole c || isH c) := by
  have h := comp_full c
  have hw := whole_iff c
  rw [← hw] at h
  cases h1 : composes c <;> cases h2 : whole c <;> cases h3 : isH c <;> simp [h1, h2, h3] at h ⊢ <;> exact h
end Go.Proofs.YtgjlneedpbgfpaaDoor
