import Derived.Test.YtlomehhlhbpanaaKD
import Derived.Deep.RegionHeld3
import Derived.Test.YtlomehhlhbpanaaRows
import Derived.WalkKit
import Derived.ProofKit
import Derived.OpenShut
import Derived.ShutString
import Derived.ChangeOld
import Derived.Below
import Derived.SizedLaws
/- A pack of texts: TOrdr, TTreeOrderW, TreeOrder. -/
/- What a tree is, put into order: pure. -/
namespace Go.Proofs.Ytlomehhlhbpanaa
open Go.RowKit Go.Lib Go.Proofs.YtlomehhlhbpanaaW.PrintWords Go.Proofs.YtlomehhlhbpanaaW.PrintLast Go.Proofs.YtlomehhlhbpanaaW.PrintMore Go.Proofs.Ytlomehhlhbpanaa.Prt

theorem cmpL_snoc : ∀ (a : List ByteArray) (x : ByteArray), cmpL a (a ++ [x]) < 0
  | [], x => by simp [cmpL]
  | y :: a, x => by
    rw [List.cons_append, cmpL, if_pos (cmpS_zero.2 rfl)]
    exact cmpL_snoc a x
theorem idx_range {n p : Nat} (hp : p < n) : (List.range n).idxOf p = p := by
  have := (List.nodup_range (n := n)).idxOf_getElem p (by rw [List.length_range]; exact hp)
  rwa [List.getElem_range] at this
theorem check_of {L : List It} (h1 : L.length ≤ 64) (h2 : depB L = true) (h3 : L.all rightB = true) : checkN L ≠ 14 := by
  unfold checkN
  rw [if_neg (by omega), if_neg]
  · split <;> decide
  · rw [h2]
    have : (L.any fun x => !rightB x) = false := by
      rw [List.any_eq_false]
      intro x hx
      simpa using List.all_eq_true.1 h3 x hx
    rw [this]; decide

section
variable {L : List It} (h14 : checkN L ≠ 14)
/-- The item that stands at place k of the order. -/
def oN (L : List It) (k : Nat) : Nat := (oL L).getD k 0
theorem oN_get {k : Nat} (hk : k < L.length) : (oL L)[k]? = some (oN L k) := by
  have : k < (oL L).length := by rw [oL_len]; exact hk
  rw [oN, List.getD_eq_getElem?_getD, List.getElem?_eq_getElem this]; rfl
theorem oN_lt {k : Nat} (hk : k < L.length) : oN L k < L.length := oL_mem.1 (List.mem_of_getElem? (oN_get hk))
theorem oN_inj {j k : Nat} (hj : j < L.length) (hk : k < L.length) (h : oN L j = oN L k) : j = k := by
  have h1 := oN_get hj; have h2 := oN_get hk
  rw [h] at h1
  exact (List.getElem?_inj (by rw [oL_len]; exact hj) (oL_nodup L)).1 (h1.trans h2.symm)
theorem oN_idx {p : Nat} (hp : p < L.length) : oN L ((oL L).idxOf p) = p := by
  have := idx_at hp rfl
  rw [oN_get (idx_lt hp)] at this
  exact Option.some.inj this
theorem idx_oN {k : Nat} (hk : k < L.length) : (oL L).idxOf (oN L k) = k :=
  oN_inj (idx_lt (oN_lt hk)) hk (oN_idx (oN_lt hk))
theorem sortL_at {k : Nat} (hk : k < L.length) : itA (sortL L) (k : Int) = itS L (oN L k) := by
  rw [itA_get (by rw [sortL_len]; exact hk)]
  have h1 : (sortL L)[k]? = some (itS L (oN L k)) := by
    unfold sortL
    rw [List.getElem?_map, oN_get hk]; rfl
  exact (List.getElem?_eq_some_iff.1 h1).2
include h14
theorem tree_pars {i : Nat} (hi : i < L.length) : ∀ j : Nat, j ≤ i → parB L j = true := by
  obtain ⟨_, q2, _⟩ := check_ok h14
  simp only [depB, List.all_eq_true, List.mem_range] at q2
  exact fun j hj => okAt_par (q2 j (by omega))
theorem oL_sorted : (oL L).Pairwise fun a b => ltP L a b = true := by
  obtain ⟨_, q2, _⟩ := check_ok h14
  exact ord_sorted (ltP_trans L) L.length (fun i j hi hj => ltP_tri q2 i j hi hj)
theorem oN_less {a b : Nat} (hab : a < b) (hb : b < L.length) : ltP L (oN L a) (oN L b) = true := by
  have h := List.pairwise_iff_getElem.1 (oL_sorted h14) a b (by rw [oL_len]; omega) (by rw [oL_len]; exact hb) hab
  have e1 := (List.getElem?_eq_some_iff.1 (oN_get (show a < L.length by omega))).2
  have e2 := (List.getElem?_eq_some_iff.1 (oN_get hb)).2
  rw [e1, e2] at h
  exact h
theorem par_before {k p : Nat} (hk : k < L.length) (hp : (itA L (oN L k)).f0 = p) : (oL L).idxOf p < k := by
  have hq := oN_lt hk
  obtain ⟨p1, p2⟩ := itA_par h14 hq
  have hpl : p < L.length := by omega
  have hlt : ltP L p (oN L k) = true := by
    unfold ltP
    rw [path_step (tree_pars h14 hq), hp, decide_eq_true_eq]
    exact cmpL_snoc _ _
  apply Decidable.byContradiction
  intro hn
  rcases Nat.lt_or_eq_of_le (Nat.le_of_not_lt hn) with h | h
  · have := oN_less h14 h (idx_lt hpl)
    rw [oN_idx hpl] at this
    have := ltP_trans L _ _ _ this hlt
    rw [ltP_irr] at this; cases this
  · have : oN L k = p := by rw [h]; exact oN_idx hpl
    rw [hp] at p2
    omega
theorem itS_par {k : Nat} (hk : k < L.length) : (itA L (oN L k)).f0 = -1 ∧ (itA (sortL L) k).f0 = -1 ∨ ∃ p : Nat, (itA L (oN L k)).f0 = p ∧ p < L.length ∧ (itA (sortL L) k).f0 = ((oL L).idxOf p : Int) ∧ (oL L).idxOf p < k := by
  obtain ⟨p1, p2⟩ := itA_par h14 (oN_lt hk)
  have hq := oN_lt hk
  rw [sortL_at hk]
  by_cases h : (itA L (oN L k)).f0 = -1
  · refine .inl ⟨h, ?_⟩
    unfold itS; rw [if_pos h]
  · obtain ⟨p, hp⟩ : ∃ p : Nat, (itA L (oN L k)).f0 = p := ⟨(itA L (oN L k)).f0.toNat, by omega⟩
    refine .inr ⟨p, hp, by omega, ?_, par_before h14 hk hp⟩
    unfold itS posI
    rw [if_neg h, hp, Int.toNat_natCast]
theorem sort_par {k : Nat} (hk : k < L.length) : parB (sortL L) k = true := by
  have hpl := tree_pars h14 (oN_lt hk) (oN L k) (Nat.le_refl _)
  simp only [parB, Bool.and_eq_true, Bool.or_eq_true, decide_eq_true_eq] at hpl ⊢
  rcases itS_par h14 hk with ⟨a, b⟩ | ⟨p, a, b, c, d⟩
  · rw [b]
    exact ⟨⟨by omega, by omega⟩, .inl rfl⟩
  · rw [c]
    refine ⟨⟨by omega, by omega⟩, .inr ?_⟩
    rw [sortL_at (idx_lt b), oN_idx b]
    show (itA L p).f2 = true
    rcases hpl.2 with h | h
    · omega
    · rw [a] at h; exact h
theorem sort_pars {i : Nat} (hi : i < L.length) : ∀ j : Nat, j ≤ i → parB (sortL L) j = true := fun j hj => sort_par h14 (by omega)
/-- The paths are the same. -/
theorem sort_path : ∀ (t k : Nat), k ≤ t → k < L.length → pathN (sortL L) k = pathN L (oN L k) ∧ dep (sortL L) k = dep L (oN L k) := by
  intro t
  induction t with
  | zero =>
    intro k h1 hk
    obtain rfl : k = 0 := by omega
    rcases itS_par h14 hk with ⟨a, b⟩ | ⟨p, a, b, c, d⟩
    · rw [path_step (sort_pars h14 hk), path_step (tree_pars h14 (oN_lt hk)), a, b, path_top, path_top, dep_one a, dep_one b, sortL_at hk]
      exact ⟨rfl, rfl⟩
    · omega
  | succ t ih =>
    intro k h1 hk
    rcases itS_par h14 hk with ⟨a, b⟩ | ⟨p, a, b, c, d⟩
    · rw [path_step (sort_pars h14 hk), path_step (tree_pars h14 (oN_lt hk)), a, b, path_top, path_top, dep_one a, dep_one b, sortL_at hk]
      exact ⟨rfl, rfl⟩
    · obtain ⟨i1, i2⟩ := ih ((oL L).idxOf p) (by omega) (by omega)
      rw [oN_idx b] at i1 i2
      have hlt := (itA_par h14 (oN_lt hk)).2
      rw [path_step (sort_pars h14 hk), path_step (tree_pars h14 (oN_lt hk)), a, c, i1, dep_step c d (fun j hj => sort_par h14 (by omega)), i2, dep_step a (by omega) (fun j hj => tree_pars h14 (oN_lt hk) j (by omega)), sortL_at hk]
      exact ⟨rfl, rfl⟩
theorem sort_check : checkN (sortL L) ≠ 14 := by
  obtain ⟨q1, q2, q3⟩ := check_ok h14
  refine check_of (by rw [sortL_len]; exact q1) ?_ ?_
  · simp only [depB, List.all_eq_true, List.mem_range] at q2 ⊢
    intro k hk
    rw [sortL_len] at hk
    have ho := q2 _ (oN_lt hk)
    simp only [okAtB, Bool.and_eq_true, decide_eq_true_eq, Bool.not_eq_true'] at ho ⊢
    refine ⟨⟨sort_par h14 hk, ?_⟩, ?_⟩
    · rw [(sort_path h14 k k (Nat.le_refl _) hk).2]; exact ho.1.2
    · unfold dupB
      rw [List.any_eq_false]
      intro x hx hc
      obtain ⟨j, hj, hx⟩ := List.getElem_of_mem hx
      rw [List.length_take, sortL_len] at hj
      rw [List.getElem_take] at hx
      have hjl : j < L.length := by omega
      rw [Bool.and_eq_true, decide_eq_true_eq, beq_iff_eq] at hc
      have hxj : x = itA (sortL L) j := by rw [itA_get (by rw [sortL_len]; exact hjl)]; exact hx.symm
      rw [hxj] at hc
      have hp : pathN (sortL L) j = pathN (sortL L) k := by
        rw [path_step (sort_pars h14 hjl), path_step (sort_pars h14 hk), hc.1, str_inj hc.2]
      rw [(sort_path h14 j j (Nat.le_refl _) hjl).1, (sort_path h14 k k (Nat.le_refl _) hk).1] at hp
      have := path_inj (check_ok h14).2.1 _ _ _ (Nat.le_refl _) (oN_lt hjl) (oN_lt hk) hp
      have := oN_inj hjl hk this
      omega
  · rw [List.all_eq_true] at q3 ⊢
    intro x hx
    obtain ⟨q, hq, rfl⟩ := List.mem_map.1 hx
    have hql := oL_mem.1 hq
    have := q3 _ (List.getElem_mem hql)
    rw [← itA_get hql] at this
    exact this
theorem sort_ltP {j k : Nat} (hj : j < L.length) (hk : k < L.length) : ltP (sortL L) j k = ltP L (oN L j) (oN L k) := by
  unfold ltP
  rw [(sort_path h14 j j (Nat.le_refl _) hj).1, (sort_path h14 k k (Nat.le_refl _) hk).1]
theorem sort_ord : oL (sortL L) = List.range L.length := by
  have hc := sort_check h14
  obtain ⟨_, q2, _⟩ := check_ok hc
  have hl := sortL_len L
  show ordR (ltP (sortL L)) (sortL L).length = _
  rw [hl]
  refine (ord_one (ltP_irr _) (ltP_trans _) (fun i j hi hj => ltP_tri q2 i j (by omega) (by omega)) (List.Perm.refl _) ?_).symm
  rw [List.pairwise_iff_getElem]
  intro i j hi hj hij
  rw [List.length_range] at hi hj
  rw [List.getElem_range, List.getElem_range, sort_ltP h14 hi hj]
  exact oN_less h14 hij hj
/-- Put into order again it stays. -/
theorem sort_again : sortL (sortL L) = sortL L := by
  have hl := sortL_len L
  apply List.ext_getElem
  · rw [sortL_len]
  · intro k h1 h2
    rw [hl] at h2
    have hk2 : k < (sortL L).length := by rw [hl]; exact h2
    have e0 := sortL_at (L := sortL L) hk2
    have ho : oN (sortL L) k = k := by
      unfold oN
      rw [sort_ord h14, List.getD_eq_getElem?_getD, List.getElem?_range h2]; rfl
    rw [ho, itA_get h1] at e0
    rw [e0]
    have e1 : (sortL L)[k] = itA (sortL L) k := (itA_get hk2).symm
    rw [e1]
    unfold itS
    rcases itS_par h14 h2 with ⟨a, b⟩ | ⟨p, a, b, c, d⟩
    · rw [if_pos b]
      conv => rhs; rw [show itA (sortL L) k = ⟨(itA (sortL L) k).f0, (itA (sortL L) k).f1, (itA (sortL L) k).f2, (itA (sortL L) k).f3⟩ from rfl, b]
    · rw [if_neg (by omega)]
      unfold posI
      rw [c, Int.toNat_natCast, sort_ord h14, idx_range (by omega)]
      conv => rhs; rw [show itA (sortL L) k = ⟨(itA (sortL L) k).f0, (itA (sortL L) k).f1, (itA (sortL L) k).f2, (itA (sortL L) k).f3⟩ from rfl, c]
end
end Go.Proofs.Ytlomehhlhbpanaa

/- The walk of TreeOrder. -/
namespace Go.Proofs.Ytlomehhlhbpanaa
open Go.RowKit Go.Lib Go.Proofs.YtlomehhlhbpanaaW.PrintWords Go.Proofs.YtlomehhlhbpanaaW.PrintLast Go.Proofs.YtlomehhlhbpanaaW.PrintMore Go.Proofs.Ytlomehhlhbpanaa.Prt

theorem wf_sortL {L : List It} (h14 : checkN L ≠ 14) (hw : WfL L) : WfL (sortL L) := by
  obtain ⟨q1, _⟩ := check_ok h14
  intro x hx
  obtain ⟨q, hq, rfl⟩ := List.mem_map.1 hx
  have hql := oL_mem.1 hq
  have h := hw _ (List.getElem_mem hql)
  rw [← itA_get hql] at h
  obtain ⟨_, _, h3, h4, h5⟩ := h
  obtain ⟨p1, p2⟩ := itA_par h14 hql
  refine ⟨?_, ?_, h3, h4, h5⟩
  · unfold itS posI
    by_cases e : (itA L (q : Int)).f0 = -1
    · rw [if_pos e]; show (-9223372036854775808 : Int) ≤ -1; omega
    · rw [if_neg e]; show (-9223372036854775808 : Int) ≤ ((oL L).idxOf _ : Int); omega
  · unfold itS posI
    by_cases e : (itA L (q : Int)).f0 = -1
    · rw [if_pos e]; show (-1 : Int) ≤ 9223372036854775807; omega
    · rw [if_neg e]
      have := idx_lt (L := L) (p := (itA L (q : Int)).f0.toNat) (by omega)
      show ((oL L).idxOf _ : Int) ≤ 9223372036854775807; omega
theorem names_sortL {L : List It} (hs : ∀ x ∈ L, x.f1.size ≤ 100000) : ∀ x ∈ sortL L, x.f1.size ≤ 100000 := by
  intro x hx
  obtain ⟨q, hq, rfl⟩ := List.mem_map.1 hx
  have hql := oL_mem.1 hq
  have h := hs _ (List.getElem_mem hql)
  rw [← itA_get hql] at h
  exact h
theorem less_made {a b : List ByteArray} (ha : a.length ≤ 100000) {W w0 : World} {b0 b1 : Nat} {ok0 ok1 : Nat → Prop} {A B : Option Addr} {c d n m : Nat} (hA : Kd.R Kd.string 9 w0 b0 ok0 (.slice A n c) a) (hb : Below w0.heap.size w0 W) (hB : Kd.R Kd.string 9 W b1 ok1 (.slice B m d) b) :
    Calls Try.prog 23 #[.slice A n c, .slice B m d] W fun e w' => e = .returned (.bool (decide (cmpL a b < 0))) ∧ Below W.heap.size W w' := by
  obtain ⟨rfl, l1, r1⟩ := Kd.R_reads' (Kd.R_below hA hb)
  obtain ⟨rfl, l2, r2⟩ := Kd.R_reads' hB
  obtain ⟨k, hk⟩ := (Less_ev a b ha).rounds
  exact (gessoref14_Less.calls k A c a B d b _ W r1 l1 r2 l2 hk).mono fun e w' h => ⟨h.1, h.2.below⟩

def cnt (z k : Nat) : Int := if z < k then 1 else 0
theorem cnt_zero (z : Nat) : cnt z 0 = 0 := by unfold cnt; rw [if_neg (by omega)]
theorem cnt_ne {z k : Nat} (h : ¬ k = z) : cnt z k = cnt z (k + 1) := by
  unfold cnt
  by_cases e : z < k
  · rw [if_pos e, if_pos (by omega)]
  · rw [if_neg e, if_neg (by omega)]
theorem cnt_all {z n : Nat} (h : z < n) : cnt z n = 1 := by unfold cnt; rw [if_pos h]
theorem cnt_at (z : Nat) : cnt z z = 0 := by unfold cnt; rw [if_neg (by omega)]
theorem cnt_past (z : Nat) : cnt z (z + 1) = 1 := by unfold cnt; rw [if_pos (by omega)]

set_option maxRecDepth 100000 in
set_option maxHeartbeats 8000000 in
theorem treeOrder_a (L : List It) (A : Option Addr) (c : Nat) (hc : L.length ≤ c) (w : World) (hC : Kd.C kIt w A L.length L) (hwf : WfL L) (h : lightB L = false ∨ checkN L = 14) :
    Calls Try.prog 6 #[.slice A L.length c] w fun e w' => e = .returned (.bool true) ∧ Below w.heap.size w w' := by
  have HC := Aside0.mk hC
  have HL := Light_any L A c hc w hC
  have HK := fun W B => check_any L A c W (Kd.C_below HC.out B) hwf
  have HS := fun W (B : Below w.heap.size w W) => Sort_any L A c hc W (Kd.C_below HC.out B) hwf
  clear hC
  cases hl : lightB L with
  | false =>
    rw [hl] at HL
    clear HK HS h
    go_enter Try.func6, Try.ntmps6
    go_wp2_with (first
      | (go_at_call 8; with_reducible refine HL.mono ?_; rintro e w1 ⟨rfl, hb1⟩)
      | (go_at_call 9; with_reducible refine (awake14_any _).mono ?_; rintro e w2 ⟨rfl, hb2⟩; have hb20 := hb1.trans (hb2.mono hb1.size)))
    go_ret
    exact ⟨rfl, hb20⟩
  | true =>
    rw [hl] at HL h
    have h14 : checkN L = 14 := h.resolve_left (by decide)
    have e1 : sortE L = 14 := by unfold sortE; rw [if_pos h14]
    have e2 : sortT L = [] := by unfold sortT; rw [if_pos h14]
    simp only [h14] at HK
    simp only [e1, e2] at HS
    clear hl h h14 e1 e2
    go_enter Try.func6, Try.ntmps6
    go_wp2_with (first
      | (go_at_call 8; with_reducible refine HL.mono ?_; rintro e w1 ⟨rfl, hb1⟩)
      | (go_at_call 19; with_reducible refine (HS _ hb1).mono ?_; rintro e w2 ⟨v2, rfl, hr2, hb2⟩; obtain ⟨A2, c2, e2⟩ := Kd.R_slice hr2; rw [List.length_nil] at e2; subst e2; have hb20 := hb1.trans (hb2.mono hb1.size))
      | (go_at_call 10; with_reducible refine (HK _ hb20).mono ?_; rintro e w3 ⟨rfl, hb3⟩; have hb30 := hb20.trans (hb3.mono hb20.size))
      | (go_at_call 9; with_reducible refine (awake14_any _).mono ?_; rintro e w4 ⟨rfl, hb4⟩; have hb40 := hb30.trans (hb4.mono hb30.size)))
    go_ret
    exact ⟨rfl, hb40⟩

set_option maxRecDepth 100000 in
set_option maxHeartbeats 8000000 in
theorem treeOrder_b (L : List It) (A : Option Addr) (c : Nat) (hc : L.length ≤ c) (w : World) (hC : Kd.C kIt w A L.length L) (hwf : WfL L) (hl : lightB L = true) (h14 : checkN L ≠ 14) :
    Calls Try.prog 6 #[.slice A L.length c] w fun e w' => e = .returned (.bool true) ∧ Below w.heap.size w w' := by
  have hu41 := Try.underlying41
  have HC := Aside0.mk hC
  have HL := Light_any L A c hc w hC
  rw [hl] at HL
  obtain ⟨q1, q2, q3⟩ := check_ok h14
  have HS := fun W (B : Below w.heap.size w W) => Sort_any L A c hc W (Kd.C_below HC.out B) hwf
  have HPl := fun i W (B : Below w.heap.size w W) => Path_any L i A c hc W (Kd.C_below HC.out B) hwf
  have e1 : sortE L = 0 := by unfold sortE; rw [if_neg h14]
  have e2 : sortT L = sortL L := by unfold sortT; rw [if_neg h14]
  have hwS := wf_sortL h14 hwf
  have h14S := sort_check h14
  have hSl := sortL_len L
  have hpar := fun k (hk : k < L.length) => (itA_par h14S (q := k) (by omega)).2
  have hSagain := sort_again h14
  have eS1 : sortE (sortL L) = 0 := by unfold sortE; rw [if_neg h14S]
  have eS2 : sortT (sortL L) = sortL L := by unfold sortT; rw [if_neg h14S, hSagain]
  have hbS : WfB (sortL L) := by rw [← eS2]; exact wf_sortT hwS
  have hsame : sameT (sortL L) L = true := by
    unfold sameT
    rw [e1, eS1, e2, eS2, eqL_refl]; rfl
  have hless : ∀ i : Nat, i + 1 < L.length → decide (cmpL (tPath (sortL L) (i : Int)) (tPath (sortL L) ((i + 1 : Nat) : Int)) < 0) = true := fun i hi => by
    rw [tPath_in h14S (by omega), tPath_in h14S (by omega)]
    have := oN_less h14 (Nat.lt_succ_self i) hi
    rw [← sort_ltP h14 (by omega) hi] at this
    exact this
  have hpS : ∀ k : Nat, k < L.length → tPath (sortL L) (k : Int) = pathN L (oN L k : Nat) := fun k hk => by
    rw [tPath_in h14S (by omega)]
    exact (sort_path h14 k k (Nat.le_refl _) hk).1
  have hatS : ∀ k : Nat, k < L.length → itA (sortL L) (k : Int) = itS L (oN L k) := fun k hk => sortL_at hk
  simp only [e1, e2] at HS
  generalize hS : sortL L = S at *
  go_enter Try.func6, Try.ntmps6
  go_wp2_with (first
    | (go_at_call 8; with_reducible refine HL.mono ?_; rintro e w1 ⟨rfl, hb1⟩)
    | (go_at_call 19; with_reducible refine (HS _ hb1).mono ?_; rintro e w2 ⟨v2, rfl, hr2, hb2⟩; obtain ⟨A2, c2, rfl⟩ := Kd.R_slice hr2; have hb20 := hb1.trans (hb2.mono hb1.size)))
  obtain ⟨_, hcS, hCS⟩ := Kd.R_reads' hr2
  have HP := fun i W (B : Below w2.heap.size w2 W) => Path_any S i A2 c2 hcS W (Kd.C_below hCS B) hwS
  have HLe := fun i W (B : Below w2.heap.size w2 W) => HP i W B
  simp only [hSl] at HP hcS
  have HCS := Aside0.mk hCS
  have HR2 := Aside0.mk hr2
  clear HL HS hCS hr2 HLe
  go_loopg [5] S.length (fun gg v wr => ∃ i : Nat, i ≤ S.length ∧ S.length - i ≤ gg ∧ v = .int .i64 i ∧ Aside0 (Below w2.heap.size w2 wr))
  case atStart => exact ⟨0, Nat.zero_le _, by omega, rfl, ⟨Below.refl _ _⟩⟩
  case round =>
    obtain ⟨i, hi, hg, rfl, HB⟩ := hrel
    by_cases hlt : i < S.length
    · have hltz : (i : Int) < (S.length : Int) := by omega
      have hp := hpar i (by omega)
      have hpd : decide ((i : Int) ≤ (itA S (i : Int)).f0) = false := decide_eq_false (by omega)
      obtain ⟨gS, c2', eS, _, _, _⟩ := Kd.R_form HR2.out (by omega)
      cases eS
      obtain ⟨csI, hMI, hcI⟩ := r_at (Kd.R_below HR2.out HB.out) i hlt
      rw [← itA_get hlt] at hMI
      obtain ⟨vI, rfl, _⟩ := k41_openM hMI
      have y0 : wr.cell? ⟨gS, i * 4, none⟩ = some (.int .i64 (itA S (i : Int)).f0) := (hcI 0 _ rfl).1
      clear hcI hMI
      cases i with
      | zero =>
        clear hless HP HPl
        have y0' : wr.cell? ⟨gS, 0, none⟩ = some (.int .i64 (itA S ((0 : Nat) : Int)).f0) := by simpa using y0
        go_wp2
        go_roundg (S.length - 1)
        case measure => omega
        case rel => exact ⟨1, by omega, by omega, by go_num, HB⟩
      | succ j =>
        have hl2 : decide (cmpL (tPath S (j : Int)) (tPath S ((j : Int) + 1)) < 0) = true := hless j (by omega)
        have HP1 := HP (j : Int) wr HB.out
        have HP2 := HP ((j : Int) + 1)
        have hpl := tPath_len S (j : Int)
        clear hless HP HPl
        go_wp2_with (first
          | (go_at_call 13; with_reducible refine HP1.mono ?_; rintro e w3 ⟨v3, rfl, hr3, hb3⟩; obtain ⟨A3', c3', rfl⟩ := Kd.R_slice hr3; have hb30 := HB.out.trans (hb3.mono HB.out.size))
          | (go_at_call 13; with_reducible refine (HP2 _ hb30).mono ?_; rintro e w4 ⟨v4, rfl, hr4, hb4⟩; obtain ⟨A4, c4, rfl⟩ := Kd.R_slice hr4; have hb40 := hb30.trans (hb4.mono hb30.size))
          | (go_at_call 23; with_reducible refine (less_made (by omega) hr3 hb4 hr4).mono ?_; rw [hl2]; rintro e w5 ⟨rfl, hb5⟩; have hb50 := hb40.trans (hb5.mono hb40.size)))
        go_roundg (S.length - (j + 1 + 1))
        case measure => omega
        case rel => exact ⟨j + 1 + 1, by omega, by omega, by go_num, ⟨hb50⟩⟩
    · obtain rfl : i = S.length := by omega
      clear hless hpar hi hg hlt
      have hb2r := HB.out
      clear HB
      obtain ⟨w3, hw3⟩ : ∃ x, x = wr := ⟨_, rfl⟩
      rw [← hw3] at hb2r ⊢
      clear hw3
      go_wp2
      go_loopg [6] L.length (fun gg v wr => ∃ i : Nat, i ≤ L.length ∧ L.length - i ≤ gg ∧ v = .int .i64 i ∧ Aside0 (Below w2.heap.size w2 wr))
      case atStart => exact ⟨0, Nat.zero_le _, by omega, rfl, ⟨hb2r⟩⟩
      case round =>
        clear hb2r
        obtain ⟨i, hi, hg, rfl, HB⟩ := hrel
        by_cases hlt : i < L.length
        · have hltz : (i : Int) < (L.length : Int) := by omega
          have hix := idx_lt (L := L) hlt
          obtain ⟨z, hz⟩ : ∃ z, z = (oL L).idxOf i := ⟨_, rfl⟩
          rw [← hz] at hix
          have hoz : oN L z = i := by rw [hz]; exact oN_idx hlt
          clear hz
          have hPi : tPath L (i : Int) = pathN L (i : Int) := tPath_in h14 hlt
          have HPi := HPl (i : Int)
          rw [hPi] at HPi
          have hpl : (pathN L (i : Int)).length ≤ 100000 := by have := path_len L i; omega
          go_wp2
          go_loopg [7, 8] L.length (fun gg v7 v8 wr => ∃ k : Nat, k ≤ L.length ∧ L.length - k ≤ gg ∧ v8 = .int .i64 k ∧ v7 = .int .i64 (cnt z k) ∧ Aside0 (Below w2.heap.size w2 wr))
          case atStart => exact ⟨0, Nat.zero_le _, by omega, rfl, by rw [cnt_zero], HB⟩
          case round =>
            clear HB
            obtain ⟨k, hk, hgk, rfl, rfl, HB⟩ := hrel
            by_cases hkl : k < L.length
            · have hkz : (k : Int) < (L.length : Int) := by omega
              have HPk := HP (k : Int)
              rw [hpS k hkl] at HPk
              have hpk : (pathN L (oN L k : Nat)).length ≤ 100000 := by have := path_len L (oN L k); have := oN_lt hkl; omega
              obtain ⟨w4, hw4⟩ : ∃ x, x = wr := ⟨_, rfl⟩
              rw [← hw4] at HB ⊢
              clear hw4
              have hbw4 := hb20.trans (HB.out.mono hb20.size)
              by_cases hkz2 : k = z
              · subst hkz2
                have hPeq : pathN L (oN L k : Nat) = pathN L (i : Int) := by rw [hoz]
                rw [hPeq] at HPk
                have hat := hatS k hkl
                rw [hoz] at hat
                have hkS : k < S.length := by omega
                obtain ⟨gS, cS, eS, _, _, _⟩ := Kd.R_form HR2.out (by omega)
                cases eS
                obtain ⟨csI, hMI, hcI⟩ := r_at (Kd.R_below HR2.out HB.out) k hkS
                rw [← itA_get hkS, hat] at hMI
                obtain ⟨vI, rfl, hvI⟩ := k41_openM hMI
                obtain ⟨A3, c3, rfl⟩ := Kd.R_slice hvI
                have x2 : w4.cell? ⟨gS, k * 4 + 2, none⟩ = some (.bool (itA L (i : Int)).f2) := (hcI 2 _ rfl).1
                have x3 : w4.cell? ⟨gS, k * 4 + 3, none⟩ = some (.slice A3 (itA L (i : Int)).f3.length c3) := (hcI 3 _ rfl).1
                have hcv := (Kd.R_reads' hvI).2.2
                obtain ⟨ad, A4, c4, hA, _, _, y2, y3, _, hcl⟩ := at_T41 (Kd.C_below HC.out hbw4) (i : Int) (by omega) hltz
                rw [Int.toNat_natCast] at y2 y3
                subst hA
                have hcl : (Kd.int .u8).C w4 A4 (itA L (i : Int)).f3.length (itA L (i : Int)).f3 := hcl
                have y2 : w4.cell? ⟨(ad.add (i * 4)).block, (ad.add (i * 4)).off + 2, none⟩ = some (.bool (itA L (i : Int)).f2) := y2
                have y3 : w4.cell? ⟨(ad.add (i * 4)).block, (ad.add (i * 4)).off + 3, none⟩ = some (.slice A4 (itA L (i : Int)).f3.length c4) := y3
                have hcv : (Kd.int .u8).C w4 A3 (itA L (i : Int)).f3.length (itA L (i : Int)).f3 := hcv
                have HKeep : ∀ W, Below w4.heap.size w4 W → Below w4.heap.size w4 W ∧ W.cell? ⟨gS, k * 4 + 2, none⟩ = some (.bool (itA L (i : Int)).f2) ∧ W.cell? ⟨gS, k * 4 + 3, none⟩ = some (.slice A3 (itA L (i : Int)).f3.length c3) ∧ W.cell? ⟨(ad.add (i * 4)).block, (ad.add (i * 4)).off + 2, none⟩ = some (.bool (itA L (i : Int)).f2) ∧ W.cell? ⟨(ad.add (i * 4)).block, (ad.add (i * 4)).off + 3, none⟩ = some (.slice A4 (itA L (i : Int)).f3.length c4) ∧
                    (convert 39 9 (.slice A3 (itA L (i : Int)).f3.length c3)).run Try.prog W = Result.ok (.string (strOfNums (itA L (i : Int)).f3)) W ∧ (convert 39 9 (.slice A4 (itA L (i : Int)).f3.length c4)).run Try.prog W = Result.ok (.string (strOfNums (itA L (i : Int)).f3)) W := fun W b =>
                  ⟨b, (b.cell (World.block_lt_of_cell? w4 _ x2)).trans x2, (b.cell (World.block_lt_of_cell? w4 _ x3)).trans x3, (b.cell (World.block_lt_of_cell? w4 _ y2)).trans y2, (b.cell (World.block_lt_of_cell? w4 _ y3)).trans y3,
                    Kd.C_string Try.underlying39 Try.underlying5 Try.underlying9 (Kd.C_below hcv b), Kd.C_string Try.underlying39 Try.underlying5 Try.underlying9 (Kd.C_below hcl b)⟩
                clear HP HPl hpS hatS x2 x3 y2 y3 hcv hcl hvI hMI hcI hPi hoz hsame hSagain e1 e2 eS1 eS2 hS hl hat
                rw [cnt_at]
                go_upto_region 18 with fail
                go_region_held3 (fun W => Below w4.heap.size w4 W ∧ W.cell? ⟨gS, k * 4 + 2, none⟩ = some (.bool (itA L (i : Int)).f2) ∧ W.cell? ⟨gS, k * 4 + 3, none⟩ = some (.slice A3 (itA L (i : Int)).f3.length c3) ∧ W.cell? ⟨(ad.add (i * 4)).block, (ad.add (i * 4)).off + 2, none⟩ = some (.bool (itA L (i : Int)).f2) ∧ W.cell? ⟨(ad.add (i * 4)).block, (ad.add (i * 4)).off + 3, none⟩ = some (.slice A4 (itA L (i : Int)).f3.length c4) ∧
                    (convert 39 9 (.slice A3 (itA L (i : Int)).f3.length c3)).run Try.prog W = Result.ok (.string (strOfNums (itA L (i : Int)).f3)) W ∧ (convert 39 9 (.slice A4 (itA L (i : Int)).f3.length c4)).run Try.prog W = Result.ok (.string (strOfNums (itA L (i : Int)).f3)) W)
                  (first | exact HKeep _ (Below.refl _ _) | exact HKeep _ (Below.drew (Below.refl _ _)) | exact HKeep _ hb7 | exact HKeep _ hb6 | exact HKeep _ hb5)
                  (first
                    | (go_at_call 13; (with_reducible refine (HPk _ (HB.out.trans ((by first | exact Below.refl _ _ | exact Below.drew (Below.refl _ _) : Below w4.heap.size w4 _).mono HB.out.size))).mono ?_); rintro e w5 ⟨v5, rfl, hr5, hb5'⟩; obtain ⟨A5, c5, rfl⟩ := Kd.R_slice hr5; have hb5 : Below w4.heap.size w4 w5 := (by first | exact hb5' | exact (Below.drew (Below.refl _ _)).trans hb5'))
                    | (go_at_call 13; (with_reducible refine (HPi _ (hbw4.trans (hb5.mono hbw4.size))).mono ?_); rintro e w6 ⟨v6, rfl, hr6, hb6'⟩; obtain ⟨A6, c6, rfl⟩ := Kd.R_slice hr6; have hb6 : Below w4.heap.size w4 w6 := hb5.trans (hb6'.mono hb5.size))
                    | (go_at_call 12; (with_reducible refine (same_made hpl hr5 hb6' hr6).mono ?_); rw [decide_eq_true rfl]; rintro e w7 ⟨rfl, hb7'⟩; have hb7 : Below w4.heap.size w4 w7 := hb6.trans (hb7'.mono hb6.size)))
                clear HPi HPk hr5 hr6 HKeep
                go_wp2
                go_roundg (L.length - (k + 1))
                case measure => omega
                case rel => exact ⟨k + 1, by omega, by omega, by go_num, by rw [cnt_past], ⟨HB.out.trans (hb7.mono HB.out.size)⟩⟩
              · have hne : decide (pathN L (oN L k : Nat) = pathN L (i : Int)) = false := decide_eq_false (fun e => by
                  have := path_inj q2 _ _ _ (Nat.le_refl _) (oN_lt hkl) hlt e
                  rw [← hoz] at this
                  exact hkz2 (oN_inj hkl hix this))
                rw [cnt_ne hkz2]
                clear HP HPl hpS hatS
                have HOZ := Aside0.mk hoz
                clear hoz hsame hSagain e1 e2 eS1 eS2 hS hPi hl
                go_upto_region 18 with fail
                refine wp_region_noPanic ?_
                refine wp_region_held_drew (S := fun W => Below w4.heap.size w4 W) (by kernel_rfl) (Below.drew (Below.refl _ _)) (fun hHeld => ?_)
                refine wpAnyH_take (i := 0) (oi := ?oi0) (v := ?v0) ?hi0 (by kernel_rfl) (by kernel_rfl) (by kernel_rfl) ?hq0 (Or.inl ⟨?hw0, ?hy0⟩) (by assumption) ?hr0
                case hi0 => (simp only [List.getElem?_toArray, List.getElem?_cons_zero]; exact rfl)
                case hq0 => exact fun _ _ _ h => h
                case hw0 => rfl
                case hy0 => (intro w hSw; go_simp; exact rfl)
                try simp only [Act.put, List.setIfInBounds_toArray, List.set_cons_zero, List.set_cons_succ]
                refine wpAnyH_take (i := 1) (oi := ?oi1) (v := ?v1) ?hi1 (by kernel_rfl) (by kernel_rfl) (by kernel_rfl) ?hq1 (Or.inl ⟨?hw1, ?hy1⟩) (by assumption) ?hr1
                case hi1 => (simp only [List.getElem?_toArray, List.getElem?_cons_zero, List.getElem?_cons_succ]; exact rfl)
                case hq1 => exact fun _ _ _ h => h
                case hw1 => rfl
                case hy1 => (intro w hSw; go_simp; exact rfl)
                try simp only [Act.put, List.setIfInBounds_toArray, List.set_cons_zero, List.set_cons_succ]
                refine wpAnyH_take (i := 3) (oi := ?oi3) (v := ?v3) ?hi3 (by kernel_rfl) (by kernel_rfl) (by kernel_rfl) ?hq3 (Or.inl ⟨?hw3, ?hy3⟩) (by assumption) ?hr3
                case hi3 => (simp only [List.getElem?_toArray, List.getElem?_cons_zero, List.getElem?_cons_succ]; exact rfl)
                case hq3 => exact fun _ _ _ h => h
                case hw3 => rfl
                case hy3 => (intro w hSw; go_simp; exact rfl)
                try simp only [Act.put, List.setIfInBounds_toArray, List.set_cons_zero, List.set_cons_succ]
                refine wpAnyH_take (i := 4) (oi := ?oi4) (v := ?v4) ?hi4 (by kernel_rfl) (by kernel_rfl) (by kernel_rfl) ?hq4 (Or.inl ⟨?hw4, ?hy4⟩) (by assumption) ?hr4
                case hi4 => (simp only [List.getElem?_toArray, List.getElem?_cons_zero, List.getElem?_cons_succ]; exact rfl)
                case hq4 => exact fun _ _ _ h => h
                case hw4 => rfl
                case hy4 => (intro w hSw; go_simp; exact rfl)
                try simp only [Act.put, List.setIfInBounds_toArray, List.set_cons_zero, List.set_cons_succ]
                refine wpAnyH_ready (rs := [2]) (by kernel_rfl) (by simp) ?_
                refine AllReadyH.cons (o := ?oc2) ?hi2 (fun K hK => ?hs2) AllReadyH.nil
                case hi2 => (simp only [List.getElem?_toArray, List.getElem?_cons_zero, List.getElem?_cons_succ]; exact rfl)
                go_simp
                go_at_call 13
                refine (HPk _ (HB.out.trans ((by first | exact Below.refl _ _ | exact Below.drew (Below.refl _ _) : Below w4.heap.size w4 _).mono HB.out.size))).mono ?_
                rintro e w5 ⟨v5, rfl, hr5, hb5'⟩
                obtain ⟨A5, c5, rfl⟩ := Kd.R_slice hr5
                have hb5 : Below w4.heap.size w4 w5 := (by first | exact hb5' | exact (Below.drew (Below.refl _ _)).trans hb5')
                refine hK.out _ _ hb5 (fun hHeld2 => ?_)
                clear hK K
                try simp only [Act.put, List.setIfInBounds_toArray, List.set_cons_zero, List.set_cons_succ]
                refine wpAnyH_ready (rs := [5]) (by kernel_rfl) (by simp) ?_
                refine AllReadyH.cons (o := ?oc5) ?hi5 (fun K hK => ?hs5) AllReadyH.nil
                case hi5 => (simp only [List.getElem?_toArray, List.getElem?_cons_zero, List.getElem?_cons_succ]; exact rfl)
                go_simp
                go_at_call 13
                refine (HPi _ (hbw4.trans (hb5.mono hbw4.size))).mono ?_
                rintro e w6 ⟨v6, rfl, hr6, hb6'⟩
                obtain ⟨A6, c6, rfl⟩ := Kd.R_slice hr6
                have hb6 : Below w4.heap.size w4 w6 := hb5.trans (hb6'.mono hb5.size)
                refine hK.out _ _ hb6 (fun hHeld5 => ?_)
                clear hK K
                try simp only [Act.put, List.setIfInBounds_toArray, List.set_cons_zero, List.set_cons_succ]
                refine wpAnyH_ready (rs := [6]) (by kernel_rfl) (by simp) ?_
                refine AllReadyH.cons (o := ?oc6) ?hi6 (fun K hK => ?hs6) AllReadyH.nil
                case hi6 => (simp only [List.getElem?_toArray, List.getElem?_cons_zero, List.getElem?_cons_succ]; exact rfl)
                go_simp
                go_at_call 12
                refine (same_made hpk hr5 hb6' hr6).mono ?_
                rw [hne]
                rintro e w7 ⟨rfl, hb7'⟩
                have hb7 : Below w4.heap.size w4 w7 := hb6.trans (hb7'.mono hb6.size)
                refine hK.out _ _ hb7 (fun hHeld6 => ?_)
                clear hK K
                try simp only [Act.put, List.setIfInBounds_toArray, List.set_cons_zero, List.set_cons_succ]
                refine wpAnyH_take (i := 7) (oi := ?oi7) (v := ?v7) ?hi7 (by kernel_rfl) (by kernel_rfl) (by kernel_rfl) ?hq7 (Or.inl ⟨?hw7, ?hy7⟩) (by assumption) ?hr7
                case hi7 => (simp only [List.getElem?_toArray, List.getElem?_cons_zero, List.getElem?_cons_succ]; exact rfl)
                case hq7 => exact fun _ _ _ h => h
                case hw7 => rfl
                case hy7 => (intro w hSw; go_simp; exact rfl)
                try simp only [Act.put, List.setIfInBounds_toArray, List.set_cons_zero, List.set_cons_succ]
                refine wpAnyH_take (i := 8) (oi := ?oi8) (v := undef) ?hi8 (by kernel_rfl) (by kernel_rfl) (by kernel_rfl) ?hq8 (Or.inr ⟨?hw8, rfl⟩) (by assumption) ?hr8
                case hi8 => (simp only [List.getElem?_toArray, List.getElem?_cons_zero, List.getElem?_cons_succ]; exact rfl)
                case hq8 => exact fun _ _ _ h => h
                case hw8 => rfl
                try simp only [Act.put, List.setIfInBounds_toArray, List.set_cons_zero, List.set_cons_succ]
                refine wpAnyH_take (i := 9) (oi := ?oi9) (v := undef) ?hi9 (by kernel_rfl) (by kernel_rfl) (by kernel_rfl) ?hq9 (Or.inr ⟨?hw9, rfl⟩) (by assumption) ?hr9
                case hi9 => (simp only [List.getElem?_toArray, List.getElem?_cons_zero, List.getElem?_cons_succ]; exact rfl)
                case hq9 => exact fun _ _ _ h => h
                case hw9 => rfl
                try simp only [Act.put, List.setIfInBounds_toArray, List.set_cons_zero, List.set_cons_succ]
                refine wpAnyH_take (i := 10) (oi := ?oi10) (v := undef) ?hi10 (by kernel_rfl) (by kernel_rfl) (by kernel_rfl) ?hq10 (Or.inr ⟨?hw10, rfl⟩) (by assumption) ?hr10
                case hi10 => (simp only [List.getElem?_toArray, List.getElem?_cons_zero, List.getElem?_cons_succ]; exact rfl)
                case hq10 => exact fun _ _ _ h => h
                case hw10 => rfl
                try simp only [Act.put, List.setIfInBounds_toArray, List.set_cons_zero, List.set_cons_succ]
                refine wpAnyH_take (i := 11) (oi := ?oi11) (v := undef) ?hi11 (by kernel_rfl) (by kernel_rfl) (by kernel_rfl) ?hq11 (Or.inr ⟨?hw11, rfl⟩) (by assumption) ?hr11
                case hi11 => (simp only [List.getElem?_toArray, List.getElem?_cons_zero, List.getElem?_cons_succ]; exact rfl)
                case hq11 => exact fun _ _ _ h => h
                case hw11 => rfl
                try simp only [Act.put, List.setIfInBounds_toArray, List.set_cons_zero, List.set_cons_succ]
                refine wpAnyH_take (i := 12) (oi := ?oi12) (v := undef) ?hi12 (by kernel_rfl) (by kernel_rfl) (by kernel_rfl) ?hq12 (Or.inr ⟨?hw12, rfl⟩) (by assumption) ?hr12
                case hi12 => (simp only [List.getElem?_toArray, List.getElem?_cons_zero, List.getElem?_cons_succ]; exact rfl)
                case hq12 => exact fun _ _ _ h => h
                case hw12 => rfl
                try simp only [Act.put, List.setIfInBounds_toArray, List.set_cons_zero, List.set_cons_succ]
                refine wpAnyH_take (i := 13) (oi := ?oi13) (v := undef) ?hi13 (by kernel_rfl) (by kernel_rfl) (by kernel_rfl) ?hq13 (Or.inr ⟨?hw13, rfl⟩) (by assumption) ?hr13
                case hi13 => (simp only [List.getElem?_toArray, List.getElem?_cons_zero, List.getElem?_cons_succ]; exact rfl)
                case hq13 => exact fun _ _ _ h => h
                case hw13 => rfl
                try simp only [Act.put, List.setIfInBounds_toArray, List.set_cons_zero, List.set_cons_succ]
                refine wpAnyH_take (i := 14) (oi := ?oi14) (v := undef) ?hi14 (by kernel_rfl) (by kernel_rfl) (by kernel_rfl) ?hq14 (Or.inr ⟨?hw14, rfl⟩) (by assumption) ?hr14
                case hi14 => (simp only [List.getElem?_toArray, List.getElem?_cons_zero, List.getElem?_cons_succ]; exact rfl)
                case hq14 => exact fun _ _ _ h => h
                case hw14 => rfl
                try simp only [Act.put, List.setIfInBounds_toArray, List.set_cons_zero, List.set_cons_succ]
                refine wpAnyH_take (i := 15) (oi := ?oi15) (v := undef) ?hi15 (by kernel_rfl) (by kernel_rfl) (by kernel_rfl) ?hq15 (Or.inr ⟨?hw15, rfl⟩) (by assumption) ?hr15
                case hi15 => (simp only [List.getElem?_toArray, List.getElem?_cons_zero, List.getElem?_cons_succ]; exact rfl)
                case hq15 => exact fun _ _ _ h => h
                case hw15 => rfl
                try simp only [Act.put, List.setIfInBounds_toArray, List.set_cons_zero, List.set_cons_succ]
                refine wpAnyH_take (i := 16) (oi := ?oi16) (v := undef) ?hi16 (by kernel_rfl) (by kernel_rfl) (by kernel_rfl) ?hq16 (Or.inr ⟨?hw16, rfl⟩) (by assumption) ?hr16
                case hi16 => (simp only [List.getElem?_toArray, List.getElem?_cons_zero, List.getElem?_cons_succ]; exact rfl)
                case hq16 => exact fun _ _ _ h => h
                case hw16 => rfl
                try simp only [Act.put, List.setIfInBounds_toArray, List.set_cons_zero, List.set_cons_succ]
                refine wpAnyH_take (i := 17) (oi := ?oi17) (v := undef) ?hi17 (by kernel_rfl) (by kernel_rfl) (by kernel_rfl) ?hq17 (Or.inr ⟨?hw17, rfl⟩) (by assumption) ?hr17
                case hi17 => (simp only [List.getElem?_toArray, List.getElem?_cons_zero, List.getElem?_cons_succ]; exact rfl)
                case hq17 => exact fun _ _ _ h => h
                case hw17 => rfl
                try simp only [Act.put, List.setIfInBounds_toArray, List.set_cons_zero, List.set_cons_succ]
                refine wpAnyH_take (i := 18) (oi := ?oi18) (v := undef) ?hi18 (by kernel_rfl) (by kernel_rfl) (by kernel_rfl) ?hq18 (Or.inr ⟨?hw18, rfl⟩) (by assumption) ?hr18
                case hi18 => (simp only [List.getElem?_toArray, List.getElem?_cons_zero, List.getElem?_cons_succ]; exact rfl)
                case hq18 => exact fun _ _ _ h => h
                case hw18 => rfl
                try simp only [Act.put, List.setIfInBounds_toArray, List.set_cons_zero, List.set_cons_succ]
                refine wpAnyH_take (i := 19) (oi := ?oi19) (v := ?v19) ?hi19 (by kernel_rfl) (by kernel_rfl) (by kernel_rfl) ?hq19 (Or.inl ⟨?hw19, ?hy19⟩) (by assumption) ?hr19
                case hi19 => (simp only [List.getElem?_toArray, List.getElem?_cons_zero, List.getElem?_cons_succ]; exact rfl)
                case hq19 => exact fun _ _ _ h => h
                case hw19 => rfl
                case hy19 => (intro w hSw; go_simp; exact rfl)
                try simp only [Act.put, List.setIfInBounds_toArray, List.set_cons_zero, List.set_cons_succ]
                refine wpAnyH_take (i := 20) (oi := ?oi20) (v := ?v20) ?hi20 (by kernel_rfl) (by kernel_rfl) (by kernel_rfl) ?hq20 (Or.inl ⟨?hw20, ?hy20⟩) (by assumption) ?hr20
                case hi20 => (simp only [List.getElem?_toArray, List.getElem?_cons_zero, List.getElem?_cons_succ]; exact rfl)
                case hq20 => exact fun _ _ _ h => h
                case hw20 => rfl
                case hy20 => (intro w hSw; go_simp; exact rfl)
                try simp only [Act.put, List.setIfInBounds_toArray, List.set_cons_zero, List.set_cons_succ]
                refine wpAnyH_take (i := 21) (oi := ?oi21) (v := undef) ?hi21 (by kernel_rfl) (by kernel_rfl) (by kernel_rfl) ?hq21 (Or.inr ⟨?hw21, rfl⟩) (by assumption) ?hr21
                case hi21 => (simp only [List.getElem?_toArray, List.getElem?_cons_zero, List.getElem?_cons_succ]; exact rfl)
                case hq21 => exact fun _ _ _ h => h
                case hw21 => rfl
                try simp only [Act.put, List.setIfInBounds_toArray, List.set_cons_zero, List.set_cons_succ]
                refine wpAnyH_take (i := 22) (oi := ?oi22) (v := undef) ?hi22 (by kernel_rfl) (by kernel_rfl) (by kernel_rfl) ?hq22 (Or.inr ⟨?hw22, rfl⟩) (by assumption) ?hr22
                case hi22 => (simp only [List.getElem?_toArray, List.getElem?_cons_zero, List.getElem?_cons_succ]; exact rfl)
                case hq22 => exact fun _ _ _ h => h
                case hw22 => rfl
                try simp only [Act.put, List.setIfInBounds_toArray, List.set_cons_zero, List.set_cons_succ]
                refine wpAnyH_take (i := 23) (oi := ?oi23) (v := undef) ?hi23 (by kernel_rfl) (by kernel_rfl) (by kernel_rfl) ?hq23 (Or.inr ⟨?hw23, rfl⟩) (by assumption) ?hr23
                case hi23 => (simp only [List.getElem?_toArray, List.getElem?_cons_zero, List.getElem?_cons_succ]; exact rfl)
                case hq23 => exact fun _ _ _ h => h
                case hw23 => rfl
                try simp only [Act.put, List.setIfInBounds_toArray, List.set_cons_zero, List.set_cons_succ]
                refine wpAnyH_take (i := 24) (oi := ?oi24) (v := undef) ?hi24 (by kernel_rfl) (by kernel_rfl) (by kernel_rfl) ?hq24 (Or.inr ⟨?hw24, rfl⟩) (by assumption) ?hr24
                case hi24 => (simp only [List.getElem?_toArray, List.getElem?_cons_zero, List.getElem?_cons_succ]; exact rfl)
                case hq24 => exact fun _ _ _ h => h
                case hw24 => rfl
                try simp only [Act.put, List.setIfInBounds_toArray, List.set_cons_zero, List.set_cons_succ]
                refine wpAnyH_take (i := 25) (oi := ?oi25) (v := undef) ?hi25 (by kernel_rfl) (by kernel_rfl) (by kernel_rfl) ?hq25 (Or.inr ⟨?hw25, rfl⟩) (by assumption) ?hr25
                case hi25 => (simp only [List.getElem?_toArray, List.getElem?_cons_zero, List.getElem?_cons_succ]; exact rfl)
                case hq25 => exact fun _ _ _ h => h
                case hw25 => rfl
                try simp only [Act.put, List.setIfInBounds_toArray, List.set_cons_zero, List.set_cons_succ]
                refine wpAnyH_take (i := 26) (oi := ?oi26) (v := undef) ?hi26 (by kernel_rfl) (by kernel_rfl) (by kernel_rfl) ?hq26 (Or.inr ⟨?hw26, rfl⟩) (by assumption) ?hr26
                case hi26 => (simp only [List.getElem?_toArray, List.getElem?_cons_zero, List.getElem?_cons_succ]; exact rfl)
                case hq26 => exact fun _ _ _ h => h
                case hw26 => rfl
                try simp only [Act.put, List.setIfInBounds_toArray, List.set_cons_zero, List.set_cons_succ]
                refine wpAnyH_take (i := 27) (oi := ?oi27) (v := undef) ?hi27 (by kernel_rfl) (by kernel_rfl) (by kernel_rfl) ?hq27 (Or.inr ⟨?hw27, rfl⟩) (by assumption) ?hr27
                case hi27 => (simp only [List.getElem?_toArray, List.getElem?_cons_zero, List.getElem?_cons_succ]; exact rfl)
                case hq27 => exact fun _ _ _ h => h
                case hw27 => rfl
                try simp only [Act.put, List.setIfInBounds_toArray, List.set_cons_zero, List.set_cons_succ]
                refine wpAnyH_take (i := 28) (oi := ?oi28) (v := undef) ?hi28 (by kernel_rfl) (by kernel_rfl) (by kernel_rfl) ?hq28 (Or.inr ⟨?hw28, rfl⟩) (by assumption) ?hr28
                case hi28 => (simp only [List.getElem?_toArray, List.getElem?_cons_zero, List.getElem?_cons_succ]; exact rfl)
                case hq28 => exact fun _ _ _ h => h
                case hw28 => rfl
                try simp only [Act.put, List.setIfInBounds_toArray, List.set_cons_zero, List.set_cons_succ]
                refine wpAnyH_take (i := 29) (oi := ?oi29) (v := undef) ?hi29 (by kernel_rfl) (by kernel_rfl) (by kernel_rfl) ?hq29 (Or.inr ⟨?hw29, rfl⟩) (by assumption) ?hr29
                case hi29 => (simp only [List.getElem?_toArray, List.getElem?_cons_zero, List.getElem?_cons_succ]; exact rfl)
                case hq29 => exact fun _ _ _ h => h
                case hw29 => rfl
                try simp only [Act.put, List.setIfInBounds_toArray, List.set_cons_zero, List.set_cons_succ]
                refine wpAnyH_take (i := 30) (oi := ?oi30) (v := undef) ?hi30 (by kernel_rfl) (by kernel_rfl) (by kernel_rfl) ?hq30 (Or.inr ⟨?hw30, rfl⟩) (by assumption) ?hr30
                case hi30 => (simp only [List.getElem?_toArray, List.getElem?_cons_zero, List.getElem?_cons_succ]; exact rfl)
                case hq30 => exact fun _ _ _ h => h
                case hw30 => rfl
                try simp only [Act.put, List.setIfInBounds_toArray, List.set_cons_zero, List.set_cons_succ]
                refine wpAnyH_take (i := 31) (oi := ?oi31) (v := undef) ?hi31 (by kernel_rfl) (by kernel_rfl) (by kernel_rfl) ?hq31 (Or.inr ⟨?hw31, rfl⟩) (by assumption) ?hr31
                case hi31 => (simp only [List.getElem?_toArray, List.getElem?_cons_zero, List.getElem?_cons_succ]; exact rfl)
                case hq31 => exact fun _ _ _ h => h
                case hw31 => rfl
                try simp only [Act.put, List.setIfInBounds_toArray, List.set_cons_zero, List.set_cons_succ]
                refine wpAnyH_take (i := 32) (oi := ?oi32) (v := undef) ?hi32 (by kernel_rfl) (by kernel_rfl) (by kernel_rfl) ?hq32 (Or.inr ⟨?hw32, rfl⟩) (by assumption) ?hr32
                case hi32 => (simp only [List.getElem?_toArray, List.getElem?_cons_zero, List.getElem?_cons_succ]; exact rfl)
                case hq32 => exact fun _ _ _ h => h
                case hw32 => rfl
                try simp only [Act.put, List.setIfInBounds_toArray, List.set_cons_zero, List.set_cons_succ]
                refine wpAnyH_take (i := 33) (oi := ?oi33) (v := undef) ?hi33 (by kernel_rfl) (by kernel_rfl) (by kernel_rfl) ?hq33 (Or.inr ⟨?hw33, rfl⟩) (by assumption) ?hr33
                case hi33 => (simp only [List.getElem?_toArray, List.getElem?_cons_zero, List.getElem?_cons_succ]; exact rfl)
                case hq33 => exact fun _ _ _ h => h
                case hw33 => rfl
                try simp only [Act.put, List.setIfInBounds_toArray, List.set_cons_zero, List.set_cons_succ]
                refine wpAnyH_take (i := 34) (oi := ?oi34) (v := ?v34) ?hi34 (by kernel_rfl) (by kernel_rfl) (by kernel_rfl) ?hq34 (Or.inl ⟨?hw34, ?hy34⟩) (by assumption) ?hr34
                case hi34 => (simp only [List.getElem?_toArray, List.getElem?_cons_zero, List.getElem?_cons_succ]; exact rfl)
                case hq34 => exact fun _ _ _ h => h
                case hw34 => rfl
                case hy34 => (intro w hSw; go_simp; exact rfl)
                try simp only [Act.put, List.setIfInBounds_toArray, List.set_cons_zero, List.set_cons_succ]
                refine wpAnyH_done (by kernel_rfl) ?_ _
                refine NoPanic.normal ?_
                clear HPi HPk hr5 hr6
                go_wp2
                go_roundg (L.length - (k + 1))
                case measure => omega
                case rel => exact ⟨k + 1, by omega, by omega, by go_num, rfl, ⟨HB.out.trans (hb7.mono HB.out.size)⟩⟩
            · obtain rfl : k = L.length := by omega
              rw [cnt_all hix]
              clear HP HPl hpS hatS HPi
              go_wp2
              go_roundg (L.length - (i + 1))
              case measure => omega
              case rel => exact ⟨i + 1, by omega, by omega, by go_num, HB⟩
        · obtain rfl : i = L.length := by omega
          have hbr : Below w.heap.size w wr := hb20.trans (HB.out.mono hb20.size)
          have hcS2 : S.length ≤ c2 := by rw [hSl]; exact hcS
          have HSS := Sort_any S A2 c2 hcS2 wr (Kd.C_below HCS.out HB.out) hwS
          have HEq := fun W (b : Below w2.heap.size w2 W) (A9 : Option Addr) (c9 : Nat) (h9 : S.length ≤ c9) (C9 : Kd.C kIt W A9 S.length S) => REqual_any hbS hbS A2 A9 c2 c9 hcS2 h9 W (Kd.C_below HCS.out b) C9
          have HSm := fun W (b : Below w2.heap.size w2 W) => Same_any S L A2 A c2 c hcS2 hc W (Kd.C_below HCS.out b) (Kd.C_below HC.out (hb20.trans (b.mono hb20.size))) hwS hwf
          rw [eS1, eS2] at HSS
          rw [hsame] at HSm
          simp only [eqL_refl] at HEq
          have hll : ((L.length : Int) == (L.length : Int)) = true := by simp
          have hSl2 := hSl
          simp only [hSl] at HSS HEq HSm
          clear HP HPl hpS hatS e1 e2 eS1 eS2 hsame hSagain hS hl
          go_wp2_with (first
            | (go_at_call 19; with_reducible refine HSS.mono ?_; rintro e w8 ⟨v8, rfl, hr8, hb8⟩; obtain ⟨A8, c8, rfl⟩ := Kd.R_slice hr8; obtain ⟨_, hl8, hc8⟩ := Kd.R_reads' hr8; have hb28 := HB.out.trans (hb8.mono HB.out.size); rw [hSl2] at hl8 hc8)
            | (go_at_call 18; with_reducible refine (HEq _ hb28 A8 c8 hl8 hc8).mono ?_; rintro e w9 ⟨rfl, hd9⟩; have hb29 := hb28.trans (hd9.below.mono hb28.size))
            | (go_at_call 21; with_reducible refine (HSm _ hb29).mono ?_; rintro e w10 ⟨rfl, hb10⟩; have hb210 := hb29.trans (hb10.mono hb29.size))
            | (go_at_call 9; with_reducible refine (awake14_any _).mono ?_; rintro e w11 ⟨rfl, hb11⟩; have hb211 := hb210.trans (hb11.mono hb210.size)))
          go_ret
          exact ⟨rfl, hb20.trans (hb211.mono hb20.size)⟩

theorem treeOrder_walk (L : List It) (A : Option Addr) (c : Nat) (hc : L.length ≤ c) (w : World) (hC : Kd.C kIt w A L.length L) (hwf : WfL L) :
    Calls Try.prog 6 #[.slice A L.length c] w fun e w' => e = .returned (.bool true) ∧ Below w.heap.size w w' := by
  cases hl : lightB L with
  | false => exact treeOrder_a L A c hc w hC hwf (.inl hl)
  | true =>
    by_cases h14 : checkN L = 14
    · exact treeOrder_a L A c hc w hC hwf (.inr h14)
    · exact treeOrder_b L A c hc w hC hwf hl h14
end Go.Proofs.Ytlomehhlhbpanaa

/- Put into order a tree has rising paths, each item behind what it stands in, and the same paths as ahead; put into order again it stays: TreeOrder returns true at every input, and its argument reads as it did. -/
namespace Go.Proofs.Ytlomehhlhbpanaa.treeOrder
open Go.ChangeShapes Go.WideShapes Go.ChangeAt Go.RowKit
open Go.ChangeMaps (open_string shut_string)
open Go.Proofs.YtlomehhlhbpanaaW.PrintWords
theorem own : ownKnob Try.prog.godebug = none := by kernel_rfl
theorem laidOut : laidOutB Try.prog = true := by kernel_rfl

set_option maxRecDepth 100000 in
theorem lifted (os : Os) (started : os.Started) (H : Type) (enc : TypeId × Value → H) :
    ReturnsInHanded {} Try.checked os 6 .any (Rows.treeOrderSpec.pre6 enc Try.prog Try.f6 Rows.treeOrderRow.domain false) (Rows.treeOrderSpec.post enc Try.prog Try.f6 false true false false) := by
  refine returnsInHanded_of_change_sized (C := Try.checked) own started (by kernel_rfl) Try.func6
    (ChangeSpec.witness6 (enc := enc) (C := Try.checked) false ⟨#[], #[.slice none 0 0], []⟩ 8 (by kernel_rfl) (by kernel_rfl) (by kernel_rfl) (by kernel_rfl)) ?_
  intro W base args ds gs before hval0 hW _ _ _
  have hval : ∀ (j : Nat) t v, Try.f6.params[j]? = some t → args[j]? = some v → Value.okWide Try.prog W .any base t v := hval0
  have hW' := hW
  obtain ⟨p, q, hA0, hV, rfl, hfz, hnd⟩ := hW
  have hA : DataW.TrodAll enc Try.prog W 0 (fun _ => true) true Try.f6.params.toList args.toList ds p := hA0
  rw [Try.params6] at hA hval
  obtain ⟨v0, vs0, d0, ds0, p0, q0, hargs, rfl, rfl, h0, r0⟩ := trodAll_cons hA
  obtain ⟨rfl, rfl, rfl⟩ := trodAll_nil r0
  obtain rfl : args = #[v0] := by cases args; simp_all
  obtain ⟨rfl, rfl⟩ := trodVars_none hV
  have k0 := h0
  have lt0 : ∀ x ∈ p0, x.block < W.heap.size := by obtain ⟨m, hm⟩ := k0; exact DataW.trod_lt m _ _ _ hm
  obtain ⟨A0, c0, L0, e0, l0, hC0, hw0, _⟩ : ∃ A c L, v0 = .slice A (List.length L) c ∧ L.length ≤ c ∧ Kd.C kIt W A L.length L ∧ WfL L ∧ L.length ≤ maxLen := by
    obtain ⟨fuel, hf⟩ := h0
    obtain ⟨a, len, cap, rfl⟩ := okWide_slice Try.underlying22 (hval 0 22 v0 rfl rfl)
    obtain ⟨A, c, L, hcs, r⟩ := open_items hf
    simp [Value.cells] at hcs
    obtain ⟨rfl, rfl, rfl⟩ := hcs
    exact ⟨_, _, L, rfl, r⟩
  subst e0
  clear hA0 hval0
  refine (treeOrder_walk L0 A0 c0 l0 W hC0 hw0).mono fun e W' ⟨he, bel⟩ => ?_
  subst he
  exact ⟨_, rfl, _, _, _, [], _, [], hW', trodAll_mk1 (shut_bool Try.underlying4 _), (trodAll_cons_mk (Below.trod laidOut (by kernel_rfl) (of_decide_eq_true (by kernel_rfl)) k0 bel lt0) trodAll_mk0), rfl, bel.frame _, fun h => by cases h⟩

theorem over : Rows.treeOrderRow.holds Try.pinned (OpenSpec.ofChange Rows.treeOrderSpec) :=
  OpenClaim.holds_of_wide 6 Try.f6 rfl rfl rfl rfl rfl rfl rfl ⟨rfl, rfl, rfl, rfl, rfl⟩ rfl rfl rfl rfl rfl (by kernel_rfl) Try.func6 (by kernel_rfl)
    (of_decide_eq_true (by kernel_rfl)) (by unfold Func.isWrapper; first | (rw [if_pos (by decide +kernel)]; kernel_rfl) | (rw [if_neg (by decide +kernel)]; exact ⟨rfl, rfl⟩))
    (fun os started H enc _ => lifted os started H enc)
theorem proved : Rows.TreeOrderSaid := over
#print axioms proved
end Go.Proofs.Ytlomehhlhbpanaa.treeOrder
