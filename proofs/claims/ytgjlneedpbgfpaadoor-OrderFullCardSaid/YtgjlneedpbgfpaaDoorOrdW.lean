import Derived.Test.YtgjlneedpbgfpaaDoorCopy
import Derived.Test.YtgjlneedpbgfpaaDoorClass2
import Derived.Test.YtgjlneedpbgfpaaDoorRef2
import Derived.Test.YtgjlneedpbgfpaaDoorOrd0
import Derived.Laws.MakeOwn
/- The walks of order.Classes, order.Is, gessoref06.Is. -/
namespace Go.Proofs.YtgjlneedpbgfpaaDoor
open Go.RowKit

def i64s (l : List Nat) : List Value := l.map fun (x : Nat) => Value.int .i64 (x : Int)
theorem i64s_length (l : List Nat) : (i64s l).length = l.length := by unfold i64s; simp
theorem info_i64 : (Tryd.prog.info? 3).map (fun i => (i.zero, i.size, i.bytes)) = some (some (.int .i64 0), 1, 8) := by kernel_rfl
theorem row_shape {w : World} {base : Nat} {e : TypeId} {size : Nat} {v : Value} {n : Nat} {xs : List Value} (h : w.ownsRow base e size v n xs) : ∃ a c, v = .slice a n c := by
  rcases h.2 with ⟨rfl, rfl⟩ | ⟨g, cap, cur, hv, _⟩
  · exact ⟨none, 0, rfl⟩
  · exact ⟨_, _, hv⟩
def IntsOf (L : List Nat) (w : World) (e : Ending) (w' : World) : Prop := ∃ v, e = .returned v ∧ w'.ownsRow w.heap.size 3 1 v L.length (i64s L) ∧ Gr w w'
theorem int_cell {w : World} {base g cap : Nat} {l : List Nat} (h : w.ownsRow base 3 1 (.slice (some ⟨g, 0, none⟩) l.length cap) l.length (i64s l)) (k : Nat) (hk : k < l.length) : w.cell? ⟨g, k, none⟩ = some (.int .i64 ((l.getD k 0 : Nat) : Int)) := by
  rw [h.cellAt k (by omega)]
  unfold i64s
  rw [List.getElem?_map, List.getElem?_eq_getElem hk]; simp [List.getD, List.getElem?_eq_getElem hk]

/-- A row that is filled from the front. -/
def filled (M : List Nat) (n k : Nat) : List Value := i64s (M.take k) ++ List.replicate (n - k) (.int .i64 0)
theorem filled_at {M : List Nat} {n k : Nat} (hM : M.length = n) (hk : k < n) : (filled M n k)[k]? = some (.int .i64 0) := by
  unfold filled
  rw [List.getElem?_append_right (by rw [i64s_length, List.length_take]; omega), i64s_length, List.length_take, List.getElem?_replicate, if_pos (by omega)]
theorem filled_set {M : List Nat} {n k : Nat} (hM : M.length = n) (hk : k < n) : (filled M n k).set k (.int .i64 ((M.getD k 0 : Nat) : Int)) = filled M n (k + 1) := by
  unfold filled
  have hkM : k < M.length := by omega
  have hl : (i64s (M.take k)).length = k := by rw [i64s_length, List.length_take]; omega
  rw [List.set_append_right _ _ (by omega), hl, Nat.sub_self, show n - k = (n - (k + 1)) + 1 by omega, List.replicate_succ, List.set_cons_zero]
  have : M.take (k + 1) = M.take k ++ [M.getD k 0] := by
    rw [List.take_succ_eq_append_getElem hkM, List.getD, List.getElem?_eq_getElem hkM]; rfl
  rw [this]
  unfold i64s
  rw [List.map_append, List.append_assoc]; rfl
theorem filled_zero (M : List Nat) (n : Nat) : filled M n 0 = List.replicate n (.int .i64 0) := by unfold filled i64s; simp
theorem filled_all {M : List Nat} {n : Nat} (hM : M.length = n) : filled M n n = i64s M := by unfold filled; rw [List.take_of_length_le (by omega)]; simp

set_option maxRecDepth 20000 in
set_option maxHeartbeats 2000000 in
theorem Classes_any (v : Value) (L : List Nat) (w : World) (ht : Tz w) (hv : Sl w v L) (hb : ∀ x ∈ L, x < 4294967296) (hl : L.length ≤ 1000000) : Calls Tryd.prog 36 #[v] w (IntsOf (L.map cls) w) := by
  obtain ⟨ao, ca, rfl, _, hA⟩ := hv
  obtain ⟨n, hn⟩ : ∃ n, L.length = n := ⟨_, rfl⟩
  rw [hn] at hA ⊢
  have hnb : (n : Int) ≤ 1000000 := by omega
  have HN := hid hn
  have HA := hid hA
  have HB := hid hb
  have HM : Hid ((L.map cls).length = n) := by show _ = _; rw [List.length_map]; exact hn
  clear hn hA hb hl
  obtain ⟨i0, hi, hz0, hz1, hz2⟩ := info_parts info_i64
  have hmk : ∀ W : World, (Instr.makeSlice 33 (.int .i64 (n : Int)) (.int .i64 (n : Int))).run Tryd.prog W = .ok (.slice (some ⟨W.heap.size, 0, none⟩) n n) (W.alloc (.cells (madeCells #[.int .i64 0] n) 3)) := fun W => by
    have := run_make (P := Tryd.prog) W 33 3 i0 (.int .i64 0) Tryd.underlying33 hi hz0 .i64 .i64 (n : Int) (n : Int) (by omega) (Int.le_refl _) (by rw [hz2]; omega) (by omega)
    rw [hz1, Nat.mul_one, Int.toNat_natCast] at this
    exact this
  have hown : (w.alloc (.cells (madeCells #[.int .i64 0] n) 3)).ownsRow w.heap.size 3 1 (.slice (some ⟨w.heap.size, 0, none⟩) n n) n (filled (L.map cls) n 0) := by
    rw [filled_zero, ← toList_madeCells_one]
    exact World.ownsRow_lit w _ n (Nat.le_refl _) (by unfold maxLen; omega) (by rw [size_madeCells]; omega)
  have HO := hid hown
  clear hown
  go_enter Tryd.func36, Tryd.ntmps36
  go_wp2_with fail
  go_loopw [11] (fun vi wr => ∃ k : Nat, k ≤ n ∧ vi = .int .i64 k ∧ Hid (wr.ownsRow w.heap.size 3 1 (.slice (some ⟨w.heap.size, 0, none⟩) n n) n (filled (L.map cls) n k)) ∧ Gr w wr) (fun vi _ => n - (intOf vi).toNat)
  case atStart => exact ⟨0, Nat.zero_le _, rfl, HO, Gr.alloc _ _⟩
  case round =>
    clear HO
    obtain ⟨k, hk, rfl, HO, hgk⟩ := hrel
    by_cases hkn : k < n
    · obtain ⟨g, off, rfl, hcell⟩ := HA.out k hkn
      have hcell := hgk.cell hcell
      have hkL : k < L.length := by rw [HN.out]; exact hkn
      have hx : L.getD k 0 < 4294967296 := by
        rw [List.getD, List.getElem?_eq_getElem hkL]; exact HB.out _ (List.getElem_mem _)
      have HX : Hid ((L.map cls).getD k 0 = cls (L.getD k 0)) := by
        show _ = _
        rw [List.getD, List.getD, List.getElem?_map, List.getElem?_eq_getElem hkL]; rfl
      have HC := hid (class_any (L.getD k 0) hx wr (ht.gr hgk))
      clear hx
      generalize L.getD k 0 = x at hcell HC HX
      have hlt : (k : Int) < n := by omega
      go_wp2_with (go_at_call 46; refine HC.out.mono ?_; rintro e w1 ⟨rfl, g1⟩; have hO1 := ownsRow_gr HO.out g1; have hc1 := hO1.cellAt k (by omega); rw [filled_at HM.out hkn] at hc1; have hf1 := hO1.frozenAt k; have HO1 := hid hO1; clear hO1)
      go_roundw
      case rel =>
        have h2 := (HO1.out.stored k (.int .i64 (cls x))).1
        have h3 := filled_set HM.out hkn
        rw [HX.out] at h3
        rw [h3] at h2
        exact ⟨k + 1, hkn, by simp, h2, (hgk.trans g1).setCell (Nat.le_refl _) _⟩
      case measure => simp [intOf]; omega
    · have hkn' : k = n := by omega
      go_wp2
      go_ret
      refine ⟨_, rfl, ?_, hgk⟩
      have := HO.out
      rw [hkn', filled_all HM.out] at this
      rw [HM.out]; exact this

theorem inOrd_false {p c : Nat} {t : List Nat} (h : cls c ≠ 0 ∧ cls c < p) : inOrd cls p (c :: t) = false := by
  rw [inOrd, show (Nat.beq (cls c) 0 || Nat.ble p (cls c)) = false by rw [Bool.or_eq_false_iff, ← Bool.not_eq_true, ← Bool.not_eq_true, Nat.beq_eq, Nat.ble_eq]; omega]; rfl
theorem inOrd_true {p c : Nat} {t : List Nat} (h : ¬ (cls c ≠ 0 ∧ cls c < p)) : inOrd cls p (c :: t) = inOrd cls (cls c) t := by
  rw [inOrd, show (Nat.beq (cls c) 0 || Nat.ble p (cls c)) = true by rw [Bool.or_eq_true, Nat.beq_eq, Nat.ble_eq]; omega]; rfl
theorem drop_cons {L : List Nat} {k : Nat} (h : k < L.length) : L.drop k = L.getD k 0 :: L.drop (k + 1) := by
  rw [List.drop_eq_getElem_cons h, List.getD, List.getElem?_eq_getElem h]; rfl

set_option maxRecDepth 20000 in
set_option maxHeartbeats 2000000 in
theorem Is_any (v : Value) (L : List Nat) (w : World) (ht : Tz w) (hv : Sl w v L) (hb : ∀ x ∈ L, x < 4294967296) (hl : L.length ≤ 1000000) : Calls Tryd.prog 38 #[v] w fun e w' => e = .returned (.bool (inOrd cls 0 L)) ∧ Gr w w' := by
  have HC := hid (Classes_any v L w ht hv hb hl)
  obtain ⟨n, hn⟩ : ∃ n, L.length = n := ⟨_, rfl⟩
  have hnb : (n : Int) ≤ 1000000 := by omega
  have HM : Hid ((L.map cls).length = n) := by show _ = _; rw [List.length_map]; exact hn
  have HN := hid hn
  obtain ⟨r, hr⟩ : ∃ r, inOrd cls 0 L = r := ⟨_, rfl⟩
  rw [hr]
  have HR := hid hr
  clear hv hb hl hn hr
  go_enter Tryd.func38, Tryd.ntmps38
  go_wp2_with (go_at_call 36; refine HC.out.mono ?_; rintro e w1 ⟨vo, rfl, ho, g1⟩; rw [HM.out] at ho; obtain ⟨ao, ca, rfl⟩ := row_shape ho; have HO := hid ho; clear ho)
  go_loop [3, 9] (fun vl vi => ∃ (k p : Nat), k ≤ n ∧ vi = .int .i64 k ∧ vl = .int .i64 p ∧ p ≤ 255 ∧ Hid (inOrd cls p (L.drop k) = r)) (fun _ vi => n - (intOf vi).toNat)
  case atStart => exact ⟨0, 0, Nat.zero_le _, rfl, rfl, by omega, HR⟩
  case round =>
    obtain ⟨k, p, hk, rfl, rfl, hp, HE⟩ := hrel
    by_cases hkn : k < n
    · obtain ⟨g, cap, e, _, _⟩ := row_form HO.out (by omega)
      injection e with e1 e2 e3
      subst e1 e3
      have hkL : k < L.length := by rw [HN.out]; exact hkn
      have ho := HO.out
      rw [← HM.out] at ho
      have hcell := int_cell ho k (by rw [HM.out]; exact hkn)
      have hx : (L.map cls).getD k 0 = cls (L.getD k 0) := by
        rw [List.getD, List.getD, List.getElem?_map, List.getElem?_eq_getElem hkL]; rfl
      rw [hx] at hcell
      have hE := HE.out
      rw [drop_cons hkL] at hE
      generalize L.getD k 0 = x at hcell hE
      have HE2 := hid hE
      have hc := cls_le x
      clear hx hE ho
      have hlt : (k : Int) < n := by omega
      by_cases h0 : cls x = 0
      · have HE3 : Hid (inOrd cls (cls x) (L.drop (k + 1)) = r) := by show _ = _; rw [← HE2.out, inOrd_true (fun h => h.1 h0)]
        have h0z : ((cls x : Int) != 0) = false := by rw [bne_eq_false_iff_eq]; omega
        have h0y : (cls x : Int) = 0 := by omega
        have HY := hid h0y
        obtain ⟨c, hcx⟩ : ∃ c, cls x = c := ⟨_, rfl⟩
        rw [hcx] at hcell h0z h0y hc HE3
        clear h0 hcx HY
        go_wp2
        go_round
        case rel => exact ⟨k + 1, c, hkn, by simp, by first | rfl | (congr 1; omega), hc, HE3⟩
        case measure => simp [intOf]; omega
      · have h0z : ((cls x : Int) != 0) = true := by rw [bne_iff_ne]; omega
        have h0y : ¬ (cls x : Int) = 0 := by omega
        by_cases hlp : cls x < p
        · have HF : Hid (r = false) := by show _ = _; rw [← HE2.out, inOrd_false ⟨h0, hlp⟩]
          have hlpz : ((cls x : Nat) : Int) < p := by omega
          obtain ⟨c, hcx⟩ : ∃ c, cls x = c := ⟨_, rfl⟩
          rw [hcx] at hcell h0z h0y hlpz
          clear h0 hcx hlp hc
          go_wp2
          go_ret
          exact ⟨by rw [HF.out]; rfl, g1⟩
        · have HE3 : Hid (inOrd cls (cls x) (L.drop (k + 1)) = r) := by show _ = _; rw [← HE2.out, inOrd_true (fun h => hlp h.2)]
          have hlpz : ¬ ((cls x : Nat) : Int) < p := by omega
          obtain ⟨c, hcx⟩ : ∃ c, cls x = c := ⟨_, rfl⟩
          rw [hcx] at hcell h0z h0y hlpz hc HE3
          clear h0 hcx hlp
          go_wp2
          go_round
          case rel => exact ⟨k + 1, c, hkn, by simp, rfl, hc, HE3⟩
          case measure => simp [intOf]; omega
    · have HF : Hid (r = true) := by show _ = _; rw [← HE.out, List.drop_of_length_le (by rw [HN.out]; omega)]; rfl
      go_wp2
      go_ret
      exact ⟨by rw [HF.out]; rfl, g1⟩
end Go.Proofs.YtgjlneedpbgfpaaDoor
