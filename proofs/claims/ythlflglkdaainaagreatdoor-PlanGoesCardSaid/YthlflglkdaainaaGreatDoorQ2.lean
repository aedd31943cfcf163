import Derived.Test.YthlflglkdaainaaGreatDoorP12
/- gessolaw17.awake. -/
set_option maxRecDepth 100000
namespace Go.Proofs.YthlflglkdaainaaGreatDoor.Tr
open Go.RowKit Go.Lib Go.Maps Go.Proofs.YthlflglkdaainaaGreatDoorW.PrintWords Go.Proofs.YthlflglkdaainaaGreatDoorW.PrintLast Go.Proofs.YthlflglkdaainaaGreatDoorW.PrintMore Go.Proofs.YthlflglkdaainaaGreatDoor.Prt

def twL : List It := [⟨-1, ⟨#[100, 204, 163]⟩, true, []⟩, ⟨0, ⟨#[101, 204, 129]⟩, false, [120]⟩]
theorem tw_f : codes [100, 204, 163] = some [100, 803] ∧ bytesL [7693] = [225, 184, 141] ∧ codes [120] = some [120] ∧ bytesL [120] = [120] := by decide +kernel
theorem tw_t : comp (ordF (fullL [100, 803])) = [7693] := by decide +kernel
theorem tw_u : nfc [100, 803] = [7693] := by
  have h := tw_t
  rw [ordF_eq] at h; exact h
theorem tw_v : comp (ordF (fullL [120])) = [120] := by decide +kernel
theorem tw_w : nfc [120] = [120] := by
  have h := tw_v
  rw [ordF_eq] at h; exact h
theorem tw_1 : textB [100, 204, 163] = some [225, 184, 141] := by
  obtain ⟨h1, h2, _⟩ := tw_f
  unfold textB
  rw [h1, Option.map_some, tw_u, h2]
theorem tw_2 : textB [120] = some [120] := by
  obtain ⟨_, _, h1, h2⟩ := tw_f
  unfold textB
  rw [h1, Option.map_some, tw_w, h2]
theorem tw_c : checkN twL = 0 := by kernel_rfl
theorem tw_wf : WfL twL := by
  intro x hx
  simp only [twL, List.mem_cons, List.not_mem_nil, or_false] at hx
  rcases hx with rfl | rfl <;> refine ⟨by decide, by decide, by decide, by decide, by decide⟩
theorem tw_h0 : cmB (itA twL ((0 : Nat) : Int)) = some [225, 184, 141] := tw_1
theorem tw_h1 : cmB (itA twL ((1 : Nat) : Int)) = some [195, 169] := ex_1
theorem tw_cnt (p : Int) (c : List UInt8) : cntN twL twL.length p c ≤ 1 ∨ (p = -1 ∧ p = 0) := by
  have s0 : cntN twL 0 p c = 0 := by simp [cntN]
  have s1 := cnt_snoc (L := twL) (n := 0) (by decide) p c
  have s2 := cnt_snoc (L := twL) (n := 1) (by decide) p c
  change cntN twL 1 p c = _ at s1
  change cntN twL 2 p c = _ at s2
  rw [s0] at s1
  by_cases h : p = -1
  · rw [if_neg (show ¬ ((itA twL ((1 : Nat) : Int)).f0 = p ∧ _) from fun hh => by have := hh.1; rw [h] at this; exact absurd this (by decide))] at s2
    left
    show cntN twL 2 p c ≤ 1
    split at s1 <;> omega
  · rw [if_neg (show ¬ ((itA twL ((0 : Nat) : Int)).f0 = p ∧ _) from fun hh => h hh.1.symm)] at s1
    left
    show cntN twL 2 p c ≤ 1
    split at s2 <;> omega
theorem tw_le (p : Int) (c : List UInt8) : ¬ 1 < cntN twL twL.length p c := by
  rcases tw_cnt p c with h | ⟨h1, h2⟩
  · omega
  · omega
theorem tw_n0 : jNm twL (itA twL ((0 : Nat) : Int)) = (⟨#[225, 184, 141]⟩, 0) := jNm_fine (x := itA twL ((0 : Nat) : Int)) tw_h0 (by decide) (tw_le _ _)
theorem tw_n1 : jNm twL (itA twL ((1 : Nat) : Int)) = (⟨#[195, 169]⟩, 0) := jNm_fine (x := itA twL ((1 : Nat) : Int)) tw_h1 (by decide) (tw_le _ _)
theorem tw_d1 : (jDt (itA twL ((1 : Nat) : Int))).1 = [120] := by
  have h : dOf [120] = ([120], 0) := by unfold dOf; rw [tw_2]; rfl
  show (if false = true then (([], 0) : List Int × Int) else (i8s (dOf [120]).1, (dOf [120]).2)).1 = _
  rw [h]; rfl
def twS : List St := [⟨true, [⟨#[100, 204, 163]⟩, ⟨#[101, 204, 129]⟩], ⟨#[195, 169]⟩⟩, ⟨true, [⟨#[100, 204, 163]⟩], ⟨#[225, 184, 141]⟩⟩]
theorem tw_st : stL twL 2 = [⟨true, [⟨#[100, 204, 163]⟩], ⟨#[225, 184, 141]⟩⟩, ⟨true, [⟨#[100, 204, 163]⟩, ⟨#[101, 204, 129]⟩], ⟨#[195, 169]⟩⟩] := by
  have d0 : stD twL 0 = [] := rfl
  have d1 : stD twL 1 = [] := by
    unfold stD
    rw [if_neg (by decide), if_pos (by rw [tw_d1]; rfl)]
  have n0 : stN twL 0 = [⟨true, [⟨#[100, 204, 163]⟩], ⟨#[225, 184, 141]⟩⟩] := by
    unfold stN
    rw [show ((0 : Nat) : Int) = ((0 : Nat) : Int) from rfl, tw_n0, if_neg (by decide +kernel)]
    rfl
  have n1 : stN twL 1 = [⟨true, [⟨#[100, 204, 163]⟩, ⟨#[101, 204, 129]⟩], ⟨#[195, 169]⟩⟩] := by
    unfold stN
    rw [tw_n1, if_neg (by decide +kernel)]
    rfl
  show (stD twL 0 ++ stN twL 0) ++ ((stD twL 1 ++ stN twL 1) ++ []) = _
  rw [d0, d1, n0, n1]; rfl
theorem tw_steps : stpT twL = twS := by
  unfold stpT
  rw [if_pos tw_c]
  show sortSt (stL twL 2) = _
  have hnd : ((stL twL 2).map keyS).Nodup := st_nodup (L := twL) (by rw [tw_c]; decide)
  refine sorted_uniq ?_ (sortSt_sorted hnd) ?_
  · refine (sortSt_perm _).trans ?_
    rw [tw_st]
    exact List.Perm.swap _ _ _
  · unfold twS
    rw [List.pairwise_cons]
    refine ⟨fun y hy => ?_, List.pairwise_singleton _ _⟩
    rw [List.mem_singleton.1 hy, ordS_lt]
    exact .inr ⟨rfl, by rw [lessB_true]; left; decide⟩
theorem tw_find : findT twL [⟨#[100, 204, 163]⟩] = 0 := find_path (L := twL) (k := 0) (by rw [tw_c]; decide) (by decide)
theorem tw_none : findT twL [] = -1 := rfl
def twW (w : World) : World := (w.alloc (Obj.cells #[.int .u8 120] 5 (1, 2))).alloc (Obj.cells #[.int .i64 (-1), .string ⟨#[100, 204, 163]⟩, .bool true, .slice none 0 0, .int .i64 0, .string ⟨#[101, 204, 129]⟩, .bool false, .slice (some ⟨w.heap.size, 0, none⟩) 1 1] 53)
theorem tw_below (w : World) : Below w.heap.size w (twW w) := below_alloc (below_alloc (Below.refl _ _) _) _
theorem tw_cell (w : World) (i : Nat) {v : Value} (h : (#[.int .i64 (-1), .string ⟨#[100, 204, 163]⟩, .bool true, .slice none 0 0, .int .i64 0, .string ⟨#[101, 204, 129]⟩, .bool false, .slice (some ⟨w.heap.size, 0, none⟩) 1 1] : Array Value)[i]? = some v) : (twW w).cell? ⟨w.heap.size + 1, i, none⟩ = some v := by
  have hsz : (w.alloc (Obj.cells #[.int .u8 120] 5 (1, 2))).heap.size = w.heap.size + 1 := by rw [World.size_alloc]
  rw [← hsz]
  exact cell_alloc_new _ _ _ _ _ h
theorem tw_b0 (w : World) (i : Nat) {v : Value} (h : (#[.int .u8 120] : Array Value)[i]? = some v) : (twW w).cell? ⟨w.heap.size, i, none⟩ = some v :=
  pw_cell_below (below_alloc (Below.refl _ _) _) (cell_alloc_new w _ _ _ _ h)
theorem tw_C (w : World) : Kd.C kIt (twW w) (some ⟨w.heap.size + 1, 0, none⟩) 2 twL := by
  refine ⟨rfl, by decide, fun _ => ⟨_, rfl, fun j p hj => ?_⟩⟩
  match j, hj with
  | 0, hj =>
    cases hj
    refine ⟨[.int .i64 (-1), .string ⟨#[100, 204, 163]⟩, .bool true, .slice none 0 0], rfl, k53_mk _ ⟨-1, ⟨#[100, 204, 163]⟩, true, []⟩ (Nat.le_refl _) (Kd.C_nil _ _), fun i u hu => ?_⟩
    rw [add_at0]
    match i, hu with
    | 0, hu => exact tw_cell w 0 hu
    | 1, hu => exact tw_cell w 1 hu
    | 2, hu => exact tw_cell w 2 hu
    | 3, hu => exact tw_cell w 3 hu
    | i + 4, hu => simp at hu
  | 1, hj =>
    cases hj
    refine ⟨[.int .i64 0, .string ⟨#[101, 204, 129]⟩, .bool false, .slice (some ⟨w.heap.size, 0, none⟩) 1 1], rfl, k53_mk _ ⟨0, ⟨#[101, 204, 129]⟩, false, [120]⟩ (Nat.le_refl _) ⟨rfl, by decide, fun _ => ⟨_, rfl, fun j p hj => ?_⟩⟩, fun i u hu => ?_⟩
    · match j, hj with
      | 0, hj =>
        cases hj
        refine ⟨[.int .u8 120], rfl, rfl, fun i u hu => ?_⟩
        match i, hu with
        | 0, hu => rw [add_at0]; exact tw_b0 w 0 hu
        | i + 1, hu => simp at hu
      | j + 1, hj => simp at hj
    · rw [add_at0]
      match i, hu with
      | 0, hu => exact tw_cell w 4 hu
      | 1, hu => exact tw_cell w 5 hu
      | 2, hu => exact tw_cell w 6 hu
      | 3, hu => exact tw_cell w 7 hu
      | i + 4, hu => simp at hu
  | j + 2, hj => simp [twL] at hj
theorem tw_cap (w : World) : CapR (twW w) (some ⟨w.heap.size + 1, 0, none⟩) 2 := by
  intro j hj
  match j, hj with
  | 0, _ => exact ⟨_, none, 0, 0, rfl, by rw [add_at0]; exact tw_cell w 3 rfl, by decide, fun _ => rfl⟩
  | 1, _ => exact ⟨_, some ⟨w.heap.size, 0, none⟩, 1, 1, rfl, by rw [add_at0]; exact tw_cell w 7 rfl, by decide, nofun⟩
theorem two_any (w : World) : Calls Tryz.prog 39 #[] w fun e w' => e = .returned (.slice (some ⟨w.heap.size + 1, 0, none⟩) 2 2) ∧ w' = twW w := by
  have hu53 := Tryz.underlying53
  have hu22 := Tryz.underlying22
  have k1 := fun (W : World) => run_convert_bytes_const (P := Tryz.prog) W 46 5 #[.int .u8 120] 1 1 Tryz.underlying46 Tryz.underlying5
  go_enter Tryz.func39, Tryz.ntmps39
  go_wp2
  go_ret
  exact ⟨rfl, rfl⟩
end Go.Proofs.YthlflglkdaainaaGreatDoor.Tr
