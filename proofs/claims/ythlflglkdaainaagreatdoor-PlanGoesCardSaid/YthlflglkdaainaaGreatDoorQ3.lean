import Derived.Test.YthlflglkdaainaaGreatDoorQ2
/- gessolaw17.awake answers true. -/
set_option maxRecDepth 100000
namespace Go.Proofs.YthlflglkdaainaaGreatDoor.Tr
open Go.RowKit Go.Lib Go.Maps Go.Proofs.YthlflglkdaainaaGreatDoorW.PrintWords Go.Proofs.YthlflglkdaainaaGreatDoorW.PrintLast Go.Proofs.YthlflglkdaainaaGreatDoorW.PrintMore Go.Proofs.YthlflglkdaainaaGreatDoor.Prt

theorem tw_path (W : World) : Kd.C Kd.string ((twW W).alloc (Obj.cells #[.string ⟨#[100, 204, 163]⟩] 9)) (some ⟨(twW W).heap.size, 0, none⟩) 1 [⟨#[100, 204, 163]⟩] := by
  refine ⟨rfl, by decide, fun _ => ⟨_, rfl, fun j p hj => ?_⟩⟩
  match j, hj with
  | 0, hj =>
    cases hj
    refine ⟨[.string ⟨#[100, 204, 163]⟩], rfl, rfl, fun i u hu => ?_⟩
    rw [add_at0]
    match i, hu with
    | 0, hu => exact cell_alloc_new _ _ _ _ _ hu
    | i + 1, hu => simp at hu
  | j + 1, hj => simp at hj
theorem tw_F1 (W : World) : Calls Tryz.prog 37 #[.slice (some ⟨W.heap.size + 1, 0, none⟩) 2 2, .slice (some ⟨(twW W).heap.size, 0, none⟩) 1 1] ((twW W).alloc (Obj.cells #[.string ⟨#[100, 204, 163]⟩] 9)) fun e w' => e = .returned (.int .i64 0) ∧ Below W.heap.size W w' := by
  have hb := below_alloc (Below.refl (twW W).heap.size (twW W)) (Obj.cells #[.string ⟨#[100, 204, 163]⟩] 9)
  have h := Find_any twL (some ⟨W.heap.size + 1, 0, none⟩) 2 (by decide) [⟨#[100, 204, 163]⟩] (some ⟨(twW W).heap.size, 0, none⟩) 1 (by decide) _ (Kd.C_below (tw_C W) hb) tw_wf (tw_path W)
  rw [tw_find] at h
  refine h.mono fun e w' h => ⟨h.1, ?_⟩
  have hb2 := below_then hb hb.size h.2
  exact below_then (tw_below W) (tw_below W).size hb2
theorem tw_F2 (W : World) : Calls Tryz.prog 37 #[.slice (some ⟨W.heap.size + 1, 0, none⟩) 2 2, .slice none 0 0] (twW W) fun e w' => e = .returned (.int .i64 (-1)) ∧ Below W.heap.size W w' := by
  have h := Find_any twL (some ⟨W.heap.size + 1, 0, none⟩) 2 (by decide) [] none 0 (by decide) _ (tw_C W) tw_wf (Kd.C_nil _ _)
  rw [tw_none] at h
  exact h.mono fun e w' h => ⟨h.1, below_then (tw_below W) (tw_below W).size h.2⟩
theorem tw_S (w : World) (ht : Tz w) (hu : Ut w) : Calls Tryz.prog 17 #[.slice (some ⟨w.heap.size + 1, 0, none⟩) 2 2] (twW w) fun e w' => ∃ b o c3 A1 c1 A2 c2, e = .returned (.tuple #[.slice (some ⟨b, o, none⟩) 2 c3, .int .i64 0]) ∧
    w'.cell? ⟨b, o, none⟩ = some (.bool true) ∧ w'.cell? ⟨b, o + 1, none⟩ = some (.slice A1 2 c1) ∧ w'.cell? ⟨b, o + 2, none⟩ = some (.string ⟨#[195, 169]⟩) ∧ w'.cell? ⟨b, o + 3 + 1, none⟩ = some (.slice A2 1 c2) ∧ w'.cell? ⟨b, o + 3 + 2, none⟩ = some (.string ⟨#[225, 184, 141]⟩) ∧ Below w.heap.size w w' := by
  have hb := tw_below w
  have h := Steps_any twL (some ⟨w.heap.size + 1, 0, none⟩) 2 (by decide) (twW w) (tz_below ht hb) (hu.gr hb) (tw_C w) (tw_cap w) tw_wf
  rw [tw_steps, tw_c] at h
  refine h.mono fun e w' h => ?_
  obtain ⟨A3, c3, rfl, _, hC, hb2⟩ := h
  obtain ⟨ad, A1, c1, rfl, x0, x1, x2, _, _⟩ := at_T67 hC ((0 : Nat) : Int) (by decide) (by decide)
  obtain ⟨ad', A2, c2, hA', _, y1, y2, _, _⟩ := at_T67 hC ((1 : Nat) : Int) (by decide) (by decide)
  cases hA'
  obtain ⟨b, o, sp⟩ := ad
  have hs : sp = none := World.cell?_spot x0
  subst hs
  exact ⟨b, o, c3, A1, c1, A2, c2, rfl, x0, x1, x2, y1, y2, below_then hb hb.size hb2⟩
set_option maxHeartbeats 8000000 in
theorem awake17_any (w : World) (ht : Tz w) (hu : Ut w) : Calls Tryz.prog 16 #[] w fun e w' => e = .returned (.bool true) ∧ Below w.heap.size w w' := by
  have hu53 := Tryz.underlying53
  have hu67 := Tryz.underlying67
  have HS := Aside0.mk (tw_S w ht hu)
  have H1 := Aside0.mk tw_F1
  have H2 := Aside0.mk tw_F2
  clear ht hu
  go_enter Tryz.func16, Tryz.ntmps16
  go_wp2_with (first
    | (go_at_call 39; with_reducible refine (two_any _).mono ?_; rintro e wq ⟨rfl, rfl⟩)
    | (go_at_call 17; with_reducible refine HS.out.mono ?_; rintro e w5 ⟨b, o, c3, A1, c1, A2, c2, rfl, x0, x1, x2, y1, y2, hb5⟩)
    | (go_at_call 37; with_reducible refine (H1.out w5).mono ?_; rintro e w6 ⟨rfl, hb6⟩; have hb60 := below_then hb5 hb5.size hb6)
    | (go_at_call 37; with_reducible refine (H2.out w6).mono ?_; rintro e w7 ⟨rfl, hb7⟩; have hb70 := below_then hb60 hb60.size hb7))
  go_ret
  exact ⟨rfl, hb70⟩
end Go.Proofs.YthlflglkdaainaaGreatDoor.Tr
