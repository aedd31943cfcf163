import Derived.Test.YthlflglkdaainaaGreatDoorP10
/- plan.All. -/
set_option maxRecDepth 100000
namespace Go.Proofs.YthlflglkdaainaaGreatDoor.Tr
open Go.RowKit Go.Lib Go.Maps Go.Proofs.YthlflglkdaainaaGreatDoorW.PrintWords Go.Proofs.YthlflglkdaainaaGreatDoorW.PrintLast Go.Proofs.YthlflglkdaainaaGreatDoorW.PrintMore Go.Proofs.YthlflglkdaainaaGreatDoor.Prt

theorem run_err : ∀ (S : List St) (L : List It), (runT L S).2 ≠ 0 → (runT L S).1 = []
  | [], L, h => absurd rfl h
  | s :: S, L, h => by
    unfold runT at h ⊢
    by_cases e : (applyT L s).2 = 0
    · rw [if_pos e] at h ⊢
      exact run_err S _ h
    · rw [if_neg e]
theorem stp_at (S : List St) {j : Nat} (hj : j < S.length) : S.drop j = stpA S j :: S.drop (j + 1) := by
  rw [List.drop_eq_getElem_cons hj]
  unfold stpA
  rw [List.getD_eq_getElem?_getD, List.getElem?_eq_getElem hj]; rfl

set_option maxHeartbeats 8000000 in
theorem All_any (L : List It) (A : Option Addr) (c : Nat) (hc : L.length ≤ c) (S : List St) (As : Option Addr) (cs : Nat) (hcs : S.length ≤ cs) (w : World) (ht : Tz w) (hu : Ut w) (hC : Kd.C kIt w A L.length L) (hwf : WfL L) (hS : Kd.C kSt w As S.length S) (hs : ∀ s ∈ S, s.f2.size ≤ maxLen) :
    Calls Tryz.prog 19 #[.slice A L.length c, .slice As S.length cs] w fun e w' => ∃ v, e = .returned (.tuple #[v, .int .i64 (allT L S).2]) ∧ Kd.R kIt 53 w' w.heap.size (fun _ => True) v (allT L S).1 ∧ Below w.heap.size w w' := by
  have hu53 := Tryz.underlying53
  have hu67 := Tryz.underlying67
  have HK := check_any L A c w hC hwf
  by_cases h0 : checkN L = 0
  · have h14 : checkN L ≠ 14 := by rw [h0]; decide
    obtain ⟨q1, _, q3⟩ := check_ok h14
    rw [List.all_eq_true] at q3
    have hal : allT L S = runT L S := if_pos h0
    rw [hal]
    rw [h0] at HK
    have HCp : Aside0 (∀ W, Below w.heap.size w W → Calls Tryz.prog 32 #[.slice A L.length c] W fun e w' => ∃ v, e = .returned v ∧ Kd.R kIt 53 w' W.heap.size (fun _ => True) v L ∧ Below W.heap.size W w') := ⟨fun W B => copy_any L A c W (Kd.C_below hC B) (by omega) (fun x hx => by have := right_len (q3 x hx); omega)⟩
    have HA : Aside0 (∀ (M : List It) (W : World) (v : Value) (s : St) (Ap : Option Addr) (cp : Nat), s.f1.length ≤ cp → Below w.heap.size w W → WfL M → Kd.R kIt 53 W w.heap.size (fun _ => True) v M → Kd.C Kd.string W Ap s.f1.length s.f1 → s.f2.size ≤ maxLen → Calls Tryz.prog 35 #[v, .agg #[.bool s.f0, .slice Ap s.f1.length cp, .string s.f2]] W fun e w' => ∃ v, e = .returned (.tuple #[v, .int .i64 (applyT M s).2]) ∧ Kd.R kIt 53 w' W.heap.size (fun _ => True) v (applyT M s).1 ∧ Below W.heap.size W w') := ⟨fun M W v s Ap cp h1 B hw hr hp h2 => by
      obtain ⟨A4, c4, rfl⟩ := Kd.R_slice hr
      obtain ⟨_, r3, r4⟩ := Kd.R_reads' hr
      exact Apply_any M A4 c4 r3 s Ap cp h1 W (tz_below ht B) (hu.gr B) r4 (cap_of_R hr) hw hp h2⟩
    have h63 := hS.2.1
    have HS := Aside0.mk hS
    have HL := Aside0.mk hs
    have hwf := Aside0.mk hwf
    clear hC ht hu hS hs h0 h14 q3 hal q1
    go_enter Tryz.func19, Tryz.ntmps19
    go_wp2_with (first
      | (go_at_call 18; with_reducible refine HK.mono ?_; rintro e w1 ⟨rfl, hb1⟩)
      | (go_at_call 32; with_reducible refine (HCp.out _ hb1).mono ?_; rintro e w2 ⟨v2, rfl, hr2, hb2⟩; have hb20 := below_then hb1 hb1.size hb2))
    go_loopg [0, 19] S.length (fun gg v0 v19 wr => ∃ (j : Nat) (M : List It), j ≤ S.length ∧ S.length - j ≤ gg ∧ v19 = .int .i64 j ∧ Aside0 (Kd.R kIt 53 wr w.heap.size (fun _ => True) v0 M) ∧ Aside0 (Below w.heap.size w wr) ∧ Aside0 (WfL M) ∧ Aside0 (runT L S = runT M (S.drop j)))
    case atStart => exact ⟨0, L, Nat.zero_le _, by omega, rfl, ⟨Kd.R_lower hr2 hb1.size⟩, ⟨hb20⟩, hwf, ⟨rfl⟩⟩
    case round =>
      obtain ⟨j, M, hj, hg, rfl, HR, HB, HW, HE⟩ := hrel
      by_cases hlt : j < S.length
      · have hltz : (j : Int) < (S.length : Int) := by omega
        have hsj : stpA S j ∈ S := by
          unfold stpA
          rw [List.getD_eq_getElem?_getD, List.getElem?_eq_getElem hlt]
          exact List.getElem_mem hlt
        have hdr := stp_at S hlt
        obtain ⟨ad, A3, c3, rfl, x0, x1, x2, x3, x4⟩ := at_T67 (Kd.C_below HS.out HB.out) (j : Int) (by omega) hltz
        rw [Int.toNat_natCast] at x0 x1 x2
        have hrun : runT L S = if (applyT M (stpA S j)).2 = 0 then runT (applyT M (stpA S j)).1 (S.drop (j + 1)) else ([], (applyT M (stpA S j)).2) := by
          rw [HE.out, hdr]; rfl
        have hwM := apply_wf HW.out (s := stpA S j) (HL.out _ hsj)
        change (wr.cell? (ad.add (j * 3)) = some (.bool (stpA S j).f0)) at x0
        change (wr.cell? ⟨(ad.add (j * 3)).block, (ad.add (j * 3)).off + 1, none⟩ = some (.slice A3 (stpA S j).f1.length c3)) at x1
        change (wr.cell? ⟨(ad.add (j * 3)).block, (ad.add (j * 3)).off + 2, none⟩ = some (.string (stpA S j).f2)) at x2
        change ((stpA S j).f1.length ≤ c3) at x3
        change (Kd.string.C wr A3 (stpA S j).f1.length (stpA S j).f1) at x4
        have hba := below_alloc (Below.refl wr.heap.size wr) (Obj.cells #[.bool (stpA S j).f0, .slice A3 (stpA S j).f1.length c3, .string (stpA S j).f2] 67)
        have hbB := below_then HB.out HB.out.size hba
        have HA1 := Aside0.mk (HA.out M _ u0 (stpA S j) A3 c3 x3 hbB HW.out (Kd.R_below HR.out hba) (Kd.C_below x4 hba) (HL.out _ hsj))
        have hbB' := Aside0.mk hbB
        clear hbB hba x3 x4 hsj hdr HE HR HW
        obtain ⟨y, hy⟩ : ∃ y, y = (applyT M (stpA S j)).2 := ⟨_, rfl⟩
        rw [← hy] at HA1 hrun
        by_cases h0 : y = 0
        · subst h0
          rw [if_pos rfl] at hrun
          have hrun := Aside0.mk hrun
          clear hy
          go_wp2_with (go_at_call 35; with_reducible refine HA1.out.mono ?_; rintro e w4 ⟨v4, rfl, hr4, hb4⟩)
          go_roundg (S.length - (j + 1))
          case measure => omega
          case rel => exact ⟨j + 1, _, by omega, by omega, by go_num, ⟨Kd.R_lower hr4 hbB'.out.size⟩, ⟨below_then hbB'.out hbB'.out.size hb4⟩, ⟨hwM⟩, hrun⟩
        · rw [if_neg h0] at hrun
          have hrun := Aside0.mk hrun
          have hne : (y != 0) = true := by rw [bne_iff_ne]; exact h0
          clear hy h0
          go_wp2_with (go_at_call 35; with_reducible refine HA1.out.mono ?_; rintro e w4 ⟨v4, rfl, hr4, hb4⟩)
          go_ret2
          rw [hrun.out]
          exact ⟨_, rfl, Kd.R_nil _ _ _ _ _, below_then hbB'.out hbB'.out.size hb4⟩
      · obtain rfl : j = S.length := by omega
        rw [List.drop_length] at HE
        have he : runT L S = (M, 0) := HE.out
        clear hlt HE
        go_wp2
        go_ret2
        rw [he]
        exact ⟨_, rfl, HR.out, HB.out⟩
  · have e : allT L S = ([], checkN L) := if_neg h0
    rw [e]
    have hne : (checkN L != 0) = true := by rw [bne_iff_ne]; exact h0
    generalize checkN L = y at HK hne ⊢
    clear hC hwf ht hu h0 e hS hs
    go_enter Tryz.func19, Tryz.ntmps19
    go_wp2_with (go_at_call 18; with_reducible refine HK.mono ?_; rintro e w1 ⟨rfl, hb1⟩)
    go_ret2
    exact ⟨_, rfl, Kd.R_nil _ _ _ _ _, hb1⟩
end Go.Proofs.YthlflglkdaainaaGreatDoor.Tr
