import Derived.Test.YthlflglkdaainaaGreatDoorPY
/- slices.Equal of bytes. -/
set_option maxRecDepth 100000
namespace Go.Proofs.YthlflglkdaainaaGreatDoor.Tr
open Go.RowKit Go.Lib Go.Proofs.YthlflglkdaainaaGreatDoorW.PrintWords Go.Proofs.YthlflglkdaainaaGreatDoorW.PrintLast Go.Proofs.YthlflglkdaainaaGreatDoorW.PrintMore Go.Proofs.YthlflglkdaainaaGreatDoor.Prt

theorem rd_get {l : List Int} {i : Nat} (h : i < l.length) : rd l (i : Int) = l[i] := by
  simp [rd, List.getD_eq_getElem?_getD, h]

set_option maxRecDepth 100000 in
set_option maxHeartbeats 8000000 in
theorem eqb_any (a b : List Int) (A B : Option Addr) (c d : Nat) (w : World) (hA : (Kd.int .u8).C w A a.length a) (hB : (Kd.int .u8).C w B b.length b) :
    Calls Tryz.prog 40 #[.slice A a.length c, .slice B b.length d] w fun e w' => e = .returned (.bool (decide (a = b))) ∧ Drawn0 w w' := by
  have HA := Aside0.mk hA
  have HB := Aside0.mk hB
  have la := hA.2.1
  have lb := hB.2.1
  clear hA hB
  by_cases hne : a.length = b.length
  · have hz : ((a.length : Int) != (b.length : Int)) = false := by simp [hne]
    go_enter Tryz.func40, Tryz.ntmps40
    have HN := Aside0.mk hne
    clear hne
    go_wp2
    go_loopg [13] a.length (fun gg v13 wr => ∃ i : Nat, i ≤ a.length ∧ a.length - i ≤ gg ∧ v13 = .int .i64 i ∧ Aside0 (Drawn0 w wr) ∧ Aside0 (a.take i = b.take i))
    case atStart => exact ⟨0, Nat.zero_le _, by omega, rfl, ⟨Drawn0.refl _⟩, ⟨rfl⟩⟩
    case round =>
      obtain ⟨i, hi, hg, rfl, HD, HE⟩ := hrel
      by_cases hlt : i < a.length
      · have hltz : (i : Int) < (a.length : Int) := by omega
        have hbl : i < b.length := by have := HN.out; omega
        have hblz : (i : Int) < (b.length : Int) := by omega
        obtain ⟨ad, rfl, h0⟩ := Kd.at_int (Kd.C_below HA.out HD.out.below) (i : Int) (by omega) hltz
        obtain ⟨ad2, rfl, h1⟩ := Kd.at_int (Kd.C_below HB.out HD.out.below) (i : Int) (by omega) hblz
        rw [Int.toNat_natCast, rd_get hlt] at h0
        rw [Int.toNat_natCast, rd_get hbl] at h1
        by_cases hxy : a[i] = b[i]
        · have HE2 : Aside0 (a.take (i + 1) = b.take (i + 1)) := ⟨by rw [List.take_succ_eq_append_getElem hlt, List.take_succ_eq_append_getElem hbl, HE.out, hxy]⟩
          rw [← hxy] at h1
          clear hxy
          go_wp2
          go_quiet (fail)
          go_wp2
          go_roundg (a.length - (i + 1))
          case measure => omega
          case rel => exact ⟨i + 1, by omega, by omega, by go_num, ⟨by repeat (first | exact HD.out | apply Drawn0.step)⟩, HE2⟩
        · have hr : decide (a = b) = false := decide_eq_false (fun e => by subst e; exact hxy rfl)
          have hxz : (a[i] != b[i]) = true := by simpa using hxy
          generalize a[i] = x at *
          generalize b[i] = y at *
          go_wp2
          go_quiet (fail)
          go_wp2
          go_ret
          first | exact ⟨rfl, by repeat (first | exact HD.out | apply Drawn0.step)⟩ | (rw [hr]; exact ⟨rfl, by repeat (first | exact HD.out | apply Drawn0.step)⟩)
      · have hltz : ¬ (i : Int) < (a.length : Int) := by omega
        have hr : decide (a = b) = true := decide_eq_true (by
          have h := HE.out
          have h2 := HN.out
          rw [List.take_of_length_le (by omega), List.take_of_length_le (by omega)] at h
          exact h)
        go_wp2
        go_ret
        first | exact ⟨rfl, HD.out⟩ | (rw [hr]; exact ⟨rfl, HD.out⟩)
  · have hz : ((a.length : Int) != (b.length : Int)) = true := by rw [bne_iff_ne]; omega
    have hr : decide (a = b) = false := decide_eq_false (fun e => hne (by rw [e]))
    go_enter Tryz.func40, Tryz.ntmps40
    go_wp2
    go_ret
    first | exact ⟨rfl, Drawn0.refl _⟩ | (rw [hr]; exact ⟨rfl, Drawn0.refl _⟩)

end Go.Proofs.YthlflglkdaainaaGreatDoor.Tr
