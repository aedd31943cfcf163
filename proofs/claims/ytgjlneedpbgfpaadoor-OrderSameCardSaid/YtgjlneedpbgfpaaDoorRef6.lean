import Derived.Test.YtgjlneedpbgfpaaDoorRef5
/- The walks of the document's answer for ucd (gessoref03): the loop over the pairs. -/
namespace Go.Proofs.YtgjlneedpbgfpaaDoor
open Go.RowKit

set_option maxRecDepth 100000 in
set_option maxHeartbeats 2000000 in
theorem rsecond_loop (c : Nat) (w : World) (h : jamo c = false) (ho : 768 ≤ c ∧ c ≤ 71984) : Calls Tryd.prog 114 #[.int .u32 c] w fun e w' => e = .returned (.bool (second c)) ∧ Gr w w' := by
  have HS : Hid (second c = Pl.any (fun e => Nat.beq e.2.1 c)) := by show second c = _; unfold second; rw [h]; rfl
  have hs : tP.size ≤ 100000 := by rw [P_size]; omega
  have HS2 : Hid (tP.size = 15 * 941) := P_size
  have hj := jamo_not h
  have h8 : 768 ≤ (c : Int) := by omega
  have h9 : (c : Int) ≤ 71984 := by omega
  clear h ho
  rcases hj with h1 | ⟨h1, h2⟩ | h1
  all_goals
    go_enter Tryd.func114, Tryd.ntmps114
    go_name_bytes T hT
    have eT : T = tP := by rw [← hT]; with_unfolding_all rfl
    subst eT
    clear hT
    go_wp2_with fail
    go_loop [3] (fun v => ∃ k : Nat, v = .int .i64 ((k * 15 + 5 : Nat) : Int) ∧ k ≤ 941 ∧ Hid (∀ i e, i < k → Pl[i]? = some e → e.2.1 ≠ c)) (fun v => (14120 - intOf v).toNat)
    case atStart => exact ⟨0, rfl, by omega, fun i e hi => by omega⟩
    case round =>
      obtain ⟨k, rfl, hk, HG⟩ := hrel
      by_cases hk1 : k < 941
      · obtain ⟨en, k1, k2, k3, k4, k5⟩ := P_cuts k hk1
        have K1 := hid k1
        have K4 := hid k4
        clear k1 k2 k3 k4 k5
        by_cases hq : en.2.1 = c
        · have hb1 : ((en.2.1 : Int) == c) = true := by rw [beq_iff_eq]; omega
          have HQ := hid hq
          clear hq
          go_wp2_with fail
          refine (number_at _ _ (k * 15 + 5) _ 5 _ (by omega) rfl hs (by omega) (by rw [HS2.out]; omega) K4.out.1 _ K4.out.2).mono ?_
          rintro x w2 ⟨rfl, rfl⟩
          go_wp2
          go_ret
          refine ⟨?_, Gr.refl _⟩
          rw [HS.out, any_iff c true ⟨fun _ => ⟨en, List.mem_of_getElem? K1.out, HQ.out⟩, fun _ => rfl⟩]; rfl
        · have hb1 : ((en.2.1 : Int) == c) = false := by rw [beq_eq_false_iff_ne]; omega
          have HQ := hid hq
          clear hq
          go_wp2_with fail
          refine (number_at _ _ (k * 15 + 5) _ 5 _ (by omega) rfl hs (by omega) (by rw [HS2.out]; omega) K4.out.1 _ K4.out.2).mono ?_
          rintro x w2 ⟨rfl, rfl⟩
          go_wp2
          exact ⟨⟨k + 1, by simp; omega, by omega, fun i e hi he => by
            by_cases him : i = k
            · subst him; have := K1.out; rw [he] at this; obtain rfl := Option.some.inj this; exact HQ.out
            · exact HG.out i e (by omega) he⟩, by simp [intOf]; omega⟩
      · go_wp2
        go_ret
        refine ⟨?_, Gr.refl _⟩
        rw [HS.out, any_iff c false ⟨fun h => (by cases h), fun ⟨e, he, hh⟩ => by
          obtain ⟨i, hi⟩ := List.mem_iff_getElem?.1 he
          have := (P_at i e hi).1
          exact absurd hh (HG.out i e (by omega) hi)⟩]; rfl
end Go.Proofs.YtgjlneedpbgfpaaDoor
