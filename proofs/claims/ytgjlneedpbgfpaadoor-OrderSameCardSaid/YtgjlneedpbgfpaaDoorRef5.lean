import Derived.Test.YtgjlneedpbgfpaaDoorRef4
/- The walks of the document's answer for ucd (gessoref03): what a character may be. -/
namespace Go.Proofs.YtgjlneedpbgfpaaDoor
open Go.RowKit

theorem any_iff (c : Nat) (b : Bool) (hb : b = true ↔ ∃ e ∈ Pl, e.2.1 = c) : Pl.any (fun e => Nat.beq e.2.1 c) = b := by
  rw [Bool.eq_iff_iff, hb, List.any_eq_true]
  constructor
  · rintro ⟨e, he, h⟩; exact ⟨e, he, Nat.beq_eq.mp h⟩
  · rintro ⟨e, he, h⟩; exact ⟨e, he, Nat.beq_eq.mpr h⟩
theorem jamo_not {c : Nat} (h : jamo c = false) : (c : Int) < 4449 ∨ (4469 < (c : Int) ∧ (c : Int) < 4520) ∨ 4546 < (c : Int) := by
  unfold jamo at h
  rw [Bool.or_eq_false_iff, Bool.and_eq_false_iff, Bool.and_eq_false_iff] at h
  simp only [← Bool.not_eq_true, Nat.ble_eq] at h
  omega

set_option maxRecDepth 100000 in
set_option maxHeartbeats 1000000 in
theorem rsecond_jamo (c : Nat) (w : World) (h : jamo c = true) : Calls Tryd.prog 114 #[.int .u32 c] w fun e w' => e = .returned (.bool (second c)) ∧ Gr w w' := by
  have HS : Hid (second c = true) := by show second c = true; unfold second; rw [h]; rfl
  unfold jamo at h
  rw [Bool.or_eq_true, Bool.and_eq_true, Bool.and_eq_true, Nat.ble_eq, Nat.ble_eq, Nat.ble_eq, Nat.ble_eq] at h
  rcases h with h | h
  · have h1 : 4449 ≤ (c : Int) := by omega
    have h2 : (c : Int) ≤ 4469 := by omega
    clear h
    go_enter Tryd.func114, Tryd.ntmps114
    go_wp2
    go_ret
    exact ⟨by rw [HS.out]; rfl, Gr.refl _⟩
  · have h1 : 4520 ≤ (c : Int) := by omega
    have h2 : (c : Int) ≤ 4546 := by omega
    clear h
    go_enter Tryd.func114, Tryd.ntmps114
    go_wp2
    go_ret
    exact ⟨by rw [HS.out]; rfl, Gr.refl _⟩

set_option maxRecDepth 100000 in
set_option maxHeartbeats 1000000 in
theorem rsecond_out (c : Nat) (w : World) (h : jamo c = false) (ho : c < 768 ∨ 71984 < c) : Calls Tryd.prog 114 #[.int .u32 c] w fun e w' => e = .returned (.bool (second c)) ∧ Gr w w' := by
  have HS : Hid (second c = false) := by
    show second c = false
    unfold second; rw [h, any_iff c false ⟨fun h => (by cases h), fun ⟨e, he, hh⟩ => by have := P_bd e he; omega⟩]; rfl
  have hj := jamo_not h
  clear h
  have ho' : (c : Int) < 768 ∨ (71984 < (c : Int) ∧ 4546 < (c : Int)) := by omega
  clear ho hj
  rcases ho' with h1 | ⟨h1, h2⟩
  all_goals
    go_enter Tryd.func114, Tryd.ntmps114
    go_name_bytes T hT
    clear hT
    go_wp2
    go_ret
    exact ⟨by rw [HS.out]; rfl, Gr.refl _⟩
end Go.Proofs.YtgjlneedpbgfpaaDoor
