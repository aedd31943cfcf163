import Derived.Test.YtgjlneedpbgfpaaDoorAwake5
/- hangul.Put and Join at letters. -/
namespace Go.Proofs.YtgjlneedpbgfpaaDoor
open Go.RowKit

set_option maxHeartbeats 1000000 in
theorem has_any (a b c : Int) (x : Int) (r : Bool) (w : World) (hx : IntKind.u32.wrap (c - a) = x) (hr : decide (x < b) = r) : Calls Tryd.prog 85 #[.agg #[.int .u32 a, .int .u32 b], .int .u32 c] w fun e w' => e = .returned (.bool r) ∧ Gr w w' := by
  have h0 := row_at0
  have h1 := row_at1
  go_enter Tryd.func85, Tryd.ntmps85
  go_wp2
  exact bodyPost_ret (v := .bool r) (by simp [results, Tryd.results85, go_sem]) rfl ⟨rfl, Gr.alloc _ _⟩

set_option maxHeartbeats 2000000 in
/-- Of a first and a second letter. -/
theorem put_lv (l v i p q s t : Int) (w : World) (h1 : IntKind.u32.wrap (l - 4352) = i) (h2 : IntKind.u32.wrap (v - 4449) = p) (hi : decide (i < 19) = true) (hp : decide (p < 21) = true)
    (h3 : IntKind.u32.wrap (i * 21) = q) (h4 : IntKind.u32.wrap (q + v) = s) (h5 : (44032 + (s - 4449) % 4294967296 * 28 % 4294967296) % 4294967296 = t) :
    Calls Tryd.prog 83 #[.int .u32 l, .int .u32 v, .int .u32 0] w fun e w' => e = .returned (.tuple #[.int .u32 t, .int .i64 0]) ∧ Gr w w' := by
  have hr0 := row_at0
  have HL := hid (fun w => has_any 4352 19 l i true w h1 hi)
  have HV := hid (fun w => has_any 4449 21 v p true w h2 hp)
  have g := Gr.refl w
  go_enter Tryd.func83, Tryd.ntmps83
  go_wp2_with (first
    | (go_at_call 105; refine (lead_any _).mono ?_; rintro e w1 ⟨rfl, g1⟩; replace g := g.trans g1; clear g1)
    | (go_at_call 106; refine (vowel_any _).mono ?_; rintro e w1 ⟨rfl, g1⟩; replace g := g.trans g1; clear g1)
    | (go_at_call 85; refine (HL.out _).mono ?_; clear HL; rintro e w1 ⟨rfl, g1⟩; replace g := g.trans g1; clear g1)
    | (go_at_call 85; refine (HV.out _).mono ?_; clear HV; rintro e w1 ⟨rfl, g1⟩; replace g := g.trans g1; clear g1))
  refine bodyPost_ret (v := .tuple #[.int .u32 ((44032 + (s - 4449) % 4294967296 * 28 % 4294967296) % 4294967296), .int .i64 0]) (by simp [results, Tryd.results83, go_sem]) rfl ⟨?_, g⟩
  rw [h5]

set_option maxHeartbeats 2000000 in
/-- Where the first is no first letter. -/
theorem put_no (l v x : Int) (w : World) (h1 : IntKind.u32.wrap (l - 4352) = x) (hi : decide (x < 19) = false) :
    Calls Tryd.prog 83 #[.int .u32 l, .int .u32 v, .int .u32 0] w fun e w' => e = .returned (.tuple #[.int .u32 0, .int .i64 2]) ∧ Gr w w' := by
  have HL := hid (fun w => has_any 4352 19 l x false w h1 hi)
  have g := Gr.refl w
  go_enter Tryd.func83, Tryd.ntmps83
  go_wp2_with (first
    | (go_at_call 105; refine (lead_any _).mono ?_; rintro e w1 ⟨rfl, g1⟩; replace g := g.trans g1; clear g1)
    | (go_at_call 85; refine (HL.out _).mono ?_; clear HL; rintro e w1 ⟨rfl, g1⟩; replace g := g.trans g1; clear g1))
  exact bodyPost_ret (v := .tuple #[.int .u32 0, .int .i64 2]) (by simp [results, Tryd.results83, go_sem]) rfl ⟨rfl, g⟩

set_option maxHeartbeats 2000000 in
theorem join_lv (l v t : Int) (w : World) (hp : ∀ w, Calls Tryd.prog 83 #[.int .u32 l, .int .u32 v, .int .u32 0] w fun e w' => e = .returned (.tuple #[.int .u32 t, .int .i64 0]) ∧ Gr w w') :
    Calls Tryd.prog 55 #[.int .u32 l, .int .u32 v] w fun e w' => e = .returned (.tuple #[.int .u32 t, .bool true]) ∧ Gr w w' := by
  go_enter Tryd.func55, Tryd.ntmps55
  go_wp2_with (go_at_call 83; refine (hp _).mono ?_; rintro e w1 ⟨rfl, g1⟩)
  exact bodyPost_ret (v := .tuple #[.int .u32 t, .bool true]) (by simp [results, Tryd.results55, go_sem]) rfl ⟨rfl, g1⟩

set_option maxHeartbeats 2000000 in
/-- A syllable of two letters and a third one. -/
theorem join_t (x b k : Int) (t : Int) (w : World) (hp : ∀ w, Calls Tryd.prog 83 #[.int .u32 x, .int .u32 b, .int .u32 0] w fun e w' => e = .returned (.tuple #[.int .u32 0, .int .i64 2]) ∧ Gr w w')
    (hi : ∀ w, Calls Tryd.prog 65 #[.int .u32 x] w fun e w' => e = .returned (.bool true) ∧ w = w') (hm : (x - 44032) % 4294967296 % 28 = 0) (h1 : IntKind.u32.wrap (b - 4520) = k) (hk : decide (k < 27) = true)
    (ht : ((x + b - 4520) % 4294967296 + 1) % 4294967296 = t) :
    Calls Tryd.prog 55 #[.int .u32 x, .int .u32 b] w fun e w' => e = .returned (.tuple #[.int .u32 t, .bool true]) ∧ Gr w w' := by
  have hr0 := row_at0
  have HT := hid (fun w => has_any 4520 27 b k true w h1 hk)
  have g := Gr.refl w
  go_enter Tryd.func55, Tryd.ntmps55
  go_wp2_with (first
    | (go_at_call 83; refine (hp _).mono ?_; rintro e w1 ⟨rfl, g1⟩; replace g := g.trans g1; clear g1)
    | (go_at_call 65; refine (hi _).mono ?_; rintro e w1 ⟨rfl, rfl⟩)
    | (go_at_call 84; refine (trail_any _).mono ?_; rintro e w1 ⟨rfl, g1⟩; replace g := g.trans g1; clear g1)
    | (go_at_call 85; refine (HT.out _).mono ?_; clear HT; rintro e w1 ⟨rfl, g1⟩; replace g := g.trans g1; clear g1))
  refine bodyPost_ret (v := .tuple #[.int .u32 (((x + b - 4520) % 4294967296 + 1) % 4294967296), .bool true]) (by simp [results, Tryd.results55, go_sem]) rfl ⟨?_, g⟩
  rw [ht]

/-- A syllable's first two letters make the syllable of the two. -/
theorem join_two (k : Nat) (hk : k ≤ 11171) (w : World) : Calls Tryd.prog 55 #[.int .u32 ((4352 + k / 28 / 21 : Nat) : Int), .int .u32 ((4449 + k / 28 % 21 : Nat) : Int)] w fun e w' => e = .returned (.tuple #[.int .u32 ((44032 + k / 28 * 28 : Nat) : Int), .bool true]) ∧ Gr w w' :=
  join_lv _ _ _ w fun w => put_lv _ _ ((k / 28 / 21 : Nat) : Int) ((k / 28 % 21 : Nat) : Int) ((k / 28 / 21 * 21 : Nat) : Int) ((k / 28 / 21 * 21 + (4449 + k / 28 % 21) : Nat) : Int) _ w (by rw [IntKind.wrap_u32]; omega) (by rw [IntKind.wrap_u32]; omega) (decide_eq_true (by omega)) (decide_eq_true (by omega)) (by rw [IntKind.wrap_u32]; omega) (by rw [IntKind.wrap_u32]; omega) (by omega)
theorem join_mod (q : Nat) (hq : q ≤ 398) : (((44032 + q * 28 : Nat) : Int) - 44032) % 4294967296 % 28 = 0 := by
  have h : (((44032 + q * 28 : Nat) : Int) - 44032) % 4294967296 = ((q * 28 : Nat) : Int) := by
    rw [show ((44032 + q * 28 : Nat) : Int) - 44032 = ((q * 28 : Nat) : Int) by omega]
    exact Int.emod_eq_of_lt (by omega) (by omega)
  rw [h]; omega
/-- That and the third letter make the whole. -/
theorem join_all (k : Nat) (hk : k ≤ 11171) (h0 : k % 28 ≠ 0) (w : World) : Calls Tryd.prog 55 #[.int .u32 ((44032 + k / 28 * 28 : Nat) : Int), .int .u32 ((4519 + k % 28 : Nat) : Int)] w fun e w' => e = .returned (.tuple #[.int .u32 ((44032 + k : Nat) : Int), .bool true]) ∧ Gr w w' :=
  join_t _ _ ((k % 28 - 1 : Nat) : Int) _ w (fun w => put_no _ _ ((39680 + k / 28 * 28 : Nat) : Int) w (by rw [IntKind.wrap_u32]; omega) (decide_eq_false (by omega)))
    (fun w => by have := his_any (44032 + k / 28 * 28) w; rw [show isH (44032 + k / 28 * 28) = true from (isH_iff _).2 (by omega)] at this; exact this)
    (join_mod _ (by omega)) (by rw [IntKind.wrap_u32]; omega) (decide_eq_true (by omega)) (by omega)

theorem row2 {w : World} {base : Nat} {v : Value} {a b : Nat} (h : w.ownsRow base 22 1 v [a, b].length (u32s [a, b])) :
    ∃ g cap, v = .slice (some ⟨g, 0, none⟩) 2 cap ∧ w.cell? ⟨g, 0, none⟩ = some (.int .u32 (a : Int)) ∧ w.cell? ⟨g, 1, none⟩ = some (.int .u32 (b : Int)) := by
  obtain ⟨g, cap, rfl, _, _⟩ := row_form h (by simp)
  exact ⟨g, cap, rfl, row_cell h 0 (by simp), row_cell h 1 (by simp)⟩
theorem row3 {w : World} {base : Nat} {v : Value} {a b c : Nat} (h : w.ownsRow base 22 1 v [a, b, c].length (u32s [a, b, c])) :
    ∃ g cap, v = .slice (some ⟨g, 0, none⟩) 3 cap ∧ w.cell? ⟨g, 0, none⟩ = some (.int .u32 (a : Int)) ∧ w.cell? ⟨g, 1, none⟩ = some (.int .u32 (b : Int)) ∧ w.cell? ⟨g, 2, none⟩ = some (.int .u32 (c : Int)) := by
  obtain ⟨g, cap, rfl, _, _⟩ := row_form h (by simp)
  exact ⟨g, cap, rfl, row_cell h 0 (by simp), row_cell h 1 (by simp), row_cell h 2 (by simp)⟩
end Go.Proofs.YtgjlneedpbgfpaaDoor
