import Derived.Test.YtgjlneedpbgfpaaDoorTree
/- Hangul by reckoning: the walks of hangul.Is, Split and of the document's answer (gessoref04). -/
namespace Go.Proofs.YtgjlneedpbgfpaaDoor
open Go.RowKit

/-- Is a number a syllable? -/
def isH (c : Nat) : Bool := Nat.ble 44032 c && Nat.ble c 55203
def hL (c : Nat) : Nat := 4352 + (c - 44032) / 28 / 21
def hV (c : Nat) : Nat := 4449 + (c - 44032) / 28 % 21
def hT (c : Nat) : Nat := if (c - 44032) % 28 = 0 then 0 else 4519 + (c - 44032) % 28
theorem isH_iff (c : Nat) : isH c = true ↔ 44032 ≤ c ∧ c ≤ 55203 := by unfold isH; rw [Bool.and_eq_true, Nat.ble_eq, Nat.ble_eq]
theorem isH_not {c : Nat} (h : isH c = false) : c < 44032 ∨ 55203 < c := by
  have : ¬ (44032 ≤ c ∧ c ≤ 55203) := fun h' => by rw [(isH_iff c).2 h'] at h; cases h
  omega

set_option maxRecDepth 20000 in
set_option maxHeartbeats 1000000 in
theorem his_any (c : Nat) (w : World) : Calls Tryd.prog 65 #[.int .u32 c] w fun e w' => e = .returned (.bool (isH c)) ∧ w = w' := by
  have h1 : (isH c = true ∧ decide ((44032 : Int) ≤ c) = true ∧ decide ((c : Int) ≤ 55203) = true) ∨ (isH c = false ∧ decide ((44032 : Int) ≤ c) = false) ∨ (isH c = false ∧ decide ((44032 : Int) ≤ c) = true ∧ decide ((c : Int) ≤ 55203) = false) := by
    cases h : isH c with
    | true => have := (isH_iff c).1 h; exact .inl ⟨rfl, decide_eq_true (by omega), decide_eq_true (by omega)⟩
    | false =>
      by_cases h4 : 44032 ≤ c
      · exact .inr (.inr ⟨rfl, decide_eq_true (by omega), decide_eq_false (by have := isH_not h; omega)⟩)
      · exact .inr (.inl ⟨rfl, decide_eq_false (by omega)⟩)
  rcases h1 with ⟨h, h1, h2⟩ | ⟨h, h1⟩ | ⟨h, h1, h2⟩
  all_goals
    rw [h]
    clear h
    go_enter Tryd.func65, Tryd.ntmps65
    go_wp2
    go_ret
    exact ⟨rfl, rfl⟩

theorem lead_any (w : World) : Calls Tryd.prog 105 #[] w fun e w' => e = .returned (.agg #[.int .u32 4352, .int .u32 19]) ∧ Gr w w' := by
  go_enter Tryd.func105, Tryd.ntmps105
  go_wp2
  exact bodyPost_ret (v := .agg #[.int .u32 4352, .int .u32 19]) (by simp [results, Tryd.results105, go_sem]) rfl ⟨rfl, Gr.alloc _ _⟩
theorem vowel_any (w : World) : Calls Tryd.prog 106 #[] w fun e w' => e = .returned (.agg #[.int .u32 4449, .int .u32 21]) ∧ Gr w w' := by
  go_enter Tryd.func106, Tryd.ntmps106
  go_wp2
  exact bodyPost_ret (v := .agg #[.int .u32 4449, .int .u32 21]) (by simp [results, Tryd.results106, go_sem]) rfl ⟨rfl, Gr.alloc _ _⟩
theorem trail_any (w : World) : Calls Tryd.prog 84 #[] w fun e w' => e = .returned (.agg #[.int .u32 4520, .int .u32 27]) ∧ Gr w w' := by
  go_enter Tryd.func84, Tryd.ntmps84
  go_wp2
  exact bodyPost_ret (v := .agg #[.int .u32 4520, .int .u32 27]) (by simp [results, Tryd.results84, go_sem]) rfl ⟨rfl, Gr.alloc _ _⟩

theorem row_at0 (a b : Int) (w : World) : (Instr.index 74 (.agg #[.int .u32 a, .int .u32 b]) (.int .i64 0)).run Tryd.prog w = .ok (.int .u32 a) w := by kernel_rfl
theorem row_at1 (a b : Int) (w : World) : (Instr.index 74 (.agg #[.int .u32 a, .int .u32 b]) (.int .i64 1)).run Tryd.prog w = .ok (.int .u32 b) w := by kernel_rfl

set_option maxHeartbeats 1000000 in
theorem split_no (c : Nat) (w : World) (h : isH c = false) : Calls Tryd.prog 108 #[.int .u32 c] w fun e w' => e = .returned (.tuple #[.int .u32 0, .int .u32 0, .int .u32 0, .bool false]) ∧ Gr w w' := by
  have hi := fun w' => his_any c w'
  rw [h] at hi
  have HI := hid hi
  clear hi h
  go_enter Tryd.func108, Tryd.ntmps108
  go_wp2_with (go_at_call 65; refine (HI.out _).mono ?_; rintro e w' ⟨rfl, rfl⟩)
  refine bodyPost_ret (v := .tuple #[.int .u32 0, .int .u32 0, .int .u32 0, .bool false]) (by simp [results, Tryd.results108, go_sem]) rfl ⟨rfl, Gr.refl _⟩

set_option maxHeartbeats 1000000 in
theorem split_yes (c : Nat) (w : World) (h : isH c = true) : Calls Tryd.prog 108 #[.int .u32 c] w fun e w' => e = .returned (.tuple #[.int .u32 (hL c), .int .u32 (hV c), .int .u32 (hT c), .bool true]) ∧ Gr w w' := by
  have h1 := (isH_iff c).1 h
  have hi := fun w' => his_any c w'
  rw [h] at hi
  have HI := hid hi
  obtain ⟨k, hk⟩ : ∃ k : Nat, c = k + 44032 := ⟨c - 44032, by omega⟩
  have hk2 : (k : Int) ≤ 11171 := by omega
  have hsub : IntKind.u32.wrap ((c : Int) - 44032) = (k : Int) := by rw [IntKind.wrap_u32]; omega
  have eL : (hL c : Int) = 4352 + (k : Int) / 28 / 21 := by unfold hL; omega
  have eV : (hV c : Int) = 4449 + (k : Int) / 28 % 21 := by unfold hV; omega
  have eT : (hT c : Int) = if (k : Int) % 28 = 0 then 0 else 4520 + (k : Int) % 28 - 1 := by unfold hT; split <;> split <;> omega
  have EL := hid eL
  have EV := hid eV
  have ET := hid eT
  have HK := hid hk
  clear hi h h1 eL eV eT hk
  have hr0 := row_at0
  by_cases h0 : (k : Int) % 28 = 0
  · have h4 : decide (0 < (k : Int) % 28) = false := decide_eq_false (by omega)
    have H0 := hid h0
    clear h0
    go_enter Tryd.func108, Tryd.ntmps108
    go_wp2_with (first | (go_at_call 65; refine (HI.out _).mono ?_; rintro e w' ⟨rfl, rfl⟩) | (go_at_call 105; refine (lead_any _).mono ?_; rintro e w1 ⟨rfl, g1⟩) | (go_at_call 106; refine (vowel_any _).mono ?_; rintro e w2 ⟨rfl, g2⟩))
    refine bodyPost_ret (v := .tuple #[.int .u32 (4352 + (k : Int) / 28 / 21), .int .u32 (4449 + (k : Int) / 28 % 21), .int .u32 0, .bool true]) (by simp [results, Tryd.results108, go_sem]) rfl ⟨?_, g1.trans g2⟩
    rw [EL.out, EV.out, ET.out, if_pos H0.out]
  · have h4 : decide (0 < (k : Int) % 28) = true := decide_eq_true (by omega)
    have h5 : 0 < (k : Int) % 28 := by omega
    have H0 := hid h0
    clear h0
    go_enter Tryd.func108, Tryd.ntmps108
    go_wp2_with (first | (go_at_call 65; refine (HI.out _).mono ?_; rintro e w' ⟨rfl, rfl⟩) | (go_at_call 84; refine (trail_any _).mono ?_; rintro e w0 ⟨rfl, g0⟩) | (go_at_call 105; refine (lead_any _).mono ?_; rintro e w1 ⟨rfl, g1⟩) | (go_at_call 106; refine (vowel_any _).mono ?_; rintro e w2 ⟨rfl, g2⟩))
    refine bodyPost_ret (v := .tuple #[.int .u32 (4352 + (k : Int) / 28 / 21), .int .u32 (4449 + (k : Int) / 28 % 21), .int .u32 (4520 + (k : Int) % 28 - 1), .bool true]) (by simp [results, Tryd.results108, go_sem]) rfl ⟨?_, (g0.trans g1).trans g2⟩
    rw [EL.out, EV.out, ET.out, if_neg H0.out]

theorem his4_any (c : Nat) (w : World) : Calls Tryd.prog 107 #[.int .u32 c] w fun e w' => e = .returned (.bool (isH c)) ∧ w = w' := by
  have h1 : (isH c = true ∧ decide ((44032 : Int) ≤ c) = true ∧ decide ((c : Int) ≤ 55203) = true) ∨ (isH c = false ∧ decide ((44032 : Int) ≤ c) = false) ∨ (isH c = false ∧ decide ((44032 : Int) ≤ c) = true ∧ decide ((c : Int) ≤ 55203) = false) := by
    cases h : isH c with
    | true => have := (isH_iff c).1 h; exact .inl ⟨rfl, decide_eq_true (by omega), decide_eq_true (by omega)⟩
    | false =>
      by_cases h4 : 44032 ≤ c
      · exact .inr (.inr ⟨rfl, decide_eq_true (by omega), decide_eq_false (by have := isH_not h; omega)⟩)
      · exact .inr (.inl ⟨rfl, decide_eq_false (by omega)⟩)
  rcases h1 with ⟨h, h1, h2⟩ | ⟨h, h1⟩ | ⟨h, h1, h2⟩
  all_goals
    rw [h]
    clear h
    go_enter Tryd.func107, Tryd.ntmps107
    go_wp2
    go_ret
    exact ⟨rfl, rfl⟩

/-- What 'Split' tells. -/
def splitV (c : Nat) : Value := if isH c then .tuple #[.int .u32 (hL c), .int .u32 (hV c), .int .u32 (hT c), .bool true] else .tuple #[.int .u32 0, .int .u32 0, .int .u32 0, .bool false]
theorem split_any (c : Nat) (w : World) : Calls Tryd.prog 108 #[.int .u32 c] w fun e w' => e = .returned (splitV c) ∧ Gr w w' := by
  unfold splitV
  cases h : isH c with
  | true => exact split_yes c w h
  | false => exact split_no c w h

set_option maxHeartbeats 1000000 in
theorem split4_no (c : Nat) (w : World) (h : isH c = false) : Calls Tryd.prog 89 #[.int .u32 c] w fun e w' => e = .returned (.tuple #[.int .u32 0, .int .u32 0, .int .u32 0, .bool false]) ∧ w = w' := by
  have hi := fun w' => his4_any c w'
  rw [h] at hi
  have HI := hid hi
  clear hi h
  go_enter Tryd.func89, Tryd.ntmps89
  go_wp2_with (go_at_call 107; refine (HI.out _).mono ?_; rintro e w' ⟨rfl, rfl⟩)
  refine bodyPost_ret (v := .tuple #[.int .u32 0, .int .u32 0, .int .u32 0, .bool false]) (by simp [results, Tryd.results89, go_sem]) rfl ⟨rfl, rfl⟩

set_option maxHeartbeats 1000000 in
theorem split4_yes (c : Nat) (w : World) (h : isH c = true) : Calls Tryd.prog 89 #[.int .u32 c] w fun e w' => e = .returned (.tuple #[.int .u32 (hL c), .int .u32 (hV c), .int .u32 (hT c), .bool true]) ∧ w = w' := by
  have h1 := (isH_iff c).1 h
  have hi := fun w' => his4_any c w'
  rw [h] at hi
  have HI := hid hi
  obtain ⟨k, hk⟩ : ∃ k : Nat, c = k + 44032 := ⟨c - 44032, by omega⟩
  have hk2 : (k : Int) ≤ 11171 := by omega
  have hsub : IntKind.u32.wrap ((c : Int) - 44032) = (k : Int) := by rw [IntKind.wrap_u32]; omega
  have eL : (hL c : Int) = 4352 + (k : Int) / 28 / 21 := by unfold hL; omega
  have eV : (hV c : Int) = 4449 + (k : Int) / 28 % 21 := by unfold hV; omega
  have eT : (hT c : Int) = if (k : Int) % 28 = 0 then 0 else 4519 + (k : Int) % 28 := by unfold hT; split <;> split <;> omega
  have EL := hid eL
  have EV := hid eV
  have ET := hid eT
  clear hi h h1 eL eV eT hk
  by_cases h0 : (k : Int) % 28 = 0
  · have h4 : ((k : Int) % 28 != 0) = false := by rw [bne_eq_false_iff_eq]; exact h0
    have H0 := hid h0
    clear h0
    go_enter Tryd.func89, Tryd.ntmps89
    go_wp2_with (go_at_call 107; refine (HI.out _).mono ?_; rintro e w' ⟨rfl, rfl⟩)
    refine bodyPost_ret (v := .tuple #[.int .u32 (4352 + (k : Int) / 28 / 21), .int .u32 (4449 + (k : Int) / 28 % 21), .int .u32 ((k : Int) % 28), .bool true]) (by simp [results, Tryd.results89, go_sem]) rfl ⟨?_, rfl⟩
    rw [EL.out, EV.out, ET.out, if_pos H0.out, H0.out]
  · have h4 : ((k : Int) % 28 != 0) = true := by rw [bne_iff_ne]; exact h0
    have H0 := hid h0
    clear h0
    go_enter Tryd.func89, Tryd.ntmps89
    go_wp2_with (go_at_call 107; refine (HI.out _).mono ?_; rintro e w' ⟨rfl, rfl⟩)
    refine bodyPost_ret (v := .tuple #[.int .u32 (4352 + (k : Int) / 28 / 21), .int .u32 (4449 + (k : Int) / 28 % 21), .int .u32 (4519 + (k : Int) % 28), .bool true]) (by simp [results, Tryd.results89, go_sem]) rfl ⟨?_, rfl⟩
    rw [EL.out, EV.out, ET.out, if_neg H0.out]
theorem split4_any (c : Nat) (w : World) : Calls Tryd.prog 89 #[.int .u32 c] w fun e w' => e = .returned (splitV c) ∧ w = w' := by
  unfold splitV
  cases h : isH c with
  | true => exact split4_yes c w h
  | false => exact split4_no c w h
end Go.Proofs.YtgjlneedpbgfpaaDoor
