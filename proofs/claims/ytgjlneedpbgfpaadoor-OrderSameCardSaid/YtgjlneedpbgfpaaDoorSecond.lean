import Derived.Test.YtgjlneedpbgfpaaDoorPair
/- The walks of the package ucd: whether a character may be composed with one ahead, what it may be, whether it starts. -/
namespace Go.Proofs.YtgjlneedpbgfpaaDoor
open Go.RowKit

/-- A vowel or a trailing letter. -/
def jamo (c : Nat) : Bool := (Nat.ble 4449 c && Nat.ble c 4469) || (Nat.ble 4520 c && Nat.ble c 4546)
/-- May a character be composed with one ahead? -/
noncomputable def second (c : Nat) : Bool := jamo c || Pl.any (fun e => Nat.beq e.2.1 c)

theorem len_data (R : ByteArray) : R.data.toList.length = R.size := Array.length_toList

def strOf : Value → ByteArray | .string s => s | _ => ⟨#[]⟩

set_option maxHeartbeats 1000000 in
theorem second_jamo (c : Nat) (hc : c < 4294967296) (w : World) (h : jamo c = true) : Calls Tryd.prog 91 #[.int .u32 c] w fun e w' => e = .returned (.bool true) ∧ Gr w w' := by
  unfold jamo at h
  rw [Bool.or_eq_true, Bool.and_eq_true, Bool.and_eq_true, Nat.ble_eq, Nat.ble_eq, Nat.ble_eq, Nat.ble_eq] at h
  rcases h with h | h
  · have h1 : 4449 ≤ (c : Int) := by omega
    have h2 : (c : Int) ≤ 4469 := by omega
    clear h
    go_enter Tryd.func91, Tryd.ntmps91
    go_wp2
    go_ret
    exact ⟨rfl, Gr.refl _⟩
  · have h1 : 4520 ≤ (c : Int) := by omega
    have h2 : (c : Int) ≤ 4546 := by omega
    clear h
    go_enter Tryd.func91, Tryd.ntmps91
    go_wp2
    go_ret
    exact ⟨rfl, Gr.refl _⟩

/-- What is left of the rows, k of them being gone: none of these has the number at its second place. -/
def Left (c k : Nat) (R : ByteArray) : Prop := k ≤ 941 ∧ R.data.toList = tP.data.toList.drop (k * 15) ∧ ∀ i, i < k → ∀ e, Pl[i]? = some e → e.2.1 ≠ c

theorem Left.size {c k : Nat} {R : ByteArray} (h : Left c k R) : R.size = 15 * (941 - k) := by
  have h1 : R.data.toList.length = 15 * (941 - k) := by rw [h.2.1, List.length_drop, P_len]; omega
  simpa using h1
theorem Left.cut {c k : Nat} {R : ByteArray} (h : Left c k R) (hk : k < 941) : ∃ e, Pl[k]? = some e ∧ (R.extract 5 10).toList = five5 e.2.1 ∧ e.2.1 < 1048576 := by
  obtain ⟨e, h1, h2, h4, h5, h6⟩ := P_row k hk
  refine ⟨e, h1, ?_, h5⟩
  rw [Lib.toList_data, Lib.extract_data, h.2.1]
  rw [Lib.extract_data, show k * 15 + 15 - k * 15 = 15 by omega] at h2
  have : (tP.data.toList.drop (k * 15)).take 10 = five5 e.1 ++ five5 e.2.1 := by
    have := congrArg (List.take 10) h2
    rw [List.take_take] at this
    exact this
  rw [show 10 - 5 = 5 from rfl]
  have h3 := congrArg (List.drop 5) this
  rw [List.drop_take] at h3
  rw [h3]; rfl
theorem Left.next {c k : Nat} {R : ByteArray} (h : Left c k R) (hk : k < 941) (hne : ∀ e, Pl[k]? = some e → e.2.1 ≠ c) : Left c (k + 1) (R.extract 15 R.size) := by
  refine ⟨by omega, ?_, fun i hi e he => ?_⟩
  · have hs : R.size = R.data.toList.length := by simp
    rw [Lib.extract_data, List.take_of_length_le (by rw [List.length_drop, hs]; omega), h.2.1, List.drop_drop]; congr 1; omega
  · by_cases h' : i = k
    · subst h'; exact hne e he
    · exact h.2.2 i (by omega) e he

set_option maxRecDepth 100000 in
set_option maxHeartbeats 1000000 in
theorem second_loop (c : Nat) (hc : c < 4294967296) (w : World) (ht : Tz w) (h : jamo c = false) : Calls Tryd.prog 91 #[.int .u32 c] w fun e w' => e = .returned (.bool (Pl.any (fun e => Nat.beq e.2.1 c))) ∧ Gr w w' := by
  have hany : ∀ b, (b = true ↔ ∃ e ∈ Pl, e.2.1 = c) → Pl.any (fun e => Nat.beq e.2.1 c) = b := by
    intro b hb
    rw [Bool.eq_iff_iff, hb, List.any_eq_true]
    constructor
    · rintro ⟨e, he, h⟩; exact ⟨e, he, Nat.beq_eq.mp h⟩
    · rintro ⟨e, he, h⟩; exact ⟨e, he, Nat.beq_eq.mpr h⟩
  have HA := hid hany
  clear hany
  have h4 : (¬ (4449 ≤ (c : Int) ∧ (c : Int) ≤ 4469)) ∧ ¬ (4520 ≤ (c : Int) ∧ (c : Int) ≤ 4546) := by
    unfold jamo at h
    rw [Bool.or_eq_false_iff, Bool.and_eq_false_iff, Bool.and_eq_false_iff] at h
    simp only [← Bool.not_eq_true, Nat.ble_eq] at h
    omega
  have h5 : (c : Int) < 4449 ∨ (4469 < (c : Int) ∧ (c : Int) < 4520) ∨ 4546 < (c : Int) := by omega
  clear h h4
  have key : ∀ m, m = min c 1048575 → m < 1048576 ∧ ∀ e ∈ Pl, (e.2.1 = c ↔ e.2.1 = m) := by
    intro m hm; refine ⟨by omega, fun e he => ?_⟩
    have := P_bd e he; omega
  have KEY := hid key
  clear key
  rcases h5 with h1 | ⟨h1, h2⟩ | h1
  all_goals
    go_enter Tryd.func91, Tryd.ntmps91
    go_name_bytes T hT
    have eT : T = tP := by rw [← hT]; with_unfolding_all rfl
    subst eT
    clear hT
    go_wp2_with (go_at_call 64; refine (five_any c hc _ ht).mono ?_; rintro e w1 ⟨rfl, g1⟩)
    go_loop [4] (fun v => ∃ (k : Nat) (R : ByteArray), v = .string R ∧ R.size ≤ 20000 ∧ Hid (Left c k R)) (fun v => (strOf v).size)
    case atStart => exact ⟨0, tP, rfl, by rw [P_size]; omega, ⟨by omega, by simp, fun i hi => by omega⟩⟩
    case round =>
      obtain ⟨k, R, rfl, hR, HL⟩ := hrel
      have hsz := HL.out.size
      by_cases hk : k < 941
      · obtain ⟨e, h10, h11, h12⟩ := HL.out.cut hk
        have hne : R.toList.isEmpty = false := by
          rw [Lib.toList_data, List.isEmpty_eq_false_iff]; intro h0
          have : R.data.toList.length = 0 := by rw [h0]; rfl
          rw [len_data] at this; omega
        have h15 : 15 ≤ R.size := by omega
        have HS := hid hsz
        clear hsz
        by_cases hm : e.2.1 = min c 1048575
        · have hq : ((R.extract 5 10).toList == (fiveB (min c 1048575)).toList) = true := by rw [h11, fiveB_list, hm]; exact beq_self_eq_true _
          have HM := hid hm
          have H10 := hid h10
          clear hm h10 h11
          go_wp2
          go_ret
          refine ⟨?_, g1⟩
          rw [HA.out true ⟨fun _ => ⟨e, List.mem_of_getElem? H10.out, ((KEY.out _ rfl).2 e (List.mem_of_getElem? H10.out)).2 HM.out⟩, fun _ => rfl⟩]; rfl
        · have hq : ((R.extract 5 10).toList == (fiveB (min c 1048575)).toList) = false := by
            rw [h11, fiveB_list]; exact beq_eq_false_iff_ne.2 fun h' => hm (five_inj h12 (KEY.out _ rfl).1 h')
          have HM := hid hm
          have H10 := hid h10
          clear hm h10 h11
          go_wp2
          exact ⟨⟨k + 1, _, rfl, by simp; omega, HL.out.next hk (fun e' he' => by rw [H10.out] at he'; obtain rfl := Option.some.inj he'; exact fun h' => HM.out (((KEY.out _ rfl).2 e (List.mem_of_getElem? H10.out)).1 h'))⟩, by simp [strOf]; omega⟩
      · have hne : R.toList = [] := by
          rw [Lib.toList_data]; apply List.eq_nil_of_length_eq_zero; rw [len_data]; omega
        have hne2 : R.toList.isEmpty = true := by rw [hne]; rfl
        clear hsz
        go_wp2
        go_ret
        refine ⟨?_, g1⟩
        rw [HA.out false ⟨fun h => (by cases h), fun ⟨e, he, hce⟩ => ?_⟩]
        · rfl
        · obtain ⟨i, hi⟩ := List.mem_iff_getElem?.1 he
          have := (List.getElem?_eq_some_iff.1 hi).1
          rw [Pl_len] at this
          exact absurd hce (HL.out.2.2 i (by omega) e hi)
end Go.Proofs.YtgjlneedpbgfpaaDoor
