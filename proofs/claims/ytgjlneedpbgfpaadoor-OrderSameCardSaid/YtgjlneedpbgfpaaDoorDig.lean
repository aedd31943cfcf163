import Derived.Test.YtgjlneedpbgfpaaDoorHex
/- Plain facts on digits and on rows of digits. -/
namespace Go.Proofs.YtgjlneedpbgfpaaDoor

/-- A digit's number. -/
def hvb (c : UInt8) : Nat := cond (Nat.ble 97 c.toNat) (Nat.sub c.toNat 87) (Nat.sub c.toNat 48)
def isHex (c : UInt8) : Bool := (Nat.ble 48 c.toNat && Nat.ble c.toNat 57) || (Nat.ble 97 c.toNat && Nat.ble c.toNat 102)
def sh (n : Nat) (c : UInt8) : Nat := Nat.add (Nat.mul 16 n) (hvb c)
/-- The number that five digits tell. -/
def v5 (a b c d e : UInt8) : Nat := sh (sh (sh (sh (hvb a) b) c) d) e
/-- The number that digits tell. -/
def val (l : List UInt8) : Nat := l.foldl sh 0

theorem hex_all : ∀ n : Nat, n < 256 → isHex (UInt8.ofNat n) = true → (dig (hvb (UInt8.ofNat n)) = UInt8.ofNat n ∧ hvb (UInt8.ofNat n) < 16) := by decide +kernel
theorem hex_dig (c : UInt8) (h : isHex c = true) : dig (hvb c) = c ∧ hvb c < 16 := by
  have := hex_all c.toNat c.toNat_lt
  rw [UInt8.ofNat_toNat] at this
  exact this h
theorem dig_hex : ∀ n : Nat, n < 16 → isHex (dig n) = true ∧ hvb (dig n) = n := by decide +kernel
theorem dig_inj {x y : Nat} (hx : x < 16) (hy : y < 16) (h : dig x = dig y) : x = y := by
  rw [← (dig_hex x hx).2, ← (dig_hex y hy).2, h]
theorem dig_lt : ∀ x : Nat, x < 16 → ∀ y : Nat, y < 16 → (decide (dig x < dig y) = decide (x < y)) := by decide +kernel

theorem v5_five (a b c d e : UInt8) (ha : isHex a = true) (hb : isHex b = true) (hc : isHex c = true) (hd : isHex d = true) (he : isHex e = true) : five5 (v5 a b c d e) = [a, b, c, d, e] ∧ v5 a b c d e < 1048576 := by
  obtain ⟨a1, a2⟩ := hex_dig a ha
  obtain ⟨b1, b2⟩ := hex_dig b hb
  obtain ⟨c1, c2⟩ := hex_dig c hc
  obtain ⟨d1, d2⟩ := hex_dig d hd
  obtain ⟨e1, e2⟩ := hex_dig e he
  have hv : v5 a b c d e = 65536 * hvb a + 4096 * hvb b + 256 * hvb c + 16 * hvb d + hvb e := by
    unfold v5 sh; simp only [Nat.add_eq, Nat.mul_eq]; omega
  unfold five5
  rw [hv]
  refine ⟨?_, by omega⟩
  rw [show (65536 * hvb a + 4096 * hvb b + 256 * hvb c + 16 * hvb d + hvb e) / 65536 = hvb a by omega, show (65536 * hvb a + 4096 * hvb b + 256 * hvb c + 16 * hvb d + hvb e) / 4096 % 16 = hvb b by omega,
    show (65536 * hvb a + 4096 * hvb b + 256 * hvb c + 16 * hvb d + hvb e) / 256 % 16 = hvb c by omega, show (65536 * hvb a + 4096 * hvb b + 256 * hvb c + 16 * hvb d + hvb e) / 16 % 16 = hvb d by omega,
    show (65536 * hvb a + 4096 * hvb b + 256 * hvb c + 16 * hvb d + hvb e) % 16 = hvb e by omega, a1, b1, c1, d1, e1]

theorem five_inj {x y : Nat} (hx : x < 1048576) (hy : y < 1048576) (h : five5 x = five5 y) : x = y := by
  unfold five5 at h
  simp only [List.cons.injEq, and_true] at h
  obtain ⟨h1, h2, h3, h4, h5⟩ := h
  have g1 := dig_inj (by omega) (by omega) h1
  have g2 := dig_inj (by omega) (by omega) h2
  have g3 := dig_inj (by omega) (by omega) h3
  have g4 := dig_inj (by omega) (by omega) h4
  have g5 := dig_inj (by omega) (by omega) h5
  omega

theorem less_cons (x y : Nat) (hx : x < 16) (hy : y < 16) (l m : List UInt8) : Op.bytesLess (dig x :: l) (dig y :: m) = (decide (x < y) || (decide (x = y) && Op.bytesLess l m)) := by
  rw [Op.bytesLess, dig_lt x hx y hy]
  congr 2
  by_cases e : x = y
  · subst e; simp
  · have : dig x ≠ dig y := fun h => e (dig_inj hx hy h)
    simp [e, this]

theorem lex_step (X Y x y : Nat) (hx : x < 16) (hy : y < 16) (B : Bool) : (decide (X < Y) || (decide (X = Y) && (decide (x < y) || (decide (x = y) && B)))) = (decide (16 * X + x < 16 * Y + y) || (decide (16 * X + x = 16 * Y + y) && B)) := by
  by_cases h1 : X < Y
  · rw [decide_eq_true h1, decide_eq_true (show 16 * X + x < 16 * Y + y by omega)]; rfl
  · by_cases h2 : X = Y
    · subst h2
      rw [decide_eq_false h1, decide_eq_true rfl]
      simp
    · rw [decide_eq_false h1, decide_eq_false h2, decide_eq_false (show ¬ 16 * X + x < 16 * Y + y by omega), decide_eq_false (show ¬ 16 * X + x = 16 * Y + y by omega)]; rfl

theorem less_five (x y : Nat) (hx : x < 1048576) (hy : y < 1048576) (l m : List UInt8) : Op.bytesLess (five5 x ++ l) (five5 y ++ m) = (decide (x < y) || (decide (x = y) && Op.bytesLess l m)) := by
  unfold five5
  simp only [List.cons_append, List.nil_append]
  rw [less_cons _ _ (by omega) (by omega), less_cons _ _ (by omega) (by omega), less_cons _ _ (by omega) (by omega), less_cons _ _ (by omega) (by omega), less_cons _ _ (by omega) (by omega)]
  rw [lex_step _ _ _ _ (by omega) (by omega), show 16 * (x / 65536) + x / 4096 % 16 = x / 4096 by omega, show 16 * (y / 65536) + y / 4096 % 16 = y / 4096 by omega]
  rw [lex_step _ _ _ _ (by omega) (by omega), show 16 * (x / 4096) + x / 256 % 16 = x / 256 by omega, show 16 * (y / 4096) + y / 256 % 16 = y / 256 by omega]
  rw [lex_step _ _ _ _ (by omega) (by omega), show 16 * (x / 256) + x / 16 % 16 = x / 16 by omega, show 16 * (y / 256) + y / 16 % 16 = y / 16 by omega]
  rw [lex_step _ _ _ _ (by omega) (by omega), show 16 * (x / 16) + x % 16 = x by omega, show 16 * (y / 16) + y % 16 = y by omega]

theorem less_five' (x y : Nat) (hx : x < 1048576) (hy : y < 1048576) : Op.bytesLess (five5 x) (five5 y) = decide (x < y) := by
  have := less_five x y hx hy [] []
  simpa [Op.bytesLess] using this

theorem val_five (m : Nat) (hm : m < 1048576) : val (five5 m) = m := by
  unfold five5 val
  simp only [List.foldl, sh, Nat.add_eq, Nat.mul_eq]
  rw [(dig_hex _ (by omega : m / 65536 < 16)).2, (dig_hex _ (by omega : m / 4096 % 16 < 16)).2, (dig_hex _ (by omega : m / 256 % 16 < 16)).2, (dig_hex _ (by omega : m / 16 % 16 < 16)).2, (dig_hex _ (by omega : m % 16 < 16)).2]
  omega

theorem five_length (m : Nat) : (five5 m).length = 5 := rfl
theorem five_hex (m : Nat) (hm : m < 1048576) : ∀ c ∈ five5 m, isHex c = true := by
  intro c hc
  unfold five5 at hc
  simp only [List.mem_cons, List.not_mem_nil, or_false] at hc
  rcases hc with h | h | h | h | h <;> subst h <;> exact (dig_hex _ (by omega)).1
end Go.Proofs.YtgjlneedpbgfpaaDoor
