import Derived.Test.YtgjlneedpbgfpaaDoorBase
import Derived.Test.YtgjlneedpbgfpaaDoorShelf
import Derived.IntWalk
namespace Go.Proofs.YtgjlneedpbgfpaaDoor
open Go.RowKit

set_option maxHeartbeats 400000 in
theorem at_any (k : Nat) (hk : k = 16 ∨ k = 15) (T : ByteArray) (i : Nat) (w : World) (b0 b1 : Nat) (h0 : w.cell? ⟨b0, 0, none⟩ = some (.string T)) (h1 : w.cell? ⟨b1, 0, none⟩ = some (.int .i64 k)) (hT : T.size ≤ 100000) (hi : i * k + k ≤ T.size) :
    Calls Tryd.prog 94 #[.int .i64 i, .pointer (some ⟨b0, 0, none⟩), .pointer (some ⟨b1, 0, none⟩)] w fun e w' => e = .returned (.string (T.extract (i * k) (i * k + k))) ∧ w = w' := by
  rcases hk with rfl | rfl
  all_goals
    go_enter Tryd.func94, Tryd.ntmps94
    go_wp2
    go_ret
    exact ⟨by rw [Nat.add_mul, Nat.one_mul]; rfl, rfl⟩

/-- Is the row's head not below the key? -/
def geKey (T : ByteArray) (k : Nat) (key : ByteArray) (i : Nat) : Bool := !(Op.bytesLess ((T.extract (i * k) (i * k + k)).extract 0 key.size).toList key.toList)

set_option maxHeartbeats 400000 in
theorem ge_any (k : Nat) (hk : k = 16 ∨ k = 15) (T key : ByteArray) (i : Nat) (w : World) (b0 b1 b2 b3 : Nat) (h0 : w.cell? ⟨b0, 0, none⟩ = some (.string T)) (h1 : w.cell? ⟨b1, 0, none⟩ = some (.int .i64 k)) (h2 : w.cell? ⟨b2, 0, none⟩ = some (.string key))
    (h3 : w.cell? ⟨b3, 0, none⟩ = some (.func (.func 94) #[] #[.pointer (some ⟨b0, 0, none⟩), .pointer (some ⟨b1, 0, none⟩)])) (hkey : key.size ≤ 10)
    (hT : T.size ≤ 100000) (hi : i * k + k ≤ T.size) :
    Calls Tryd.prog 95 #[.int .i64 i, .pointer (some ⟨b3, 0, none⟩), .pointer (some ⟨b2, 0, none⟩)] w fun e w' => e = .returned (.bool (geKey T k key i)) ∧ ∃ q, w' = w.drewN q := by
  go_enter Tryd.func95, Tryd.ntmps95
  go_wp2
  have hsz : (T.extract (i * k) (i * k + k)).size = k := by simp; omega
  have hk2 : key.size ≤ k := by omega
  go_quiet ((go_at_call 94; exact Calls.quiet_of_same ((at_any k hk T i _ b0 b1 (by simpa using h0) (by simpa using h1) hT hi).mono fun _ _ h => ⟨h.1, h.2.symm⟩)))
  go_wp2
  go_ret
  exact ⟨rfl, nq, rfl⟩

/-- How many rows' heads are below the key. -/
def findIx (T : ByteArray) (k : Nat) (key : ByteArray) : Nat := (List.range (T.size / k)).countP (fun i => !geKey T k key i)
/-- Has the row there the key for its head? -/
def findHit (T : ByteArray) (k : Nat) (key : ByteArray) : Bool := ((T.extract (findIx T k key * k) (findIx T k key * k + k)).extract 0 key.size).toList == key.toList

theorem search_find (k : Nat) (hk : k = 16 ∨ k = 15) (T key : ByteArray) (W : World) (b0 b1 b2 b3 : Nat) (h0 : W.cell? ⟨b0, 0, none⟩ = some (.string T)) (h1 : W.cell? ⟨b1, 0, none⟩ = some (.int .i64 k)) (h2 : W.cell? ⟨b2, 0, none⟩ = some (.string key))
    (h3 : W.cell? ⟨b3, 0, none⟩ = some (.func (.func 94) #[] #[.pointer (some ⟨b0, 0, none⟩), .pointer (some ⟨b1, 0, none⟩)])) (hkey : key.size ≤ 10) (hT : T.size ≤ 100000)
    (hm : ∀ a b, a ≤ b → b < T.size / k → geKey T k key a = true → geKey T k key b = true) :
    Calls Tryd.prog 78 #[.int .i64 ((T.size : Int) / (k : Int)), .func (.func 95) #[] #[.pointer (some ⟨b3, 0, none⟩), .pointer (some ⟨b2, 0, none⟩)]] W fun e w' => e = .returned (.int .i64 (findIx T k key : Nat)) ∧ Gr W w' := by
  have hd : T.size / k ≤ 100000 := Nat.le_trans (Nat.div_le_self _ _) hT
  have h := Any.sort_Search lSearch 95 #[.pointer (some ⟨b3, 0, none⟩), .pointer (some ⟨b2, 0, none⟩)] (T.size / k) (geKey T k key) W (enters_of Tryd.func95 (by kernel_rfl) rfl) (by omega) ?_ hm
  · rw [show ((T.size / k : Nat) : Int) = (T.size : Int) / (k : Int) from Int.natCast_ediv _ _] at h
    exact h.mono fun e w' ⟨he, q, os, hw⟩ => ⟨he, by rw [hw]; exact Gr.grow _ _ _⟩
  · intro m os i hi
    have hi' : i * k + k ≤ T.size := by
      have : (i + 1) * k ≤ T.size := Nat.le_trans (Nat.mul_le_mul_right k (by omega)) (Nat.div_mul_le_self _ _)
      rw [Nat.add_mul, Nat.one_mul] at this; exact this
    have G := Gr.grow W m os
    refine (ge_any k hk T key i _ b0 b1 b2 b3 (G.cell h0) (G.cell h1) (G.cell h2) (G.cell h3) hkey hT hi').mono fun e w' ⟨he, q, hw⟩ => ⟨he, q, #[], ?_⟩
    rw [hw]; exact (Sort.grow_empty _).symm

theorem cells4 (w : World) (v0 v1 v2 v3 : Value) (t0 t1 t2 t3 : Nat) :
    ((((w.alloc (.cells #[v0] t0)).alloc (.cells #[v1] t1)).alloc (.cells #[v2] t2)).alloc (.cells #[v3] t3)).cell? ⟨w.heap.size, 0, none⟩ = some v0 ∧ ((((w.alloc (.cells #[v0] t0)).alloc (.cells #[v1] t1)).alloc (.cells #[v2] t2)).alloc (.cells #[v3] t3)).cell? ⟨w.heap.size + 1, 0, none⟩ = some v1 ∧
    ((((w.alloc (.cells #[v0] t0)).alloc (.cells #[v1] t1)).alloc (.cells #[v2] t2)).alloc (.cells #[v3] t3)).cell? ⟨w.heap.size + 1 + 1, 0, none⟩ = some v2 ∧ ((((w.alloc (.cells #[v0] t0)).alloc (.cells #[v1] t1)).alloc (.cells #[v2] t2)).alloc (.cells #[v3] t3)).cell? ⟨w.heap.size + 1 + 1 + 1, 0, none⟩ = some v3 := by
  have s1 : (w.alloc (.cells #[v0] t0)).heap.size = w.heap.size + 1 := by simp
  have s2 : ((w.alloc (.cells #[v0] t0)).alloc (.cells #[v1] t1)).heap.size = w.heap.size + 1 + 1 := by simp
  have s3 : (((w.alloc (.cells #[v0] t0)).alloc (.cells #[v1] t1)).alloc (.cells #[v2] t2)).heap.size = w.heap.size + 1 + 1 + 1 := by simp
  refine ⟨?_, ?_, ?_, ?_⟩
  · exact cell_alloc_sl _ (cell_alloc_sl _ (cell_alloc_sl _ (cell_new_sl w v0 t0)))
  · have := cell_new_sl (w.alloc (.cells #[v0] t0)) v1 t1; rw [s1] at this; exact cell_alloc_sl _ (cell_alloc_sl _ this)
  · have := cell_new_sl ((w.alloc (.cells #[v0] t0)).alloc (.cells #[v1] t1)) v2 t2; rw [s2] at this; exact cell_alloc_sl _ this
  · have := cell_new_sl (((w.alloc (.cells #[v0] t0)).alloc (.cells #[v1] t1)).alloc (.cells #[v2] t2)) v3 t3; rw [s3] at this; exact this

theorem cells4g {w W' : World} {v0 v1 v2 v3 : Value} {t0 t1 t2 t3 : Nat} (h : Gr ((((w.alloc (.cells #[v0] t0)).alloc (.cells #[v1] t1)).alloc (.cells #[v2] t2)).alloc (.cells #[v3] t3)) W') :
    W'.cell? ⟨w.heap.size, 0, none⟩ = some v0 ∧ W'.cell? ⟨w.heap.size + 1, 0, none⟩ = some v1 ∧ W'.cell? ⟨w.heap.size + 1 + 1, 0, none⟩ = some v2 ∧ W'.cell? ⟨w.heap.size + 1 + 1 + 1, 0, none⟩ = some v3 ∧ Gr w W' :=
  ⟨h.cell (cells4 ..).1, h.cell (cells4 ..).2.1, h.cell (cells4 ..).2.2.1, h.cell (cells4 ..).2.2.2, ((((Gr.alloc _ _).trans (Gr.alloc _ _)).trans (Gr.alloc _ _)).trans (Gr.alloc _ _)).trans h⟩

set_option maxHeartbeats 1000000 in
theorem find_miss (k : Nat) (hk : k = 16 ∨ k = 15) (T key : ByteArray) (w : World) (hkey : key.size ≤ 10) (hT : T.size ≤ 100000) (hm : ∀ a b, a ≤ b → b < T.size / k → geKey T k key a = true → geKey T k key b = true)
    (hix : findIx T k key = T.size / k) :
    Calls Tryd.prog 63 #[.string T, .int .i64 k, .string key] w fun e w' => e = .returned (.tuple #[.string ⟨#[]⟩, .bool false]) ∧ Gr w w' := by
  have hm' := hid hm
  have hix' : Hid (((findIx T k key : Nat) : Int) = (T.size : Int) / (k : Int)) := by have := hix; rw [this]; exact Int.natCast_ediv _ _
  clear hm hix
  rcases hk with rfl | rfl
  all_goals
    go_enter Tryd.func63, Tryd.ntmps63
    go_wp2_with fail
    refine (search_find _ (by decide) T key _ _ _ _ _ (cells4 ..).1 (cells4 ..).2.1 (cells4 ..).2.2.1 (cells4 ..).2.2.2 hkey hT hm'.out).mono ?_
    rw [hix'.out]
    rintro e W' ⟨rfl, hG⟩
    obtain ⟨c0, c1, c2, c3, g⟩ := cells4g hG
    clear hG
    go_wp2_with fail
    go_quiet (fail)
    go_wp2
    go_ret2
    exact ⟨rfl, g.trans (Gr.drewN _ _)⟩

set_option maxHeartbeats 1000000 in
theorem find_other (k : Nat) (hk : k = 16 ∨ k = 15) (T key : ByteArray) (w : World) (hkey : key.size ≤ 10) (hT : T.size ≤ 100000) (hm : ∀ a b, a ≤ b → b < T.size / k → geKey T k key a = true → geKey T k key b = true)
    (hix : findIx T k key < T.size / k) (hh : findHit T k key = false) :
    Calls Tryd.prog 63 #[.string T, .int .i64 k, .string key] w fun e w' => e = .returned (.tuple #[.string ⟨#[]⟩, .bool false]) ∧ Gr w w' := by
  have hm' := hid hm
  have hh' := hh
  have hix' : findIx T k key * k + k ≤ T.size := by
    have : (findIx T k key + 1) * k ≤ T.size := Nat.le_trans (Nat.mul_le_mul_right k hix) (Nat.div_mul_le_self _ _)
    rw [Nat.add_mul, Nat.one_mul] at this; exact this
  have hne : (((findIx T k key : Nat) : Int) == (T.size : Int) / (k : Int)) = false := by
    rw [← Int.natCast_ediv]; simp; omega
  unfold findHit at hh'
  have hwr : IntKind.i64.wrap ((T.size : Int) / (k : Int)) = (T.size : Int) / (k : Int) := IntWalk.i64_in _ (by rcases hk with rfl | rfl <;> omega)
  clear hm hix hh
  generalize hj : findIx T k key = ix at hix' hne hh'
  have HJ := hid hj
  clear hj
  rcases hk with rfl | rfl
  all_goals
    simp only [Int.cast_ofNat_Int] at hwr hne
    go_enter Tryd.func63, Tryd.ntmps63
    go_wp2_with fail
    refine (search_find _ (by decide) T key _ _ _ _ _ (cells4 ..).1 (cells4 ..).2.1 (cells4 ..).2.2.1 (cells4 ..).2.2.2 hkey hT hm'.out).mono ?_
    rw [HJ.out]
    rintro e W' ⟨rfl, hG⟩
    obtain ⟨c0, c1, c2, c3, g⟩ := cells4g hG
    clear hG
    go_wp2_with fail
    go_quiet ((go_at_call 94; exact Calls.quiet_of_same ((at_any _ (by decide) T ix _ _ _ (by simpa using c0) (by simpa using c1) hT hix').mono fun _ _ h => ⟨h.1, h.2.symm⟩)))
    go_wp2
    go_ret2
    exact ⟨rfl, g.trans (Gr.drewN _ _)⟩

set_option maxHeartbeats 1000000 in
theorem find_hit (k : Nat) (hk : k = 16 ∨ k = 15) (T key : ByteArray) (w : World) (hkey : key.size ≤ 10) (hT : T.size ≤ 100000) (hm : ∀ a b, a ≤ b → b < T.size / k → geKey T k key a = true → geKey T k key b = true)
    (hix : findIx T k key < T.size / k) (hh : findHit T k key = true) :
    Calls Tryd.prog 63 #[.string T, .int .i64 k, .string key] w fun e w' => e = .returned (.tuple #[.string (T.extract (findIx T k key * k) (findIx T k key * k + k)), .bool true]) ∧ Gr w w' := by
  have hm' := hid hm
  have hh' := hh
  have hix' : findIx T k key * k + k ≤ T.size := by
    have : (findIx T k key + 1) * k ≤ T.size := Nat.le_trans (Nat.mul_le_mul_right k hix) (Nat.div_mul_le_self _ _)
    rw [Nat.add_mul, Nat.one_mul] at this; exact this
  have hne : (((findIx T k key : Nat) : Int) == (T.size : Int) / (k : Int)) = false := by
    rw [← Int.natCast_ediv]; simp; omega
  unfold findHit at hh'
  have hwr : IntKind.i64.wrap ((T.size : Int) / (k : Int)) = (T.size : Int) / (k : Int) := IntWalk.i64_in _ (by rcases hk with rfl | rfl <;> omega)
  clear hm hix hh
  generalize hj : findIx T k key = ix at hix' hne hh'
  have HJ := hid hj
  clear hj
  rcases hk with rfl | rfl
  all_goals
    simp only [Int.cast_ofNat_Int] at hwr hne
    go_enter Tryd.func63, Tryd.ntmps63
    go_wp2_with fail
    refine (search_find _ (by decide) T key _ _ _ _ _ (cells4 ..).1 (cells4 ..).2.1 (cells4 ..).2.2.1 (cells4 ..).2.2.2 hkey hT hm'.out).mono ?_
    rw [HJ.out]
    rintro e W' ⟨rfl, hG⟩
    obtain ⟨c0, c1, c2, c3, g⟩ := cells4g hG
    clear hG
    go_wp2_with fail
    go_quiet ((go_at_call 94; exact Calls.quiet_of_same ((at_any _ (by decide) T ix _ _ _ (by simpa using c0) (by simpa using c1) hT hix').mono fun _ _ h => ⟨h.1, h.2.symm⟩)))
    go_wp2_with (go_at_call 94; refine (at_any _ (by decide) T ix _ _ _ (by simpa using c0) (by simpa using c1) hT hix').mono ?_; rintro e w' ⟨rfl, rfl⟩)
    go_ret2
    exact ⟨rfl, g.trans (Gr.drewN _ _)⟩

/-- The row whose head is the key. -/
def findRow (T : ByteArray) (k : Nat) (key : ByteArray) : Option Nat := if findIx T k key < T.size / k ∧ findHit T k key = true then some (findIx T k key) else none

theorem findIx_le (T : ByteArray) (k : Nat) (key : ByteArray) : findIx T k key ≤ T.size / k := by
  unfold findIx; exact Nat.le_trans List.countP_le_length (by simp)

theorem find_no (k : Nat) (hk : k = 16 ∨ k = 15) (T key : ByteArray) (w : World) (hkey : key.size ≤ 10) (hT : T.size ≤ 100000) (hm : ∀ a b, a ≤ b → b < T.size / k → geKey T k key a = true → geKey T k key b = true)
    (h : findRow T k key = none) : Calls Tryd.prog 63 #[.string T, .int .i64 k, .string key] w fun e w' => e = .returned (.tuple #[.string ⟨#[]⟩, .bool false]) ∧ Gr w w' := by
  unfold findRow at h
  by_cases h1 : findIx T k key < T.size / k
  · cases h2 : findHit T k key with
    | true => rw [if_pos ⟨h1, h2⟩] at h; cases h
    | false => exact find_other k hk T key w hkey hT hm h1 h2
  · exact find_miss k hk T key w hkey hT hm (by have := findIx_le T k key; omega)

theorem find_yes (k : Nat) (hk : k = 16 ∨ k = 15) (T key : ByteArray) (w : World) (i : Nat) (hkey : key.size ≤ 10) (hT : T.size ≤ 100000) (hm : ∀ a b, a ≤ b → b < T.size / k → geKey T k key a = true → geKey T k key b = true)
    (h : findRow T k key = some i) : Calls Tryd.prog 63 #[.string T, .int .i64 k, .string key] w fun e w' => e = .returned (.tuple #[.string (T.extract (i * k) (i * k + k)), .bool true]) ∧ Gr w w' := by
  unfold findRow at h
  split at h
  · rename_i h1; injection h with h; subst h; exact find_hit k hk T key w hkey hT hm h1.1 h1.2
  · cases h
end Go.Proofs.YtgjlneedpbgfpaaDoor
