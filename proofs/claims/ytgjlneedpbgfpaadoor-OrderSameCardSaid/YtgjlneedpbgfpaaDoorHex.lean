import Derived.Test.YtgjlneedpbgfpaaDoorBase
import Derived.IntWalk
import Derived.Laws.Bits64b
import Derived.Lib.ItoaWalk
namespace Go.Proofs.YtgjlneedpbgfpaaDoor
open Go.RowKit

/-- The one place of the table of de Bruijn that the program comes to. -/
def Tz (w : World) : Prop := w.cell? ⟨4, 15, none⟩ = some (.int .u8 4)
theorem Tz.gr {w w' : World} (h : Tz w) (g : Gr w w') : Tz w' := g.cell h

set_option maxHeartbeats 400000 in
theorem tz64_16 (w : World) (h : Tz w) : Calls Tryd.prog 132 #[.int .u64 16] w fun e w' => e = .returned (.int .i64 4) ∧ w = w' := by
  unfold Tz at h
  have hb : bits BinOp.and IntKind.u64 16 (IntKind.u64.wrap (-16)) = 16 := by decide +kernel
  have hc : IntKind.u64.wrap (16 * 285870213051353865) / 288230376151711744 = 15 := by decide +kernel
  go_enter Tryd.func132, Tryd.ntmps132
  go_wp2
  go_ret
  exact ⟨rfl, rfl⟩

set_option maxHeartbeats 400000 in
theorem tz_16 (w : World) (h : Tz w) : Calls Tryd.prog 129 #[.int .u64 16] w fun e w' => e = .returned (.int .i64 4) ∧ w = w' := by
  go_enter Tryd.func129, Tryd.ntmps129
  go_wp2_with (go_at_call 132; refine (tz64_16 _ h).mono ?_; rintro e w' ⟨rfl, rfl⟩)
  go_ret
  exact ⟨rfl, rfl⟩

set_option maxHeartbeats 400000 in
theorem pow2_16 (w : World) : Calls Tryd.prog 128 #[.int .i64 16] w fun e w' => e = .returned (.bool true) ∧ w = w' := by
  go_enter Tryd.func128, Tryd.ntmps128
  go_wp2
  go_ret
  exact ⟨rfl, rfl⟩

/-- A digit of the base 16. -/
def dig (d : Nat) : UInt8 := if d < 10 then UInt8.ofNat (48 + d) else UInt8.ofNat (87 + d)
/-- A number's digits: f at the most. -/
def hxF : Nat → Nat → List UInt8
  | 0, _ => []
  | f + 1, n => if n < 16 then [dig n] else hxF f (n / 16) ++ [dig (n % 16)]

theorem u64_and15 (n : Nat) (hn : n < 18446744073709551616) : bits .and .u64 (n : Int) 15 = (n : Int) % 16 := by
  have h := bits_and_u64_nat n 15 (by omega) (by omega)
  rw [show (15 : Nat) = 2 ^ 4 - 1 from rfl, Nat.and_two_pow_sub_one_eq_mod] at h
  exact h.trans (by omega)

theorem idx_dig_at (d : Nat) (hd : d < 16) (W : World) : (Instr.index 9 (.string ⟨#[48, 49, 50, 51, 52, 53, 54, 55, 56, 57, 97, 98, 99, 100, 101, 102, 103, 104, 105, 106, 107, 108, 109, 110, 111, 112, 113, 114, 115, 116, 117, 118, 119, 120, 121, 122]⟩) (.int .u64 (d : Int))).run Tryd.prog W = .ok (.int .u8 ((dig d).toNat : Int)) W := by
  have hs : ∀ d : Nat, d < 16 → ∀ W, (Instr.index 9 (.string ⟨#[48, 49, 50, 51, 52, 53, 54, 55, 56, 57, 97, 98, 99, 100, 101, 102, 103, 104, 105, 106, 107, 108, 109, 110, 111, 112, 113, 114, 115, 116, 117, 118, 119, 120, 121, 122]⟩) (.int .u64 (d : Int))).run Tryd.prog W = .ok (.int .u8 ((dig d).toNat : Int)) W := by
    intro d hd W
    have h : d = 0 ∨ d = 1 ∨ d = 2 ∨ d = 3 ∨ d = 4 ∨ d = 5 ∨ d = 6 ∨ d = 7 ∨ d = 8 ∨ d = 9 ∨ d = 10 ∨ d = 11 ∨ d = 12 ∨ d = 13 ∨ d = 14 ∨ d = 15 := by omega
    rcases h with h | h | h | h | h | h | h | h | h | h | h | h | h | h | h | h <;> (subst h; go_simp; try rfl)
  exact hs d hd W
theorem idx_dig (n : Nat) (W : World) : (Instr.index 9 (.string ⟨#[48, 49, 50, 51, 52, 53, 54, 55, 56, 57, 97, 98, 99, 100, 101, 102, 103, 104, 105, 106, 107, 108, 109, 110, 111, 112, 113, 114, 115, 116, 117, 118, 119, 120, 121, 122]⟩) (.int .u64 ((n : Int) % 16))).run Tryd.prog W = .ok (.int .u8 ((dig (n % 16)).toNat : Int)) W := by
  have := idx_dig_at (n % 16) (Nat.mod_lt _ (by omega)) W
  rwa [show ((n % 16 : Nat) : Int) = (n : Int) % 16 from by omega] at this

/-- What holds of the row of digits, f + 1 being still free. -/
def HxInv (u f n : Nat) (C : Array Value) (l : List UInt8) : Prop := C.size = 65 ∧ n < 16 ^ (f + 1) ∧ l.length + f = 7 ∧ hxF (f + 1) n ++ l = hxF 8 u ∧ (∀ k : Nat, k < l.length → C[58 + f + k]? = some (.int .u8 (l.getD k 0).toNat)) ∧ ∀ k : Nat, k < 65 → ∃ x : Int, C[k]? = some (.int .u8 x)

theorem HxInv.step {u f n : Nat} {C : Array Value} {l : List UInt8} (h : HxInv u (f + 1) n C l) (hn : 16 ≤ n) : HxInv u f (n / 16) (C.setIfInBounds (58 + f) (.int .u8 ((dig (n % 16)).toNat : Int))) (dig (n % 16) :: l) := by
  obtain ⟨h1, h2, h3, h4, h5, h6⟩ := h
  refine ⟨by simpa using h1, by rw [Nat.div_lt_iff_lt_mul (by omega)]; rw [Nat.pow_succ] at h2; exact h2, by simp; omega, ?_, ?_, ?_⟩
  · rw [← h4]
    show _ = hxF (f + 1 + 1) n ++ l
    rw [show hxF (f + 1 + 1) n = hxF (f + 1) (n / 16) ++ [dig (n % 16)] from by rw [hxF, if_neg (by omega)]]
    simp
  · intro k hk
    cases k with
    | zero => rw [Array.getElem?_setIfInBounds]; simp; omega
    | succ k =>
      rw [Array.getElem?_setIfInBounds, if_neg (by omega)]
      have := h5 k (by simp at hk; omega)
      rw [show 58 + f + (k + 1) = 58 + (f + 1) + k by omega, this]; rfl
  · intro k hk
    rw [Array.getElem?_setIfInBounds]
    by_cases e : 58 + f = k
    · subst e; rw [if_pos rfl, if_pos (by omega)]; exact ⟨_, rfl⟩
    · rw [if_neg e]; exact h6 k hk

theorem zeros65 : Tryd.zeroCells108 = Array.replicate 65 (.int .u8 0) := by kernel_rfl
theorem HxInv.start (u : Nat) (hu : u < 1114112) : HxInv u 7 u Tryd.zeroCells108 [] :=
  ⟨by rw [zeros65]; simp, by omega, rfl, by simp, fun k hk => by simp at hk, fun k hk => ⟨0, by rw [zeros65]; simp [hk]⟩⟩

theorem HxInv.last {u f n : Nat} {C : Array Value} {l : List UInt8} (h : HxInv u f n C l) (hf : f ≤ 7) (hn : n < 16) (w : World) (B : Nat) (hB : B = w.heap.size) (t : Nat) (cap : Nat) :
    (convert 37 9 (.slice (some ⟨B, 57 + f, none⟩) (8 - f) cap)).run Tryd.prog (w.alloc (.cells (C.setIfInBounds (57 + f) (.int .u8 ((dig n).toNat : Int))) t)) = .ok (.string ⟨(hxF 8 u).toArray⟩) (w.alloc (.cells (C.setIfInBounds (57 + f) (.int .u8 ((dig n).toNat : Int))) t)) := by
  obtain ⟨h1, h2, h3, h4, h5, h6⟩ := h
  have e : hxF 8 u = dig n :: l := by rw [← h4, hxF, if_pos hn]; rfl
  have hc := run_convert_bytes_back (P := Tryd.prog) (w.alloc (.cells (C.setIfInBounds (57 + f) (.int .u8 ((dig n).toNat : Int))) t)) 37 9 5 ⟨B, 57 + f, none⟩ cap (dig n :: l) Tryd.underlying37 Tryd.underlying5 Tryd.underlying9 (fun j hj => by
    subst hB
    rw [show (⟨w.heap.size, 57 + f, none⟩ : Addr).add j = ⟨w.heap.size, 57 + f + j, none⟩ from by simp [Addr.add]]
    rw [World.cell?_alloc_new, Array.getElem?_setIfInBounds]
    cases j with
    | zero => rw [if_pos (by omega), if_pos (by omega)]; rfl
    | succ k =>
      simp at hj
      rw [if_neg (by omega), show 57 + f + (k + 1) = 58 + f + k by omega, h5 k (by omega)]
      simp [List.getD, List.getElem?_eq_getElem hj])
  rw [e, show 8 - f = (dig n :: l).length by simp; omega]
  exact hc

set_option maxRecDepth 20000 in
set_option maxHeartbeats 1000000 in
theorem bits_16 (u : Nat) (hu : u < 1114112) (w : World) (h : Tz w) : Calls Tryd.prog 122 #[.slice none 0 0, .int .u64 u, .int .i64 16, .bool false, .bool false] w fun e w' => e = .returned (.tuple #[.slice none 0 0, .string ⟨(hxF 8 u).toArray⟩]) ∧ Gr w w' := by
  go_enter Tryd.func122, Tryd.ntmps122
  go_wp2_with (first | (go_at_call 128; refine (pow2_16 _).mono ?_; rintro e w' ⟨rfl, rfl⟩) | (go_at_call 129; refine (tz_16 _ (h.gr (Gr.alloc _ _))).mono ?_; rintro e w' ⟨rfl, rfl⟩))
  go_loopw [1, 13] (fun vu vi wr => ∃ (f n : Nat) (C : Array Value) (l : List UInt8), vu = .int .u64 n ∧ vi = .int .i64 ((58 + f : Nat) : Int) ∧ wr = w.alloc (.cells C 108) ∧ f ≤ 7 ∧ n < 1114112 ∧
      Hid (HxInv u f n C l)) (fun vu _ _ => (intOf vu).toNat)
  case atStart => exact ⟨7, u, Tryd.zeroCells108, [], rfl, rfl, rfl, by omega, hu, HxInv.start u hu⟩
  case round =>
    obtain ⟨f, n, C, l, rfl, rfl, rfl, hf, hn, HI⟩ := hrel
    have hand := u64_and15 n (by omega)
    by_cases hge : 16 ≤ n
    · have hX := idx_dig n
      obtain ⟨f, rfl⟩ : ∃ m, f = m + 1 := ⟨f - 1, by have := HI.out.2.1; by_cases h0 : f = 0; · subst h0; omega
                                                     · omega⟩
      obtain ⟨x, hx⟩ := HI.out.2.2.2.2.2 (58 + f) (by omega)
      go_wp2
      exact ⟨⟨f, n / 16, _, _, by simp, by congr 1; omega, rfl, by omega, by omega, HI.out.step hge⟩, by simp [intOf]; omega⟩
    · have hX := idx_dig_at n (by omega)
      obtain ⟨x, hx⟩ := HI.out.2.2.2.2.2 (57 + f) (by omega)
      have hal : Tryd.prog.arrayLen 108 = 65 := by simp [Program.arrayLen, Tryd.underlying108]
      have hsl : ∀ W, (Instr.sliceAt 108 (.pointer (some ⟨w.heap.size, 0, none⟩)) (some (.int .i64 (58 + (f : Int) - 1))) none none).run Tryd.prog W = .ok (.slice (some ⟨w.heap.size, 57 + f, none⟩) (8 - f) (8 - f)) W := fun W => by
        rw [run_sliceAt_array_l W 108 ⟨w.heap.size, 0, none⟩ (by simp [Program.arrayLen, Program.elem, Tryd.underlying108]) .i64 (58 + (f : Int) - 1) (by omega) (by rw [hal]; omega)]
        go_simp
        refine ⟨?_, by omega⟩
        rw [if_neg (by omega), show (58 + (f : Int)).toNat - 1 = 57 + f by omega]
      have hcv := HI.out.last hf (by omega) w _ rfl 108 (8 - f)
      clear hal
      go_wp2
      go_ret2
      exact ⟨rfl, Gr.alloc _ _⟩

/-- A number's digits, as a string. -/
def hexB (u : Nat) : ByteArray := ⟨(hxF 8 u).toArray⟩

set_option maxHeartbeats 400000 in
theorem fmtIn_16 (u : Nat) (hu : u < 1114112) (w : World) (h : Tz w) : Calls Tryd.prog 109 #[.int .u64 u, .int .i64 16] w fun e w' => e = .returned (.string (hexB u)) ∧ Gr w w' := by
  go_enter Tryd.func109, Tryd.ntmps109
  go_wp2_with (go_at_call 122; refine (bits_16 u hu _ h).mono ?_; rintro e w' ⟨rfl, hg⟩)
  go_ret
  exact ⟨rfl, hg⟩

set_option maxHeartbeats 400000 in
theorem fmt_16 (u : Nat) (hu : u < 1114112) (w : World) (h : Tz w) : Calls Tryd.prog 96 #[.int .u64 u, .int .i64 16] w fun e w' => e = .returned (.string (hexB u)) ∧ Gr w w' := by
  go_enter Tryd.func96, Tryd.ntmps96
  go_wp2_with (go_at_call 109; refine (fmtIn_16 u hu _ h).mono ?_; rintro e w' ⟨rfl, hg⟩)
  go_ret
  exact ⟨rfl, hg⟩

/-- Five digits. -/
def five5 (m : Nat) : List UInt8 := [dig (m / 65536), dig (m / 4096 % 16), dig (m / 256 % 16), dig (m / 16 % 16), dig (m % 16)]
def fiveB (m : Nat) : ByteArray := ⟨(five5 m).toArray⟩

theorem fiveB_size (m : Nat) : (fiveB m).size = 5 := rfl

theorem hexB_big (u : Nat) (h : 1048575 < u) (hu : u < 1114112) : (hexB u).size = 6 := by
  have e : hxF 8 u = [dig (u / 16 / 16 / 16 / 16 / 16), dig (u / 16 / 16 / 16 / 16 % 16), dig (u / 16 / 16 / 16 % 16), dig (u / 16 / 16 % 16), dig (u / 16 % 16), dig (u % 16)] := by
    simp only [hxF]
    rw [if_neg (by omega), if_neg (by omega), if_neg (by omega), if_neg (by omega), if_neg (by omega), if_pos (by omega)]
    rfl
  show (hxF 8 u).toArray.size = 6
  rw [e]; rfl

theorem pad_list (n : Nat) (hn : n ≤ 5) (l : List UInt8) (hl : l.length = n) : (⟨#[48, 48, 48, 48, 48]⟩ : ByteArray).extract n 5 ++ (⟨l.toArray⟩ : ByteArray) = ⟨(List.replicate (5 - n) (48 : UInt8) ++ l).toArray⟩ := by
  apply ByteArray.ext
  rw [ByteArray.data_append, ByteArray.data_extract]
  have h : n = 0 ∨ n = 1 ∨ n = 2 ∨ n = 3 ∨ n = 4 ∨ n = 5 := by omega
  rcases h with h | h | h | h | h | h <;> subst h <;> simp

theorem hexB_pad (u : Nat) (hu : u ≤ 1048575) : (hexB u).size ≤ 5 ∧ 1 ≤ (hexB u).size ∧ (⟨#[48, 48, 48, 48, 48]⟩ : ByteArray).extract (hexB u).size 5 ++ hexB u = fiveB u := by
  have key : ∀ l : List UInt8, hxF 8 u = l → l.length ≤ 5 → 1 ≤ l.length → List.replicate (5 - l.length) (48 : UInt8) ++ l = five5 u → (hexB u).size ≤ 5 ∧ 1 ≤ (hexB u).size ∧ (⟨#[48, 48, 48, 48, 48]⟩ : ByteArray).extract (hexB u).size 5 ++ hexB u = fiveB u := by
    intro l hl h5 h1 hp
    have hs : (hexB u).size = l.length := by show (hxF 8 u).toArray.size = _; rw [hl]; simp
    refine ⟨by omega, by omega, ?_⟩
    rw [hs, show hexB u = ⟨l.toArray⟩ from by unfold hexB; rw [hl], pad_list l.length h5 l rfl, hp]; rfl
  have d0 : dig 0 = 48 := rfl
  by_cases h1 : u < 16
  · exact key [dig u] (by simp only [hxF]; rw [if_pos h1]) (by simp) (by simp) (by
      unfold five5
      rw [show u / 65536 = 0 by omega, show u / 4096 % 16 = 0 by omega, show u / 256 % 16 = 0 by omega, show u / 16 % 16 = 0 by omega, show u % 16 = u by omega, d0]; rfl)
  by_cases h2 : u < 256
  · exact key [dig (u / 16), dig (u % 16)] (by simp only [hxF]; rw [if_neg (by omega), if_pos (by omega)]; rfl) (by simp) (by simp) (by
      unfold five5
      rw [show u / 65536 = 0 by omega, show u / 4096 % 16 = 0 by omega, show u / 256 % 16 = 0 by omega, show u / 16 % 16 = u / 16 by omega, d0]; rfl)
  by_cases h3 : u < 4096
  · exact key [dig (u / 16 / 16), dig (u / 16 % 16), dig (u % 16)] (by simp only [hxF]; rw [if_neg (by omega), if_neg (by omega), if_pos (by omega)]; rfl) (by simp) (by simp) (by
      unfold five5
      rw [show u / 65536 = 0 by omega, show u / 4096 % 16 = 0 by omega, show u / 256 % 16 = u / 16 / 16 by omega, d0]; rfl)
  by_cases h4 : u < 65536
  · exact key [dig (u / 16 / 16 / 16), dig (u / 16 / 16 % 16), dig (u / 16 % 16), dig (u % 16)] (by simp only [hxF]; rw [if_neg (by omega), if_neg (by omega), if_neg (by omega), if_pos (by omega)]; rfl) (by simp) (by simp) (by
      unfold five5
      rw [show u / 65536 = 0 by omega, show u / 4096 % 16 = u / 16 / 16 / 16 by omega, show u / 256 % 16 = u / 16 / 16 % 16 by omega, d0]; rfl)
  · exact key [dig (u / 16 / 16 / 16 / 16), dig (u / 16 / 16 / 16 % 16), dig (u / 16 / 16 % 16), dig (u / 16 % 16), dig (u % 16)] (by simp only [hxF]; rw [if_neg (by omega), if_neg (by omega), if_neg (by omega), if_neg (by omega), if_pos (by omega)]; rfl) (by simp) (by simp) (by
      unfold five5
      rw [show u / 65536 = u / 16 / 16 / 16 / 16 by omega, show u / 4096 % 16 = u / 16 / 16 / 16 % 16 by omega, show u / 256 % 16 = u / 16 / 16 % 16 by omega]; rfl)

set_option maxHeartbeats 400000 in
theorem five_any (c : Nat) (hc : c < 4294967296) (w : World) (h : Tz w) : Calls Tryd.prog 64 #[.int .u32 c] w fun e w' => e = .returned (.string (fiveB (min c 1048575))) ∧ Gr w w' := by
  by_cases h1 : c < 1114112
  · have hc64 : (c : Int) ≤ 1114111 := by omega
    by_cases h2 : 1048575 < c
    · have hs := hexB_big c h2 h1
      have hfin : fiveB (min c 1048575) = ⟨#[102, 102, 102, 102, 102]⟩ := by rw [Nat.min_eq_right (by omega)]; decide +kernel
      have HF := hid hfin
      clear hfin
      go_enter Tryd.func64, Tryd.ntmps64
      go_wp2_with (go_at_call 96; refine (fmt_16 c h1 _ h).mono ?_; rintro e w' ⟨rfl, hg⟩)
      go_ret
      exact ⟨by rw [HF.out]; rfl, hg⟩
    · obtain ⟨hs1, hs2, hfin⟩ := hexB_pad c (by omega)
      have HF := hid hfin
      clear hfin
      go_enter Tryd.func64, Tryd.ntmps64
      go_wp2_with (go_at_call 96; refine (fmt_16 c h1 _ h).mono ?_; rintro e w' ⟨rfl, hg⟩)
      go_ret
      exact ⟨by rw [Nat.min_eq_left (by omega), ← HF.out]; rfl, hg⟩
  · have hc64 : 1114111 < (c : Int) := by omega
    have hfin : fiveB (min c 1048575) = ⟨#[102, 102, 102, 102, 102]⟩ := by rw [Nat.min_eq_right (by omega)]; decide +kernel
    have HF := hid hfin
    clear hfin
    go_enter Tryd.func64, Tryd.ntmps64
    go_wp2
    go_ret
    exact ⟨by rw [HF.out]; rfl, Gr.refl _⟩
end Go.Proofs.YtgjlneedpbgfpaaDoor
