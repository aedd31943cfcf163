import Derived.Test.YtgjlneedpbgfpaaDoorBase
import Derived.Test.YtgjlneedpbgfpaaDoorStab2
import Derived.Shelf.SlSortCmp.KitK
import Derived.Sort.WalkB2
import Derived.Sort.WalkB12
import Derived.Deep.LoopGhost
import Derived.BigRegion
/- The walks of the stable sort's callees: swapRange, rotate. -/
namespace Go.Proofs.YtgjlneedpbgfpaaDoor
open Go.Shelf Go.RowKit Go.Lib Go.Sort

/-- What a program is told of: the stable sort's bodies, and their types; the elements have k cells. -/
structure StabL (P : Program) (k : Nat) : Prop where
  mixed : P.follows .mixedOrders = true
  f_swap : P.funcs[130]? = some Tryd.f130
  f_rot : P.funcs[123]? = some Tryd.f123
  f_sym : P.funcs[111]? = some Tryd.f111
  f_stable : P.funcs[97]? = some Tryd.f97
  f_top : P.funcs[67]? = some Tryd.f67
  t_int : P.underlying 3 = some (TypeDesc.int IntKind.i64)
  a_int : ∀ w, (isAgg 3).run P w = .ok false w
  z_int : ∀ w, (Go.sizeOf 3).run P w = .ok 1 w
  v_int : ∀ w, (zeroValue 3).run P w = .ok (Value.int IntKind.i64 0) w
  t_bool : P.underlying 4 = some (TypeDesc.bool)
  a_bool : ∀ w, (isAgg 4).run P w = .ok false w
  z_bool : ∀ w, (Go.sizeOf 4).run P w = .ok 1 w
  v_bool : ∀ w, (zeroValue 4).run P w = .ok (Value.bool false) w
  t_uint : P.underlying 90 = some (TypeDesc.int IntKind.u64)
  a_uint : ∀ w, (isAgg 90).run P w = .ok false w
  z_uint : ∀ w, (Go.sizeOf 90).run P w = .ok 1 w
  v_uint : ∀ w, (zeroValue 90).run P w = .ok (Value.int IntKind.u64 0) w
  t_slice : P.underlying 53 = some (TypeDesc.slice 56)
  a_slice : ∀ w, (isAgg 53).run P w = .ok false w
  z_slice : ∀ w, (Go.sizeOf 53).run P w = .ok 1 w
  v_slice : ∀ w, (zeroValue 53).run P w = .ok (Value.slice none 0 0) w
  t_fn : P.underlying 57 = some (TypeDesc.func #[56, 56] #[3] false)
  a_fn : ∀ w, (isAgg 57).run P w = .ok false w
  z_fn : ∀ w, (Go.sizeOf 57).run P w = .ok 1 w
  v_fn : ∀ w, (zeroValue 57).run P w = .ok (Value.nilFunc) w
  t_unit : P.underlying 0 = some (TypeDesc.tuple #[])
  a_unit : ∀ w, (isAgg 0).run P w = .ok false w
  z_unit : ∀ w, (Go.sizeOf 0).run P w = .ok 1 w
  v_unit : ∀ w, (zeroValue 0).run P w = .ok (Value.tuple #[]) w
  aE : ∀ w, (isAgg 56).run P w = .ok true w
  zE : ∀ w, (Go.sizeOf 56).run P w = .ok k w
theorem stabL : StabL Tryd.prog 2 := {
  mixed := by kernel_rfl
  f_swap := Tryd.func130
  f_rot := Tryd.func123
  f_sym := Tryd.func111
  f_stable := Tryd.func97
  f_top := Tryd.func67
  t_int := Tryd.underlying3
  a_int := Tryd.isAgg3
  z_int := Tryd.sizeOf3
  v_int := Tryd.zeroValue3
  t_bool := Tryd.underlying4
  a_bool := Tryd.isAgg4
  z_bool := Tryd.sizeOf4
  v_bool := Tryd.zeroValue4
  t_uint := Tryd.underlying90
  a_uint := Tryd.isAgg90
  z_uint := Tryd.sizeOf90
  v_uint := Tryd.zeroValue90
  t_slice := Tryd.underlying53
  a_slice := Tryd.isAgg53
  z_slice := Tryd.sizeOf53
  v_slice := Tryd.zeroValue53
  t_fn := Tryd.underlying57
  a_fn := Tryd.isAgg57
  z_fn := Tryd.sizeOf57
  v_fn := Tryd.zeroValue57
  t_unit := Tryd.underlying0
  a_unit := Tryd.isAgg0
  z_unit := Tryd.sizeOf0
  v_unit := Tryd.zeroValue0
  aE := Tryd.isAgg56
  zE := Tryd.sizeOf56 }

variable {α : Type} [Inhabited α] {P : Program}

set_option maxHeartbeats 4000000 in
set_option maxRecDepth 1000000 in
theorem swapRange_walk (k : Nat) (L : StabL P k) (enc : α → List Value) (g : Nat) (cb : Array Value) (blk off cap a b n : Nat) (d0 d : Array α) (w0 w : World) (R : RowK enc k w0 blk off d0) (hs : d0.size = d.size) (S : SWK enc k w0 blk off d w) (hab : a + n ≤ b) (hb : b + n ≤ d.size) (hsz : d.size < 4611686018427387904) :
    Calls P 130 #[.slice (some ⟨blk, off, none⟩) d.size cap, .int .i64 a, .int .i64 b, .int .i64 n, .func (.func g) #[] cb] w fun e w' =>
      e = .returned (.tuple #[]) ∧ SWK enc k w0 blk off (swapR a b n 0 d) w' := by
  have mixed := L.mixed; have t_int := L.t_int; have a_int := L.a_int; have z_int := L.z_int; have v_int := L.v_int; have t_bool := L.t_bool; have a_bool := L.a_bool; have z_bool := L.z_bool; have v_bool := L.v_bool; have t_uint := L.t_uint; have a_uint := L.a_uint; have z_uint := L.z_uint; have v_uint := L.v_uint; have t_slice := L.t_slice; have a_slice := L.a_slice; have z_slice := L.z_slice; have v_slice := L.v_slice; have t_fn := L.t_fn; have a_fn := L.a_fn; have z_fn := L.z_fn; have v_fn := L.v_fn; have t_unit := L.t_unit; have a_unit := L.a_unit; have z_unit := L.z_unit; have v_unit := L.v_unit; have aE := L.aE; have zE := L.zE
  have F := L.f_swap
  have u22 := run_underlying L.t_slice
  have S0 : Aside _ := S
  clear S
  go_enter F, Tryd.ntmps130
  go_wp2
  go_loopg [10] n (fun kx s10 wr => ∃ (i : Nat) (dk : Array α), s10 = .int .i64 i ∧ i ≤ n ∧ n - i ≤ kx ∧ dk.size = d.size ∧ Aside (SWK enc k w0 blk off dk wr) ∧ Hid (swapR a b n i dk = swapR a b n 0 d))
  case atStart => exact ⟨0, d, rfl, Nat.zero_le _, Nat.le_refl _, rfl, S0, rfl⟩
  case round =>
    obtain ⟨i, dk, rfl, hi, hkx, hds, S1, HE⟩ := hrel
    clear S0
    by_cases hlt : i < n
    · have hltz : (i : Int) < (n : Int) := by omega
      have ea : ((a : Int) + (i : Int)).toNat = a + i := by omega
      have pa : (0 : Int) ≤ (a : Int) + (i : Int) := by omega
      have ba : (a : Int) + (i : Int) < (d.size : Int) := by omega
      have ra : IntKind.i64.wrap ((a : Int) + (i : Int)) = (a : Int) + (i : Int) := by rw [IntKind.wrap_i64]; omega
      have ec : ((b : Int) + (i : Int)).toNat = b + i := by omega
      have pc : (0 : Int) ≤ (b : Int) + (i : Int) := by omega
      have bc : (b : Int) + (i : Int) < (d.size : Int) := by omega
      have rc : IntKind.i64.wrap ((b : Int) + (i : Int)) = (b : Int) + (i : Int) := by rw [IntKind.wrap_i64]; omega
      have S2 : Aside (SWK enc k w0 blk off (swp dk (a + i) (b + i)) ((wr.drew.setCells blk (off + (a + i) * k) (enc dk[b + i]!)).setCells blk (off + (b + i) * k) (enc dk[a + i]!))) := S1.out.swapped R (a + i) (b + i) (by omega) (by omega)
      have l1 := S1.out.ld1 R (by omega) P (a + i) (by omega)
      have l2 := S1.out.ld1 R (by omega) P (b + i) (by omega)
      have s1 := S1.out.st1 R (by omega) P (a + i) (by omega) dk[b + i]!
      have s2 := S1.out.st2 R (by omega) P (a + i) (b + i) (by omega) (by omega) dk[b + i]! dk[a + i]!
      have n1 : (enc dk[a + i]!).length = k := R.hk _
      have n2 : (enc dk[b + i]!).length = k := R.hk _
      generalize enc dk[a + i]! = cI at S2 l1 s2 n1
      generalize enc dk[b + i]! = cJ at S2 l2 s1 s2 n2
      clear S1
      go_wp2_with fail
      go_big_region_o
      clear l1 l2 s1 s2
      generalize (wr.drew.setCells blk (off + (a + i) * k) cJ).setCells blk (off + (b + i) * k) cI = w4 at S2 ⊢
      go_wp2
      go_roundg (n - (i + 1))
      case measure => omega
      case rel => exact ⟨i + 1, swp dk (a + i) (b + i), by go_num, by omega, by omega, by rw [size_swp]; exact hds, S2, by rw [← HE.out]; show _ = _; conv => rhs; rw [swapR, if_pos hlt]⟩
    · have hltz : ¬ (i : Int) < (n : Int) := by omega
      go_wp2
      go_end0
      refine ⟨rfl, ?_⟩
      rw [← HE.out, show swapR a b n i dk = dk by rw [swapR, if_neg hlt]]
      exact S1.out

set_option maxHeartbeats 4000000 in
set_option maxRecDepth 1000000 in
theorem rotate_walk (k : Nat) (L : StabL P k) (enc : α → List Value) (g : Nat) (cb : Array Value) (blk off cap a m b : Nat) (d0 d : Array α) (w0 w : World) (R : RowK enc k w0 blk off d0) (hs : d0.size = d.size) (S : SWK enc k w0 blk off d w) (ham : a < m) (hmb : m < b) (hb : b ≤ d.size) (hsz : d.size < 4611686018427387904) :
    Calls P 123 #[.slice (some ⟨blk, off, none⟩) d.size cap, .int .i64 a, .int .i64 m, .int .i64 b, .func (.func g) #[] cb] w fun e w' =>
      e = .returned (.tuple #[]) ∧ SWK enc k w0 blk off (rot m (m - a) (b - m) d) w' := by
  have mixed := L.mixed; have t_int := L.t_int; have a_int := L.a_int; have z_int := L.z_int; have v_int := L.v_int; have t_bool := L.t_bool; have a_bool := L.a_bool; have z_bool := L.z_bool; have v_bool := L.v_bool; have t_uint := L.t_uint; have a_uint := L.a_uint; have z_uint := L.z_uint; have v_uint := L.v_uint; have t_slice := L.t_slice; have a_slice := L.a_slice; have z_slice := L.z_slice; have v_slice := L.v_slice; have t_fn := L.t_fn; have a_fn := L.a_fn; have z_fn := L.z_fn; have v_fn := L.v_fn; have t_unit := L.t_unit; have a_unit := L.a_unit; have z_unit := L.z_unit; have v_unit := L.v_unit; have aE := L.aE; have zE := L.zE
  have F := L.f_rot
  have eS : ∀ args w, (callFunc 130 args).run P w = .ok (.enter 130 args) w := enters_of L.f_swap (by kernel_rfl) rfl
  have S0 : Aside _ := S
  clear S
  go_enter F, Tryd.ntmps123
  go_wp2
  go_loopg [10, 11] (m - a + (b - m)) (fun kx s10 s11 wr => ∃ (i j : Nat) (dk : Array α), s10 = .int .i64 i ∧ s11 = .int .i64 j ∧ 0 < i ∧ 0 < j ∧ i ≤ m ∧ m + j ≤ d.size ∧ i + j ≤ kx ∧ dk.size = d.size ∧ Aside (SWK enc k w0 blk off dk wr) ∧ Hid (rot m i j dk = rot m (m - a) (b - m) d))
  case atStart => exact ⟨m - a, b - m, d, by rw [Int.ofNat_sub (Nat.le_of_lt ham)], by rw [Int.ofNat_sub (Nat.le_of_lt hmb)], by omega, by omega, by omega, by omega, Nat.le_refl _, rfl, S0, rfl⟩
  case round =>
    obtain ⟨i, j, dk, rfl, rfl, hi, hj, him, hjm, hkx, hds, S1, HE⟩ := hrel
    clear S0
    have hc1 : ((m - i : Nat) : Int) = (m : Int) - (i : Int) := by omega
    by_cases hij : i = j
    · subst hij
      have hc := swapRange_walk k L enc g cb blk off cap (m - i) m i d0 dk w0 wr R (by omega) S1.out (by omega) (by omega) (by omega)
      rw [hc1, hds] at hc
      have HC := hid hc
      clear hc hc1
      go_wp2_with (go_at_fn 130; refine HC.out.mono ?_; rintro e w2 ⟨rfl, S2⟩)
      go_end0
      refine ⟨rfl, ?_⟩
      rw [← HE.out, show rot m i i dk = swapR (m - i) m i 0 dk by rw [rot, if_pos rfl]]
      exact S2
    · have hne : ((i : Int) != (j : Int)) = true := by rw [bne_iff_ne]; omega
      have hne2 : ¬ (i : Int) = (j : Int) := by omega
      by_cases hlt : j < i
      · have hgt : (j : Int) < (i : Int) := by omega
        have hc := swapRange_walk k L enc g cb blk off cap (m - i) m j d0 dk w0 wr R (by omega) S1.out (by omega) (by omega) (by omega)
        rw [hc1, hds] at hc
        have HC := hid hc
        clear hc hc1
        go_wp2_with (go_at_fn 130; refine HC.out.mono ?_; rintro e w2 ⟨rfl, S2⟩)
        go_roundg (i - j + j)
        case measure => omega
        case rel => exact ⟨i - j, j, swapR (m - i) m j 0 dk, by rw [Int.ofNat_sub (Nat.le_of_lt hlt)], rfl, by omega, hj, by omega, hjm, Nat.le_refl _, by rw [swapR_size _ _ _ _ _ _ rfl]; exact hds, S2, by show _ = _; rw [← HE.out]; conv => rhs; rw [rot, if_neg hij, if_pos hlt, if_pos hj]⟩
      · have hgt : ¬ (j : Int) < (i : Int) := by omega
        have hc := swapRange_walk k L enc g cb blk off cap (m - i) (m + j - i) i d0 dk w0 wr R (by omega) S1.out (by omega) (by omega) (by omega)
        have hc2 : ((m + j - i : Nat) : Int) = (m : Int) + (j : Int) - (i : Int) := by omega
        rw [hc1, hc2, hds] at hc
        have HC := hid hc
        clear hc hc1 hc2
        go_wp2_with (go_at_fn 130; refine HC.out.mono ?_; rintro e w2 ⟨rfl, S2⟩)
        go_roundg (i + (j - i))
        case measure => omega
        case rel => exact ⟨i, j - i, swapR (m - i) (m + j - i) i 0 dk, rfl, by rw [Int.ofNat_sub (by omega)], hi, by omega, him, by omega, Nat.le_refl _, by rw [swapR_size _ _ _ _ _ _ rfl]; exact hds, S2, by show _ = _; rw [← HE.out]; conv => rhs; rw [rot, if_neg hij, if_neg hlt, if_pos hi]⟩
end Go.Proofs.YtgjlneedpbgfpaaDoor
