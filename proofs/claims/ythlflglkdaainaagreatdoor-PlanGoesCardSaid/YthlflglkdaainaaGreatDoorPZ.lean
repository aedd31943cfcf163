import Derived.Shelf.SlSortCmp.KitK
import Derived.Sort.WalkB2
import Derived.Sort.WalkB12
import Derived.Deep.LoopGhost
import Derived.BigRegion
import Derived.Deep.CutRange
import Derived.Deep.DeepCutAuto
import Derived.Test.YthlflglkdaainaaGreatDoorPM
/- Texts of this seat: VSW, VS1, VS2, VS3, VST. -/
set_option maxRecDepth 100000
set_option maxHeartbeats 8000000
namespace Go.Proofs.YthlflglkdaainaaGreatDoor.Tr
open Go.Shelf Go.RowKit Go.Lib Go.Sort
structure StabL (P : Program) (k : Nat) : Prop where
 mixed : P.follows .mixedOrders = true
 f_swap : P.funcs[180]? = some Tryz.f180
 f_rot : P.funcs[157]? = some Tryz.f157
 f_sym : P.funcs[124]? = some Tryz.f124
 f_stable : P.funcs[90]? = some Tryz.f90
 f_top : P.funcs[63]? = some Tryz.f63
 t_int : P.underlying 3 = some (TypeDesc.int IntKind.i64)
 a_int : ∀ w, (isAgg 3).run P w = .ok false w
 z_int : ∀ w, (Go.sizeOf 3).run P w = .ok 1 w
 v_int : ∀ w, (zeroValue 3).run P w = .ok (Value.int IntKind.i64 0) w
 t_bool : P.underlying 4 = some (TypeDesc.bool)
 a_bool : ∀ w, (isAgg 4).run P w = .ok false w
 z_bool : ∀ w, (Go.sizeOf 4).run P w = .ok 1 w
 v_bool : ∀ w, (zeroValue 4).run P w = .ok (Value.bool false) w
 t_uint : P.underlying 119 = some (TypeDesc.int IntKind.u64)
 a_uint : ∀ w, (isAgg 119).run P w = .ok false w
 z_uint : ∀ w, (Go.sizeOf 119).run P w = .ok 1 w
 v_uint : ∀ w, (zeroValue 119).run P w = .ok (Value.int IntKind.u64 0) w
 t_slice : P.underlying 54 = some (TypeDesc.slice 90)
 a_slice : ∀ w, (isAgg 54).run P w = .ok false w
 z_slice : ∀ w, (Go.sizeOf 54).run P w = .ok 1 w
 v_slice : ∀ w, (zeroValue 54).run P w = .ok (Value.slice none 0 0) w
 t_fn : P.underlying 106 = some (TypeDesc.func #[90, 90] #[3] false)
 a_fn : ∀ w, (isAgg 106).run P w = .ok false w
 z_fn : ∀ w, (Go.sizeOf 106).run P w = .ok 1 w
 v_fn : ∀ w, (zeroValue 106).run P w = .ok (Value.nilFunc) w
 t_unit : P.underlying 0 = some (TypeDesc.tuple #[])
 a_unit : ∀ w, (isAgg 0).run P w = .ok false w
 z_unit : ∀ w, (Go.sizeOf 0).run P w = .ok 1 w
 v_unit : ∀ w, (zeroValue 0).run P w = .ok (Value.tuple #[]) w
 aE : ∀ w, (isAgg 90).run P w = .ok true w
 zE : ∀ w, (Go.sizeOf 90).run P w = .ok k w
theorem stabL : StabL Tryz.prog 2 := {
 mixed := by kernel_rfl
 f_swap := Tryz.func180
 f_rot := Tryz.func157
 f_sym := Tryz.func124
 f_stable := Tryz.func90
 f_top := Tryz.func63
 t_int := Tryz.underlying3
 a_int := Tryz.isAgg3
 z_int := Tryz.sizeOf3
 v_int := Tryz.zeroValue3
 t_bool := Tryz.underlying4
 a_bool := Tryz.isAgg4
 z_bool := Tryz.sizeOf4
 v_bool := Tryz.zeroValue4
 t_uint := Tryz.underlying119
 a_uint := Tryz.isAgg119
 z_uint := Tryz.sizeOf119
 v_uint := Tryz.zeroValue119
 t_slice := Tryz.underlying54
 a_slice := Tryz.isAgg54
 z_slice := Tryz.sizeOf54
 v_slice := Tryz.zeroValue54
 t_fn := Tryz.underlying106
 a_fn := Tryz.isAgg106
 z_fn := Tryz.sizeOf106
 v_fn := Tryz.zeroValue106
 t_unit := Tryz.underlying0
 a_unit := Tryz.isAgg0
 z_unit := Tryz.sizeOf0
 v_unit := Tryz.zeroValue0
 aE := Tryz.isAgg90
 zE := Tryz.sizeOf90 }
variable {α : Type} [Inhabited α] {P : Program}
set_option maxRecDepth 1000000 in
theorem swapRange_walk (k : Nat) (L : StabL P k) (enc : α → List Value) (g : Nat) (cb : Array Value) (blk off cap a b n : Nat) (d0 d : Array α) (w0 w : World) (R : RowK enc k w0 blk off d0) (hs : d0.size = d.size) (S : SWK enc k w0 blk off d w) (hab : a + n ≤ b) (hb : b + n ≤ d.size) (hsz : d.size < 4611686018427387904) :
    Calls P 180 #[.slice (some ⟨blk, off, none⟩) d.size cap, .int .i64 a, .int .i64 b, .int .i64 n, .func (.func g) #[] cb] w fun e w' =>
     e = .returned (.tuple #[]) ∧ SWK enc k w0 blk off (swapR a b n 0 d) w' := by
 have mixed := L.mixed; have t_int := L.t_int; have a_int := L.a_int; have z_int := L.z_int; have v_int := L.v_int; have t_bool := L.t_bool; have a_bool := L.a_bool; have z_bool := L.z_bool; have v_bool := L.v_bool; have t_uint := L.t_uint; have a_uint := L.a_uint; have z_uint := L.z_uint; have v_uint := L.v_uint; have t_slice := L.t_slice; have a_slice := L.a_slice; have z_slice := L.z_slice; have v_slice := L.v_slice; have t_fn := L.t_fn; have a_fn := L.a_fn; have z_fn := L.z_fn; have v_fn := L.v_fn; have t_unit := L.t_unit; have a_unit := L.a_unit; have z_unit := L.z_unit; have v_unit := L.v_unit; have aE := L.aE; have zE := L.zE
 have F := L.f_swap
 have u22 := run_underlying L.t_slice
 have S0 : Aside _ := S
 clear S
 go_enter F, Tryz.ntmps180
 go_wp2
 go_loopg [10] n (fun kx s10 wr => ∃ (i : Nat) (dk : Array α), s10 = .int .i64 i ∧ i ≤ n ∧ n - i ≤ kx ∧ dk.size = d.size ∧ Aside (SWK enc k w0 blk off dk wr) ∧ Hid (swapR a b n i dk = swapR a b n 0 d))
 case atStart => exact ⟨0, d, rfl, Nat.zero_le _, Nat.le_refl _, rfl, S0, rfl⟩
 case round =>
  obtain ⟨i, dk, rfl, hi, hkx, hds, S1, HE⟩ := hrel
  clear S0
  by_cases hlt : i < n
  · have hltz : (i : Int) < (n : Int) := by omega
    have ea : ((a : Int) + (i : Int)).toNat = a + i := by omega
    have pa : (0 : Int) ≤ (a : Int) + (i : Int) := by omega
    have ba : (a : Int) + (i : Int) < (d.size : Int) := by omega
    have ra : IntKind.i64.wrap ((a : Int) + (i : Int)) = (a : Int) + (i : Int) := by rw [IntKind.wrap_i64]; omega
    have ec : ((b : Int) + (i : Int)).toNat = b + i := by omega
    have pc : (0 : Int) ≤ (b : Int) + (i : Int) := by omega
    have bc : (b : Int) + (i : Int) < (d.size : Int) := by omega
    have rc : IntKind.i64.wrap ((b : Int) + (i : Int)) = (b : Int) + (i : Int) := by rw [IntKind.wrap_i64]; omega
    have S2 : Aside (SWK enc k w0 blk off (swp dk (a + i) (b + i)) ((wr.drew.setCells blk (off + (a + i) * k) (enc dk[b + i]!)).setCells blk (off + (b + i) * k) (enc dk[a + i]!))) := S1.out.swapped R (a + i) (b + i) (by omega) (by omega)
    have l1 := S1.out.ld1 R (by omega) P (a + i) (by omega)
    have l2 := S1.out.ld1 R (by omega) P (b + i) (by omega)
    have s1 := S1.out.st1 R (by omega) P (a + i) (by omega) dk[b + i]!
    have s2 := S1.out.st2 R (by omega) P (a + i) (b + i) (by omega) (by omega) dk[b + i]! dk[a + i]!
    have n1 : (enc dk[a + i]!).length = k := R.hk _
    have n2 : (enc dk[b + i]!).length = k := R.hk _
    generalize enc dk[a + i]! = cI at S2 l1 s2 n1
    generalize enc dk[b + i]! = cJ at S2 l2 s1 s2 n2
    clear S1
    go_wp2_with fail
    go_big_region_o
    clear l1 l2 s1 s2
    generalize (wr.drew.setCells blk (off + (a + i) * k) cJ).setCells blk (off + (b + i) * k) cI = w4 at S2 ⊢
    go_wp2
    go_roundg (n - (i + 1))
    case measure => omega
    case rel => exact ⟨i + 1, swp dk (a + i) (b + i), by go_num, by omega, by omega, by rw [size_swp]; exact hds, S2, by rw [← HE.out]; show _ = _; conv => rhs; rw [swapR, if_pos hlt]⟩
  · have hltz : ¬ (i : Int) < (n : Int) := by omega
    go_wp2
    go_end0
    refine ⟨rfl, ?_⟩
    rw [← HE.out, show swapR a b n i dk = dk by rw [swapR, if_neg hlt]]
    exact S1.out
set_option maxRecDepth 1000000 in
theorem rotate_walk (k : Nat) (L : StabL P k) (enc : α → List Value) (g : Nat) (cb : Array Value) (blk off cap a m b : Nat) (d0 d : Array α) (w0 w : World) (R : RowK enc k w0 blk off d0) (hs : d0.size = d.size) (S : SWK enc k w0 blk off d w) (ham : a < m) (hmb : m < b) (hb : b ≤ d.size) (hsz : d.size < 4611686018427387904) :
    Calls P 157 #[.slice (some ⟨blk, off, none⟩) d.size cap, .int .i64 a, .int .i64 m, .int .i64 b, .func (.func g) #[] cb] w fun e w' =>
     e = .returned (.tuple #[]) ∧ SWK enc k w0 blk off (rot m (m - a) (b - m) d) w' := by
 have mixed := L.mixed; have t_int := L.t_int; have a_int := L.a_int; have z_int := L.z_int; have v_int := L.v_int; have t_bool := L.t_bool; have a_bool := L.a_bool; have z_bool := L.z_bool; have v_bool := L.v_bool; have t_uint := L.t_uint; have a_uint := L.a_uint; have z_uint := L.z_uint; have v_uint := L.v_uint; have t_slice := L.t_slice; have a_slice := L.a_slice; have z_slice := L.z_slice; have v_slice := L.v_slice; have t_fn := L.t_fn; have a_fn := L.a_fn; have z_fn := L.z_fn; have v_fn := L.v_fn; have t_unit := L.t_unit; have a_unit := L.a_unit; have z_unit := L.z_unit; have v_unit := L.v_unit; have aE := L.aE; have zE := L.zE
 have F := L.f_rot
 have eS : ∀ args w, (callFunc 180 args).run P w = .ok (.enter 180 args) w := enters_of L.f_swap (by kernel_rfl) rfl
 have S0 : Aside _ := S
 clear S
 go_enter F, Tryz.ntmps157
 go_wp2
 go_loopg [10, 11] (m - a + (b - m)) (fun kx s10 s11 wr => ∃ (i j : Nat) (dk : Array α), s10 = .int .i64 i ∧ s11 = .int .i64 j ∧ 0 < i ∧ 0 < j ∧ i ≤ m ∧ m + j ≤ d.size ∧ i + j ≤ kx ∧ dk.size = d.size ∧ Aside (SWK enc k w0 blk off dk wr) ∧ Hid (rot m i j dk = rot m (m - a) (b - m) d))
 case atStart => exact ⟨m - a, b - m, d, by rw [Int.ofNat_sub (Nat.le_of_lt ham)], by rw [Int.ofNat_sub (Nat.le_of_lt hmb)], by omega, by omega, by omega, by omega, Nat.le_refl _, rfl, S0, rfl⟩
 case round =>
  obtain ⟨i, j, dk, rfl, rfl, hi, hj, him, hjm, hkx, hds, S1, HE⟩ := hrel
  clear S0
  have hc1 : ((m - i : Nat) : Int) = (m : Int) - (i : Int) := by omega
  by_cases hij : i = j
  · subst hij
    have hc := swapRange_walk k L enc g cb blk off cap (m - i) m i d0 dk w0 wr R (by omega) S1.out (by omega) (by omega) (by omega)
    rw [hc1, hds] at hc
    have HC := hid hc
    clear hc hc1
    go_wp2_with (go_at_fn 180; refine HC.out.mono ?_; rintro e w2 ⟨rfl, S2⟩)
    go_end0
    refine ⟨rfl, ?_⟩
    rw [← HE.out, show rot m i i dk = swapR (m - i) m i 0 dk by rw [rot, if_pos rfl]]
    exact S2
  · have hne : ((i : Int) != (j : Int)) = true := by rw [bne_iff_ne]; omega
    have hne2 : ¬ (i : Int) = (j : Int) := by omega
    by_cases hlt : j < i
    · have hgt : (j : Int) < (i : Int) := by omega
      have hc := swapRange_walk k L enc g cb blk off cap (m - i) m j d0 dk w0 wr R (by omega) S1.out (by omega) (by omega) (by omega)
      rw [hc1, hds] at hc
      have HC := hid hc
      clear hc hc1
      go_wp2_with (go_at_fn 180; refine HC.out.mono ?_; rintro e w2 ⟨rfl, S2⟩)
      go_roundg (i - j + j)
      case measure => omega
      case rel => exact ⟨i - j, j, swapR (m - i) m j 0 dk, by rw [Int.ofNat_sub (Nat.le_of_lt hlt)], rfl, by omega, hj, by omega, hjm, Nat.le_refl _, by rw [swapR_size _ _ _ _ _ _ rfl]; exact hds, S2, by show _ = _; rw [← HE.out]; conv => rhs; rw [rot, if_neg hij, if_pos hlt, if_pos hj]⟩
    · have hgt : ¬ (j : Int) < (i : Int) := by omega
      have hc := swapRange_walk k L enc g cb blk off cap (m - i) (m + j - i) i d0 dk w0 wr R (by omega) S1.out (by omega) (by omega) (by omega)
      have hc2 : ((m + j - i : Nat) : Int) = (m : Int) + (j : Int) - (i : Int) := by omega
      rw [hc1, hc2, hds] at hc
      have HC := hid hc
      clear hc hc1 hc2
      go_wp2_with (go_at_fn 180; refine HC.out.mono ?_; rintro e w2 ⟨rfl, S2⟩)
      go_roundg (i + (j - i))
      case measure => omega
      case rel => exact ⟨i, j - i, swapR (m - i) (m + j - i) i 0 dk, rfl, by rw [Int.ofNat_sub (by omega)], hi, by omega, him, by omega, Nat.le_refl _, by rw [swapR_size _ _ _ _ _ _ rfl]; exact hds, S2, by show _ = _; rw [← HE.out]; conv => rhs; rw [rot, if_neg hij, if_neg hlt, if_pos hi]⟩
end Go.Proofs.YthlflglkdaainaaGreatDoor.Tr
namespace Go.Proofs.YthlflglkdaainaaGreatDoor.Tr
open Go.Shelf Go.RowKit Go.Lib Go.Sort
variable {α : Type} [Inhabited α] {P : Program}
set_option maxRecDepth 1000000 in
theorem sym_one (k : Nat) (L : StabL P k) (enc : α → List Value) (cf : α → α → Int) (g : Nat) (cb : Array Value) (blk off cap a m b : Nat) (d0 d : Array α) (w0 w : World) (eg : ∀ args w, (callFunc g args).run P w = .ok (.enter g args) w) (hcmp : CmpLays P g cb enc k cf blk off d0.size w0) (R : RowK enc k w0 blk off d0) (hs : d0.size = d.size) (S : SWK enc k w0 blk off d w) (ham : m = a + 1) (hmb : m < b) (hb : b ≤ d.size) (hsz : d.size < 4611686018427387904) :
    Calls P 124 #[.slice (some ⟨blk, off, none⟩) d.size cap, .int .i64 a, .int .i64 m, .int .i64 b, .func (.func g) #[] cb] w fun e w' =>
     e = .returned (.tuple #[]) ∧ SWK enc k w0 blk off (shUp a (bs (fun h => ltOf cf d[h]! d[a]!) m b) d) w' := by
 have F := L.f_sym
 have mixed := L.mixed; have t_int := L.t_int; have a_int := L.a_int; have z_int := L.z_int; have v_int := L.v_int; have t_bool := L.t_bool; have a_bool := L.a_bool; have z_bool := L.z_bool; have v_bool := L.v_bool; have t_uint := L.t_uint; have a_uint := L.a_uint; have z_uint := L.z_uint; have v_uint := L.v_uint; have t_slice := L.t_slice; have a_slice := L.a_slice; have z_slice := L.z_slice; have v_slice := L.v_slice; have t_fn := L.t_fn; have a_fn := L.a_fn; have z_fn := L.z_fn; have v_fn := L.v_fn; have t_unit := L.t_unit; have a_unit := L.a_unit; have z_unit := L.z_unit; have v_unit := L.v_unit; have aE := L.aE; have zE := L.zE
 have u22 := run_underlying L.t_slice
 have HC : Aside _ := hcmp
 have S0 : Aside _ := S
 clear hcmp S
 have h1 : (m : Int) - (a : Int) = 1 := by omega
 have ham1 : a < m := by omega
 have HAM := hid ham
 clear ham
 go_enter F, Tryz.ntmps124
 go_wp2
 go_loopg [10, 11] (b - m) (fun kx s10 s11 wr => ∃ (i j : Nat), s10 = .int .i64 i ∧ s11 = .int .i64 j ∧ m ≤ i ∧ i ≤ j ∧ j ≤ b ∧ j - i ≤ kx ∧ Aside (SWK enc k w0 blk off d wr) ∧ Hid (bs (fun h => ltOf cf d[h]! d[a]!) i j = bs (fun h => ltOf cf d[h]! d[a]!) m b))
 case atStart => exact ⟨m, b, rfl, rfl, Nat.le_refl _, Nat.le_of_lt hmb, Nat.le_refl _, Nat.le_refl _, S0, rfl⟩
 case round =>
  obtain ⟨i, j, rfl, rfl, hi, hij, hj, hkx, S1, HE⟩ := hrel
  clear S0
  by_cases hlt : i < j
  · have hltz : (i : Int) < (j : Int) := by omega
    have ea : (((i : Int) + (j : Int)) / 2).toNat = (i + j) / 2 := by omega
    have pa : (0 : Int) ≤ ((i : Int) + (j : Int)) / 2 := by omega
    have ba : ((i : Int) + (j : Int)) / 2 < (d.size : Int) := by omega
    have bb : (a : Int) < (d.size : Int) := by omega
    obtain ⟨x, hx⟩ : ∃ x, x = d[(i + j) / 2]! := ⟨_, rfl⟩
    obtain ⟨y, hy⟩ : ∃ y, y = d[a]! := ⟨_, rfl⟩
    have la := S1.out.ld R (by omega) P ((i + j) / 2) (by omega)
    have lb := S1.out.ld R (by omega) P a (by omega)
    rw [← hx] at la
    rw [← hy] at lb
    have hc := S1.out.cmp HC.out (by omega) x y
    have HXY : Hid (ltOf cf d[(i + j) / 2]! d[a]! = decide (cf x y < 0)) := by rw [hx, hy]; rfl
    clear hx hy
    by_cases hv : cf x y < 0
    · have hd : decide (cf x y < 0) = true := decide_eq_true hv
      go_wp2_with fail
      go_quiet_grown (first | (go_at_fn g; refine Calls.grown_of (hc _ _)))
      have S2 : Aside (SWK enc k w0 blk off d (grow (wr.drewN nq) osq)) := S1.out.grown nq osq
      clear la lb hc S1
      generalize grow (wr.drewN nq) osq = w2 at S2 ⊢
      clear nq osq
      go_wp2
      go_roundg (j - ((i + j) / 2 + 1))
      case measure => omega
      case rel => exact ⟨(i + j) / 2 + 1, j, by first | go_num | (congr 1; omega), rfl, by omega, by omega, hj, Nat.le_refl _, S2, by show _ = _; rw [← HE.out]; conv => rhs; rw [bs, if_pos hlt, if_pos (by rw [HXY.out]; exact hd)]⟩
    · have hd : decide (cf x y < 0) = false := decide_eq_false hv
      go_wp2_with fail
      go_quiet_grown (first | (go_at_fn g; refine Calls.grown_of (hc _ _)))
      have S2 : Aside (SWK enc k w0 blk off d (grow (wr.drewN nq) osq)) := S1.out.grown nq osq
      clear la lb hc S1
      generalize grow (wr.drewN nq) osq = w2 at S2 ⊢
      clear nq osq
      go_wp2
      go_roundg ((i + j) / 2 - i)
      case measure => omega
      case rel => exact ⟨i, (i + j) / 2, rfl, by first | go_num | (congr 1; omega), hi, by omega, by omega, Nat.le_refl _, S2, by show _ = _; rw [← HE.out]; conv => rhs; rw [bs, if_pos hlt, if_neg (by rw [HXY.out, hd]; exact Bool.false_ne_true)]⟩
  · have hltz : ¬ (i : Int) < (j : Int) := by omega
    have HI : Hid (bs (fun h => ltOf cf d[h]! d[a]!) m b = i) := by show _ = _; rw [← HE.out, bs, if_neg hlt]
    clear HE
    obtain ⟨wo, rfl⟩ : ∃ wo : World, wo = wr := ⟨_, rfl⟩
    go_wp2
    go_loopg [13] (i - a) (fun kx s13 wr => ∃ (q : Nat) (dk : Array α), s13 = .int .i64 q ∧ a ≤ q ∧ q < i ∧ i - q ≤ kx ∧ dk.size = d.size ∧ Aside (SWK enc k w0 blk off dk wr) ∧ Hid (shUp q i dk = shUp a i d))
    case atStart => exact ⟨a, d, rfl, Nat.le_refl _, by omega, Nat.le_refl _, rfl, S1, rfl⟩
    case round =>
     obtain ⟨q, dk, rfl, hq, hqi, hkq, hds, S2, HQ⟩ := hrel
     clear S1
     by_cases hk : q + 1 < i
     · have hkz : (q : Int) < (i : Int) - 1 := by omega
       have hkz2 : (q : Int) + 1 < (i : Int) := by omega
       have ea : ((q : Int) + 1).toNat = q + 1 := by omega
       have pa : (0 : Int) ≤ (q : Int) + 1 := by omega
       have ba : (q : Int) + 1 < (d.size : Int) := by omega
       have bb : (q : Int) < (d.size : Int) := by omega
       have ra : IntKind.i64.wrap ((q : Int) + 1) = (q : Int) + 1 := by rw [IntKind.wrap_i64]; omega
       have S3 : Aside (SWK enc k w0 blk off (swp dk q (q + 1)) ((wr.drew.setCells blk (off + q * k) (enc dk[q + 1]!)).setCells blk (off + (q + 1) * k) (enc dk[q]!))) := S2.out.swapped R q (q + 1) (by omega) (by omega)
       have l1 := S2.out.ld1 R (by omega) P q (by omega)
       have l2 := S2.out.ld1 R (by omega) P (q + 1) (by omega)
       have s1 := S2.out.st1 R (by omega) P q (by omega) dk[q + 1]!
       have s2 := S2.out.st2 R (by omega) P q (q + 1) (by omega) (by omega) dk[q + 1]! dk[q]!
       have n1 : (enc dk[q]!).length = k := R.hk _
       have n2 : (enc dk[q + 1]!).length = k := R.hk _
       generalize enc dk[q]! = cI at S3 l1 s2 n1
       generalize enc dk[q + 1]! = cJ at S3 l2 s1 s2 n2
       clear S2
       go_wp2_with fail
       go_big_region_o
       clear l1 l2 s1 s2
       generalize (wr.drew.setCells blk (off + q * k) cJ).setCells blk (off + (q + 1) * k) cI = w4 at S3 ⊢
       go_wp2
       go_roundg (i - (q + 1))
       case measure => omega
       case rel => exact ⟨q + 1, swp dk q (q + 1), by go_num, by omega, by omega, Nat.le_refl _, by rw [size_swp]; exact hds, S3, by show _ = _; rw [← HQ.out]; conv => rhs; rw [shUp, if_pos hk]⟩
     · have hkz : ¬ (q : Int) < (i : Int) - 1 := by omega
       have hkz2 : ¬ (q : Int) + 1 < (i : Int) := by omega
       go_wp2
       refine bodyPost_ret (results_none rfl _ _ _) rfl ⟨rfl, ?_⟩
       rw [HI.out, ← HQ.out, show shUp q i dk = dk by rw [shUp, if_neg hk]]
       exact S2.out
end Go.Proofs.YthlflglkdaainaaGreatDoor.Tr
namespace Go.Proofs.YthlflglkdaainaaGreatDoor.Tr
open Go.Shelf Go.RowKit Go.Lib Go.Sort
variable {α : Type} [Inhabited α] {P : Program}
set_option maxRecDepth 1000000 in
theorem sym_last (k : Nat) (L : StabL P k) (enc : α → List Value) (cf : α → α → Int) (g : Nat) (cb : Array Value) (blk off cap a m b : Nat) (d0 d : Array α) (w0 w : World) (eg : ∀ args w, (callFunc g args).run P w = .ok (.enter g args) w) (hcmp : CmpLays P g cb enc k cf blk off d0.size w0) (R : RowK enc k w0 blk off d0) (hs : d0.size = d.size) (S : SWK enc k w0 blk off d w) (ham : a + 1 < m) (hmb : b = m + 1) (hb : b ≤ d.size) (hsz : d.size < 4611686018427387904) :
    Calls P 124 #[.slice (some ⟨blk, off, none⟩) d.size cap, .int .i64 a, .int .i64 m, .int .i64 b, .func (.func g) #[] cb] w fun e w' =>
     e = .returned (.tuple #[]) ∧ SWK enc k w0 blk off (shDn (bs (fun h => !ltOf cf d[m]! d[h]!) a m) m d) w' := by
 have F := L.f_sym
 have mixed := L.mixed; have t_int := L.t_int; have a_int := L.a_int; have z_int := L.z_int; have v_int := L.v_int; have t_bool := L.t_bool; have a_bool := L.a_bool; have z_bool := L.z_bool; have v_bool := L.v_bool; have t_uint := L.t_uint; have a_uint := L.a_uint; have z_uint := L.z_uint; have v_uint := L.v_uint; have t_slice := L.t_slice; have a_slice := L.a_slice; have z_slice := L.z_slice; have v_slice := L.v_slice; have t_fn := L.t_fn; have a_fn := L.a_fn; have z_fn := L.z_fn; have v_fn := L.v_fn; have t_unit := L.t_unit; have a_unit := L.a_unit; have z_unit := L.z_unit; have v_unit := L.v_unit; have aE := L.aE; have zE := L.zE
 have u22 := run_underlying L.t_slice
 have HC : Aside _ := hcmp
 have S0 : Aside _ := S
 clear hcmp S
 have h1 : ¬ (m : Int) - (a : Int) = 1 := by omega
 have h1' : ((m : Int) - (a : Int) == 1) = false := by rw [beq_eq_false_iff_ne]; omega
 have h2 : (b : Int) - (m : Int) = 1 := by omega
 have hmb1 : m < b := by omega
 have HMB := hid hmb
 clear hmb
 go_enter F, Tryz.ntmps124
 go_wp2
 go_loopg [14, 15] (m - a) (fun kx s10 s11 wr => ∃ (i j : Nat), s10 = .int .i64 i ∧ s11 = .int .i64 j ∧ a ≤ i ∧ i ≤ j ∧ j ≤ m ∧ j - i ≤ kx ∧ Aside (SWK enc k w0 blk off d wr) ∧ Hid (bs (fun h => !ltOf cf d[m]! d[h]!) i j = bs (fun h => !ltOf cf d[m]! d[h]!) a m))
 case atStart => exact ⟨a, m, rfl, rfl, Nat.le_refl _, by omega, Nat.le_refl _, Nat.le_refl _, S0, rfl⟩
 case round =>
  obtain ⟨i, j, rfl, rfl, hi, hij, hj, hkx, S1, HE⟩ := hrel
  clear S0
  by_cases hlt : i < j
  · have hltz : (i : Int) < (j : Int) := by omega
    have ea : (((i : Int) + (j : Int)) / 2).toNat = (i + j) / 2 := by omega
    have pa : (0 : Int) ≤ ((i : Int) + (j : Int)) / 2 := by omega
    have ba : ((i : Int) + (j : Int)) / 2 < (d.size : Int) := by omega
    have bb : (m : Int) < (d.size : Int) := by omega
    obtain ⟨x, hx⟩ : ∃ x, x = d[m]! := ⟨_, rfl⟩
    obtain ⟨y, hy⟩ : ∃ y, y = d[(i + j) / 2]! := ⟨_, rfl⟩
    have la := S1.out.ld R (by omega) P m (by omega)
    have lb := S1.out.ld R (by omega) P ((i + j) / 2) (by omega)
    rw [← hx] at la
    rw [← hy] at lb
    have hc := S1.out.cmp HC.out (by omega) x y
    have HXY : Hid (ltOf cf d[m]! d[(i + j) / 2]! = decide (cf x y < 0)) := by rw [hx, hy]; rfl
    clear hx hy
    by_cases hv : cf x y < 0
    · have hd : decide (cf x y < 0) = true := decide_eq_true hv
      go_wp2_with fail
      go_quiet_grown (first | (go_at_fn g; refine Calls.grown_of (hc _ _)))
      have S2 : Aside (SWK enc k w0 blk off d (grow (wr.drewN nq) osq)) := S1.out.grown nq osq
      clear la lb hc S1
      generalize grow (wr.drewN nq) osq = w2 at S2 ⊢
      clear nq osq
      go_wp2
      go_roundg ((i + j) / 2 - i)
      case measure => omega
      case rel => exact ⟨i, (i + j) / 2, rfl, by first | go_num | (congr 1; omega), hi, by omega, by omega, Nat.le_refl _, S2, by show _ = _; rw [← HE.out]; conv => rhs; rw [bs, if_pos hlt, if_neg (by rw [HXY.out, hd]; exact Bool.false_ne_true)]⟩
    · have hd : decide (cf x y < 0) = false := decide_eq_false hv
      go_wp2_with fail
      go_quiet_grown (first | (go_at_fn g; refine Calls.grown_of (hc _ _)))
      have S2 : Aside (SWK enc k w0 blk off d (grow (wr.drewN nq) osq)) := S1.out.grown nq osq
      clear la lb hc S1
      generalize grow (wr.drewN nq) osq = w2 at S2 ⊢
      clear nq osq
      go_wp2
      go_roundg (j - ((i + j) / 2 + 1))
      case measure => omega
      case rel => exact ⟨(i + j) / 2 + 1, j, by first | go_num | (congr 1; omega), rfl, by omega, by omega, hj, Nat.le_refl _, S2, by show _ = _; rw [← HE.out]; conv => rhs; rw [bs, if_pos hlt, if_pos (by rw [HXY.out, hd]; rfl)]⟩
  · have hltz : ¬ (i : Int) < (j : Int) := by omega
    have HI : Hid (bs (fun h => !ltOf cf d[m]! d[h]!) a m = i) := by show _ = _; rw [← HE.out, bs, if_neg hlt]
    clear HE
    obtain ⟨wo, rfl⟩ : ∃ wo : World, wo = wr := ⟨_, rfl⟩
    go_wp2
    go_loopg [17] (m - i) (fun kx s13 wr => ∃ (q : Nat) (dk : Array α), s13 = .int .i64 q ∧ i ≤ q ∧ q ≤ m ∧ q - i ≤ kx ∧ dk.size = d.size ∧ Aside (SWK enc k w0 blk off dk wr) ∧ Hid (shDn i q dk = shDn i m d))
    case atStart => exact ⟨m, d, rfl, by omega, Nat.le_refl _, Nat.le_refl _, rfl, S1, rfl⟩
    case round =>
     obtain ⟨q, dk, rfl, hq, hqi, hkq, hds, S2, HQ⟩ := hrel
     clear S1
     by_cases hk : i < q
     · obtain ⟨q, rfl⟩ : ∃ p, q = p + 1 := ⟨q - 1, by omega⟩
       have hkz : (i : Int) < (q : Int) + 1 := by omega
       have ea : ((q : Int) + 1).toNat = q + 1 := by omega
       have pa : (0 : Int) ≤ (q : Int) + 1 := by omega
       have ba : (q : Int) + 1 < (d.size : Int) := by omega
       have bb : (q : Int) < (d.size : Int) := by omega
       have hwp : IntKind.i64.wrap (q : Int) = (q : Int) := by rw [IntKind.wrap_i64]; omega
       have S3 : Aside (SWK enc k w0 blk off (swp dk (q + 1) q) ((wr.drew.setCells blk (off + (q + 1) * k) (enc dk[q]!)).setCells blk (off + q * k) (enc dk[q + 1]!))) := S2.out.swapped R (q + 1) q (by omega) (by omega)
       have l1 := S2.out.ld1 R (by omega) P (q + 1) (by omega)
       have l2 := S2.out.ld1 R (by omega) P q (by omega)
       have s1 := S2.out.st1 R (by omega) P (q + 1) (by omega) dk[q]!
       have s2 := S2.out.st2 R (by omega) P (q + 1) q (by omega) (by omega) dk[q]! dk[q + 1]!
       have n1 : (enc dk[q + 1]!).length = k := R.hk _
       have n2 : (enc dk[q]!).length = k := R.hk _
       generalize enc dk[q + 1]! = cI at S3 l1 s2 n1
       generalize enc dk[q]! = cJ at S3 l2 s1 s2 n2
       clear S2
       go_wp2_with fail
       go_big_region_o
       clear l1 l2 s1 s2
       generalize (wr.drew.setCells blk (off + (q + 1) * k) cJ).setCells blk (off + q * k) cI = w4 at S3 ⊢
       go_wp2
       go_roundg (q - i)
       case measure => omega
       case rel => exact ⟨q, swp dk (q + 1) q, by first | rfl | go_num | (congr 1; omega), by omega, by omega, Nat.le_refl _, by rw [size_swp]; exact hds, S3, by show _ = _; rw [← HQ.out]; conv => rhs; rw [shDn, if_pos hk]⟩
     · have hkz : ¬ (i : Int) < (q : Int) := by omega
       go_wp2
       refine bodyPost_ret (results_none rfl _ _ _) rfl ⟨rfl, ?_⟩
       rw [HI.out, ← HQ.out, show shDn i q dk = dk by cases q with | zero => rfl | succ q => rw [shDn, if_neg hk]]
       exact S2.out
end Go.Proofs.YthlflglkdaainaaGreatDoor.Tr
namespace Go.Proofs.YthlflglkdaainaaGreatDoor.Tr
open Go.Shelf Go.RowKit Go.Lib Go.Sort
variable {α : Type} [Inhabited α] {P : Program}
set_option maxRecDepth 1000000 in
theorem sym_gen (k : Nat) (L : StabL P k) (enc : α → List Value) (cf : α → α → Int) (g : Nat) (cb : Array Value) (blk off cap a m b : Nat) (d0 d : Array α) (w0 w : World) (eg : ∀ args w, (callFunc g args).run P w = .ok (.enter g args) w) (hcmp : CmpLays P g cb enc k cf blk off d0.size w0) (R : RowK enc k w0 blk off d0) (hs : d0.size = d.size) (S : SWK enc k w0 blk off d w) (ham : a + 1 < m) (hmb : m + 1 < b) (hb : b ≤ d.size) (hsz : d.size < 4611686018427387904)
    (f : Nat) (ih : ∀ (a m b : Nat) (d : Array α) (w : World), b - a ≤ f → a < m → m < b → b ≤ d.size → d0.size = d.size → SWK enc k w0 blk off d w →
     Calls P 124 #[.slice (some ⟨blk, off, none⟩) d.size cap, .int .i64 a, .int .i64 m, .int .i64 b, .func (.func g) #[] cb] w fun e w' => e = .returned (.tuple #[]) ∧ SWK enc k w0 blk off (symMerge (ltOf cf) f a m b d) w')
    (hf : b - a ≤ f + 1) :
    Calls P 124 #[.slice (some ⟨blk, off, none⟩) d.size cap, .int .i64 a, .int .i64 m, .int .i64 b, .func (.func g) #[] cb] w fun e w' =>
     e = .returned (.tuple #[]) ∧ SWK enc k w0 blk off (symMerge (ltOf cf) (f + 1) a m b d) w' := by
 have F := L.f_sym
 have mixed := L.mixed; have t_int := L.t_int; have a_int := L.a_int; have z_int := L.z_int; have v_int := L.v_int; have t_bool := L.t_bool; have a_bool := L.a_bool; have z_bool := L.z_bool; have v_bool := L.v_bool; have t_uint := L.t_uint; have a_uint := L.a_uint; have z_uint := L.z_uint; have v_uint := L.v_uint; have t_slice := L.t_slice; have a_slice := L.a_slice; have z_slice := L.z_slice; have v_slice := L.v_slice; have t_fn := L.t_fn; have a_fn := L.a_fn; have z_fn := L.z_fn; have v_fn := L.v_fn; have t_unit := L.t_unit; have a_unit := L.a_unit; have z_unit := L.z_unit; have v_unit := L.v_unit; have aE := L.aE; have zE := L.zE
 have u22 := run_underlying L.t_slice
 have eS : ∀ args w, (callFunc 157 args).run P w = .ok (.enter 157 args) w := enters_of L.f_rot (by kernel_rfl) rfl
 have eM : ∀ args w, (callFunc 124 args).run P w = .ok (.enter 124 args) w := enters_of L.f_sym (by kernel_rfl) rfl
 have HC : Aside _ := hcmp
 have S0 : Aside _ := S
 have IH : Aside _ := ih
 clear hcmp S ih
 obtain ⟨st, hst⟩ : ∃ st, symStart (ltOf cf) a m b d = st := ⟨_, rfl⟩
 obtain ⟨mid, hmd⟩ : ∃ mid, (a + b) / 2 = mid := ⟨_, rfl⟩
 obtain ⟨s0, hs0⟩ : ∃ s0, (if mid < m then mid + m - b else a) = s0 := ⟨_, rfl⟩
 obtain ⟨r0, hr0⟩ : ∃ r0, (if mid < m then mid else m) = r0 := ⟨_, rfl⟩
 have HB : Hid ((mid < m ∧ s0 + b = mid + m ∧ r0 = mid) ∨ (m ≤ mid ∧ s0 = a ∧ r0 = m)) := by
  show _ ∨ _
  by_cases h : mid < m
  · rw [if_pos h] at hs0 hr0; exact .inl ⟨h, by omega, hr0.symm⟩
  · rw [if_neg h] at hs0 hr0; exact .inr ⟨by omega, hs0.symm, hr0.symm⟩
 have hse := hst
 unfold symStart at hse
 rw [hmd, hs0, hr0] at hse
 have hq := bs_spec (fun c => !ltOf cf d[mid + m - 1 - c]! d[c]!) (r0 - s0) s0 r0 rfl (by have := HB.out; omega)
 rw [hse] at hq
 have q1 : s0 ≤ st := hq.1
 have q2 : st ≤ r0 := hq.2.1
 have HSE := hid hse
 have HST := hid hst
 have HMD := hid hmd
 have b1 : a < mid := by omega
 have b2 : mid < b := by omega
 have b3 : a ≤ s0 := by have := HB.out; omega
 have b4 : s0 ≤ r0 := by omega
 have b5 : r0 ≤ mid := by have := HB.out; omega
 have b6 : r0 ≤ m := by have := HB.out; omega
 have b7 : mid + m ≤ s0 + b := by have := HB.out; omega
 have hmid : ((a : Int) + (b : Int)) / 2 = (mid : Int) := by omega
 have h1 : ¬ (m : Int) - (a : Int) = 1 := by omega
 have h1' : ((m : Int) - (a : Int) == 1) = false := by rw [beq_eq_false_iff_ne]; omega
 have h2 : ¬ (b : Int) - (m : Int) = 1 := by omega
 have h2' : ((b : Int) - (m : Int) == 1) = false := by rw [beq_eq_false_iff_ne]; omega
 clear hq hst hse hs0 hr0 hmd
 go_enter F, Tryz.ntmps124
 go_upto_if 140 with fail
 go_cut [20, 21] (fun s20 s21 wx => s20 = .int .i64 s0 ∧ s21 = .int .i64 r0 ∧ wx = w)
 case first => as_aux_lemma =>
  by_cases hA : (mid : Int) < (m : Int)
  · go_wp2_with fail
    go_meet
    case rel => exact ⟨by congr 1; have := HB.out; omega, by congr 1; have := HB.out; omega, rfl⟩
  · go_wp2_with fail
    go_meet
    case rel => exact ⟨by congr 1; have := HB.out; omega, by congr 1; have := HB.out; omega, rfl⟩
 case rest =>
  obtain ⟨rfl, rfl, rfl⟩ := hcut
  obtain ⟨p, hp⟩ : ∃ p, mid + m - 1 = p := ⟨_, rfl⟩
  have hpz : (mid : Int) + (m : Int) - 1 = (p : Int) := by omega
  have HP := hid hp
  clear hp
  go_wp2_with fail
  go_loopg [20, 21] (r0 - s0) (fun kx s20 s21 wr => ∃ (i j : Nat), s20 = .int .i64 i ∧ s21 = .int .i64 j ∧ s0 ≤ i ∧ i ≤ j ∧ j ≤ r0 ∧ j - i ≤ kx ∧ Aside (SWK enc k w0 blk off d wr) ∧ Hid (bs (fun c => !ltOf cf d[mid + m - 1 - c]! d[c]!) i j = bs (fun c => !ltOf cf d[mid + m - 1 - c]! d[c]!) s0 r0))
  case atStart => exact ⟨s0, r0, rfl, rfl, Nat.le_refl _, b4, Nat.le_refl _, Nat.le_refl _, S0, rfl⟩
  case round =>
   obtain ⟨i, j, rfl, rfl, hi, hij, hj, hkx, S1, HE⟩ := hrel
   clear S0
   by_cases hlt : i < j
   · as_aux_lemma =>
     have hltz : (i : Int) < (j : Int) := by omega
     obtain ⟨h, hh⟩ : ∃ h, (i + j) / 2 = h := ⟨_, rfl⟩
     obtain ⟨q, hq⟩ : ∃ q, mid + m - 1 - h = q := ⟨_, rfl⟩
     have hhz : ((i : Int) + (j : Int)) / 2 = (h : Int) := by omega
     have hqz : (p : Int) - (h : Int) = (q : Int) := by have := HP.out; omega
     have rq : IntKind.i64.wrap (q : Int) = (q : Int) := by rw [IntKind.wrap_i64]; omega
     have ba : (h : Int) < (d.size : Int) := by omega
     have bc : (q : Int) < (d.size : Int) := by omega
     obtain ⟨x, hx⟩ : ∃ x, x = d[q]! := ⟨_, rfl⟩
     obtain ⟨y, hy⟩ : ∃ y, y = d[h]! := ⟨_, rfl⟩
     have la := S1.out.ld R (by omega) P q (by omega)
     have lb := S1.out.ld R (by omega) P h (by omega)
     rw [← hx] at la
     rw [← hy] at lb
     have hc := S1.out.cmp HC.out (by omega) x y
     have HXY : Hid (ltOf cf d[mid + m - 1 - (i + j) / 2]! d[(i + j) / 2]! = decide (cf x y < 0)) := by show _ = _; rw [hh, hq, hx, hy]; rfl
     have HH := hid hh
     clear hx hy hh hq
     by_cases hv : cf x y < 0
     · have hd : decide (cf x y < 0) = true := decide_eq_true hv
       go_wp2_with fail
       go_quiet_grown (first | (go_at_fn g; refine Calls.grown_of (hc _ _)))
       have S2 : Aside (SWK enc k w0 blk off d (grow (wr.drewN nq) osq)) := S1.out.grown nq osq
       clear la lb hc S1
       generalize grow (wr.drewN nq) osq = w2 at S2 ⊢
       clear nq osq
       go_wp2
       go_roundg (h - i)
       case measure => have := HH.out; omega
       case rel => exact ⟨i, h, rfl, rfl, hi, by have := HH.out; omega, by have := HH.out; omega, Nat.le_refl _, S2, by show _ = _; rw [← HE.out]; conv => rhs; rw [bs, if_pos hlt, if_neg (by rw [HXY.out, hd]; exact Bool.false_ne_true), HH.out]⟩
     · have hd : decide (cf x y < 0) = false := decide_eq_false hv
       go_wp2_with fail
       go_quiet_grown (first | (go_at_fn g; refine Calls.grown_of (hc _ _)))
       have S2 : Aside (SWK enc k w0 blk off d (grow (wr.drewN nq) osq)) := S1.out.grown nq osq
       clear la lb hc S1
       generalize grow (wr.drewN nq) osq = w2 at S2 ⊢
       clear nq osq
       go_wp2
       go_roundg (j - (h + 1))
       case measure => have := HH.out; omega
       case rel => exact ⟨h + 1, j, by go_num, rfl, by have := HH.out; omega, by have := HH.out; omega, hj, Nat.le_refl _, S2, by show _ = _; rw [← HE.out]; conv => rhs; rw [bs, if_pos hlt, if_pos (by rw [HXY.out, hd]; rfl), HH.out]⟩
   · have hltz : ¬ (i : Int) < (j : Int) := by omega
     have hi : i = st := by rw [← HSE.out, ← HE.out, bs, if_neg hlt]
     clear HE
     obtain ⟨wo, rfl⟩ : ∃ wo : World, wo = wr := ⟨_, rfl⟩
     obtain ⟨en, hen⟩ : ∃ en, mid + m - st = en := ⟨_, rfl⟩
     subst hi
     have henz : (mid : Int) + (m : Int) - (i : Int) = (en : Int) := by omega
     have c1 : mid ≤ en := by omega
     have c2 : m ≤ en := by omega
     have c3 : en ≤ b := by omega
     have c4 : a ≤ i := by omega
     have c5 : i ≤ mid := by omega
     have c6 : i ≤ m := by omega
     have HEN := hid hen
     clear hen
     obtain ⟨d1, hd1⟩ : ∃ d1, (if i < m ∧ m < en then rot m (m - i) (en - m) d else d) = d1 := ⟨_, rfl⟩
     have z1 : d1.size = d.size := by
      rw [← hd1]
      split
      · rename_i h
        exact (rot_spec m 0 d.size _ (m - i) (en - m) d rfl (by omega) (by omega) (by omega) (by omega) (Nat.le_refl _)).1.1
      · rfl
     have HD1 := hid hd1
     clear hd1
     obtain ⟨t, ht⟩ : ∃ t : Bool, decide (i < m ∧ m < en) = t := ⟨_, rfl⟩
     have HT := hid ht
     clear ht
     go_upto_region 39 with fail
     go_cut [185] (fun s185 wx => s185 = .bool t ∧ wx = wo)
     case first => as_aux_lemma =>
      by_cases t1 : i < m
      · have t1z : (i : Int) < (m : Int) := by omega
        by_cases t2 : m < en
        · have t2z : (m : Int) < (en : Int) := by omega
          go_wp2_with fail
          go_meet
          case rel => exact ⟨by rw [← HT.out, decide_eq_true ⟨t1, t2⟩], rfl⟩
        · have t2z : ¬ (m : Int) < (en : Int) := by omega
          go_wp2_with fail
          go_meet
          case rel => exact ⟨by rw [← HT.out, decide_eq_false (fun h => t2 h.2)], rfl⟩
      · have t1z : ¬ (i : Int) < (m : Int) := by omega
        have t1y : decide ((i : Int) < (m : Int)) = false := decide_eq_false t1z
        go_wp2_with fail
        go_meet
        case rel => exact ⟨by rw [← HT.out, decide_eq_false (fun h => t1 h.1)], rfl⟩
     case rest =>
      obtain ⟨rfl, rfl⟩ := hcut
      go_upto_if 185 with fail
      go_cut [24] (fun s24 wx => s24 = .int .i64 en ∧ Aside (SWK enc k w0 blk off d1 wx))
      case first => as_aux_lemma =>
       cases t with
       | true =>
        obtain ⟨t1, t2⟩ := of_decide_eq_true HT.out
        have HR := hid (rotate_walk k L enc g cb blk off cap i m en d0 d w0 wc R hs S1.out t1 t2 (by omega) hsz)
        go_wp2_with (go_at_fn 157; refine HR.out.mono ?_; rintro e w2 ⟨rfl, S2⟩)
        go_meet
        case rel => exact ⟨rfl, by rw [← HD1.out, if_pos ⟨t1, t2⟩]; exact S2⟩
       | false =>
        have t1 := of_decide_eq_false HT.out
        go_wp2_with fail
        go_meet
        case rel => exact ⟨rfl, by rw [← HD1.out, if_neg t1]; exact S1⟩
      case rest =>
       obtain ⟨rfl, S2⟩ := hcut
       clear S1 HT
       obtain ⟨d2, hd2⟩ : ∃ d2, (if a < i ∧ i < mid then symMerge (ltOf cf) f a i mid d1 else d1) = d2 := ⟨_, rfl⟩
       have HD2 := hid hd2
       clear hd2
       obtain ⟨t, ht⟩ : ∃ t : Bool, decide (a < i ∧ i < mid) = t := ⟨_, rfl⟩
       have HT := hid ht
       clear ht
       obtain ⟨wo, rfl⟩ : ∃ wo : World, wo = wc := ⟨_, rfl⟩
       go_upto_region 41 with fail
       go_cut [199] (fun s wx => s = .bool t ∧ wx = wo)
       case first => as_aux_lemma =>
        by_cases t1 : a < i
        · have t1z : (a : Int) < (i : Int) := by omega
          by_cases t2 : i < mid
          · have t2z : (i : Int) < (mid : Int) := by omega
            go_wp2_with fail
            go_meet
            case rel => exact ⟨by rw [← HT.out, decide_eq_true ⟨t1, t2⟩], rfl⟩
          · have t2z : ¬ (i : Int) < (mid : Int) := by omega
            go_wp2_with fail
            go_meet
            case rel => exact ⟨by rw [← HT.out, decide_eq_false (fun h => t2 h.2)], rfl⟩
        · have t1z : ¬ (a : Int) < (i : Int) := by omega
          have t1y : decide ((a : Int) < (i : Int)) = false := decide_eq_false t1z
          go_wp2_with fail
          go_meet
          case rel => exact ⟨by rw [← HT.out, decide_eq_false (fun h => t1 h.1)], rfl⟩
       case rest =>
        obtain ⟨rfl, rfl⟩ := hcut
        have HI1 : Hid (t = true → Calls P 124 #[.slice (some ⟨blk, off, none⟩) d.size cap, .int .i64 a, .int .i64 i, .int .i64 mid, .func (.func g) #[] cb] wc fun e w' => e = .returned (.tuple #[]) ∧ SWK enc k w0 blk off d2 w') := by
         show _ → _
         intro htt
         rw [htt] at HT
         have htr := of_decide_eq_true HT.out
         have h := IH.out a i mid d1 wc (by omega) htr.1 htr.2 (by omega) (by omega) S2.out
         rw [z1] at h
         rw [← HD2.out, if_pos htr]
         exact h
        go_upto_if 199 with fail
        go_cut [24] (fun s24 wx => s24 = .int .i64 en ∧ Aside (SWK enc k w0 blk off d2 wx))
        case first => as_aux_lemma =>
         cases t with
         | true =>
          go_wp2_with (go_at_fn 124; refine (HI1.out rfl).mono ?_; rintro e w2 ⟨rfl, S3⟩)
          go_meet
          case rel => exact ⟨rfl, S3⟩
         | false =>
          have t1 := of_decide_eq_false HT.out
          go_wp2_with fail
          go_meet
          case rel => exact ⟨rfl, by rw [← HD2.out, if_neg t1]; exact S2⟩
        case rest =>
         obtain ⟨rfl, S3⟩ := hcut
         clear S2 HT HI1
         have z2 : d2.size = d.size := by
          rw [← HD2.out, ← z1]
          split
          · exact symMerge_size _ _ _ _ _ _
          · rfl
         obtain ⟨d3, hd3⟩ : ∃ d3, (if mid < en ∧ en < b then symMerge (ltOf cf) f mid en b d2 else d2) = d3 := ⟨_, rfl⟩
         have HD3 := hid hd3
         clear hd3
         have HF : Hid (symMerge (ltOf cf) (f + 1) a m b d = d3) := by
          show _ = _
          rw [symMerge, if_neg (by omega), if_neg (by omega)]
          dsimp only
          rw [HST.out, HMD.out, HEN.out, HD1.out, HD2.out, HD3.out]
         obtain ⟨t, ht⟩ : ∃ t : Bool, decide (mid < en ∧ en < b) = t := ⟨_, rfl⟩
         have HT := hid ht
         clear ht
         obtain ⟨wo, rfl⟩ : ∃ wo : World, wo = wc := ⟨_, rfl⟩
         go_upto_region 43 with fail
         go_cut [213] (fun s wx => s = .bool t ∧ wx = wo)
         case first => as_aux_lemma =>
          by_cases t1 : mid < en
          · have t1z : (mid : Int) < (en : Int) := by omega
            by_cases t2 : en < b
            · have t2z : (en : Int) < (b : Int) := by omega
              go_wp2_with fail
              go_meet
              case rel => exact ⟨by rw [← HT.out, decide_eq_true ⟨t1, t2⟩], rfl⟩
            · have t2z : ¬ (en : Int) < (b : Int) := by omega
              go_wp2_with fail
              go_meet
              case rel => exact ⟨by rw [← HT.out, decide_eq_false (fun h => t2 h.2)], rfl⟩
          · have t1z : ¬ (mid : Int) < (en : Int) := by omega
            have t1y : decide ((mid : Int) < (en : Int)) = false := decide_eq_false t1z
            go_wp2_with fail
            go_meet
            case rel => exact ⟨by rw [← HT.out, decide_eq_false (fun h => t1 h.1)], rfl⟩
         case rest =>
          obtain ⟨rfl, rfl⟩ := hcut
          cases t with
          | true =>
           have htr := of_decide_eq_true HT.out
           have h := IH.out mid en b d2 wc (by omega) htr.1 htr.2 (by omega) (by omega) S3.out
           rw [z2] at h
           have HI3 := hid h
           clear h
           go_wp2_with (go_at_fn 124; refine HI3.out.mono ?_; rintro e w2 ⟨rfl, S4⟩)
           go_end0
           refine ⟨rfl, ?_⟩
           rw [HF.out, ← HD3.out, if_pos htr]; exact S4
          | false =>
           have t1 := of_decide_eq_false HT.out
           go_wp2_with fail
           go_end0
           refine ⟨rfl, ?_⟩
           rw [HF.out, ← HD3.out, if_neg t1]; exact S3.out
end Go.Proofs.YthlflglkdaainaaGreatDoor.Tr
namespace Go.Proofs.YthlflglkdaainaaGreatDoor.Tr
open Go.Shelf Go.RowKit Go.Lib Go.Sort
def lIns_ren : Go.Shelf.Ren := ⟨fun | 20 => 123 | n => n, fun | 0 => 0 | 3 => 3 | 4 => 4 | 22 => 54 | 24 => 90 | 25 => 106 | n => n, fun | n => n⟩
theorem lIns : Go.Proofs.SlLaysF0.n20 Tryz.prog lIns_ren := {
 mixed := by kernel_rfl
 f20 := ⟨"slices.insertionSortCmpFunc[gesso/api.Line]", by decide, Tryz.func123.trans (congrArg some (by kernel_rfl))⟩
 t0 := Tryz.underlying0
 a0 := Tryz.isAgg0
 z0 := Tryz.sizeOf0
 v0 := Tryz.zeroValue0
 t3 := Tryz.underlying3
 a3 := Tryz.isAgg3
 z3 := Tryz.sizeOf3
 v3 := Tryz.zeroValue3
 t4 := Tryz.underlying4
 a4 := Tryz.isAgg4
 z4 := Tryz.sizeOf4
 v4 := Tryz.zeroValue4
 t22 := Tryz.underlying54
 a22 := Tryz.isAgg54
 z22 := Tryz.sizeOf54
 v22 := Tryz.zeroValue54
 t25 := Tryz.underlying106
 a25 := Tryz.isAgg106
 z25 := Tryz.sizeOf106
 v25 := Tryz.zeroValue106 }
variable {α : Type} [Inhabited α]
theorem insInner_size (lt : α → α → Bool) (a : Nat) : ∀ (j : Nat) (d : Array α), (insInner lt a j d).size = d.size
 | 0, _ => rfl
 | j + 1, d => by
  unfold insInner
  split
  · rw [insInner_size lt a j, size_swp]
  · rfl
theorem insOuter_size (lt : α → α → Bool) (a b : Nat) : ∀ (t i : Nat) (d : Array α), b - i = t → (insOuter lt a b i d).size = d.size
 | 0, i, d, h => by rw [insOuter, if_neg (by omega)]
 | t + 1, i, d, h => by rw [insOuter, if_pos (by omega), insOuter_size lt a b t (i + 1) _ (by omega), insInner_size]
theorem insertionSort_size (lt : α → α → Bool) (d : Array α) (a b : Nat) : (insertionSort lt d a b).size = d.size := insOuter_size _ _ _ _ _ _ rfl
variable (enc : α → List Value) (cf : α → α → Int) (g : Nat) (cb : Array Value) (blk off cap : Nat) (d0 : Array α) (w0 : World) (eg : ∀ args w, (callFunc g args).run Tryz.prog w = .ok (.enter g args) w) (hcmp : CmpLays Tryz.prog g cb enc 2 cf blk off d0.size w0) (R : RowK enc 2 w0 blk off d0) (hsz : d0.size < 4611686018427387904)
include eg hcmp R hsz
theorem ins_walk (a b : Nat) (d : Array α) (w : World) (hs : d0.size = d.size) (S : SWK enc 2 w0 blk off d w) (hab : a ≤ b) (hb : b ≤ d.size) :
    Calls Tryz.prog 123 #[.slice (some ⟨blk, off, none⟩) d.size cap, .int .i64 a, .int .i64 b, .func (.func g) #[] cb] w fun e w' => e = .returned (.tuple #[]) ∧ SWK enc 2 w0 blk off (insertionSort (ltOf cf) d a b) w' := by
 have hC : CmpLays Tryz.prog g cb enc 2 cf blk off d.size w := fun m os dk hdk x y => by
  obtain ⟨n0, os0, rfl⟩ := S
  rw [sortWorldK_on enc 2 w0 blk off n0 m d dk os0 os R.hblk hdk]
  exact hcmp _ _ dk (by omega) x y
 refine (AnyQ.insertionSortCmpFunc lIns 2 Tryz.isAgg90 Tryz.sizeOf90 enc R.hk R.h1 cf g cb blk off cap a b d w eg hC (S.holds R.hblk R.hH hs.symm) (S.lt R.hblk) hab hb (by omega)).mono ?_
 rintro e w' ⟨rfl, n, os, rfl⟩
 exact ⟨rfl, S.on R.hblk n _ os (insertionSort_size _ _ _ _)⟩
theorem sym_walk : ∀ (f a m b : Nat) (d : Array α) (w : World), b - a ≤ f → a < m → m < b → b ≤ d.size → d0.size = d.size → SWK enc 2 w0 blk off d w →
    Calls Tryz.prog 124 #[.slice (some ⟨blk, off, none⟩) d.size cap, .int .i64 a, .int .i64 m, .int .i64 b, .func (.func g) #[] cb] w fun e w' => e = .returned (.tuple #[]) ∧ SWK enc 2 w0 blk off (symMerge (ltOf cf) f a m b d) w'
 | 0, a, m, b, d, w, hf, h1, h2, _, _, _ => by omega
 | f + 1, a, m, b, d, w, hf, h1, h2, h3, h4, h5 => by
  by_cases hm : m = a + 1
  · have := sym_one 2 stabL enc cf g cb blk off cap a m b d0 d w0 w eg hcmp R h4 h5 hm h2 h3 (by omega)
    rw [symMerge, if_pos (by omega)]
    exact this
  · by_cases hb : b = m + 1
    · have := sym_last 2 stabL enc cf g cb blk off cap a m b d0 d w0 w eg hcmp R h4 h5 (by omega) hb h3 (by omega)
      rw [symMerge, if_neg (by omega), if_pos (by omega)]
      exact this
    · exact sym_gen 2 stabL enc cf g cb blk off cap a m b d0 d w0 w eg hcmp R h4 h5 (by omega) (by omega) h3 (by omega) f (fun a m b d w => sym_walk f a m b d w) hf
set_option maxRecDepth 1000000 in
theorem stable_walk (d : Array α) (w : World) (hs : d0.size = d.size) (S : SWK enc 2 w0 blk off d w) :
    Calls Tryz.prog 90 #[.slice (some ⟨blk, off, none⟩) d.size cap, .int .i64 d.size, .func (.func g) #[] cb] w fun e w' =>
     e = .returned (.tuple #[]) ∧ SWK enc 2 w0 blk off (stableA (ltOf cf) d.size d) w' := by
 have HI := hid (fun a b d w => ins_walk enc cf g cb blk off cap d0 w0 eg hcmp R hsz a b d w)
 have HM := hid (fun a m b d w => sym_walk enc cf g cb blk off cap d0 w0 eg hcmp R hsz (b - a) a m b d w (Nat.le_refl _))
 have S0 : Aside _ := S
 have hsd : d.size < 4611686018427387904 := by omega
 obtain ⟨n, hn⟩ : ∃ n, d.size = n := ⟨_, rfl⟩
 rw [hn] at hsd hs ⊢
 have HN := hid hn
 have HS0 := hid hs
 clear hcmp S R eg hn hsz hs
 go_enter Tryz.func90, Tryz.ntmps90
 go_wp2
 go_loopg [7, 8] n (fun kx s7 s8 wr => ∃ (q : Nat) (dk : Array α), s7 = .int .i64 q ∧ s8 = .int .i64 (q + 20 : Nat) ∧ q ≤ n ∧ n - q ≤ kx ∧ Hid (dk.size = n) ∧ Aside (SWK enc 2 w0 blk off dk wr) ∧ Hid (blocksR (ltOf cf) n q dk = blocksR (ltOf cf) n 0 d))
 case atStart => exact ⟨0, d, rfl, rfl, Nat.zero_le _, by omega, HN, S0, rfl⟩
 case round =>
  obtain ⟨q, dk, rfl, rfl, hq, hkx, HD, S1, HE⟩ := hrel
  clear S0
  by_cases hlt : q + 20 ≤ n
  · have hltz : (q : Int) + 20 ≤ (n : Int) := by omega
    have hc := HI.out q (q + 20) dk wr (by rw [HD.out, HS0.out]) S1.out (by omega) (by rw [HD.out]; exact hlt)
    rw [HD.out] at hc
    have HC := hid hc
    clear hc
    go_wp2_with (go_at_call 123; refine HC.out.mono ?_; rintro e w2 ⟨rfl, S2⟩)
    go_roundg (n - (q + 20))
    case measure => omega
    case rel => exact ⟨q + 20, insertionSort (ltOf cf) dk q (q + 20), by go_num, by go_num, hlt, Nat.le_refl _, by show _ = _; rw [insertionSort_size]; exact HD.out, S2, by show _ = _; rw [← HE.out]; conv => rhs; rw [blocksR, if_pos hlt]⟩
  · have hltz : ¬ (q : Int) + 20 ≤ (n : Int) := by omega
    have hc := HI.out q n dk wr (by rw [HD.out, HS0.out]) S1.out hq (by rw [HD.out]; exact Nat.le_refl _)
    rw [HD.out] at hc
    have HC := hid hc
    clear hc
    go_wp2_with (go_at_call 123; refine HC.out.mono ?_; rintro e w2 ⟨rfl, S2⟩)
    have HP : Hid (passes (ltOf cf) n 20 (insertionSort (ltOf cf) dk q n) = stableA (ltOf cf) n d) := by
     show _ = _
     unfold stableA
     rw [← HE.out]
     conv => rhs; rw [blocksR, if_neg hlt]
    have HD2 : Hid ((insertionSort (ltOf cf) dk q n).size = n) := by show _ = _; rw [insertionSort_size]; exact HD.out
    generalize insertionSort (ltOf cf) dk q n = d1 at HP HD2 S2
    clear HD S1 HE
    obtain ⟨wo, rfl⟩ : ∃ wo : World, wo = w2 := ⟨_, rfl⟩
    go_loopg [6] (2 * n) (fun kx s6 wr => ∃ (z : Nat) (dk : Array α), s6 = .int .i64 z ∧ 20 ≤ z ∧ z ≤ 2 * n + 20 ∧ 2 * n - z ≤ kx ∧ Hid (dk.size = n) ∧ Aside (SWK enc 2 w0 blk off dk wr) ∧ Hid (passes (ltOf cf) n z dk = stableA (ltOf cf) n d))
    case atStart => exact ⟨20, d1, rfl, Nat.le_refl _, by omega, by omega, HD2, S2, HP⟩
    case round =>
     clear HP HD2 S2
     obtain ⟨z, dk, rfl, hz, hzn, hkz, HD, S1, HE⟩ := hrel
     by_cases hlz : z < n
     · have hlzz : (z : Int) < (n : Int) := by omega
       have rz : IntKind.i64.wrap (2 * (z : Int)) = 2 * (z : Int) := by rw [IntKind.wrap_i64]; omega
       obtain ⟨wo, rfl⟩ : ∃ wo : World, wo = wr := ⟨_, rfl⟩
       go_wp2
       go_loopg [7, 8] n (fun kx s7 s8 wr => ∃ (q : Nat) (dj : Array α), s7 = .int .i64 q ∧ s8 = .int .i64 (q + 2 * z : Nat) ∧ q ≤ n ∧ n - q ≤ kx ∧ Hid (dj.size = n) ∧ Aside (SWK enc 2 w0 blk off dj wr) ∧ Hid (mergePass (ltOf cf) z n q dj = mergePass (ltOf cf) z n 0 dk))
       case atStart => exact ⟨0, dk, rfl, by first | rfl | (congr 1; omega), Nat.zero_le _, by omega, HD, S1, rfl⟩
       case round =>
        clear S1
        obtain ⟨q, dj, rfl, rfl, hq, hkq, HJ, S2, HQ⟩ := hrel
        by_cases hlq : q + 2 * z ≤ n
        · have hlqz : ((q + 2 * z : Nat) : Int) ≤ (n : Int) := by omega
          have hc := HM.out q (q + z) (q + 2 * z) dj wr (by omega) (by omega) (by rw [HJ.out]; exact hlq) (by rw [HJ.out, HS0.out]) S2.out
          rw [HJ.out] at hc
          have hlqy : (q : Int) + 2 * (z : Int) ≤ (n : Int) := by omega
          have rq : IntKind.i64.wrap ((q : Int) + 2 * (z : Int) + 2 * (z : Int)) = (q : Int) + 2 * (z : Int) + 2 * (z : Int) := by rw [IntKind.wrap_i64]; omega
          have HC := hid hc
          clear hc
          go_wp2_with (go_at_call 124; refine HC.out.mono ?_; rintro e w2 ⟨rfl, S3⟩)
          go_roundg (n - (q + 2 * z))
          case measure => omega
          case rel => exact ⟨q + 2 * z, symM (ltOf cf) q (q + z) (q + 2 * z) dj, by first | go_num | (congr 1; omega), by first | go_num | (congr 1; omega), hlq, Nat.le_refl _, by show _ = _; unfold symM; rw [symMerge_size]; exact HJ.out, S3, by show _ = _; rw [← HQ.out]; conv => rhs; rw [mergePass, if_pos ⟨by omega, hlq⟩]⟩
        · have hlqz : ¬ ((q + 2 * z : Nat) : Int) ≤ (n : Int) := by omega
          have hlqy : ¬ (q : Int) + 2 * (z : Int) ≤ (n : Int) := by omega
          by_cases hlm : q + z < n
          · have hlmz : (q : Int) + (z : Int) < (n : Int) := by omega
            have hc := HM.out q (q + z) n dj wr (by omega) hlm (by rw [HJ.out]; exact Nat.le_refl _) (by rw [HJ.out, HS0.out]) S2.out
            rw [HJ.out] at hc
            have HC := hid hc
            clear hc
            go_wp2_with (go_at_call 124; refine HC.out.mono ?_; rintro e w2 ⟨rfl, S3⟩)
            go_roundg (2 * n - z * 2)
            case measure => omega
            case rel =>
             refine ⟨z * 2, symM (ltOf cf) q (q + z) n dj, by first | go_num | (congr 1; omega), by omega, by omega, Nat.le_refl _, by show _ = _; unfold symM; rw [symMerge_size]; exact HJ.out, S3, (show Hid _ from ?_)⟩
             show _ = _
             rw [← HE.out, show passes (ltOf cf) n z dk = passes (ltOf cf) n (z * 2) (mergePass (ltOf cf) z n 0 dk) by rw [passes, if_pos ⟨by omega, hlz⟩], ← HQ.out, mergePass, if_neg (fun h => hlq h.2), if_pos hlm]
          · have hlmz : ¬ (q : Int) + (z : Int) < (n : Int) := by omega
            go_wp2
            go_roundg (2 * n - z * 2)
            case measure => omega
            case rel =>
             refine ⟨z * 2, dj, by first | go_num | (congr 1; omega), by omega, by omega, Nat.le_refl _, HJ, S2, (show Hid _ from ?_)⟩
             show _ = _
             rw [← HE.out, show passes (ltOf cf) n z dk = passes (ltOf cf) n (z * 2) (mergePass (ltOf cf) z n 0 dk) by rw [passes, if_pos ⟨by omega, hlz⟩], ← HQ.out, mergePass, if_neg (fun h => hlq h.2), if_neg hlm]
     · have hlzz : ¬ (z : Int) < (n : Int) := by omega
       go_wp2
       go_end0
       refine ⟨rfl, ?_⟩
       rw [← HE.out, show passes (ltOf cf) n z dk = dk by rw [passes, if_neg (fun h => hlz h.2)]]
       exact S1.out
set_option maxRecDepth 1000000 in
theorem sortStable_walk (d : Array α) (w : World) (hs : d0.size = d.size) (S : SWK enc 2 w0 blk off d w) :
    Calls Tryz.prog 63 #[.slice (some ⟨blk, off, none⟩) d.size cap, .func (.func g) #[] cb] w fun e w' =>
     e = .returned (.tuple #[]) ∧ SWK enc 2 w0 blk off (stableA (ltOf cf) d.size d) w' := by
 have HT := hid (stable_walk enc cf g cb blk off cap d0 w0 eg hcmp R hsz d w hs S)
 clear S hcmp R eg
 go_enter Tryz.func63, Tryz.ntmps63
 go_wp2_with (go_at_call 90; refine HT.out.mono ?_; rintro e w2 ⟨rfl, S3⟩)
 go_end0
 exact ⟨rfl, S3⟩
end Go.Proofs.YthlflglkdaainaaGreatDoor.Tr
