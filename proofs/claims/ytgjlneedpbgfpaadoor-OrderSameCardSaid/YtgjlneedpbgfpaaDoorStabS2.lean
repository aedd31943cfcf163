import Derived.Test.YtgjlneedpbgfpaaDoorStabS1
/- The walk of symMerge: one element goes ahead of what is greater. -/
namespace Go.Proofs.YtgjlneedpbgfpaaDoor
open Go.Shelf Go.RowKit Go.Lib Go.Sort
variable {α : Type} [Inhabited α] {P : Program}

set_option maxHeartbeats 8000000 in
set_option maxRecDepth 1000000 in
theorem sym_last (k : Nat) (L : StabL P k) (enc : α → List Value) (cf : α → α → Int) (g : Nat) (cb : Array Value) (blk off cap a m b : Nat) (d0 d : Array α) (w0 w : World) (eg : ∀ args w, (callFunc g args).run P w = .ok (.enter g args) w) (hcmp : CmpLays P g cb enc k cf blk off d0.size w0) (R : RowK enc k w0 blk off d0) (hs : d0.size = d.size) (S : SWK enc k w0 blk off d w) (ham : a + 1 < m) (hmb : b = m + 1) (hb : b ≤ d.size) (hsz : d.size < 4611686018427387904) :
    Calls P 111 #[.slice (some ⟨blk, off, none⟩) d.size cap, .int .i64 a, .int .i64 m, .int .i64 b, .func (.func g) #[] cb] w fun e w' =>
      e = .returned (.tuple #[]) ∧ SWK enc k w0 blk off (shDn (bs (fun h => !ltOf cf d[m]! d[h]!) a m) m d) w' := by
  have F := L.f_sym
  have mixed := L.mixed; have t_int := L.t_int; have a_int := L.a_int; have z_int := L.z_int; have v_int := L.v_int; have t_bool := L.t_bool; have a_bool := L.a_bool; have z_bool := L.z_bool; have v_bool := L.v_bool; have t_uint := L.t_uint; have a_uint := L.a_uint; have z_uint := L.z_uint; have v_uint := L.v_uint; have t_slice := L.t_slice; have a_slice := L.a_slice; have z_slice := L.z_slice; have v_slice := L.v_slice; have t_fn := L.t_fn; have a_fn := L.a_fn; have z_fn := L.z_fn; have v_fn := L.v_fn; have t_unit := L.t_unit; have a_unit := L.a_unit; have z_unit := L.z_unit; have v_unit := L.v_unit; have aE := L.aE; have zE := L.zE
  have u22 := run_underlying L.t_slice
  have HC : Aside _ := hcmp
  have S0 : Aside _ := S
  clear hcmp S
  have h1 : ¬ (m : Int) - (a : Int) = 1 := by omega
  have h1' : ((m : Int) - (a : Int) == 1) = false := by rw [beq_eq_false_iff_ne]; omega
  have h2 : (b : Int) - (m : Int) = 1 := by omega
  have hmb1 : m < b := by omega
  have HMB := hid hmb
  clear hmb
  go_enter F, Tryd.ntmps111
  go_wp2
  go_loopg [14, 15] (m - a) (fun kx s10 s11 wr => ∃ (i j : Nat), s10 = .int .i64 i ∧ s11 = .int .i64 j ∧ a ≤ i ∧ i ≤ j ∧ j ≤ m ∧ j - i ≤ kx ∧ Aside (SWK enc k w0 blk off d wr) ∧ Hid (bs (fun h => !ltOf cf d[m]! d[h]!) i j = bs (fun h => !ltOf cf d[m]! d[h]!) a m))
  case atStart => exact ⟨a, m, rfl, rfl, Nat.le_refl _, by omega, Nat.le_refl _, Nat.le_refl _, S0, rfl⟩
  case round =>
    obtain ⟨i, j, rfl, rfl, hi, hij, hj, hkx, S1, HE⟩ := hrel
    clear S0
    by_cases hlt : i < j
    · have hltz : (i : Int) < (j : Int) := by omega
      have ea : (((i : Int) + (j : Int)) / 2).toNat = (i + j) / 2 := by omega
      have pa : (0 : Int) ≤ ((i : Int) + (j : Int)) / 2 := by omega
      have ba : ((i : Int) + (j : Int)) / 2 < (d.size : Int) := by omega
      have bb : (m : Int) < (d.size : Int) := by omega
      obtain ⟨x, hx⟩ : ∃ x, x = d[m]! := ⟨_, rfl⟩
      obtain ⟨y, hy⟩ : ∃ y, y = d[(i + j) / 2]! := ⟨_, rfl⟩
      have la := S1.out.ld R (by omega) P m (by omega)
      have lb := S1.out.ld R (by omega) P ((i + j) / 2) (by omega)
      rw [← hx] at la
      rw [← hy] at lb
      have hc := S1.out.cmp HC.out (by omega) x y
      have HXY : Hid (ltOf cf d[m]! d[(i + j) / 2]! = decide (cf x y < 0)) := by rw [hx, hy]; rfl
      clear hx hy
      by_cases hv : cf x y < 0
      · have hd : decide (cf x y < 0) = true := decide_eq_true hv
        go_wp2_with fail
        go_quiet_grown (first | (go_at_fn g; refine Calls.grown_of (hc _ _)))
        have S2 : Aside (SWK enc k w0 blk off d (grow (wr.drewN nq) osq)) := S1.out.grown nq osq
        clear la lb hc S1
        generalize grow (wr.drewN nq) osq = w2 at S2 ⊢
        clear nq osq
        go_wp2
        go_roundg ((i + j) / 2 - i)
        case measure => omega
        case rel => exact ⟨i, (i + j) / 2, rfl, by first | go_num | (congr 1; omega), hi, by omega, by omega, Nat.le_refl _, S2, by show _ = _; rw [← HE.out]; conv => rhs; rw [bs, if_pos hlt, if_neg (by rw [HXY.out, hd]; exact Bool.false_ne_true)]⟩
      · have hd : decide (cf x y < 0) = false := decide_eq_false hv
        go_wp2_with fail
        go_quiet_grown (first | (go_at_fn g; refine Calls.grown_of (hc _ _)))
        have S2 : Aside (SWK enc k w0 blk off d (grow (wr.drewN nq) osq)) := S1.out.grown nq osq
        clear la lb hc S1
        generalize grow (wr.drewN nq) osq = w2 at S2 ⊢
        clear nq osq
        go_wp2
        go_roundg (j - ((i + j) / 2 + 1))
        case measure => omega
        case rel => exact ⟨(i + j) / 2 + 1, j, by first | go_num | (congr 1; omega), rfl, by omega, by omega, hj, Nat.le_refl _, S2, by show _ = _; rw [← HE.out]; conv => rhs; rw [bs, if_pos hlt, if_pos (by rw [HXY.out, hd]; rfl)]⟩
    · have hltz : ¬ (i : Int) < (j : Int) := by omega
      have HI : Hid (bs (fun h => !ltOf cf d[m]! d[h]!) a m = i) := by show _ = _; rw [← HE.out, bs, if_neg hlt]
      clear HE
      obtain ⟨wo, rfl⟩ : ∃ wo : World, wo = wr := ⟨_, rfl⟩
      go_wp2
      go_loopg [17] (m - i) (fun kx s13 wr => ∃ (q : Nat) (dk : Array α), s13 = .int .i64 q ∧ i ≤ q ∧ q ≤ m ∧ q - i ≤ kx ∧ dk.size = d.size ∧ Aside (SWK enc k w0 blk off dk wr) ∧ Hid (shDn i q dk = shDn i m d))
      case atStart => exact ⟨m, d, rfl, by omega, Nat.le_refl _, Nat.le_refl _, rfl, S1, rfl⟩
      case round =>
        obtain ⟨q, dk, rfl, hq, hqi, hkq, hds, S2, HQ⟩ := hrel
        clear S1
        by_cases hk : i < q
        · obtain ⟨q, rfl⟩ : ∃ p, q = p + 1 := ⟨q - 1, by omega⟩
          have hkz : (i : Int) < (q : Int) + 1 := by omega
          have ea : ((q : Int) + 1).toNat = q + 1 := by omega
          have pa : (0 : Int) ≤ (q : Int) + 1 := by omega
          have ba : (q : Int) + 1 < (d.size : Int) := by omega
          have bb : (q : Int) < (d.size : Int) := by omega
          have hwp : IntKind.i64.wrap (q : Int) = (q : Int) := by rw [IntKind.wrap_i64]; omega
          have S3 : Aside (SWK enc k w0 blk off (swp dk (q + 1) q) ((wr.drew.setCells blk (off + (q + 1) * k) (enc dk[q]!)).setCells blk (off + q * k) (enc dk[q + 1]!))) := S2.out.swapped R (q + 1) q (by omega) (by omega)
          have l1 := S2.out.ld1 R (by omega) P (q + 1) (by omega)
          have l2 := S2.out.ld1 R (by omega) P q (by omega)
          have s1 := S2.out.st1 R (by omega) P (q + 1) (by omega) dk[q]!
          have s2 := S2.out.st2 R (by omega) P (q + 1) q (by omega) (by omega) dk[q]! dk[q + 1]!
          have n1 : (enc dk[q + 1]!).length = k := R.hk _
          have n2 : (enc dk[q]!).length = k := R.hk _
          generalize enc dk[q + 1]! = cI at S3 l1 s2 n1
          generalize enc dk[q]! = cJ at S3 l2 s1 s2 n2
          clear S2
          go_wp2_with fail
          go_big_region_o
          clear l1 l2 s1 s2
          generalize (wr.drew.setCells blk (off + (q + 1) * k) cJ).setCells blk (off + q * k) cI = w4 at S3 ⊢
          go_wp2
          go_roundg (q - i)
          case measure => omega
          case rel => exact ⟨q, swp dk (q + 1) q, by first | rfl | go_num | (congr 1; omega), by omega, by omega, Nat.le_refl _, by rw [size_swp]; exact hds, S3, by show _ = _; rw [← HQ.out]; conv => rhs; rw [shDn, if_pos hk]⟩
        · have hkz : ¬ (i : Int) < (q : Int) := by omega
          go_wp2
          refine bodyPost_ret (results_none rfl _ _ _) rfl ⟨rfl, ?_⟩
          rw [HI.out, ← HQ.out, show shDn i q dk = dk by cases q with | zero => rfl | succ q => rw [shDn, if_neg hk]]
          exact S2.out
end Go.Proofs.YtgjlneedpbgfpaaDoor
