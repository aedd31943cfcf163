import Derived.Test.YtgjlneedpbgfpaaDoorStabS3
/- The walks of symMerge at every length, of stable and of slices.SortStableFunc. -/
namespace Go.Proofs.YtgjlneedpbgfpaaDoor
open Go.Shelf Go.RowKit Go.Lib Go.Sort

def lIns_ren : Go.Shelf.Ren := ⟨fun | 20 => 110 | n => n, fun | 0 => 0 | 3 => 3 | 4 => 4 | 22 => 53 | 24 => 56 | 25 => 57 | n => n, fun | n => n⟩
theorem lIns : Go.Proofs.SlLaysF0.n20 Tryd.prog lIns_ren := {
  mixed := by kernel_rfl
  f20 := ⟨"slices.insertionSortCmpFunc[gesso/order.mark]", by decide, Tryd.func110.trans (congrArg some (by kernel_rfl))⟩
  t0 := Tryd.underlying0
  a0 := Tryd.isAgg0
  z0 := Tryd.sizeOf0
  v0 := Tryd.zeroValue0
  t3 := Tryd.underlying3
  a3 := Tryd.isAgg3
  z3 := Tryd.sizeOf3
  v3 := Tryd.zeroValue3
  t4 := Tryd.underlying4
  a4 := Tryd.isAgg4
  z4 := Tryd.sizeOf4
  v4 := Tryd.zeroValue4
  t22 := Tryd.underlying53
  a22 := Tryd.isAgg53
  z22 := Tryd.sizeOf53
  v22 := Tryd.zeroValue53
  t25 := Tryd.underlying57
  a25 := Tryd.isAgg57
  z25 := Tryd.sizeOf57
  v25 := Tryd.zeroValue57 }

variable {α : Type} [Inhabited α]

theorem insInner_size (lt : α → α → Bool) (a : Nat) : ∀ (j : Nat) (d : Array α), (insInner lt a j d).size = d.size
  | 0, _ => rfl
  | j + 1, d => by
    unfold insInner
    split
    · rw [insInner_size lt a j, size_swp]
    · rfl
theorem insOuter_size (lt : α → α → Bool) (a b : Nat) : ∀ (t i : Nat) (d : Array α), b - i = t → (insOuter lt a b i d).size = d.size
  | 0, i, d, h => by rw [insOuter, if_neg (by omega)]
  | t + 1, i, d, h => by rw [insOuter, if_pos (by omega), insOuter_size lt a b t (i + 1) _ (by omega), insInner_size]
theorem insertionSort_size (lt : α → α → Bool) (d : Array α) (a b : Nat) : (insertionSort lt d a b).size = d.size := insOuter_size _ _ _ _ _ _ rfl

variable (enc : α → List Value) (cf : α → α → Int) (g : Nat) (cb : Array Value) (blk off cap : Nat) (d0 : Array α) (w0 : World) (eg : ∀ args w, (callFunc g args).run Tryd.prog w = .ok (.enter g args) w) (hcmp : CmpLays Tryd.prog g cb enc 2 cf blk off d0.size w0) (R : RowK enc 2 w0 blk off d0) (hsz : d0.size < 4611686018427387904)
include eg hcmp R hsz

theorem ins_walk (a b : Nat) (d : Array α) (w : World) (hs : d0.size = d.size) (S : SWK enc 2 w0 blk off d w) (hab : a ≤ b) (hb : b ≤ d.size) :
    Calls Tryd.prog 110 #[.slice (some ⟨blk, off, none⟩) d.size cap, .int .i64 a, .int .i64 b, .func (.func g) #[] cb] w fun e w' => e = .returned (.tuple #[]) ∧ SWK enc 2 w0 blk off (insertionSort (ltOf cf) d a b) w' := by
  have hC : CmpLays Tryd.prog g cb enc 2 cf blk off d.size w := fun m os dk hdk x y => by
    obtain ⟨n0, os0, rfl⟩ := S
    rw [sortWorldK_on enc 2 w0 blk off n0 m d dk os0 os R.hblk hdk]
    exact hcmp _ _ dk (by omega) x y
  refine (AnyQ.insertionSortCmpFunc lIns 2 Tryd.isAgg56 Tryd.sizeOf56 enc R.hk R.h1 cf g cb blk off cap a b d w eg hC (S.holds R.hblk R.hH hs.symm) (S.lt R.hblk) hab hb (by omega)).mono ?_
  rintro e w' ⟨rfl, n, os, rfl⟩
  exact ⟨rfl, S.on R.hblk n _ os (insertionSort_size _ _ _ _)⟩

theorem sym_walk : ∀ (f a m b : Nat) (d : Array α) (w : World), b - a ≤ f → a < m → m < b → b ≤ d.size → d0.size = d.size → SWK enc 2 w0 blk off d w →
    Calls Tryd.prog 111 #[.slice (some ⟨blk, off, none⟩) d.size cap, .int .i64 a, .int .i64 m, .int .i64 b, .func (.func g) #[] cb] w fun e w' => e = .returned (.tuple #[]) ∧ SWK enc 2 w0 blk off (symMerge (ltOf cf) f a m b d) w'
  | 0, a, m, b, d, w, hf, h1, h2, _, _, _ => by omega
  | f + 1, a, m, b, d, w, hf, h1, h2, h3, h4, h5 => by
    by_cases hm : m = a + 1
    · have := sym_one 2 stabL enc cf g cb blk off cap a m b d0 d w0 w eg hcmp R h4 h5 hm h2 h3 (by omega)
      rw [symMerge, if_pos (by omega)]
      exact this
    · by_cases hb : b = m + 1
      · have := sym_last 2 stabL enc cf g cb blk off cap a m b d0 d w0 w eg hcmp R h4 h5 (by omega) hb h3 (by omega)
        rw [symMerge, if_neg (by omega), if_pos (by omega)]
        exact this
      · exact sym_gen 2 stabL enc cf g cb blk off cap a m b d0 d w0 w eg hcmp R h4 h5 (by omega) (by omega) h3 (by omega) f (fun a m b d w => sym_walk f a m b d w) hf

set_option maxHeartbeats 8000000 in
set_option maxRecDepth 1000000 in
theorem stable_walk (d : Array α) (w : World) (hs : d0.size = d.size) (S : SWK enc 2 w0 blk off d w) :
    Calls Tryd.prog 97 #[.slice (some ⟨blk, off, none⟩) d.size cap, .int .i64 d.size, .func (.func g) #[] cb] w fun e w' =>
      e = .returned (.tuple #[]) ∧ SWK enc 2 w0 blk off (stableA (ltOf cf) d.size d) w' := by
  have HI := hid (fun a b d w => ins_walk enc cf g cb blk off cap d0 w0 eg hcmp R hsz a b d w)
  have HM := hid (fun a m b d w => sym_walk enc cf g cb blk off cap d0 w0 eg hcmp R hsz (b - a) a m b d w (Nat.le_refl _))
  have S0 : Aside _ := S
  have hsd : d.size < 4611686018427387904 := by omega
  obtain ⟨n, hn⟩ : ∃ n, d.size = n := ⟨_, rfl⟩
  rw [hn] at hsd hs ⊢
  have HN := hid hn
  have HS0 := hid hs
  clear hcmp S R eg hn hsz hs
  go_enter Tryd.func97, Tryd.ntmps97
  go_wp2
  go_loopg [7, 8] n (fun kx s7 s8 wr => ∃ (q : Nat) (dk : Array α), s7 = .int .i64 q ∧ s8 = .int .i64 (q + 20 : Nat) ∧ q ≤ n ∧ n - q ≤ kx ∧ Hid (dk.size = n) ∧ Aside (SWK enc 2 w0 blk off dk wr) ∧ Hid (blocksR (ltOf cf) n q dk = blocksR (ltOf cf) n 0 d))
  case atStart => exact ⟨0, d, rfl, rfl, Nat.zero_le _, by omega, HN, S0, rfl⟩
  case round =>
    obtain ⟨q, dk, rfl, rfl, hq, hkx, HD, S1, HE⟩ := hrel
    clear S0
    by_cases hlt : q + 20 ≤ n
    · have hltz : (q : Int) + 20 ≤ (n : Int) := by omega
      have hc := HI.out q (q + 20) dk wr (by rw [HD.out, HS0.out]) S1.out (by omega) (by rw [HD.out]; exact hlt)
      rw [HD.out] at hc
      have HC := hid hc
      clear hc
      go_wp2_with (go_at_call 110; refine HC.out.mono ?_; rintro e w2 ⟨rfl, S2⟩)
      go_roundg (n - (q + 20))
      case measure => omega
      case rel => exact ⟨q + 20, insertionSort (ltOf cf) dk q (q + 20), by go_num, by go_num, hlt, Nat.le_refl _, by show _ = _; rw [insertionSort_size]; exact HD.out, S2, by show _ = _; rw [← HE.out]; conv => rhs; rw [blocksR, if_pos hlt]⟩
    · have hltz : ¬ (q : Int) + 20 ≤ (n : Int) := by omega
      have hc := HI.out q n dk wr (by rw [HD.out, HS0.out]) S1.out hq (by rw [HD.out]; exact Nat.le_refl _)
      rw [HD.out] at hc
      have HC := hid hc
      clear hc
      go_wp2_with (go_at_call 110; refine HC.out.mono ?_; rintro e w2 ⟨rfl, S2⟩)
      have HP : Hid (passes (ltOf cf) n 20 (insertionSort (ltOf cf) dk q n) = stableA (ltOf cf) n d) := by
        show _ = _
        unfold stableA
        rw [← HE.out]
        conv => rhs; rw [blocksR, if_neg hlt]
      have HD2 : Hid ((insertionSort (ltOf cf) dk q n).size = n) := by show _ = _; rw [insertionSort_size]; exact HD.out
      generalize insertionSort (ltOf cf) dk q n = d1 at HP HD2 S2
      clear HD S1 HE
      obtain ⟨wo, rfl⟩ : ∃ wo : World, wo = w2 := ⟨_, rfl⟩
      go_loopg [6] (2 * n) (fun kx s6 wr => ∃ (z : Nat) (dk : Array α), s6 = .int .i64 z ∧ 20 ≤ z ∧ z ≤ 2 * n + 20 ∧ 2 * n - z ≤ kx ∧ Hid (dk.size = n) ∧ Aside (SWK enc 2 w0 blk off dk wr) ∧ Hid (passes (ltOf cf) n z dk = stableA (ltOf cf) n d))
      case atStart => exact ⟨20, d1, rfl, Nat.le_refl _, by omega, by omega, HD2, S2, HP⟩
      case round =>
        clear HP HD2 S2
        obtain ⟨z, dk, rfl, hz, hzn, hkz, HD, S1, HE⟩ := hrel
        by_cases hlz : z < n
        · have hlzz : (z : Int) < (n : Int) := by omega
          have rz : IntKind.i64.wrap (2 * (z : Int)) = 2 * (z : Int) := by rw [IntKind.wrap_i64]; omega
          obtain ⟨wo, rfl⟩ : ∃ wo : World, wo = wr := ⟨_, rfl⟩
          go_wp2
          go_loopg [7, 8] n (fun kx s7 s8 wr => ∃ (q : Nat) (dj : Array α), s7 = .int .i64 q ∧ s8 = .int .i64 (q + 2 * z : Nat) ∧ q ≤ n ∧ n - q ≤ kx ∧ Hid (dj.size = n) ∧ Aside (SWK enc 2 w0 blk off dj wr) ∧ Hid (mergePass (ltOf cf) z n q dj = mergePass (ltOf cf) z n 0 dk))
          case atStart => exact ⟨0, dk, rfl, by first | rfl | (congr 1; omega), Nat.zero_le _, by omega, HD, S1, rfl⟩
          case round =>
            clear S1
            obtain ⟨q, dj, rfl, rfl, hq, hkq, HJ, S2, HQ⟩ := hrel
            by_cases hlq : q + 2 * z ≤ n
            · have hlqz : ((q + 2 * z : Nat) : Int) ≤ (n : Int) := by omega
              have hc := HM.out q (q + z) (q + 2 * z) dj wr (by omega) (by omega) (by rw [HJ.out]; exact hlq) (by rw [HJ.out, HS0.out]) S2.out
              rw [HJ.out] at hc
              have hlqy : (q : Int) + 2 * (z : Int) ≤ (n : Int) := by omega
              have rq : IntKind.i64.wrap ((q : Int) + 2 * (z : Int) + 2 * (z : Int)) = (q : Int) + 2 * (z : Int) + 2 * (z : Int) := by rw [IntKind.wrap_i64]; omega
              have HC := hid hc
              clear hc
              go_wp2_with (go_at_call 111; refine HC.out.mono ?_; rintro e w2 ⟨rfl, S3⟩)
              go_roundg (n - (q + 2 * z))
              case measure => omega
              case rel => exact ⟨q + 2 * z, symM (ltOf cf) q (q + z) (q + 2 * z) dj, by first | go_num | (congr 1; omega), by first | go_num | (congr 1; omega), hlq, Nat.le_refl _, by show _ = _; unfold symM; rw [symMerge_size]; exact HJ.out, S3, by show _ = _; rw [← HQ.out]; conv => rhs; rw [mergePass, if_pos ⟨by omega, hlq⟩]⟩
            · have hlqz : ¬ ((q + 2 * z : Nat) : Int) ≤ (n : Int) := by omega
              have hlqy : ¬ (q : Int) + 2 * (z : Int) ≤ (n : Int) := by omega
              by_cases hlm : q + z < n
              · have hlmz : (q : Int) + (z : Int) < (n : Int) := by omega
                have hc := HM.out q (q + z) n dj wr (by omega) hlm (by rw [HJ.out]; exact Nat.le_refl _) (by rw [HJ.out, HS0.out]) S2.out
                rw [HJ.out] at hc
                have HC := hid hc
                clear hc
                go_wp2_with (go_at_call 111; refine HC.out.mono ?_; rintro e w2 ⟨rfl, S3⟩)
                go_roundg (2 * n - z * 2)
                case measure => omega
                case rel =>
                  refine ⟨z * 2, symM (ltOf cf) q (q + z) n dj, by first | go_num | (congr 1; omega), by omega, by omega, Nat.le_refl _, by show _ = _; unfold symM; rw [symMerge_size]; exact HJ.out, S3, (show Hid _ from ?_)⟩
                  show _ = _
                  rw [← HE.out, show passes (ltOf cf) n z dk = passes (ltOf cf) n (z * 2) (mergePass (ltOf cf) z n 0 dk) by rw [passes, if_pos ⟨by omega, hlz⟩], ← HQ.out, mergePass, if_neg (fun h => hlq h.2), if_pos hlm]
              · have hlmz : ¬ (q : Int) + (z : Int) < (n : Int) := by omega
                go_wp2
                go_roundg (2 * n - z * 2)
                case measure => omega
                case rel =>
                  refine ⟨z * 2, dj, by first | go_num | (congr 1; omega), by omega, by omega, Nat.le_refl _, HJ, S2, (show Hid _ from ?_)⟩
                  show _ = _
                  rw [← HE.out, show passes (ltOf cf) n z dk = passes (ltOf cf) n (z * 2) (mergePass (ltOf cf) z n 0 dk) by rw [passes, if_pos ⟨by omega, hlz⟩], ← HQ.out, mergePass, if_neg (fun h => hlq h.2), if_neg hlm]
        · have hlzz : ¬ (z : Int) < (n : Int) := by omega
          go_wp2
          go_end0
          refine ⟨rfl, ?_⟩
          rw [← HE.out, show passes (ltOf cf) n z dk = dk by rw [passes, if_neg (fun h => hlz h.2)]]
          exact S1.out

set_option maxHeartbeats 8000000 in
set_option maxRecDepth 1000000 in
theorem sortStable_walk (d : Array α) (w : World) (hs : d0.size = d.size) (S : SWK enc 2 w0 blk off d w) :
    Calls Tryd.prog 67 #[.slice (some ⟨blk, off, none⟩) d.size cap, .func (.func g) #[] cb] w fun e w' =>
      e = .returned (.tuple #[]) ∧ SWK enc 2 w0 blk off (stableA (ltOf cf) d.size d) w' := by
  have HT := hid (stable_walk enc cf g cb blk off cap d0 w0 eg hcmp R hsz d w hs S)
  clear S hcmp R eg
  go_enter Tryd.func67, Tryd.ntmps67
  go_wp2_with (go_at_call 97; refine HT.out.mono ?_; rintro e w2 ⟨rfl, S3⟩)
  go_end0
  exact ⟨rfl, S3⟩
end Go.Proofs.YtgjlneedpbgfpaaDoor
