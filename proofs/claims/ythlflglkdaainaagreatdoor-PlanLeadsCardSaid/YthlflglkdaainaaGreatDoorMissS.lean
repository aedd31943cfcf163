import Derived.Test.YthlflglkdaainaaGreatDoorMiss
/- tree.Same. -/
set_option maxRecDepth 100000
namespace Go.Proofs.YthlflglkdaainaaGreatDoor.Tr
open Go.RowKit Go.Lib Go.Proofs.YthlflglkdaainaaGreatDoorW.PrintWords Go.Proofs.YthlflglkdaainaaGreatDoorW.PrintLast Go.Proofs.YthlflglkdaainaaGreatDoorW.PrintMore Go.Proofs.YthlflglkdaainaaGreatDoor.Prt

set_option maxRecDepth 100000 in
set_option maxHeartbeats 8000000 in
theorem same1_any (x y : It) (A B : Option Addr) (c d : Nat) (w W : World) (hb : Below w.heap.size w W) (hA : (Kd.int .u8).C W A x.f3.length x.f3) (hB : (Kd.int .u8).C W B y.f3.length y.f3) :
    Calls Tryz.prog 54 #[.agg (cellsIt x A c), .agg (cellsIt y B d)] W fun e w' => e = .returned (.bool (eqIt x y)) ∧ Below w.heap.size w w' := by
  have hu41 := Tryz.underlying53
  have HA := Aside0.mk hA
  have HB := Aside0.mk hB
  have hb2 := below_then hb hb.size (below_alloc (below_alloc (Below.refl W.heap.size W) (Obj.cells (cellsIt x A c) 53)) (Obj.cells (cellsIt y B d) 53))
  have hb3 := below_alloc (below_alloc (Below.refl W.heap.size W) (Obj.cells (cellsIt x A c) 53)) (Obj.cells (cellsIt y B d) 53)
  clear hA hB
  unfold cellsIt at *
  have HB2 := Aside0.mk hb2
  have HB3 := Aside0.mk hb3
  clear hb2 hb3
  obtain ⟨p, nm, dr, dt⟩ := x
  obtain ⟨q, mm, er, et⟩ := y
  simp only at HA HB HB2 HB3 ⊢
  by_cases c0 : p = q
  · subst c0
    by_cases c1 : nm = mm
    · subst c1
      by_cases c2 : dr = er
      · subst c2
        have hr : eqIt ⟨p, nm, dr, dt⟩ ⟨p, nm, dr, et⟩ = decide (dt = et) := by simp [eqIt]
        rw [hr]
        go_enter Tryz.func54, Tryz.ntmps54
        go_wp2_with (go_at_call 40; refine (eqb_any dt et A B c d _ (Kd.C_below HA.out HB3.out) (Kd.C_below HB.out HB3.out)).mono ?_; rintro e w1 ⟨rfl, hd⟩)
        go_ret
        exact ⟨rfl, below_step HB2.out hd.below⟩
      · have c2b : (dr == er) = false := by simpa using c2
        have hr : eqIt ⟨p, nm, dr, dt⟩ ⟨p, nm, er, et⟩ = false := by simp only [eqIt, c2b]; simp
        go_enter Tryz.func54, Tryz.ntmps54
        go_wp2
        go_ret
        first | exact ⟨rfl, HB2.out⟩ | (rw [hr]; exact ⟨rfl, HB2.out⟩)
    · have c1b : (nm.toList == mm.toList) = false := by
        rw [beq_eq_false_iff_ne]; exact fun h => c1 (data_inj h)
      have hr : eqIt ⟨p, nm, dr, dt⟩ ⟨p, mm, er, et⟩ = false := by simp only [eqIt, c1b]; simp
      clear c1
      go_enter Tryz.func54, Tryz.ntmps54
      go_wp2
      go_ret
      first | exact ⟨rfl, HB2.out⟩ | (rw [hr]; exact ⟨rfl, HB2.out⟩)
  · have c0b : (p == q) = false := by simpa using c0
    have hr : eqIt ⟨p, nm, dr, dt⟩ ⟨q, mm, er, et⟩ = false := by simp only [eqIt, decide_eq_false c0]; simp
    go_enter Tryz.func54, Tryz.ntmps54
    go_wp2
    go_ret
    first | exact ⟨rfl, HB2.out⟩ | (rw [hr]; exact ⟨rfl, HB2.out⟩)


set_option maxRecDepth 100000 in
set_option maxHeartbeats 8000000 in
theorem eqf_any (L M : List It) (A B : Option Addr) (c d : Nat) (w : World) (hA : Kd.C kIt w A L.length L) (hB : Kd.C kIt w B M.length M) :
    Calls Tryz.prog 53 #[.slice A L.length c, .slice B M.length d, .func (.func 54) #[] #[]] w fun e w' => e = .returned (.bool (eqL L M)) ∧ Below w.heap.size w w' := by
  have hu41 := Tryz.underlying53
  have HA := Aside0.mk hA
  have HB := Aside0.mk hB
  have la := hA.2.1
  have lb := hB.2.1
  clear hA hB
  by_cases hne : L.length = M.length
  · have hz : ((L.length : Int) != (M.length : Int)) = false := by simp [hne]
    have HN := Aside0.mk hne
    clear hne
    go_enter Tryz.func53, Tryz.ntmps53
    go_wp2
    go_loopg [17] L.length (fun gg v17 wr => ∃ i : Nat, i ≤ L.length ∧ L.length - i ≤ gg ∧ v17 = .int .i64 i ∧ Aside0 (Below w.heap.size w wr) ∧ Aside0 (∀ j : Nat, j < i → eqIt (itA L j) (itA M j) = true))
    case atStart => exact ⟨0, Nat.zero_le _, by omega, rfl, ⟨Below.refl _ _⟩, ⟨fun j hj => absurd hj (by omega)⟩⟩
    case round =>
      obtain ⟨i, hi, hg, rfl, HD, HE⟩ := hrel
      by_cases hlt : i < L.length
      · have hltz : (i : Int) < (L.length : Int) := by omega
        have hbl : i < M.length := by have := HN.out; omega
        have hblz : (i : Int) < (M.length : Int) := by omega
        obtain ⟨ad, A3, c3, rfl, x0, x1, x2, x3, _, g3⟩ := at_T53 (Kd.C_below HA.out HD.out) (i : Int) (by omega) hltz
        have HX1 := below_alloc (Below.refl wr.heap.size wr) (Obj.cells (cellsIt (itA L i) A3 c3) 53)
        obtain ⟨ad2, B3, d3, rfl, y0, y1, y2, y3, _, k3⟩ := at_T53 (Kd.C_below HB.out (below_then HD.out HD.out.size HX1)) (i : Int) (by omega) hblz
        rw [Int.toNat_natCast] at x0 x1 x2 x3 y0 y1 y2 y3
        have HG := Aside0.mk g3
        have HK := Aside0.mk k3
        clear g3 k3
        have hE : ∀ q, eqIt (itA L i) (itA M i) = q → q = true → Aside0 (∀ j : Nat, j < i + 1 → eqIt (itA L j) (itA M j) = true) := fun q h1 h2 => ⟨fun j hj => by
          by_cases e : j = i
          · subst e; rw [h1, h2]
          · exact HE.out j (by omega)⟩
        have hF : eqIt (itA L i) (itA M i) = false → eqL L M = false := fun h => by
          simp only [eqL]
          rw [Bool.and_eq_false_iff]; right
          rw [← Bool.not_eq_true, List.all_eq_true]
          intro hh
          have := hh i (List.mem_range.2 hlt)
          rw [h] at this; cases this
        obtain ⟨x, hx⟩ : ∃ x, itA L (i : Int) = x := ⟨_, rfl⟩
        obtain ⟨y, hy⟩ : ∃ y, itA M (i : Int) = y := ⟨_, rfl⟩
        rw [hx, hy] at hE hF
        rw [hx] at HX1
        rw [show rd_T53 L (i : Int) = x from hx] at x0 x1 x2 x3 HG
        rw [show rd_T53 M (i : Int) = y from hy] at y0 y1 y2 y3 HK
        rw [hx] at y0 y1 y2 y3 HK
        clear hx hy
        have HB2 := below_alloc (Below.refl (wr.alloc (Obj.cells (cellsIt x A3 c3) 53)).heap.size (wr.alloc (Obj.cells (cellsIt x A3 c3) 53))) (Obj.cells (cellsIt y B3 d3) 53)
        have HBB := below_step HX1 HB2
        have HBW := below_then HD.out HD.out.size HBB
        have hcall := same1_any x y A3 B3 c3 d3 w _ HBW (Kd.C_below HG.out HBB) (Kd.C_below HK.out HB2)
        clear HBB HBW HX1 HB2
        unfold cellsIt at y0 y1 y2 y3
        unfold cellsIt at hcall
        cases hq : eqIt x y with
        | true =>
          have HE2 := hE _ hq rfl
          rw [hq] at hcall
          clear hF hE
          go_wp2_with (go_at_call 54; refine hcall.mono ?_; rintro e w1 ⟨rfl, hb1⟩)
          go_roundg (L.length - (i + 1))
          case measure => omega
          case rel => exact ⟨i + 1, by omega, by omega, by go_num, ⟨hb1⟩, HE2⟩
        | false =>
          have hr := hF hq
          rw [hq] at hcall
          clear hF hE
          go_wp2_with (go_at_call 54; refine hcall.mono ?_; rintro e w1 ⟨rfl, hb1⟩)
          go_ret
          first | exact ⟨rfl, hb1⟩ | (rw [hr]; exact ⟨rfl, hb1⟩)
      · have hltz : ¬ (i : Int) < (L.length : Int) := by omega
        have hr : eqL L M = true := by
          simp only [eqL]
          rw [decide_eq_true HN.out, Bool.true_and, List.all_eq_true]
          intro j hj
          exact HE.out j (by have := List.mem_range.1 hj; omega)
        go_wp2
        go_ret
        first | exact ⟨rfl, HD.out⟩ | (rw [hr]; exact ⟨rfl, HD.out⟩)
  · have hz : ((L.length : Int) != (M.length : Int)) = true := by rw [bne_iff_ne]; omega
    have hr : eqL L M = false := by simp only [eqL, decide_eq_false hne]; rfl
    go_enter Tryz.func53, Tryz.ntmps53
    go_wp2
    go_ret
    first | exact ⟨rfl, Below.refl _ _⟩ | (rw [hr]; exact ⟨rfl, Below.refl _ _⟩)

end Go.Proofs.YthlflglkdaainaaGreatDoor.Tr
namespace Go.Proofs.YthlflglkdaainaaGreatDoor.Tr
open Go.RowKit Go.Lib Go.Proofs.YthlflglkdaainaaGreatDoorW.PrintWords Go.Proofs.YthlflglkdaainaaGreatDoorW.PrintLast Go.Proofs.YthlflglkdaainaaGreatDoorW.PrintMore Go.Proofs.YthlflglkdaainaaGreatDoor.Prt

/-- What tree.Same tells. -/
def sameT (L M : List It) : Bool := (sortE L == 0) && (sortE M == 0) && eqL (sortT L) (sortT M)
theorem sortE_ok (L : List It) : (sortE L = 0 ∧ checkN L ≠ 14) ∨ (sortE L = 14 ∧ checkN L = 14) := by
  unfold sortE
  by_cases h : checkN L = 14
  · rw [if_pos h]; exact .inr ⟨rfl, h⟩
  · rw [if_neg h]; exact .inl ⟨rfl, h⟩

abbrev SortsTo (V : Value) (L1 : List It) (E1 : Int) (w : World) : Prop :=
  Calls Tryz.prog 51 #[V] w fun e w' => ∃ A1 c1, e = .returned (.tuple #[.slice A1 L1.length c1, .int .i64 E1]) ∧ Kd.C kIt w' A1 L1.length L1 ∧ Below w.heap.size w w'

set_option maxRecDepth 100000 in
set_option maxHeartbeats 2000000 in
theorem same_a (V U : Value) (L1 : List It) (M1 : List It) (E2 : Int) (w : World) (HK : SortsTo V L1 14 w) (HK2 : ∀ W, Below w.heap.size w W → SortsTo U M1 E2 W) :
    Calls Tryz.prog 23 #[V, U] w fun e w' => e = .returned (.bool false) ∧ Below w.heap.size w w' := by
  go_enter Tryz.func23, Tryz.ntmps23
  go_wp2_with (first | (go_at_call 51; with_reducible refine HK.mono ?_; rintro e w1 ⟨A1, c1, rfl, hr1, hb1⟩) | (go_at_call 51; with_reducible refine (HK2 _ hb1).mono ?_; rintro e w2 ⟨A2, c2, rfl, hr2, hb2⟩))
  go_ret
  exact ⟨rfl, hb1.trans (hb2.mono hb1.size)⟩
set_option maxRecDepth 100000 in
set_option maxHeartbeats 2000000 in
theorem same_b (V U : Value) (L1 : List It) (M1 : List It) (w : World) (HK : SortsTo V L1 0 w) (HK2 : ∀ W, Below w.heap.size w W → SortsTo U M1 14 W) :
    Calls Tryz.prog 23 #[V, U] w fun e w' => e = .returned (.bool false) ∧ Below w.heap.size w w' := by
  go_enter Tryz.func23, Tryz.ntmps23
  go_wp2_with (first | (go_at_call 51; with_reducible refine HK.mono ?_; rintro e w1 ⟨A1, c1, rfl, hr1, hb1⟩) | (go_at_call 51; with_reducible refine (HK2 _ hb1).mono ?_; rintro e w2 ⟨A2, c2, rfl, hr2, hb2⟩))
  go_ret
  exact ⟨rfl, hb1.trans (hb2.mono hb1.size)⟩
set_option maxRecDepth 100000 in
set_option maxHeartbeats 2000000 in
theorem same_c (V U : Value) (L1 : List It) (M1 : List It) (w : World) (HK : SortsTo V L1 0 w) (HK2 : ∀ W, Below w.heap.size w W → SortsTo U M1 0 W) :
    Calls Tryz.prog 23 #[V, U] w fun e w' => e = .returned (.bool (eqL L1 M1)) ∧ Below w.heap.size w w' := by
  go_enter Tryz.func23, Tryz.ntmps23
  go_wp2_with (first | (go_at_call 51; with_reducible refine HK.mono ?_; rintro e w1 ⟨A1, c1, rfl, hr1, hb1⟩) | (go_at_call 51; with_reducible refine (HK2 _ hb1).mono ?_; rintro e w2 ⟨A2, c2, rfl, hr2, hb2⟩) | (go_at_call 53; with_reducible refine (eqf_any L1 M1 A1 A2 c1 c2 _ (Kd.C_below hr1 hb2) hr2).mono ?_; rintro e w3 ⟨rfl, hb3⟩))
  go_ret
  exact ⟨rfl, hb1.trans ((hb2.trans (hb3.mono hb2.size)).mono hb1.size)⟩

theorem Same_any (L M : List It) (A B : Option Addr) (c d : Nat) (hc : L.length ≤ c) (hd : M.length ≤ d) (w : World) (hC : Kd.C kIt w A L.length L) (hD : Kd.C kIt w B M.length M) (hwL : WfL L) (hwM : WfL M) :
    Calls Tryz.prog 23 #[.slice A L.length c, .slice B M.length d] w fun e w' => e = .returned (.bool (sameT L M)) ∧ Below w.heap.size w w' := by
  have HS : ∀ (X : List It) (C : Option Addr) (k : Nat), X.length ≤ k → ∀ W, Kd.C kIt W C X.length X → WfL X → SortsTo (.slice C X.length k) (sortT X) (sortE X) W := fun X C k hk W h hw =>
    (Sort_any X C k hk W h hw).mono fun e w' he => by
      obtain ⟨v, rfl, hr, hb⟩ := he
      obtain ⟨A1, c1, rfl⟩ := Kd.R_slice hr
      exact ⟨A1, c1, rfl, (Kd.R_reads' hr).2.2, hb⟩
  have HK := HS L A c hc w hC hwL
  have HK2 := fun W (b : Below w.heap.size w W) => HS M B d hd W (Kd.C_below hD b) hwM
  unfold sameT
  rcases sortE_ok L with ⟨e1, _⟩ | ⟨e1, _⟩
  · rw [e1] at HK ⊢
    rcases sortE_ok M with ⟨e2, _⟩ | ⟨e2, _⟩
    · rw [e2]
      simp only [e2] at HK2
      exact same_c _ _ _ _ w HK HK2
    · rw [e2]
      simp only [e2] at HK2
      exact same_b _ _ _ _ w HK HK2
  · rw [e1] at HK ⊢
    exact same_a _ _ _ _ _ w HK HK2
end Go.Proofs.YthlflglkdaainaaGreatDoor.Tr
