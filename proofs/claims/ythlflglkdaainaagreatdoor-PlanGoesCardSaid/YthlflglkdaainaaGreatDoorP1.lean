import Derived.Test.YthlflglkdaainaaGreatDoorPX
import Derived.Test.YthlflglkdaainaaGreatDoorTStep
/- plan.order: the comparison of steps. -/
set_option maxRecDepth 100000
namespace Go.Proofs.YthlflglkdaainaaGreatDoor.Tr
open Go.RowKit Go.Lib Go.Sort Go.Proofs.YthlflglkdaainaaGreatDoorW.PrintWords Go.Proofs.YthlflglkdaainaaGreatDoorW.PrintLast Go.Proofs.YthlflglkdaainaaGreatDoorW.PrintMore Go.Proofs.YthlflglkdaainaaGreatDoor.Prt

abbrev St := S67
def lessB (deep : Bool) (a b : List ByteArray) : Bool := if deep && !((a.length : Int) == (b.length : Int)) then decide (b.length < a.length) else decide (cmpL a b < 0)
def ordS (x y : St) : Int := if x.f0 != y.f0 then (if y.f0 then -1 else 1) else if lessB x.f0 x.f1 y.f1 then -1 else if lessB x.f0 y.f1 x.f1 then 1 else 0

theorem less_any (a b : List ByteArray) (A B : Option Addr) (c d : Nat) (w : World) (hA : Kd.C Kd.string w A a.length a) (hB : Kd.C Kd.string w B b.length b) :
    Calls Tryz.prog 80 #[.slice A a.length c, .slice B b.length d] w fun e w' => e = .returned (.bool (decide (cmpL a b < 0))) ∧ ∃ m, w' = w.drewN m := by
  have H := cmpl_q a b A B c d w hA hB
  generalize cmpL a b = y at H ⊢
  clear hA hB
  go_enter Tryz.func80, Tryz.ntmps80
  go_wp2_with (go_at_call 65; with_reducible refine H.mono ?_; rintro e w1 ⟨rfl, hm⟩)
  go_ret
  exact ⟨rfl, hm⟩
theorem deeper_any (a b : List ByteArray) (A B : Option Addr) (c d : Nat) (w : World) (hA : Kd.C Kd.string w A a.length a) (hB : Kd.C Kd.string w B b.length b) :
    Calls Tryz.prog 81 #[.slice A a.length c, .slice B b.length d] w fun e w' => e = .returned (.bool (lessB true a b)) ∧ ∃ m, w' = w.drewN m := by
  have H := less_any a b A B c d w hA hB
  unfold lessB
  generalize decide (cmpL a b < 0) = y at H ⊢
  clear hA hB
  by_cases h : (a.length : Int) = (b.length : Int)
  · have hb : ((a.length : Int) == (b.length : Int)) = true := beq_iff_eq.2 h
    rw [hb, if_neg (by decide)]
    clear h
    go_enter Tryz.func81, Tryz.ntmps81
    go_wp2_with (go_at_call 80; with_reducible refine H.mono ?_; rintro e w1 ⟨rfl, hm⟩)
    go_ret
    exact ⟨rfl, hm⟩
  · have hb : ((a.length : Int) == (b.length : Int)) = false := beq_eq_false_iff_ne.2 h
    rw [hb, if_pos (by decide)]
    clear h H
    go_enter Tryz.func81, Tryz.ntmps81
    go_wp2
    go_ret
    exact ⟨rfl, 0, rfl⟩
theorem grow_two (w : World) (o1 o2 : Obj) (m : Nat) : ∃ q os', ((w.alloc o1).alloc o2).drewN m = grow (w.drewN q) os' := by
  refine ⟨m, #[o1, o2], ?_⟩
  rw [alloc_eq_grow, alloc_eq_grow, grow_grow]; rfl
/-- A step as a value. -/
def stV (x : St) (A : Option Addr) (c : Nat) : Value := .agg #[.bool x.f0, .slice A x.f1.length c, .string x.f2]
set_option maxHeartbeats 4000000 in
theorem order_any (x y : St) (A B : Option Addr) (c d : Nat) (w : World) (hA : Kd.C Kd.string w A x.f1.length x.f1) (hB : Kd.C Kd.string w B y.f1.length y.f1) :
    Calls Tryz.prog 43 #[stV x A c, stV y B d] w fun e w' => e = .returned (.int .i64 (ordS x y)) ∧ ∃ q os', w' = grow (w.drewN q) os' := by
  have hu67 := Tryz.underlying67
  obtain ⟨xr, xp, xd⟩ := x
  obtain ⟨yr, yp, yd⟩ := y
  have HA := Aside0.mk hA
  have HB := Aside0.mk hB
  have HL1 : Aside0 (∀ W, Below w.heap.size w W → Calls Tryz.prog 80 #[.slice A xp.length c, .slice B yp.length d] W fun e w' => e = .returned (.bool (lessB false xp yp)) ∧ ∃ m, w' = W.drewN m) := ⟨fun W hb => less_any xp yp A B c d W (Kd.C_below hA hb) (Kd.C_below hB hb)⟩
  have HL2 : Aside0 (∀ W, Below w.heap.size w W → Calls Tryz.prog 80 #[.slice B yp.length d, .slice A xp.length c] W fun e w' => e = .returned (.bool (lessB false yp xp)) ∧ ∃ m, w' = W.drewN m) := ⟨fun W hb => less_any yp xp B A d c W (Kd.C_below hB hb) (Kd.C_below hA hb)⟩
  have HD1 : Aside0 (∀ W, Below w.heap.size w W → Calls Tryz.prog 81 #[.slice A xp.length c, .slice B yp.length d] W fun e w' => e = .returned (.bool (lessB true xp yp)) ∧ ∃ m, w' = W.drewN m) := ⟨fun W hb => deeper_any xp yp A B c d W (Kd.C_below hA hb) (Kd.C_below hB hb)⟩
  have HD2 : Aside0 (∀ W, Below w.heap.size w W → Calls Tryz.prog 81 #[.slice B yp.length d, .slice A xp.length c] W fun e w' => e = .returned (.bool (lessB true yp xp)) ∧ ∃ m, w' = W.drewN m) := ⟨fun W hb => deeper_any yp xp B A d c W (Kd.C_below hB hb) (Kd.C_below hA hb)⟩
  unfold stV ordS
  have hb0 : Below w.heap.size w ((w.alloc (Obj.cells #[.bool xr, .slice A xp.length c, .string xd] 67)).alloc (Obj.cells #[.bool yr, .slice B yp.length d, .string yd] 67)) := below_alloc (below_alloc (Below.refl _ _) _) _
  clear hA hB HA HB
  cases xr
  · cases yr
    · show Calls _ _ _ _ fun e w' => e = .returned (.int .i64 (if lessB false xp yp then -1 else if lessB false yp xp then 1 else 0)) ∧ _
      clear HD1 HD2
      generalize lessB false xp yp = p at HL1 ⊢
      generalize lessB false yp xp = q at HL2 ⊢
      cases p
      · cases q
        all_goals
          go_enter Tryz.func43, Tryz.ntmps43
          go_wp2_with (first
            | (go_at_call 80; with_reducible refine (HL1.out _ hb0).mono ?_; rintro e w1 ⟨rfl, m1, rfl⟩; have hb10 := pw_below_drewN hb0 m1)
            | (go_at_call 80; with_reducible refine (HL2.out _ hb10).mono ?_; rintro e w2 ⟨rfl, m2, rfl⟩))
          go_ret
          exact ⟨rfl, grow_two _ _ _ _⟩
      · go_enter Tryz.func43, Tryz.ntmps43
        go_wp2_with (first
          | (go_at_call 80; with_reducible refine (HL1.out _ hb0).mono ?_; rintro e w1 ⟨rfl, m1, rfl⟩; have hb10 := pw_below_drewN hb0 m1))
        go_ret
        exact ⟨rfl, grow_two _ _ _ _⟩
    · clear HL1 HL2 HD1 HD2
      go_enter Tryz.func43, Tryz.ntmps43
      go_wp2
      go_ret
      exact ⟨rfl, grow_two _ _ _ 0⟩
  · cases yr
    · clear HL1 HL2 HD1 HD2
      go_enter Tryz.func43, Tryz.ntmps43
      go_wp2
      go_ret
      exact ⟨rfl, grow_two _ _ _ 0⟩
    · show Calls _ _ _ _ fun e w' => e = .returned (.int .i64 (if lessB true xp yp then -1 else if lessB true yp xp then 1 else 0)) ∧ _
      clear HL1 HL2
      generalize lessB true xp yp = p at HD1 ⊢
      generalize lessB true yp xp = q at HD2 ⊢
      cases p
      · cases q
        all_goals
          go_enter Tryz.func43, Tryz.ntmps43
          go_wp2_with (first
            | (go_at_call 81; with_reducible refine (HD1.out _ hb0).mono ?_; rintro e w1 ⟨rfl, m1, rfl⟩; have hb10 := pw_below_drewN hb0 m1)
            | (go_at_call 81; with_reducible refine (HD2.out _ hb10).mono ?_; rintro e w2 ⟨rfl, m2, rfl⟩))
          go_ret
          exact ⟨rfl, grow_two _ _ _ _⟩
      · go_enter Tryz.func43, Tryz.ntmps43
        go_wp2_with (first
          | (go_at_call 81; with_reducible refine (HD1.out _ hb0).mono ?_; rintro e w1 ⟨rfl, m1, rfl⟩; have hb10 := pw_below_drewN hb0 m1))
        go_ret
        exact ⟨rfl, grow_two _ _ _ _⟩
/-! ### it is a strict order -/
theorem lessB_irr (d : Bool) (a : List ByteArray) : lessB d a a = false := by
  unfold lessB
  rw [beq_self_eq_true, cmpL_refl]
  cases d <;> rfl
theorem lessB_true (a b : List ByteArray) : lessB true a b = true ↔ b.length < a.length ∨ (a.length = b.length ∧ cmpL a b < 0) := by
  unfold lessB
  by_cases e : a.length = b.length
  · have e' : ((a.length : Int) == b.length) = true := by rw [beq_iff_eq]; omega
    rw [e']
    simp only [Bool.true_and, Bool.not_true, Bool.false_eq_true, if_false, decide_eq_true_eq]
    exact ⟨fun h => .inr ⟨e, h⟩, fun h => h.elim (fun h => absurd h (by omega)) (fun h => h.2)⟩
  · have e' : ((a.length : Int) == b.length) = false := by rw [beq_eq_false_iff_ne]; omega
    rw [e']
    simp only [Bool.true_and, Bool.not_false, if_true, decide_eq_true_eq]
    exact ⟨fun h => .inl h, fun h => h.elim id (fun h => absurd h.1 e)⟩
theorem lessB_tr (d : Bool) {a b c : List ByteArray} (h1 : lessB d a b = true) (h2 : lessB d b c = true) : lessB d a c = true := by
  cases d with
  | false =>
    unfold lessB at *
    simp only [Bool.false_and, Bool.false_eq_true, if_false, decide_eq_true_eq] at *
    exact cmpL_trans _ _ _ h1 h2
  | true =>
    rw [lessB_true] at *
    rcases h1 with h1 | ⟨e1, h1⟩ <;> rcases h2 with h2 | ⟨e2, h2⟩
    · exact .inl (by omega)
    · exact .inl (by omega)
    · exact .inl (by omega)
    · exact .inr ⟨by omega, cmpL_trans _ _ _ h1 h2⟩
theorem lessB_tri (d : Bool) {a b : List ByteArray} (h1 : lessB d a b = false) (h2 : a ≠ b) : lessB d b a = true := by
  unfold lessB at *
  cases d with
  | false =>
    simp only [Bool.false_and, Bool.false_eq_true, if_false, decide_eq_true_eq, decide_eq_false_iff_not] at *
    exact cmpL_tri _ _ h1 h2
  | true =>
    by_cases e : (a.length : Int) = b.length
    · have e' : ((a.length : Int) == b.length) = true := beq_iff_eq.2 e
      have e2 : ((b.length : Int) == a.length) = true := beq_iff_eq.2 e.symm
      rw [e'] at h1
      rw [e2]
      simp only [Bool.true_and, Bool.not_true, Bool.false_eq_true, if_false, decide_eq_true_eq, decide_eq_false_iff_not] at *
      exact cmpL_tri _ _ h1 h2
    · have e' : ((a.length : Int) == b.length) = false := beq_eq_false_iff_ne.2 e
      have e2 : ((b.length : Int) == a.length) = false := beq_eq_false_iff_ne.2 (fun h => e h.symm)
      rw [e'] at h1
      rw [e2]
      simp only [Bool.true_and, Bool.not_false, if_true, decide_eq_true_eq, decide_eq_false_iff_not] at *
      omega
theorem ordS_lt (x y : St) : ordS x y < 0 ↔ (x.f0 = false ∧ y.f0 = true) ∨ (x.f0 = y.f0 ∧ lessB x.f0 x.f1 y.f1 = true) := by
  unfold ordS
  cases hx : x.f0 <;> cases hy : y.f0 <;> simp
  all_goals
    cases lessB _ x.f1 y.f1 <;> cases lessB _ y.f1 x.f1 <;> simp
theorem ordS_irr (x : St) : ¬ ordS x x < 0 := by
  rw [ordS_lt, lessB_irr]
  rintro (⟨h1, h2⟩ | ⟨_, h⟩)
  · rw [h1] at h2; cases h2
  · cases h
theorem ordS_tr {x y z : St} (h1 : ordS x y < 0) (h2 : ordS y z < 0) : ordS x z < 0 := by
  rw [ordS_lt] at *
  rcases h1 with ⟨a1, a2⟩ | ⟨a1, a2⟩
  · rcases h2 with ⟨b1, _⟩ | ⟨b1, _⟩
    · rw [a2] at b1; cases b1
    · exact .inl ⟨a1, by rw [← b1]; exact a2⟩
  · rcases h2 with ⟨b1, b2⟩ | ⟨b1, b2⟩
    · exact .inl ⟨by rw [a1]; exact b1, b2⟩
    · refine .inr ⟨a1.trans b1, ?_⟩
      rw [← a1] at b2
      exact lessB_tr _ a2 b2
theorem ordS_tri {x y : St} (h1 : ¬ ordS x y < 0) (h2 : ¬ (x.f0 = y.f0 ∧ x.f1 = y.f1)) : ordS y x < 0 := by
  rw [ordS_lt] at *
  generalize x.f0 = a at *
  generalize y.f0 = b at *
  have same : a = b → (b = a ∧ lessB b y.f1 x.f1 = true) := fun e => by
    subst e
    exact ⟨rfl, lessB_tri _ (by rw [← Bool.not_eq_true]; exact fun h => h1 (.inr ⟨rfl, h⟩)) (fun h => h2 ⟨rfl, h⟩)⟩
  cases a <;> cases b
  · exact .inr (same rfl)
  · exact absurd (.inl ⟨rfl, rfl⟩) h1
  · exact .inl ⟨rfl, rfl⟩
  · exact .inr (same rfl)
end Go.Proofs.YthlflglkdaainaaGreatDoor.Tr
