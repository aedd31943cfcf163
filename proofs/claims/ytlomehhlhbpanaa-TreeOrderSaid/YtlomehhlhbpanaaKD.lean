import Derived.Test.YtlomehhlhbpanaaKC
import Derived.Test.YtlomehhlhbpanaaKB
import Derived.Test.YtlomehhlhbpanaaT6
import Derived.Test.YtlomehhlhbpanaaTEqual
import Derived.Test.YtlomehhlhbpanaaKA
/- A pack of texts: TSame, TRSort, TREq, TAw14, TCon. -/
/- The walk of tree.Same. -/
namespace Go.Proofs.Ytlomehhlhbpanaa
open Go.RowKit Go.Lib Go.Proofs.YtlomehhlhbpanaaW.PrintWords Go.Proofs.YtlomehhlhbpanaaW.PrintLast Go.Proofs.YtlomehhlhbpanaaW.PrintMore Go.Proofs.Ytlomehhlhbpanaa.Prt

/-- What tree.Same tells. -/
def sameT (L M : List It) : Bool := (sortE L == 0) && (sortE M == 0) && eqL (sortT L) (sortT M)
theorem sortE_ok (L : List It) : (sortE L = 0 ∧ checkN L ≠ 14) ∨ (sortE L = 14 ∧ checkN L = 14) := by
  unfold sortE
  by_cases h : checkN L = 14
  · rw [if_pos h]; exact .inr ⟨rfl, h⟩
  · rw [if_neg h]; exact .inl ⟨rfl, h⟩

abbrev SortsTo (V : Value) (L1 : List It) (E1 : Int) (w : World) : Prop :=
  Calls Try.prog 19 #[V] w fun e w' => ∃ A1 c1, e = .returned (.tuple #[.slice A1 L1.length c1, .int .i64 E1]) ∧ Kd.C kIt w' A1 L1.length L1 ∧ Below w.heap.size w w'

set_option maxRecDepth 100000 in
set_option maxHeartbeats 2000000 in
theorem same_a (V U : Value) (L1 : List It) (M1 : List It) (E2 : Int) (w : World) (HK : SortsTo V L1 14 w) (HK2 : ∀ W, Below w.heap.size w W → SortsTo U M1 E2 W) :
    Calls Try.prog 21 #[V, U] w fun e w' => e = .returned (.bool false) ∧ Below w.heap.size w w' := by
  go_enter Try.func21, Try.ntmps21
  go_wp2_with (first | (go_at_call 19; with_reducible refine HK.mono ?_; rintro e w1 ⟨A1, c1, rfl, hr1, hb1⟩) | (go_at_call 19; with_reducible refine (HK2 _ hb1).mono ?_; rintro e w2 ⟨A2, c2, rfl, hr2, hb2⟩))
  go_ret
  exact ⟨rfl, hb1.trans (hb2.mono hb1.size)⟩
set_option maxRecDepth 100000 in
set_option maxHeartbeats 2000000 in
theorem same_b (V U : Value) (L1 : List It) (M1 : List It) (w : World) (HK : SortsTo V L1 0 w) (HK2 : ∀ W, Below w.heap.size w W → SortsTo U M1 14 W) :
    Calls Try.prog 21 #[V, U] w fun e w' => e = .returned (.bool false) ∧ Below w.heap.size w w' := by
  go_enter Try.func21, Try.ntmps21
  go_wp2_with (first | (go_at_call 19; with_reducible refine HK.mono ?_; rintro e w1 ⟨A1, c1, rfl, hr1, hb1⟩) | (go_at_call 19; with_reducible refine (HK2 _ hb1).mono ?_; rintro e w2 ⟨A2, c2, rfl, hr2, hb2⟩))
  go_ret
  exact ⟨rfl, hb1.trans (hb2.mono hb1.size)⟩
set_option maxRecDepth 100000 in
set_option maxHeartbeats 2000000 in
theorem same_c (V U : Value) (L1 : List It) (M1 : List It) (w : World) (HK : SortsTo V L1 0 w) (HK2 : ∀ W, Below w.heap.size w W → SortsTo U M1 0 W) :
    Calls Try.prog 21 #[V, U] w fun e w' => e = .returned (.bool (eqL L1 M1)) ∧ Below w.heap.size w w' := by
  go_enter Try.func21, Try.ntmps21
  go_wp2_with (first | (go_at_call 19; with_reducible refine HK.mono ?_; rintro e w1 ⟨A1, c1, rfl, hr1, hb1⟩) | (go_at_call 19; with_reducible refine (HK2 _ hb1).mono ?_; rintro e w2 ⟨A2, c2, rfl, hr2, hb2⟩) | (go_at_call 36; with_reducible refine (eqf_any L1 M1 A1 A2 c1 c2 _ (Kd.C_below hr1 hb2) hr2).mono ?_; rintro e w3 ⟨rfl, hb3⟩))
  go_ret
  exact ⟨rfl, hb1.trans ((hb2.trans (hb3.mono hb2.size)).mono hb1.size)⟩

theorem Same_any (L M : List It) (A B : Option Addr) (c d : Nat) (hc : L.length ≤ c) (hd : M.length ≤ d) (w : World) (hC : Kd.C kIt w A L.length L) (hD : Kd.C kIt w B M.length M) (hwL : WfL L) (hwM : WfL M) :
    Calls Try.prog 21 #[.slice A L.length c, .slice B M.length d] w fun e w' => e = .returned (.bool (sameT L M)) ∧ Below w.heap.size w w' := by
  have HS : ∀ (X : List It) (C : Option Addr) (k : Nat), X.length ≤ k → ∀ W, Kd.C kIt W C X.length X → WfL X → SortsTo (.slice C X.length k) (sortT X) (sortE X) W := fun X C k hk W h hw =>
    (Sort_any X C k hk W h hw).mono fun e w' he => by
      obtain ⟨v, rfl, hr, hb⟩ := he
      obtain ⟨A1, c1, rfl⟩ := Kd.R_slice hr
      exact ⟨A1, c1, rfl, (Kd.R_reads' hr).2.2, hb⟩
  have HK := HS L A c hc w hC hwL
  have HK2 := fun W (b : Below w.heap.size w W) => HS M B d hd W (Kd.C_below hD b) hwM
  unfold sameT
  rcases sortE_ok L with ⟨e1, _⟩ | ⟨e1, _⟩
  · rw [e1] at HK ⊢
    rcases sortE_ok M with ⟨e2, _⟩ | ⟨e2, _⟩
    · rw [e2]
      simp only [e2] at HK2
      exact same_c _ _ _ _ w HK HK2
    · rw [e2]
      simp only [e2] at HK2
      exact same_b _ _ _ _ w HK HK2
  · rw [e1] at HK ⊢
    exact same_a _ _ _ _ _ w HK HK2
end Go.Proofs.Ytlomehhlhbpanaa

/- The reference's Sort tells what tree.Sort tells. -/
namespace Go.Proofs.Ytlomehhlhbpanaa
open Go.RowKit Go.Lib Go.Proofs.YtlomehhlhbpanaaW.PrintWords Go.Proofs.YtlomehhlhbpanaaW.PrintLast Go.Proofs.YtlomehhlhbpanaaW.PrintMore Go.Proofs.Ytlomehhlhbpanaa.Prt

theorem upF_len (L : List It) : ∀ (n : Nat) (i : Int), (upF n L i).length ≤ n := by
  intro n
  induction n with
  | zero => intro i; simp [upF]
  | succ n ih =>
    intro i
    unfold upF
    split
    · simp
    · rw [List.length_cons]; have := ih (itA L i).f0; omega
theorem path_len (L : List It) (i : Nat) : (pathN L (i : Int)).length ≤ i + 1 := by
  unfold pathN
  rw [List.length_reverse]
  have := upF_len L ((i : Int) + 1).toNat i
  omega
theorem tPath_in {L : List It} (h14 : checkN L ≠ 14) {x : Nat} (hx : x < L.length) : tPath L (x : Int) = pathN L (x : Int) := by
  unfold tPath
  rw [if_neg (by rintro (h | h | h) <;> omega)]

def castL (o : List Nat) : List Int := o.map fun k : Nat => (k : Int)
theorem castL_len (o : List Nat) : (castL o).length = o.length := by simp [castL]
theorem castL_rd {o : List Nat} {j : Nat} (h : j < o.length) : rd (castL o) (j : Int) = ((o[j] : Nat) : Int) := by
  show (castL o).getD (j : Int).toNat 0 = _
  rw [Int.toNat_natCast, castL, List.getD_eq_getElem?_getD, List.getElem?_map, List.getElem?_eq_getElem h]; rfl

theorem takeWhile_at {p : Nat → Bool} : ∀ (o : List Nat) (j : Nat), j ≤ o.length → (∀ x ∈ o.take j, p x = true) → (∀ h : j < o.length, p o[j] = false) → o.takeWhile p = o.take j ∧ o.dropWhile p = o.drop j
  | [], j, h, _, _ => by simp
  | x :: o, 0, _, _, h2 => by
    have := h2 (by simp)
    simp only [List.getElem_cons_zero] at this
    simp [this]
  | x :: o, j + 1, h, h1, h2 => by
    have hx : p x = true := h1 x (by simp)
    obtain ⟨e1, e2⟩ := takeWhile_at o j (by simpa using h) (fun y hy => h1 y (by simp [hy])) (fun hj => by have := h2 (by simpa using hj); simpa using this)
    constructor
    · rw [List.takeWhile_cons, hx, if_pos rfl, e1]; rfl
    · rw [List.dropWhile_cons, hx, if_pos rfl, e2]; rfl

theorem sl1_ev {L : List It} (h14 : checkN L ≠ 14) (hs : ∀ x ∈ L, x.f1.size ≤ 100000) {X : List It × Int} {i : Nat} (hi : i < L.length) {o : List Nat} (ho : ∀ x ∈ o, x < L.length) (hol : o.length ≤ 64) (hX : Ev (fun k => gessoref14_Sort.l0 k L (castL (insO (ltP L) i o)) ((i + 1 : Nat) : Int)) X) :
    ∀ (t j : Nat), o.length - j ≤ t → j ≤ o.length → (∀ x ∈ o.take j, ltP L x i = true) → Ev (fun k => gessoref14_Sort.l1 k L (castL o) (i : Int) (j : Int)) X := by
  obtain ⟨q1, _⟩ := check_ok h14
  have fin : ∀ j : Nat, j ≤ o.length → o.takeWhile (fun x => ltP L x i) = o.take j → o.dropWhile (fun x => ltP L x i) = o.drop j → castL (insO (ltP L) i o) = (([] : List Int) ++ (castL o).take j ++ [(i : Int)]) ++ (castL o).drop j := by
    intro j _ e1 e2
    unfold insO castL
    rw [e1, e2, List.map_append, List.map_cons, List.map_take, List.map_drop]
    simp
  intro t
  induction t with
  | zero =>
    intro j h1 h2 h3
    obtain rfl : j = o.length := by omega
    obtain ⟨e1, e2⟩ := takeWhile_at (p := fun x => ltP L x i) o o.length (Nat.le_refl _) h3 (fun h => absurd h (by omega))
    have hf := fin _ (Nat.le_refl _) e1 e2
    rw [hf] at hX
    refine ev_step (fun k => ?_) hX
    have c1 : ¬ ((o.length : Int) < ((castL o).length : Int)) := by rw [castL_len]; omega
    simp only [gessoref14_Sort.l1]
    rw [if_neg c1, if_pos (by omega), if_pos (by rw [castL_len]; omega)]
    simp only [Option.bind_some, Int.toNat_natCast]
    rw [if_pos (by simp [castL_len]; omega), if_pos (by simp [castL_len]; omega), if_pos (by simp [castL_len]; omega), wrap_id (by omega) (by omega)]
    rfl
  | succ t ih =>
    intro j h1 h2 h3
    by_cases hj : j < o.length
    · obtain ⟨x, hx⟩ : ∃ x, x = o[j] := ⟨_, rfl⟩
      have hxl : x < L.length := ho x (by rw [hx]; exact List.getElem_mem hj)
      have hrd : rd (castL o) (j : Int) = (x : Int) := by rw [castL_rd hj, hx]
      obtain ⟨K1, hK1⟩ := Path_ev L hs (x : Int)
      obtain ⟨K2, hK2⟩ := Path_ev L hs (i : Int)
      rw [tPath_in h14 hxl] at hK1
      rw [tPath_in h14 hi] at hK2
      obtain ⟨K3, hK3⟩ := Less_ev (pathN L (x : Int)) (pathN L (i : Int)) (by have := path_len L x; omega)
      have c1 : (j : Int) < ((castL o).length : Int) := by rw [castL_len]; omega
      cases hlt : ltP L x i with
      | true =>
        obtain ⟨K, hK⟩ := ih (j + 1) (by omega) (by omega) (fun y hy => by
          rw [List.take_succ_eq_append_getElem hj] at hy
          rcases List.mem_append.1 hy with hy | hy
          · exact h3 y hy
          · rw [List.mem_singleton.1 hy, ← hx]; exact hlt)
        refine ⟨K + K1 + K2 + K3 + 1, fun k hk => ?_⟩
        obtain ⟨k, rfl⟩ : ∃ q, k = q + 1 := ⟨k - 1, by omega⟩
        have e1 : gessoref14_Path.f k L (x : Int) = _ := hK1 k (by omega)
        have e2 : gessoref14_Path.f k L (i : Int) = _ := hK2 k (by omega)
        have e3 : gessoref14_Less.f k (pathN L (x : Int)) (pathN L (i : Int)) = some (ltP L x i) := hK3 k (by omega)
        have e4 : gessoref14_Sort.l1 k L (castL o) (i : Int) ((j + 1 : Nat) : Int) = some X := hK k (by omega)
        simp only [gessoref14_Sort.l1]
        rw [if_pos c1, if_pos (by omega), hrd, e1, Option.bind_some, e2, Option.bind_some, e3, Option.bind_some, hlt, if_pos rfl, wrap_id (by omega) (by omega)]
        exact e4
      | false =>
        obtain ⟨a1, a2⟩ := takeWhile_at (p := fun x => ltP L x i) o j h2 h3 (fun h => by rw [← hx]; exact hlt)
        have hf := fin _ h2 a1 a2
        rw [hf] at hX
        obtain ⟨K, hK⟩ := hX
        refine ⟨K + K1 + K2 + K3 + 1, fun k hk => ?_⟩
        obtain ⟨k, rfl⟩ : ∃ q, k = q + 1 := ⟨k - 1, by omega⟩
        have e1 : gessoref14_Path.f k L (x : Int) = _ := hK1 k (by omega)
        have e2 : gessoref14_Path.f k L (i : Int) = _ := hK2 k (by omega)
        have e3 : gessoref14_Less.f k (pathN L (x : Int)) (pathN L (i : Int)) = some (ltP L x i) := hK3 k (by omega)
        have e4 : gessoref14_Sort.l0 k L _ ((i + 1 : Nat) : Int) = some X := hK k (by omega)
        simp only [gessoref14_Sort.l1]
        rw [if_pos c1, if_pos (by omega), hrd, e1, Option.bind_some, e2, Option.bind_some, e3, Option.bind_some, hlt, if_neg (by decide), if_pos (by rw [castL_len]; omega)]
        simp only [Option.bind_some, Int.toNat_natCast]
        rw [if_pos (by simp [castL_len]; omega), if_pos (by simp [castL_len]; omega), if_pos (by simp [castL_len]; omega), wrap_id (by omega) (by omega)]
        exact e4
    · exact ih j (by omega) h2 h3

/-! ### from the order on -/
theorem itA_par {L : List It} (h14 : checkN L ≠ 14) {q : Nat} (hq : q < L.length) : -1 ≤ (itA L q).f0 ∧ (itA L q).f0 < q := by
  obtain ⟨_, q2, _⟩ := check_ok h14
  simp only [depB, List.all_eq_true, List.mem_range] at q2
  exact par_ok (okAt_par (q2 q hq))
theorem itA_len {L : List It} (h14 : checkN L ≠ 14) {q : Nat} (hq : q < L.length) : (itA L q).f3.length ≤ 8192 := by
  obtain ⟨_, _, q3⟩ := check_ok h14
  rw [itA_get hq]
  exact right_len (List.all_eq_true.1 q3 _ (List.getElem_mem hq))
theorem sl3_ev {L : List It} (h14 : checkN L ≠ 14) {al : List Int} (hal : al.length = L.length) (hv : ∀ p : Nat, p < L.length → rd al p = ((oL L).idxOf p : Int)) :
    ∀ (t k : Nat), L.length - k ≤ t → k ≤ L.length → Ev (fun f => gessoref14_Sort.l3 f L (ordI L) al ((sortL L).take k) (k : Int)) (sortL L, 0) := by
  obtain ⟨q1, _⟩ := check_ok h14
  intro t
  induction t with
  | zero =>
    intro k h1 h2
    obtain rfl : k = L.length := by omega
    refine ⟨1, fun f hf => ?_⟩
    obtain ⟨f, rfl⟩ : ∃ q, f = q + 1 := ⟨f - 1, by omega⟩
    simp only [gessoref14_Sort.l3]
    rw [if_neg (by rw [ordI_len]; omega), List.take_of_length_le (by rw [sortL_len]; exact Nat.le_refl _)]
  | succ t ih =>
    intro k h1 h2
    by_cases hk : k < L.length
    · obtain ⟨q, hq, hrd, hoq, hix⟩ := ord_at hk
      have hih := ih (k + 1) (by omega) (by omega)
      have htk : (sortL L).take (k + 1) = (sortL L).take k ++ [itS L q] := by
        rw [List.take_add_one]
        unfold sortL
        rw [List.getElem?_map, hoq]; rfl
      rw [htk] at hih
      obtain ⟨p1, p2⟩ := itA_par h14 hq
      have p3 := itA_len h14 hq
      refine ev_step (fun f => ?_) hih
      simp only [gessoref14_Sort.l3]
      rw [if_pos (by rw [ordI_len]; omega), if_pos (by omega), hrd, if_pos (by omega), if_pos (by omega)]
      show (if (itA L q).f0 ≥ 0 then _ else _) = _
      by_cases hp : (itA L q).f0 = -1
      · rw [if_neg (by omega)]
        simp only [Option.bind_some]
        rw [if_pos (by show 0 + (itA L q).f3.length < _; omega), if_pos (by rw [List.length_take]; omega), wrap_id (by omega) (by omega)]
        have e : itS L q = ⟨(itA L q).f0, (itA L q).f1, (itA L q).f2, [] ++ (itA L q).f3⟩ := by
          unfold itS; rw [if_pos hp, hp]; rfl
        rw [e]; rfl
      · rw [if_pos (by omega), if_pos (by show 0 ≤ (itA L q).f0; omega), if_pos (by show (itA L q).f0 < _; omega)]
        simp only [Option.bind_some]
        rw [if_pos (by show 0 + (itA L q).f3.length < _; omega), if_pos (by rw [List.length_take]; omega), wrap_id (by omega) (by omega)]
        obtain ⟨p, hpp⟩ : ∃ p : Nat, (itA L q).f0 = p := ⟨(itA L q).f0.toNat, by omega⟩
        have e : itS L q = ⟨rd al (itA L q).f0, (itA L q).f1, (itA L q).f2, [] ++ (itA L q).f3⟩ := by
          unfold itS posI; rw [if_neg hp, hpp, hv p (by omega), Int.toNat_natCast]; rfl
        rw [e]; rfl
    · exact ih k (by omega) h2
theorem sl2_ev {L : List It} (h14 : checkN L ≠ 14) :
    ∀ (t k : Nat) (al : List Int), L.length - k ≤ t → k ≤ L.length → al.length = L.length → (∀ p : Nat, p < L.length → (oL L).idxOf p < k → rd al p = ((oL L).idxOf p : Int)) → Ev (fun f => gessoref14_Sort.l2 f L (ordI L) al (k : Int)) (sortL L, 0) := by
  obtain ⟨q1, _⟩ := check_ok h14
  intro t
  induction t with
  | zero =>
    intro k al h1 h2 hal hv
    obtain rfl : k = L.length := by omega
    refine ev_step (fun f => ?_) (sl3_ev h14 hal (fun p hp => hv p hp (idx_lt hp)) L.length 0 (by omega) (by omega))
    simp only [gessoref14_Sort.l2]
    rw [if_neg (by rw [ordI_len]; omega)]
    rfl
  | succ t ih =>
    intro k al h1 h2 hal hv
    by_cases hk : k < L.length
    · obtain ⟨q, hq, hrd, hoq, hix⟩ := ord_at hk
      have hih := ih (k + 1) (al.set q (k : Int)) (by omega) (by omega) (by rw [List.length_set, hal]) (fun p hpl hpk => by
        show (al.set q (k : Int)).getD (p : Int).toNat 0 = _
        rw [Int.toNat_natCast, List.getD_eq_getElem?_getD]
        by_cases e : p = q
        · subst e
          rw [List.getElem?_set_self (by omega), hix]; rfl
        · rw [List.getElem?_set_ne (fun h => e h.symm), ← List.getD_eq_getElem?_getD]
          have hne2 : (oL L).idxOf p ≠ k := fun h2 => by
            have := idx_at hpl h2
            rw [hoq] at this
            exact e (Option.some.inj this).symm
          have := hv p hpl (by omega)
          rw [← this]; rfl)
      refine ev_step (fun f => ?_) hih
      simp only [gessoref14_Sort.l2]
      rw [if_pos (by rw [ordI_len]; omega), if_pos (by omega), hrd, if_pos (by omega), if_pos (by omega), wrap_id (by omega) (by omega), Int.toNat_natCast]
      rfl
    · exact ih k al (by omega) h2 hal hv
theorem sl0_ev {L : List It} (h14 : checkN L ≠ 14) (hs : ∀ x ∈ L, x.f1.size ≤ 100000) :
    ∀ (t i : Nat), L.length - i ≤ t → i ≤ L.length → Ev (fun f => gessoref14_Sort.l0 f L (castL (ordR (ltP L) i)) (i : Int)) (sortL L, 0) := by
  obtain ⟨q1, _⟩ := check_ok h14
  have hfin : Ev (fun f => gessoref14_Sort.l0 f L (castL (ordR (ltP L) L.length)) (L.length : Int)) (sortL L, 0) := by
    refine ev_step (fun f => ?_) (sl2_ev h14 L.length 0 (List.replicate L.length 0) (by omega) (by omega) (by simp) (fun p _ h => absurd h (Nat.not_lt_zero _)))
    simp only [gessoref14_Sort.l0]
    rw [if_neg (by omega), if_pos (by omega), if_pos (by omega), Int.toNat_natCast]
    rfl
  intro t
  induction t with
  | zero =>
    intro i h1 h2
    obtain rfl : i = L.length := by omega
    exact hfin
  | succ t ih =>
    intro i h1 h2
    by_cases hi : i < L.length
    · have hmem : ∀ x ∈ ordR (ltP L) i, x < L.length := fun x hx => by
        have := (ord_perm (ltP L) i).mem_iff.1 hx
        have := List.mem_range.1 this
        omega
      have hlen : (ordR (ltP L) i).length ≤ 64 := by
        rw [(ord_perm (ltP L) i).length_eq, List.length_range]; omega
      have := sl1_ev h14 hs hi hmem hlen (ih (i + 1) (by omega) (by omega)) (ordR (ltP L) i).length 0 (by omega) (by omega) (fun x hx => by simp at hx)
      refine ev_step (fun f => ?_) this
      simp only [gessoref14_Sort.l0]
      rw [if_pos (by omega)]
      rfl
    · obtain rfl : i = L.length := by omega
      exact hfin

theorem RSort_ev (L : List It) (hs : ∀ x ∈ L, x.f1.size ≤ 100000) : Ev (fun k => gessoref14_Sort.f k L) (sortT L, sortE L) := by
  unfold gessoref14_Sort.f
  refine Ev.bind (Check_ev L hs) ?_
  unfold sortT sortE
  by_cases h14 : checkN L = 14
  · rw [if_pos h14, if_pos h14]
    exact Ev.congr (fun k => if_pos h14) (Ev.now _)
  · rw [if_neg h14, if_neg h14]
    exact Ev.congr (fun k => if_neg h14) (sl0_ev h14 hs L.length 0 (by omega) (by omega))
end Go.Proofs.Ytlomehhlhbpanaa

/- The reference's Equal and Same. -/
namespace Go.Proofs.Ytlomehhlhbpanaa
open Go.RowKit Go.Lib Go.Proofs.YtlomehhlhbpanaaW.PrintWords Go.Proofs.YtlomehhlhbpanaaW.PrintLast Go.Proofs.YtlomehhlhbpanaaW.PrintMore Go.Proofs.Ytlomehhlhbpanaa.Prt

def Bytes8 (xs : List Int) : Prop := ∀ b ∈ xs, 0 ≤ b ∧ b ≤ 255
theorem nums_inj {xs ys : List Int} (hx : Bytes8 xs) (hy : Bytes8 ys) : (strOfNums xs).toList = (strOfNums ys).toList ↔ xs = ys := by
  refine ⟨fun h => ?_, fun h => by rw [h]⟩
  have h2 := str_inj h
  have h3 : (strOfNums xs).data.toList = (strOfNums ys).data.toList := by rw [h2]
  rw [strOfNums_data, strOfNums_data] at h3
  have key : ∀ {zs : List Int}, Bytes8 zs → (zs.map fun n => UInt8.ofNat n.toNat).map (fun u => (u.toNat : Int)) = zs := by
    intro zs hz
    rw [List.map_map]
    conv => rhs; rw [← List.map_id zs]
    refine List.map_congr_left fun b hb => ?_
    have := hz b hb
    show ((UInt8.ofNat b.toNat).toNat : Int) = b
    rw [UInt8.toNat_ofNat']
    omega
  rw [← key hx, ← key hy, h3]

theorem eqIt_iff (x y : It) : eqIt x y = true ↔ x = y := by
  cases x; cases y
  simp only [eqIt, Bool.and_eq_true, decide_eq_true_eq, beq_iff_eq, S41.mk.injEq]
  constructor
  · rintro ⟨⟨⟨a, b⟩, c⟩, d⟩
    exact ⟨a, str_inj b, c, d⟩
  · rintro ⟨a, b, c, d⟩
    exact ⟨⟨⟨a, by rw [b]⟩, c⟩, d⟩
theorem eqL_iff (L M : List It) : eqL L M = true ↔ L = M := by
  unfold eqL
  rw [Bool.and_eq_true, decide_eq_true_eq, List.all_eq_true]
  constructor
  · rintro ⟨h1, h2⟩
    apply List.ext_getElem h1
    intro i hi hj
    have := h2 i (List.mem_range.2 hi)
    rw [eqIt_iff, itA_get hi, itA_get hj] at this
    exact this
  · rintro rfl
    exact ⟨rfl, fun i _ => (eqIt_iff _ _).2 rfl⟩
theorem eqL_true {L M : List It} (h : L = M) : eqL L M = true := (eqL_iff L M).2 h
theorem eqL_false {L M : List It} (h : ¬ L = M) : eqL L M = false := by
  rw [← Bool.not_eq_true]
  exact fun e => h ((eqL_iff L M).1 e)
theorem eqL_refl (L : List It) : eqL L L = true := (eqL_iff L L).2 rfl

def WfB (L : List It) : Prop := L.length ≤ 100000 ∧ ∀ x ∈ L, Bytes8 x.f3
theorem equal_ev {L M : List It} (hL : WfB L) (hM : WfB M) (hl : L.length = M.length) : ∀ (t i : Nat), L.length - i ≤ t → i ≤ L.length → (∀ j, j < i → itA L j = itA M j) → Ev (fun k => gessoref14_Equal.l0 k L M (i : Int)) (eqL L M) := by
  have hn := hL.1
  intro t
  induction t with
  | zero =>
    intro i h1 h2 h3
    obtain rfl : i = L.length := by omega
    refine ⟨1, fun k hk => ?_⟩
    obtain ⟨k, rfl⟩ : ∃ q, k = q + 1 := ⟨k - 1, by omega⟩
    simp only [gessoref14_Equal.l0]
    rw [if_neg (by omega), eqL_true]
    apply List.ext_getElem hl
    intro j hj hj2
    have := h3 j hj
    rwa [itA_get hj, itA_get hj2] at this
  | succ t ih =>
    intro i h1 h2 h3
    by_cases hi : i < L.length
    · have hi2 : i < M.length := by omega
      have bx := hL.2 _ (List.getElem_mem hi)
      have byy := hM.2 _ (List.getElem_mem hi2)
      rw [← itA_get hi] at bx
      rw [← itA_get hi2] at byy
      have stop : ¬ itA L i = itA M i → Ev (fun k => gessoref14_Equal.l0 k L M (i : Int)) (eqL L M) := by
        intro h
        rw [eqL_false (fun e => h (by rw [e]))]
        refine ⟨1, fun k hk => ?_⟩
        obtain ⟨k, rfl⟩ : ∃ q, k = q + 1 := ⟨k - 1, by omega⟩
        simp only [gessoref14_Equal.l0]
        rw [if_pos (by omega), if_pos (by omega), if_pos (by omega)]
        show (if (itA L i).f0 = (itA M i).f0 then (if (itA L i).f1.toList = (itA M i).f1.toList then (if ((itA L i).f2 != (itA M i).f2) = true then some false else (if (strOfNums (itA L i).f3).toList = (strOfNums (itA M i).f3).toList then _ else some false)) else some false) else some false) = some false
        by_cases a0 : (itA L i).f0 = (itA M i).f0
        · by_cases a1 : (itA L i).f1.toList = (itA M i).f1.toList
          · by_cases a2 : (itA L i).f2 = (itA M i).f2
            · by_cases a3 : (itA L i).f3 = (itA M i).f3
              · exfalso
                apply h
                rw [← eqIt_iff]
                simp [eqIt, a0, a1, a2, a3]
              · rw [if_pos a0, if_pos a1, if_neg (by simp [a2]), if_neg (fun e => a3 ((nums_inj bx byy).1 e))]
            · rw [if_pos a0, if_pos a1, if_pos (by simpa using a2)]
          · rw [if_pos a0, if_neg a1]
        · rw [if_neg a0]
      by_cases he : itA L i = itA M i
      · refine ev_step (fun k => ?_) (ih (i + 1) (by omega) (by omega) (fun j hj => by
          by_cases e : j = i
          · subst e; exact he
          · exact h3 j (by omega)))
        simp only [gessoref14_Equal.l0]
        rw [if_pos (by omega), if_pos (by omega), if_pos (by omega), wrap_id (by omega) (by omega)]
        show (if (itA L i).f0 = (itA M i).f0 then (if (itA L i).f1.toList = (itA M i).f1.toList then (if ((itA L i).f2 != (itA M i).f2) = true then some false else (if (strOfNums (itA L i).f3).toList = (strOfNums (itA M i).f3).toList then _ else some false)) else some false) else some false) = _
        rw [he, if_pos rfl, if_pos rfl, if_neg (by simp), if_pos rfl]
        rfl
      · exact stop he
    · exact ih i (by omega) h2 h3
theorem Equal_ev {L M : List It} (hL : WfB L) (hM : WfB M) : Ev (fun k => gessoref14_Equal.f k L M) (eqL L M) := by
  unfold gessoref14_Equal.f
  by_cases h : L.length = M.length
  · exact Ev.congr (fun k => if_pos (by omega)) (equal_ev hL hM h L.length 0 (by omega) (by omega) (fun j h => absurd h (Nat.not_lt_zero _)))
  · rw [eqL_false (fun e => h (by rw [e]))]
    exact Ev.congr (fun k => if_neg (by omega)) (Ev.now _)
/-- The contract of the reference's Equal. -/
theorem REqual_any {L M : List It} (hL : WfB L) (hM : WfB M) (A B : Option Addr) (c d : Nat) (hc : L.length ≤ c) (hd : M.length ≤ d) (w : World) (hC : Kd.C kIt w A L.length L) (hD : Kd.C kIt w B M.length M) :
    Calls Try.prog 18 #[.slice A L.length c, .slice B M.length d] w fun e w' => e = .returned (.bool (eqL L M)) ∧ Drawn0 w w' := by
  obtain ⟨k, hk⟩ := (Equal_ev hL hM).rounds
  exact gessoref14_Equal.calls k A c L B d M _ w hC hc hD hd hk

/-! ### gessoref14.Same -/
theorem bytes_itA {L : List It} (h : ∀ x ∈ L, Bytes8 x.f3) (q : Nat) : Bytes8 (itA L q).f3 := by
  by_cases hq : q < L.length
  · rw [itA_get hq]; exact h _ (List.getElem_mem hq)
  · have : itA L q = zIt := by
      show L.getD (q : Int).toNat zIt = zIt
      rw [Int.toNat_natCast, List.getD_eq_getElem?_getD, List.getElem?_eq_none (by omega)]; rfl
    rw [this]
    intro b hb; cases hb
theorem wf_sortT {L : List It} (hw : WfL L) : WfB (sortT L) := by
  unfold sortT
  by_cases h14 : checkN L = 14
  · rw [if_pos h14]
    exact ⟨by simp, fun x hx => by cases hx⟩
  · rw [if_neg h14]
    obtain ⟨q1, _⟩ := check_ok h14
    refine ⟨by rw [sortL_len]; omega, fun x hx => ?_⟩
    obtain ⟨q, hq, rfl⟩ := List.mem_map.1 hx
    exact bytes_itA (fun x hx => (hw x hx).2.2.2.1) q

abbrev RSortsTo (V : Value) (L1 : List It) (E1 : Int) (w : World) : Prop :=
  Calls Try.prog 20 #[V] w fun e w' => ∃ A1 c1, e = .returned (.tuple #[.slice A1 L1.length c1, .int .i64 E1]) ∧ L1.length ≤ c1 ∧ Kd.C kIt w' A1 L1.length L1 ∧ Below w.heap.size w w'
set_option maxRecDepth 100000 in
set_option maxHeartbeats 2000000 in
theorem rsame_a (V U : Value) (L1 : List It) (M1 : List It) (E2 : Int) (w : World) (HK : RSortsTo V L1 14 w) (HK2 : ∀ W, Below w.heap.size w W → RSortsTo U M1 E2 W) :
    Calls Try.prog 22 #[V, U] w fun e w' => e = .returned (.bool false) ∧ Below w.heap.size w w' := by
  go_enter Try.func22, Try.ntmps22
  go_wp2_with (first | (go_at_call 20; with_reducible refine HK.mono ?_; rintro e w1 ⟨A1, c1, rfl, hl1, hr1, hb1⟩) | (go_at_call 20; with_reducible refine (HK2 _ hb1).mono ?_; rintro e w2 ⟨A2, c2, rfl, hl2, hr2, hb2⟩))
  go_ret
  exact ⟨rfl, hb1.trans (hb2.mono hb1.size)⟩
set_option maxRecDepth 100000 in
set_option maxHeartbeats 2000000 in
theorem rsame_b (V U : Value) (L1 : List It) (M1 : List It) (w : World) (HK : RSortsTo V L1 0 w) (HK2 : ∀ W, Below w.heap.size w W → RSortsTo U M1 14 W) :
    Calls Try.prog 22 #[V, U] w fun e w' => e = .returned (.bool false) ∧ Below w.heap.size w w' := by
  go_enter Try.func22, Try.ntmps22
  go_wp2_with (first | (go_at_call 20; with_reducible refine HK.mono ?_; rintro e w1 ⟨A1, c1, rfl, hl1, hr1, hb1⟩) | (go_at_call 20; with_reducible refine (HK2 _ hb1).mono ?_; rintro e w2 ⟨A2, c2, rfl, hl2, hr2, hb2⟩))
  go_ret
  exact ⟨rfl, hb1.trans (hb2.mono hb1.size)⟩
set_option maxRecDepth 100000 in
set_option maxHeartbeats 2000000 in
theorem rsame_c (V U : Value) (L1 : List It) (M1 : List It) (h1 : WfB L1) (h2 : WfB M1) (w : World) (HK : RSortsTo V L1 0 w) (HK2 : ∀ W, Below w.heap.size w W → RSortsTo U M1 0 W) :
    Calls Try.prog 22 #[V, U] w fun e w' => e = .returned (.bool (eqL L1 M1)) ∧ Below w.heap.size w w' := by
  go_enter Try.func22, Try.ntmps22
  go_wp2_with (first | (go_at_call 20; with_reducible refine HK.mono ?_; rintro e w1 ⟨A1, c1, rfl, hl1, hr1, hb1⟩) | (go_at_call 20; with_reducible refine (HK2 _ hb1).mono ?_; rintro e w2 ⟨A2, c2, rfl, hl2, hr2, hb2⟩) | (go_at_call 18; with_reducible refine (REqual_any h1 h2 A1 A2 c1 c2 hl1 hl2 _ (Kd.C_below hr1 hb2) hr2).mono ?_; rintro e w3 ⟨rfl, hd3⟩; have hb3 := hd3.below))
  go_ret
  exact ⟨rfl, hb1.trans ((hb2.trans (hb3.mono hb2.size)).mono hb1.size)⟩

/-- The contract of the reference's Sort. -/
theorem RSort_any (L : List It) (hs : ∀ x ∈ L, x.f1.size ≤ 100000) (A : Option Addr) (c : Nat) (hc : L.length ≤ c) (w : World) (hC : Kd.C kIt w A L.length L) :
    Calls Try.prog 20 #[.slice A L.length c] w fun e w' => ∃ v, e = .returned (.tuple #[v, .int .i64 (sortE L)]) ∧ Kd.S kIt 41 w' w.heap.size (fun _ => True) v (sortT L) ∧ Below w.heap.size w w' := by
  obtain ⟨k, hk⟩ := (RSort_ev L hs).rounds
  exact gessoref14_Sort.calls k A c L _ _ w hC hc hk
theorem RSame_any (L M : List It) (hsL : ∀ x ∈ L, x.f1.size ≤ 100000) (hsM : ∀ x ∈ M, x.f1.size ≤ 100000) (A B : Option Addr) (c d : Nat) (hc : L.length ≤ c) (hd : M.length ≤ d) (w : World) (hC : Kd.C kIt w A L.length L) (hD : Kd.C kIt w B M.length M) (hwL : WfL L) (hwM : WfL M) :
    Calls Try.prog 22 #[.slice A L.length c, .slice B M.length d] w fun e w' => e = .returned (.bool (sameT L M)) ∧ Below w.heap.size w w' := by
  have HS : ∀ (X : List It) (C : Option Addr) (k : Nat), (∀ x ∈ X, x.f1.size ≤ 100000) → X.length ≤ k → ∀ W, Kd.C kIt W C X.length X → RSortsTo (.slice C X.length k) (sortT X) (sortE X) W := fun X C k hx hk W h =>
    (RSort_any X hx C k hk W h).mono fun e w' he => by
      obtain ⟨v, rfl, hr, hb⟩ := he
      obtain ⟨A1, c1, rfl⟩ := Kd.R_slice (Kd.S_R hr)
      exact ⟨A1, c1, rfl, (Kd.R_reads' (Kd.S_R hr)).2.1, (Kd.R_reads' (Kd.S_R hr)).2.2, hb⟩
  have HK := HS L A c hsL hc w hC
  have HK2 := fun W (b : Below w.heap.size w W) => HS M B d hsM hd W (Kd.C_below hD b)
  unfold sameT
  rcases sortE_ok L with ⟨e1, _⟩ | ⟨e1, _⟩
  · rw [e1] at HK ⊢
    rcases sortE_ok M with ⟨e2, _⟩ | ⟨e2, _⟩
    · rw [e2]
      simp only [e2] at HK2
      exact rsame_c _ _ _ _ (wf_sortT hwL) (wf_sortT hwM) w HK HK2
    · rw [e2]
      simp only [e2] at HK2
      exact rsame_b _ _ _ _ w HK HK2
  · rw [e1] at HK ⊢
    exact rsame_a _ _ _ _ _ w HK HK2
end Go.Proofs.Ytlomehhlhbpanaa

/- The contracts with their results named; awake. -/
namespace Go.Proofs.Ytlomehhlhbpanaa
open Go.RowKit Go.Lib Go.Proofs.YtlomehhlhbpanaaW.PrintWords Go.Proofs.YtlomehhlhbpanaaW.PrintLast Go.Proofs.YtlomehhlhbpanaaW.PrintMore Go.Proofs.Ytlomehhlhbpanaa.Prt

theorem Same11_any (a b : List ByteArray) (hb : a.length ≤ 100000) (A B : Option Addr) (c d : Nat) (hc : a.length ≤ c) (hd : b.length ≤ d) (w : World) (hA : Kd.C Kd.string w A a.length a) (hB : Kd.C Kd.string w B b.length b) :
    Calls Try.prog 12 #[.slice A a.length c, .slice B b.length d] w fun e w' => e = .returned (.bool (decide (a = b))) ∧ Drawn0 w w' := by
  obtain ⟨k, hk⟩ := (Same11_ev a b hb).rounds
  exact gessoref11_Same.calls k A c a B d b _ w hA hc hB hd hk

theorem lit_items (w : World) (n : Nat) (cs : Array Value) (L : List It) (hn : L.length = n) (hm : n ≤ 1000) (h : ∀ j (x : It), L[j]? = some x → x.f3 = [] ∧ cs[j * 4]? = some (.int .i64 x.f0) ∧ cs[j * 4 + 1]? = some (.string x.f1) ∧ cs[j * 4 + 2]? = some (.bool x.f2) ∧ cs[j * 4 + 3]? = some (.slice none 0 0)) :
    Kd.C kIt (w.alloc (.cells cs 41)) (some ⟨w.heap.size, 0, none⟩) n L := by
  refine ⟨hn, by omega, fun _ => ⟨_, rfl, fun j x hj => ?_⟩⟩
  obtain ⟨h3, c0, c1, c2, c3⟩ := h j x hj
  refine ⟨[.int .i64 x.f0, .string x.f1, .bool x.f2, .slice none 0 0], rfl, ?_, fun i u hu => ?_⟩
  · have := k41_mk (w.alloc (.cells cs 41)) x (A3 := none) (c3 := 0) (by rw [h3]; exact Nat.le_refl _) (by rw [h3]; exact ⟨rfl, by simp, fun hn => absurd hn (by simp)⟩)
    rwa [h3] at this
  · rw [add_at0]
    refine cell_alloc_new _ _ _ _ _ ?_
    match i, hu with
    | 0, hu => rw [← hu]; exact c0
    | 1, hu => rw [← hu]; exact c1
    | 2, hu => rw [← hu]; exact c2
    | 3, hu => rw [← hu]; exact c3
    | i + 4, hu => simp at hu
theorem lit_strs (w : World) (cs : Array Value) (L : List ByteArray) (hm : L.length ≤ 1000) (h : ∀ (j : Nat) (x : ByteArray), L[j]? = some x → cs[j]? = some (Value.string x)) :
    Kd.C Kd.string (w.alloc (.cells cs 9)) (some ⟨w.heap.size, 0, none⟩) L.length L := by
  refine ⟨rfl, by omega, fun _ => ⟨_, rfl, fun j x hj => ⟨[.string x], rfl, rfl, fun i u hu => ?_⟩⟩⟩
  rw [add_at0]
  refine cell_alloc_new _ _ _ _ _ ?_
  match i, hu with
  | 0, hu =>
    show cs[j * 1 + 0]? = _
    rw [Nat.mul_one, Nat.add_zero, h j x hj]; exact hu
  | i + 1, hu => simp at hu

def sortedL : List It := [⟨-1, ⟨#[98]⟩, false, []⟩, ⟨-1, ⟨#[100]⟩, true, []⟩, ⟨1, ⟨#[97]⟩, false, [120]⟩]
def gessoL : List It := [⟨-1, ⟨#[46, 103, 101, 115, 115, 111]⟩, false, []⟩]
theorem three_e : sortE threeL = 0 := by kernel_rfl
theorem three_t : sortT threeL = sortedL := by kernel_rfl
theorem three_p : tPath threeL 1 = [⟨#[100]⟩, ⟨#[97]⟩] := by kernel_rfl
theorem gesso_c : checkN gessoL = 15 := by kernel_rfl
theorem three_s : sameT sortedL threeL = true := by kernel_rfl
theorem three_wf : WfL threeL := by
  intro x hx
  simp only [threeL, List.mem_cons, List.not_mem_nil, or_false] at hx
  rcases hx with rfl | rfl | rfl <;> refine ⟨by decide, by decide, by decide, by decide, by decide⟩
theorem sorted_wf : WfL sortedL := by
  intro x hx
  simp only [sortedL, List.mem_cons, List.not_mem_nil, or_false] at hx
  rcases hx with rfl | rfl | rfl <;> refine ⟨by decide, by decide, by decide, by decide, by decide⟩
theorem gesso_wf : WfL gessoL := by
  intro x hx
  simp only [gessoL, List.mem_cons, List.not_mem_nil, or_false] at hx
  rcases hx with rfl; refine ⟨by decide, by decide, by decide, by decide, by decide⟩

theorem sorted_cells {W : World} {base g n c : Nat} {ok : Nat → Prop} (h : Kd.R kIt 41 W base ok (.slice (some ⟨g, 0, none⟩) n c) sortedL) :
    W.cell? ⟨g, 1, none⟩ = some (.string ⟨#[98]⟩) ∧ W.cell? ⟨g, 9, none⟩ = some (.string ⟨#[97]⟩) ∧ W.cell? ⟨g, 8, none⟩ = some (.int .i64 1) := by
  obtain ⟨cs, hM, hc⟩ := r_at h 0 (by decide)
  obtain ⟨v3, rfl, _⟩ := k41_openM hM
  obtain ⟨cs, hM2, hc2⟩ := r_at h 2 (by decide)
  obtain ⟨v3, rfl, _⟩ := k41_openM hM2
  exact ⟨(hc 1 _ rfl).1, (hc2 1 _ rfl).1, (hc2 0 _ rfl).1⟩

theorem same_da {w4 : World} {A4 : Option Addr} {c4 : Nat} {base : Nat} {ok : Nat → Prop} (h : Kd.R Kd.string 9 w4 base ok (.slice A4 2 c4) [⟨#[100]⟩, ⟨#[97]⟩]) :
    Calls Try.prog 12 #[.slice A4 2 c4, .slice (some ⟨w4.heap.size, 0, none⟩) 2 2] (w4.alloc (Obj.cells #[.string ⟨#[100]⟩, .string ⟨#[97]⟩] 9)) fun e w' => e = .returned (.bool true) ∧ Below w4.heap.size w4 w' := by
  have hb : Below w4.heap.size w4 (w4.alloc (Obj.cells #[.string ⟨#[100]⟩, .string ⟨#[97]⟩] 9)) := below_alloc (Below.refl _ _) _
  obtain ⟨_, hl, hc⟩ := Kd.R_reads' h
  refine (Same11_any [⟨#[100]⟩, ⟨#[97]⟩] [⟨#[100]⟩, ⟨#[97]⟩] (by decide) A4 (some ⟨w4.heap.size, 0, none⟩) c4 2 hl (Nat.le_refl _) _ (Kd.C_below hc hb) (lit_strs w4 _ [⟨#[100]⟩, ⟨#[97]⟩] (by decide) (fun j x hj => ?_))).mono ?_
  · match j, hj with
    | 0, hj => cases hj; rfl
    | 1, hj => cases hj; rfl
    | j + 2, hj => simp at hj
  · rintro e w' ⟨rfl, hd⟩
    exact ⟨by simp, hb.trans (hd.below.mono hb.size)⟩
theorem check_lit (w5 : World) :
    Calls Try.prog 10 #[.slice (some ⟨w5.heap.size, 0, none⟩) 1 1] (w5.alloc (Obj.cells #[.int .i64 (-1), .string ⟨#[46, 103, 101, 115, 115, 111]⟩, .bool false, .slice none 0 0] 41)) fun e w' => e = .returned (.int .i64 15) ∧ Below w5.heap.size w5 w' := by
  have hb : Below w5.heap.size w5 (w5.alloc (Obj.cells #[.int .i64 (-1), .string ⟨#[46, 103, 101, 115, 115, 111]⟩, .bool false, .slice none 0 0] 41)) := below_alloc (Below.refl _ _) _
  have h := check_any gessoL (some ⟨w5.heap.size, 0, none⟩) 1 _ (lit_items w5 1 #[.int .i64 (-1), .string ⟨#[46, 103, 101, 115, 115, 111]⟩, .bool false, .slice none 0 0] gessoL rfl (by decide) (fun j x hj => by
    match j, hj with
    | 0, hj => cases hj; exact ⟨rfl, rfl, rfl, rfl, rfl⟩
    | j + 1, hj => simp [gessoL] at hj)) gesso_wf
  rw [gesso_c] at h
  exact h.mono fun e w' he => ⟨he.1, hb.trans (he.2.mono hb.size)⟩

set_option maxRecDepth 100000 in
set_option maxHeartbeats 8000000 in
theorem awake14_any (w : World) : Calls Try.prog 9 #[] w fun e w' => e = .returned (.bool true) ∧ Below w.heap.size w w' := by
  have hu41 := Try.underlying41
  have hu22 := Try.underlying22
  have hS : ((sortedL.length : Int) == 3) = true := by decide
  have hS0 : (0 : Int) < (sortedL.length : Int) := by decide
  have hS2 : (2 : Int) < (sortedL.length : Int) := by decide
  go_enter Try.func9, Try.ntmps9
  go_wp2_with (first
    | (go_at_call 24; with_reducible refine (three_any w).mono ?_; rintro e w1 ⟨A1, c1, rfl, hl1, hr1, hb1⟩)
    | (go_at_call 19; with_reducible refine (Sort_any threeL A1 c1 hl1 w1 hr1 three_wf).mono ?_; rw [three_e, three_t]; rintro e w2 ⟨v2, rfl, hr2, hb2⟩; obtain ⟨g2, c2, rfl, _, _, _⟩ := Kd.R_form hr2 (by decide); have hb20 := hb1.trans (hb2.mono hb1.size); obtain ⟨x1, x2, x3⟩ := sorted_cells hr2)
    | (go_at_call 24; with_reducible refine (three_any w2).mono ?_; rintro e w3 ⟨A3, c3, rfl, hl3, hr3, hb3⟩; have hb30 := hb20.trans (hb3.mono hb20.size))
    | (go_at_call 13; with_reducible refine (Path_any threeL 1 A3 c3 hl3 w3 hr3 three_wf).mono ?_; rw [three_p]; rintro e w4 ⟨v4, rfl, hr4, hb4⟩; obtain ⟨A4, c4, rfl⟩ := Kd.R_slice hr4; have hb40 := hb30.trans (hb4.mono hb30.size))
    | (go_at_call 12; with_reducible refine (same_da hr4).mono ?_; rintro e w5 ⟨rfl, hb5⟩; have hb50 := hb40.trans (hb5.mono hb40.size))
    | (go_at_call 10; with_reducible refine (check_lit w5).mono ?_; rintro e w6 ⟨rfl, hb6⟩; have hb60 := hb50.trans (hb6.mono hb50.size))
    | (go_at_call 24; with_reducible refine (three_any w6).mono ?_; rintro e w7 ⟨A7, c7, rfl, hl7, hr7, hb7⟩; have hb70 := hb60.trans (hb7.mono hb60.size); have hb27 := ((hb3.trans (hb4.mono hb3.size)).trans ((hb5.mono (hb3.trans (hb4.mono hb3.size)).size))).trans ((hb6.mono ((hb3.trans (hb4.mono hb3.size)).trans ((hb5.mono (hb3.trans (hb4.mono hb3.size)).size))).size).trans (hb7.mono (((hb3.trans (hb4.mono hb3.size)).trans ((hb5.mono (hb3.trans (hb4.mono hb3.size)).size))).trans ((hb6.mono ((hb3.trans (hb4.mono hb3.size)).trans ((hb5.mono (hb3.trans (hb4.mono hb3.size)).size))).size))).size)))
    | (go_at_call 21; with_reducible refine (Same_any sortedL threeL (some ⟨g2, 0, none⟩) A7 c2 c7 (Kd.R_reads' hr2).2.1 hl7 w7 (Kd.R_reads' (Kd.R_below hr2 hb27)).2.2 hr7 sorted_wf three_wf).mono ?_; rw [three_s]; rintro e w8 ⟨rfl, hb8⟩; have hb80 := hb70.trans (hb8.mono hb70.size)))
  go_ret
  exact ⟨rfl, hb80⟩
end Go.Proofs.Ytlomehhlhbpanaa

/- The contracts of the reference's functions over items. -/
namespace Go.Proofs.Ytlomehhlhbpanaa
open Go.RowKit Go.Lib Go.Proofs.YtlomehhlhbpanaaW.PrintWords Go.Proofs.YtlomehhlhbpanaaW.PrintLast Go.Proofs.YtlomehhlhbpanaaW.PrintMore Go.Proofs.Ytlomehhlhbpanaa.Prt

theorem Light_any (L : List It) (A : Option Addr) (c : Nat) (hc : L.length ≤ c) (w : World) (hC : Kd.C kIt w A L.length L) :
    Calls Try.prog 8 #[.slice A L.length c, .int .i64 20000] w fun e w' => e = .returned (.bool (lightB L)) ∧ Below w.heap.size w w' := by
  obtain ⟨k, hk⟩ := (Light_ev L).rounds
  exact gessoref14_Light.calls k A c L 20000 _ w hC hc hk
theorem light_names {L : List It} (h : lightB L = true) : ∀ x ∈ L, x.f1.size ≤ 100000 := fun x hx => by
  have := ((light_facts h).2 x hx).1
  omega
theorem RCheck_any (L : List It) (hs : ∀ x ∈ L, x.f1.size ≤ 100000) (A : Option Addr) (c : Nat) (hc : L.length ≤ c) (w : World) (hC : Kd.C kIt w A L.length L) :
    Calls Try.prog 11 #[.slice A L.length c] w fun e w' => e = .returned (.int .i64 (checkN L)) ∧ Below w.heap.size w w' := by
  obtain ⟨k, hk⟩ := (Check_ev L hs).rounds
  exact gessoref14_Check.calls k A c L _ w hC hc hk
theorem RPath_any (L : List It) (hs : ∀ x ∈ L, x.f1.size ≤ 100000) (i : Int) (A : Option Addr) (c : Nat) (hc : L.length ≤ c) (w : World) (hC : Kd.C kIt w A L.length L) :
    Calls Try.prog 14 #[.slice A L.length c, .int .i64 i] w fun e w' => ∃ v, e = .returned v ∧ Kd.R Kd.string 9 w' w.heap.size (fun _ => True) v (tPath L i) ∧ Below w.heap.size w w' := by
  obtain ⟨k, hk⟩ := (Path_ev L hs i).rounds
  exact gessoref14_Path.calls k A c L i _ w hC hc hk
theorem RRes_any (s : ByteArray) (w : World) : Calls Try.prog 16 #[.string s] w fun e w' => e = .returned (.bool (resB s)) ∧ Drawn0 w w' := by
  refine gessoref14_Reserved.calls s (resB s) w ?_
  unfold gessoref14_Reserved.f resB
  by_cases h : s.toList = ([46, 103, 101, 115, 115, 111] : List UInt8)
  · rw [if_pos h, h]; rfl
  · rw [if_neg h, show (s.toList == ([46, 103, 101, 115, 115, 111] : List UInt8)) = false from by simpa using h, Bool.false_or]
theorem tPath_len (L : List It) (i : Int) : (tPath L i).length ≤ 64 := by
  unfold tPath
  by_cases h : i < 0 ∨ (L.length : Int) ≤ i ∨ checkN L = 14
  · rw [if_pos h]; simp
  · rw [if_neg h]
    have h1 : checkN L ≠ 14 := fun e => h (.inr (.inr e))
    obtain ⟨q1, _⟩ := check_ok h1
    obtain ⟨q, rfl⟩ : ∃ q : Nat, i = q := ⟨i.toNat, by omega⟩
    have := path_len L q
    omega
/-- Two paths that were made are compared. -/
theorem same_made {a b : List ByteArray} (ha : a.length ≤ 100000) {W w0 : World} {b0 b1 : Nat} {ok0 ok1 : Nat → Prop} {A B : Option Addr} {c d n m : Nat} (hA : Kd.R Kd.string 9 w0 b0 ok0 (.slice A n c) a) (hb : Below w0.heap.size w0 W) (hB : Kd.R Kd.string 9 W b1 ok1 (.slice B m d) b) :
    Calls Try.prog 12 #[.slice A n c, .slice B m d] W fun e w' => e = .returned (.bool (decide (a = b))) ∧ Below W.heap.size W w' := by
  obtain ⟨rfl, l1, r1⟩ := Kd.R_reads' (Kd.R_below hA hb)
  obtain ⟨rfl, l2, r2⟩ := Kd.R_reads' hB
  exact (Same11_any a b ha A B c d l1 l2 W r1 r2).mono fun e w' h => ⟨h.1, h.2.below⟩
end Go.Proofs.Ytlomehhlhbpanaa
