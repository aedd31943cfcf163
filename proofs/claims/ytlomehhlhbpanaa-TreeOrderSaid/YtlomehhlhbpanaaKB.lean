import Derived.Test.YtlomehhlhbpanaaKA
import Derived.Test.YtlomehhlhbpanaaT5
/- A pack of texts: TRef, TRef2, TRef3, TLight, TEq, TEqF, TCmp, TClos, TOrd, TLess. -/
/- The reference's answers, in plain words: gessoref14's Light, deep, one, Check, Path. -/
namespace Go.Proofs.Ytlomehhlhbpanaa
open Go.RowKit Go.Lib Go.Proofs.YtlomehhlhbpanaaW.PrintWords Go.Proofs.YtlomehhlhbpanaaW.PrintLast Go.Proofs.YtlomehhlhbpanaaW.PrintMore Go.Proofs.Ytlomehhlhbpanaa.Prt

theorem ev_step {α : Type} {g : Nat → Option α} {f : Nat → Option α} {r : α} (h : ∀ k, g (k + 1) = f k) (hf : Ev f r) : Ev g r := by
  obtain ⟨K, hK⟩ := hf
  refine ⟨K + 1, fun k hk => ?_⟩
  obtain ⟨k, rfl⟩ : ∃ q, k = q + 1 := ⟨k - 1, by omega⟩
  rw [h]; exact hK k (by omega)

/-! ### deep -/
theorem deep_ev {L : List It} : ∀ (t i : Nat) (n : Int), i ≤ t → i < L.length → 0 ≤ n → n + i ≤ 1000 → (∀ j : Nat, j ≤ i → parB L j = true) →
    Ev (fun k => gessoref14_deep.l0 k L i n) (n + dep L i - 1) := by
  intro t
  induction t with
  | zero =>
    intro i n h1 h2 h3 h4 hp
    obtain rfl : i = 0 := by omega
    obtain ⟨p1, p2⟩ := par_ok (hp 0 (Nat.le_refl _))
    have he : (itA L ((0 : Nat) : Int)).f0 = -1 := by omega
    rw [dep_one he]
    refine ⟨1, fun k hk => ?_⟩
    obtain ⟨k, rfl⟩ : ∃ q, k = q + 1 := ⟨k - 1, by omega⟩
    simp only [gessoref14_deep.l0]
    rw [if_pos (by omega), if_pos (by omega), if_neg (by show ¬ (itA L ((0 : Nat) : Int)).f0 ≥ 0; omega)]
    congr 1; omega
  | succ t ih =>
    intro i n h1 h2 h3 h4 hp
    obtain ⟨p1, p2⟩ := par_ok (hp i (Nat.le_refl _))
    by_cases he : (itA L (i : Int)).f0 = -1
    · rw [dep_one he]
      refine ⟨1, fun k hk => ?_⟩
      obtain ⟨k, rfl⟩ : ∃ q, k = q + 1 := ⟨k - 1, by omega⟩
      simp only [gessoref14_deep.l0]
      rw [if_pos (by omega), if_pos (by omega), if_neg (by show ¬ (itA L (i : Int)).f0 ≥ 0; omega)]
      congr 1; omega
    · obtain ⟨q, hq⟩ : ∃ q : Nat, (itA L (i : Int)).f0 = q := ⟨(itA L (i : Int)).f0.toNat, by omega⟩
      rw [dep_step hq (by omega) (fun j hj => hp j (by omega))]
      have h5 := ih q (n + 1) (by omega) (by omega) (by omega) (by omega) (fun j hj => hp j (by omega))
      refine ev_step (fun k => ?_) (by rw [show n + (dep L q + 1) - 1 = n + 1 + dep L q - 1 from by omega]; exact h5)
      simp only [gessoref14_deep.l0]
      rw [if_pos (by omega), if_pos (by omega), if_pos (by show (itA L (i : Int)).f0 ≥ 0; omega), wrap_id (by omega) (by omega), show (rd_T41 L (i : Int)).f0 = (q : Int) from hq]

/-! ### names -/
theorem toList_size (s : ByteArray) : s.toList.length = s.size := by
  rw [toList_data]; exact Array.length_toList
theorem bt_get {s : ByteArray} {i : Nat} (h : i < s.data.toList.length) : bt s (i : Int) = ((s.data.toList[i]'h).toNat : Int) := by
  have h2 : i < s.size := by rw [Array.length_toList] at h; exact h
  unfold bt
  rw [dif_pos (show (i : Int).toNat < s.size from h2)]
  rfl

theorem idx_neg {c : UInt8} : ∀ l : List UInt8, Lib.indexByte l c < 0 ↔ c ∉ l
  | [] => by simp [Lib.indexByte]
  | b :: l => by
    have ih := idx_neg (c := c) l
    have hge := Lib.indexByte_ge l c
    unfold Lib.indexByte
    by_cases h : b = c
    · subst h; simp
    · have h1 : (b == c) = false := by simpa using h
      rw [h1]
      by_cases h2 : Lib.indexByte l c = -1
      · rw [h2] at ih ⊢
        simp at ih ⊢
        exact ⟨fun e => h e.symm, ih⟩
      · have h3 : (Lib.indexByte l c == -1) = false := by simpa using h2
        rw [h3]
        have h4 : ¬ Lib.indexByte l c < 0 := by omega
        rw [ih] at h4
        have h5 : c ∈ l := Classical.not_not.1 h4
        simp only [Bool.false_eq_true, if_false]
        constructor
        · intro h6; omega
        · intro h6; exact absurd (List.mem_cons_of_mem _ h5) h6

/-- What gessoref13.Name tells. -/
def nmB (s : ByteArray) : Bool := decide (0 ∉ s.data.toList) && decide (47 ∉ s.data.toList) && decide (1 ≤ s.size) && decide (s.size ≤ 64)

theorem name_ev (s : ByteArray) (hs : s.size ≤ 100000) : ∀ (t i : Nat), s.size - i ≤ t → i ≤ s.size → (∀ j (h : j < s.data.toList.length), j < i → s.data.toList[j] ≠ 0 ∧ s.data.toList[j] ≠ 47) → Ev (fun k => gessoref13_Name.l0 k s i) (nmB s) := by
  have hsz : s.data.toList.length = s.size := Array.length_toList
  intro t
  induction t with
  | zero =>
    intro i h1 h2 h3
    obtain rfl : i = s.size := by omega
    have n0 : (0 : UInt8) ∉ s.data.toList := fun h => by
      obtain ⟨j, hj, e⟩ := List.mem_iff_getElem.1 h
      exact (h3 j hj (by omega)).1 e
    have n1 : (47 : UInt8) ∉ s.data.toList := fun h => by
      obtain ⟨j, hj, e⟩ := List.mem_iff_getElem.1 h
      exact (h3 j hj (by omega)).2 e
    refine ⟨1, fun k hk => ?_⟩
    obtain ⟨k, rfl⟩ : ∃ q, k = q + 1 := ⟨k - 1, by omega⟩
    simp only [gessoref13_Name.l0]
    rw [if_neg (by omega)]
    have e : nmB s = (decide (1 ≤ s.size) && decide (s.size ≤ 64)) := by
      simp only [nmB]
      rw [decide_eq_true n0, decide_eq_true n1]; rfl
    rw [e]
    by_cases h : (s.size : Int) ≥ 1
    · rw [if_pos h, decide_eq_true (by omega : 1 ≤ s.size), Bool.true_and]
      congr 1
      exact decide_eq_decide.2 (by omega)
    · rw [if_neg h, decide_eq_false (by omega : ¬ 1 ≤ s.size), Bool.false_and]
  | succ t ih =>
    intro i h1 h2 h3
    by_cases hi : i = s.size
    · exact ih i (by omega) h2 h3
    · have hlt : i < s.data.toList.length := by omega
      have hb := bt_get hlt
      by_cases c0 : s.data.toList[i] = 0
      · refine ⟨1, fun k hk => ?_⟩
        obtain ⟨k, rfl⟩ : ∃ q, k = q + 1 := ⟨k - 1, by omega⟩
        simp only [gessoref13_Name.l0]
        rw [if_pos (by omega), if_pos (by omega), hb, c0, if_pos (by decide)]
        have : (0 : UInt8) ∈ s.data.toList := c0 ▸ List.getElem_mem hlt
        simp only [nmB]
        rw [decide_eq_false (by simpa using this)]; rfl
      · by_cases c1 : s.data.toList[i] = 47
        · refine ⟨1, fun k hk => ?_⟩
          obtain ⟨k, rfl⟩ : ∃ q, k = q + 1 := ⟨k - 1, by omega⟩
          simp only [gessoref13_Name.l0]
          rw [if_pos (by omega), if_pos (by omega), hb, c1, if_neg (by decide), if_pos (by decide)]
          have : (47 : UInt8) ∈ s.data.toList := c1 ▸ List.getElem_mem hlt
          simp only [nmB]
          rw [decide_eq_false (p := 47 ∉ s.data.toList) (by simpa using this)]; simp
        · refine ev_step (fun k => ?_) (ih (i + 1) (by omega) (by omega) (fun j hj hji => ?_))
          · simp only [gessoref13_Name.l0]
            have z0 : ¬ (((s.data.toList[i]).toNat : Int) = 0) := by
              intro h
              have h' : (s.data.toList[i]).toNat = 0 := by omega
              exact c0 (UInt8.toNat_inj.1 h')
            have z1 : ¬ (((s.data.toList[i]).toNat : Int) = 47) := by
              intro h
              have h' : (s.data.toList[i]).toNat = 47 := by omega
              exact c1 (UInt8.toNat_inj.1 h')
            rw [if_pos (by omega), if_pos (by omega), hb, if_neg z0, if_neg z1, wrap_id (by omega) (by omega)]
            rfl
          · by_cases e : j = i
            · subst e; exact ⟨c0, c1⟩
            · exact h3 j hj (by omega)
theorem Name_ev (s : ByteArray) (hs : s.size ≤ 100000) : Ev (fun k => gessoref13_Name.f k s) (nmB s) :=
  name_ev s hs s.size 0 (by omega) (by omega) (fun j _ hj => absurd hj (by omega))
theorem nameB_nm (s : ByteArray) : nameB s = (nmB s && decide (s.size ≤ 48)) := by
  have h1 := idx_neg (c := 0) s.data.toList
  have h2 := idx_neg (c := 47) s.data.toList
  have h3 : (s.toList == []) = decide (s.size = 0) := by
    rw [Bool.eq_iff_iff, beq_iff_eq, decide_eq_true_eq, ← toList_size, List.length_eq_zero_iff]
  rw [Bool.eq_iff_iff]
  simp only [nameB, nmB, h3, Bool.and_eq_true, decide_eq_true_eq, Bool.not_eq_true', decide_eq_false_iff_not, h1, h2]
  generalize s.size = n
  constructor
  · rintro ⟨⟨⟨a, b⟩, c⟩, d⟩; exact ⟨⟨⟨⟨c, d⟩, by omega⟩, by omega⟩, b⟩
  · rintro ⟨⟨⟨⟨c, d⟩, e⟩, f⟩, b⟩; exact ⟨⟨⟨by omega, b⟩, c⟩, d⟩
end Go.Proofs.Ytlomehhlhbpanaa

/- The reference's one and Check. -/
namespace Go.Proofs.Ytlomehhlhbpanaa
open Go.RowKit Go.Lib Go.Proofs.YtlomehhlhbpanaaW.PrintWords Go.Proofs.YtlomehhlhbpanaaW.PrintLast Go.Proofs.YtlomehhlhbpanaaW.PrintMore Go.Proofs.Ytlomehhlhbpanaa.Prt

theorem dup_mono {L : List It} {m i : Nat} (h : m ≤ i) {p : Int} {s : ByteArray} (hd : dupB L m p s = true) : dupB L i p s = true := by
  unfold dupB at hd ⊢
  rw [List.any_eq_true] at hd ⊢
  obtain ⟨x, hx, hp⟩ := hd
  refine ⟨x, ?_, hp⟩
  have : L.take m = (L.take i).take m := by rw [List.take_take, Nat.min_eq_left h]
  rw [this] at hx
  exact List.mem_of_mem_take hx

theorem dup_ev {L : List It} {i : Nat} (hi : i < L.length) (hL : L.length ≤ 64) (p : Int) (s : ByteArray) (b : Bool) (ds : List Int) : ∀ (t m : Nat), i - m ≤ t → m ≤ i → dupB L m p s = false →
    Ev (fun k => gessoref14_one.l0 k L i m p s b ds) (!dupB L i p s) := by
  intro t
  induction t with
  | zero =>
    intro m h1 h2 h3
    obtain rfl : m = i := by omega
    refine ⟨1, fun k hk => ?_⟩
    obtain ⟨k, rfl⟩ : ∃ q, k = q + 1 := ⟨k - 1, by omega⟩
    simp only [gessoref14_one.l0]
    rw [if_neg (by omega), h3]; rfl
  | succ t ih =>
    intro m h1 h2 h3
    by_cases hm : m = i
    · exact ih m (by omega) h2 h3
    · have hst := dup_step (L := L) (i := m) (by omega) p s
      rw [h3, Bool.false_or] at hst
      by_cases c : (itA L (m : Int)).f0 = p ∧ (itA L (m : Int)).f1.toList = s.toList
      · have hd : dupB L i p s = true := dup_mono (m := m + 1) (by omega) (by rw [hst, decide_eq_true c.1, c.2]; simp)
        refine ⟨1, fun k hk => ?_⟩
        obtain ⟨k, rfl⟩ : ∃ q, k = q + 1 := ⟨k - 1, by omega⟩
        simp only [gessoref14_one.l0]
        rw [if_pos (by omega), if_pos (by omega), if_pos (by omega), if_pos c.1, if_pos c.2, hd]; rfl
      · have hd : dupB L (m + 1) p s = false := by
          rw [hst, ← Bool.not_eq_true, Bool.and_eq_true, decide_eq_true_eq, beq_iff_eq]; exact c
        refine ev_step (fun k => ?_) (ih (m + 1) (by omega) (by omega) hd)
        simp only [gessoref14_one.l0]
        rw [if_pos (by omega), if_pos (by omega), if_pos (by omega), wrap_id (by omega) (by omega)]
        by_cases c1 : (itA L (m : Int)).f0 = p
        · rw [if_pos c1, if_neg (fun c2 => c ⟨c1, c2⟩)]; rfl
        · rw [if_neg c1]; rfl

theorem one_j1 {L : List It} {i : Nat} (hi : i < L.length) (hL : L.length ≤ 64) (b : Bool) (p : Int) (s : ByteArray) (d : Bool) (ds : List Int) : Ev (fun k => gessoref14_one.j1 k L i b p s d ds) (!b && !dupB L i p s) := by
  cases b with
  | true =>
    refine ⟨1, fun k hk => ?_⟩
    obtain ⟨k, rfl⟩ : ∃ q, k = q + 1 := ⟨k - 1, by omega⟩
    simp only [gessoref14_one.j1]; rfl
  | false =>
    refine ev_step (fun k => ?_) (dup_ev hi hL p s d ds i 0 (by omega) (by omega) (by simp [dupB]))
    simp only [gessoref14_one.j1]; rfl

theorem one_j0 {L : List It} {i : Nat} (hi : i < L.length) (hL : L.length ≤ 64) (hp : ∀ j : Nat, j ≤ i → parB L j = true) (b : Bool) (p : Int) (s : ByteArray) (d : Bool) (ds : List Int) (hs : s.size ≤ 100000) :
    Ev (fun k => gessoref14_one.j0 k L i b p s d ds) (!b && (nmB s && decide (s.size ≤ 48) && (decide (ds.length = 0) || (!d && decide (ds.length ≤ 8192))) && decide (dep L i ≤ 8) && !dupB L i p s)) := by
  cases b with
  | true =>
    refine ⟨1, fun k hk => ?_⟩
    obtain ⟨k, rfl⟩ : ∃ q, k = q + 1 := ⟨k - 1, by omega⟩
    simp only [gessoref14_one.j0]; rfl
  | false =>
    obtain ⟨K1, hK1⟩ := Name_ev s hs
    obtain ⟨K2, hK2⟩ := deep_ev (L := L) i i 1 (Nat.le_refl _) hi (by omega) (by omega) hp
    obtain ⟨K3, hK3⟩ := one_j1 hi hL true p s d ds
    obtain ⟨K4, hK4⟩ := one_j1 hi hL (decide (dep L i > 8)) p s d ds
    refine ⟨K1 + K2 + K3 + K4 + 1, fun k hk => ?_⟩
    obtain ⟨k, rfl⟩ : ∃ q, k = q + 1 := ⟨k - 1, by omega⟩
    have e1 : gessoref13_Name.f k s = some (nmB s) := hK1 k (by omega)
    have e2 : gessoref14_deep.f k L i = some (dep L i) := by
      have : gessoref14_deep.l0 k L i 1 = some (1 + dep L i - 1) := hK2 k (by omega)
      unfold gessoref14_deep.f
      rw [this]; congr 1; omega
    have e3 : gessoref14_one.j1 k L i true p s d ds = some false := by
      have : gessoref14_one.j1 k L i true p s d ds = _ := hK3 k (by omega)
      rw [this]; rfl
    have e4 : gessoref14_one.j1 k L i (decide (dep L i > 8)) p s d ds = some (!decide (dep L i > 8) && !dupB L i p s) := hK4 k (by omega)
    simp only [gessoref14_one.j0, e1, e2, Option.bind_some, e3, e4]
    have hg : (!decide (dep L i > 8)) = decide (dep L i ≤ 8) := by
      rw [Bool.eq_iff_iff]; simp
    rw [hg]
    cases nmB s with
    | false => rfl
    | true =>
      rw [if_neg (by decide), if_pos rfl]
      by_cases c1 : (s.size : Int) > 48
      · rw [if_pos c1, decide_eq_false (by omega : ¬ s.size ≤ 48)]; rfl
      · rw [if_neg c1, decide_eq_true (by omega : s.size ≤ 48)]
        cases d with
        | true =>
          rw [if_pos rfl]
          by_cases c2 : (ds.length : Int) > 0
          · rw [if_pos c2, decide_eq_false (by omega : ¬ ds.length = 0)]; rfl
          · rw [if_neg c2, if_neg (by omega), decide_eq_true (by omega : ds.length = 0)]; simp
        | false =>
          rw [if_neg (by decide)]
          by_cases c2 : (ds.length : Int) > 8192
          · rw [if_pos c2, decide_eq_false (by omega : ¬ ds.length = 0), decide_eq_false (by omega : ¬ ds.length ≤ 8192)]; rfl
          · rw [if_neg c2, decide_eq_true (by omega : ds.length ≤ 8192)]; simp

theorem one_j0t (L : List It) (i : Nat) (p : Int) (s : ByteArray) (d : Bool) (ds : List Int) : Ev (fun k => gessoref14_one.j0 k L i true p s d ds) false := by
  refine ⟨1, fun k hk => ?_⟩
  obtain ⟨k, rfl⟩ : ∃ q, k = q + 1 := ⟨k - 1, by omega⟩
  simp only [gessoref14_one.j0]; rfl

theorem one_ev {L : List It} {i : Nat} (hi : i < L.length) (hL : L.length ≤ 64) (hp : ∀ j : Nat, j < i → parB L j = true) (hs : (itA L i).f1.size ≤ 100000) :
    Ev (fun k => gessoref14_one.f k L i) (okAtB L i && rightB (itA L i)) := by
  have bad : parB L i = false → okAtB L i = false := fun h => by simp only [okAtB, h]; rfl
  have good : parB L i = true → Ev (fun k => gessoref14_one.j0 k L i false (itA L i).f0 (itA L i).f1 (itA L i).f2 (itA L i).f3) (okAtB L i && rightB (itA L i)) := fun h => by
    have h1 := one_j0 hi hL (fun j hj => by
      by_cases e : j = i
      · subst e; exact h
      · exact hp j (by omega)) false (itA L i).f0 (itA L i).f1 (itA L i).f2 (itA L i).f3 hs
    rw [show (okAtB L i && rightB (itA L i)) = (!false && (nmB (itA L i).f1 && decide ((itA L i).f1.size ≤ 48) && (decide ((itA L i).f3.length = 0) || (!(itA L i).f2 && decide ((itA L i).f3.length ≤ 8192))) && decide (dep L i ≤ 8) && !dupB L i (itA L i).f0 (itA L i).f1)) from by
      simp only [okAtB, rightB, nameB_nm, h]
      generalize nmB (itA L i).f1 = b1
      generalize decide ((itA L i).f1.size ≤ 48) = b2
      generalize (decide ((itA L i).f3.length = 0) || (!(itA L i).f2 && decide ((itA L i).f3.length ≤ 8192))) = b3
      generalize decide (dep L i ≤ 8) = b4
      generalize dupB L i (itA L i).f0 (itA L i).f1 = b5
      cases b1 <;> cases b2 <;> cases b3 <;> cases b4 <;> cases b5 <;> rfl]
    exact h1
  have iz : (0 : Int) ≤ (i : Int) := by omega
  have il : (i : Int) < (L.length : Int) := by omega
  by_cases c1 : (itA L i).f0 < -1
  · have hb : parB L i = false := by
      rw [← Bool.not_eq_true]; intro h; have := par_ok h; omega
    rw [bad hb, Bool.false_and]
    refine Ev.congr (fun k => ?_) (one_j0t L i (itA L i).f0 (itA L i).f1 (itA L i).f2 (itA L i).f3)
    unfold gessoref14_one.f
    rw [if_pos iz, if_pos il, if_pos c1]
  · by_cases c2 : (itA L i).f0 ≥ i
    · have hb : parB L i = false := by
        rw [← Bool.not_eq_true]; intro h; have := par_ok h; omega
      rw [bad hb, Bool.false_and]
      refine Ev.congr (fun k => ?_) (one_j0t L i (itA L i).f0 (itA L i).f1 (itA L i).f2 (itA L i).f3)
      unfold gessoref14_one.f
      rw [if_pos iz, if_pos il, if_neg c1, if_pos c2]
    · by_cases c3 : (itA L i).f0 ≥ 0
      · cases hd : (itA L (itA L i).f0).f2 with
        | false =>
          have hb : parB L i = false := by
            simp only [parB]
            rw [show (itA L (itA L (i : Int)).f0).f2 = false from hd, decide_eq_false (by omega : ¬ (itA L (i : Int)).f0 = -1)]; simp
          rw [bad hb, Bool.false_and]
          refine Ev.congr (fun k => ?_) (one_j0t L i (itA L i).f0 (itA L i).f1 (itA L i).f2 (itA L i).f3)
          unfold gessoref14_one.f
          rw [if_pos iz, if_pos il, if_neg c1, if_neg c2, if_pos c3, if_pos c3, if_pos (by show (itA L (i : Int)).f0 < _; omega), show (rd_T41 L (rd_T41 L (i : Int)).f0).f2 = false from hd]; rfl
        | true =>
          have hb : parB L i = true := by
            simp only [parB]
            rw [show (itA L (itA L (i : Int)).f0).f2 = true from hd, decide_eq_true (by omega), decide_eq_true (by omega)]; simp
          refine Ev.congr (fun k => ?_) (good hb)
          unfold gessoref14_one.f
          rw [if_pos iz, if_pos il, if_neg c1, if_neg c2, if_pos c3, if_pos c3, if_pos (by show (itA L (i : Int)).f0 < _; omega), show (rd_T41 L (rd_T41 L (i : Int)).f0).f2 = true from hd]; rfl
      · have hb : parB L i = true := by
          simp only [parB]
          rw [decide_eq_true (by omega), decide_eq_true (by omega), decide_eq_true (by omega)]; rfl
        refine Ev.congr (fun k => ?_) (good hb)
        unfold gessoref14_one.f
        rw [if_pos iz, if_pos il, if_neg c1, if_neg c2, if_neg c3]

/-! ### Check -/
theorem res_f (s : ByteArray) : gessoref14_Reserved.f s = some (resB s) := by
  unfold gessoref14_Reserved.f resB
  by_cases h : s.toList = ([46, 103, 101, 115, 115, 111] : List UInt8)
  · rw [if_pos h, h]; rfl
  · rw [if_neg h, show (s.toList == ([46, 103, 101, 115, 115, 111] : List UInt8)) = false from by simpa using h]; rfl

theorem chk_ev {L : List It} (hL : L.length ≤ 64) (hs : ∀ x ∈ L, x.f1.size ≤ 100000) : ∀ (t i : Nat), L.length - i ≤ t → i ≤ L.length → (∀ j, j < i → (okAtB L j && rightB (itA L j)) = true) →
    Ev (fun k => gessoref14_Check.l0 k L ((L.take i).any fun x => resB x.f1) i) (checkN L) := by
  have fin : ∀ b : Bool, (L.any fun x => resB x.f1) = b → (∀ j, j < L.length → (okAtB L j && rightB (itA L j)) = true) → checkN L = if b = true then 15 else 0 := fun b hb h => by
    have h1 : depB L = true := depB_true fun j hj => (Bool.and_eq_true_iff.1 (h j hj)).1
    have h2 : L.any (fun x => !rightB x) = false := by
      rw [List.any_eq_false]
      intro x hx
      obtain ⟨j, hj, rfl⟩ := List.mem_iff_getElem.1 hx
      have := (Bool.and_eq_true_iff.1 (h j hj)).2
      rw [itA_get hj] at this
      rw [this]; simp
    unfold checkN
    rw [if_neg (by omega), h1, h2, hb]; rfl
  intro t
  induction t with
  | zero =>
    intro i h1 h2 h3
    obtain rfl : i = L.length := by omega
    rw [List.take_length]
    refine ⟨1, fun k hk => ?_⟩
    obtain ⟨k, rfl⟩ : ∃ q, k = q + 1 := ⟨k - 1, by omega⟩
    simp only [gessoref14_Check.l0]
    rw [if_neg (by omega), fin _ rfl h3]
    by_cases h : (L.any fun x => resB x.f1) = true
    · rw [if_pos h, if_pos h]
    · rw [if_neg h, if_neg h]
  | succ t ih =>
    intro i h1 h2 h3
    by_cases hi : i = L.length
    · exact ih i (by omega) h2 h3
    · have hlt : i < L.length := by omega
      have ho := one_ev hlt hL (fun j hj => okAt_par (Bool.and_eq_true_iff.1 (h3 j hj)).1) (by rw [itA_get hlt]; exact hs _ (List.getElem_mem hlt))
      obtain ⟨K, hK⟩ := ho
      cases hb : (okAtB L i && rightB (itA L i)) with
      | false =>
        have hc : checkN L = 14 := by
          unfold checkN
          rw [if_neg (by omega)]
          rw [if_pos]
          rw [Bool.and_eq_false_iff] at hb
          rcases hb with hb | hb
          · rw [depB_false hlt hb]; rfl
          · rw [Bool.or_eq_true]; right
            rw [List.any_eq_true]
            refine ⟨L[i], List.getElem_mem hlt, ?_⟩
            rw [← itA_get hlt, hb]; rfl
        refine ⟨K + 1, fun k hk => ?_⟩
        obtain ⟨k, rfl⟩ : ∃ q, k = q + 1 := ⟨k - 1, by omega⟩
        have e : gessoref14_one.f k L i = some false := by rw [← hb]; exact hK k (by omega)
        simp only [gessoref14_Check.l0, e, Option.bind_some]
        rw [if_pos (by omega), if_neg (by decide), hc]
      | true =>
        obtain ⟨K2, hK2⟩ := ih (i + 1) (by omega) (by omega) (fun j hj => by
          by_cases e : j = i
          · subst e; exact hb
          · exact h3 j (by omega))
        refine ⟨K + K2 + 1, fun k hk => ?_⟩
        obtain ⟨k, rfl⟩ : ∃ q, k = q + 1 := ⟨k - 1, by omega⟩
        have e : gessoref14_one.f k L i = some true := by rw [← hb]; exact hK k (by omega)
        have e2 : gessoref14_Check.l0 k L ((L.take (i + 1)).any fun x => resB x.f1) ((i + 1 : Nat) : Int) = some (checkN L) := hK2 k (by omega)
        rw [List.take_succ_eq_append_getElem hlt, List.any_append] at e2
        simp only [gessoref14_Check.l0, e, Option.bind_some, res_f]
        rw [if_pos (by omega), if_pos trivial, if_pos (by omega : (0:Int) ≤ (i:Int)), wrap_id (by omega) (by omega), show (rd_T41 L (i : Int)) = L[i] from itA_get hlt, show (i : Int) + 1 = ((i + 1 : Nat) : Int) from by omega]
        cases hr : (L.take i).any fun x => resB x.f1 with
        | true =>
          rw [hr] at e2
          rw [if_pos rfl, ← e2]; rfl
        | false =>
          rw [hr] at e2
          rw [if_neg (by decide), ← e2]
          simp
theorem Check_ev (L : List It) (hs : ∀ x ∈ L, x.f1.size ≤ 100000) : Ev (fun k => gessoref14_Check.f k L) (checkN L) := by
  unfold gessoref14_Check.f
  by_cases h : (L.length : Int) > 64
  · rw [show checkN L = 14 from by unfold checkN; rw [if_pos (by omega)]]
    refine ⟨0, fun k _ => ?_⟩
    show (if (L.length : Int) > 64 then some 14 else _) = _
    rw [if_pos h]
  · refine Ev.congr (fun k => ?_) (chk_ev (L := L) (by omega) hs L.length 0 (by omega) (by omega) (fun j hj => absurd hj (by omega)))
    rw [if_neg h]; rfl
end Go.Proofs.Ytlomehhlhbpanaa

/- The reference's Path, gessoref11.Same, Light. -/
namespace Go.Proofs.Ytlomehhlhbpanaa
open Go.RowKit Go.Lib Go.Proofs.YtlomehhlhbpanaaW.PrintWords Go.Proofs.YtlomehhlhbpanaaW.PrintLast Go.Proofs.YtlomehhlhbpanaaW.PrintMore Go.Proofs.Ytlomehhlhbpanaa.Prt

theorem rpath_ev {L : List It} : ∀ (t : Nat) (i : Int) (acc : List ByteArray), -1 ≤ i → i < L.length → (i + 1).toNat ≤ t → acc.length + t ≤ 1000 → (∀ j : Nat, (j : Int) ≤ i → parB L j = true) →
    Ev (fun k => gessoref14_Path.l0 k L i acc) ((upF (i + 1).toNat L i).reverse ++ acc) := by
  intro t
  induction t with
  | zero =>
    intro i acc h1 h2 h3 h4 hp
    obtain rfl : i = -1 := by omega
    refine ⟨1, fun k hk => ?_⟩
    obtain ⟨k, rfl⟩ : ∃ q, k = q + 1 := ⟨k - 1, by omega⟩
    simp only [gessoref14_Path.l0]
    simp [upF]
  | succ t ih =>
    intro i acc h1 h2 h3 h4 hp
    by_cases hi : i = -1
    · exact ih i acc h1 h2 (by omega) (by omega) hp
    · obtain ⟨q, rfl⟩ : ∃ q : Nat, i = q := ⟨i.toNat, by omega⟩
      obtain ⟨p1, p2⟩ := par_ok (hp q (by omega))
      have h5 := ih (itA L (q : Int)).f0 ([(itA L (q : Int)).f1] ++ acc) p1 (by omega) (by omega) (by simp; omega) (fun j hj => hp j (by omega))
      rw [up_step (fun j hj => hp j (by omega)), List.reverse_cons, List.append_assoc]
      refine ev_step (fun k => ?_) h5
      simp only [gessoref14_Path.l0, Option.bind_some]
      rw [if_pos (by omega), if_pos (by omega), if_pos h2, if_pos (by simp; omega)]

theorem Path_ev (L : List It) (hs : ∀ x ∈ L, x.f1.size ≤ 100000) (i : Int) : Ev (fun k => gessoref14_Path.f k L i) (tPath L i) := by
  have hj : Ev (fun k => gessoref14_Path.j0 k L i true) [] := by
    refine ⟨1, fun k hk => ?_⟩
    obtain ⟨k, rfl⟩ : ∃ q, k = q + 1 := ⟨k - 1, by omega⟩
    simp only [gessoref14_Path.j0]; rfl
  unfold gessoref14_Path.f
  by_cases h1 : i < 0
  · rw [show tPath L i = [] from by unfold tPath; rw [if_pos (.inl h1)]]
    refine Ev.congr (fun k => ?_) hj
    rw [if_pos h1]
  · by_cases h2 : i ≥ (L.length : Int)
    · rw [show tPath L i = [] from by unfold tPath; rw [if_pos (.inr (.inl h2))]]
      refine Ev.congr (fun k => ?_) hj
      rw [if_neg h1, if_pos h2]
    · obtain ⟨K, hK⟩ := Check_ev L hs
      by_cases h3 : checkN L = 14
      · rw [show tPath L i = [] from by unfold tPath; rw [if_pos (.inr (.inr h3))]]
        obtain ⟨K2, hK2⟩ := hj
        refine ⟨K + K2, fun k hk => ?_⟩
        have e : gessoref14_Check.f k L = some (checkN L) := hK k (by omega)
        have e2 : gessoref14_Path.j0 k L i true = some [] := hK2 k (by omega)
        show (if i < 0 then _ else if i ≥ (L.length : Int) then _ else (gessoref14_Check.f k L).bind _) = _
        rw [if_neg h1, if_neg h2, e, Option.bind_some, h3]
        exact e2
      · rw [show tPath L i = pathN L i from by unfold tPath; rw [if_neg (by rintro (h | h | h) <;> omega)]]
        obtain ⟨q1, q2, _⟩ := check_ok h3
        have hp : ∀ j : Nat, (j : Int) ≤ i → parB L j = true := fun j hj => by
          simp only [depB, List.all_eq_true, List.mem_range] at q2
          exact okAt_par (q2 j (by omega))
        obtain ⟨K2, hK2⟩ := rpath_ev (L := L) (i + 1).toNat i [] (by omega) (by omega) (Nat.le_refl _) (by simp; omega) hp
        refine ⟨K + K2 + 1, fun k hk => ?_⟩
        obtain ⟨k, rfl⟩ : ∃ q, k = q + 1 := ⟨k - 1, by omega⟩
        have e : gessoref14_Check.f (k + 1) L = some (checkN L) := hK (k + 1) (by omega)
        have e2 : gessoref14_Path.l0 k L i [] = some ((upF (i + 1).toNat L i).reverse ++ []) := hK2 k (by omega)
        show (if i < 0 then _ else if i ≥ (L.length : Int) then _ else (gessoref14_Check.f (k + 1) L).bind _) = _
        rw [if_neg h1, if_neg h2, e, Option.bind_some, show (checkN L == 14) = false from by simpa using h3]
        simp only [gessoref14_Path.j0]
        rw [if_neg (by decide), e2, List.append_nil]; rfl

/-! ### gessoref11.Same -/
theorem rsame_ev (a b : List ByteArray) (hl : a.length = b.length) (hb : a.length ≤ 100000) : ∀ (t i : Nat), a.length - i ≤ t → i ≤ a.length → a.take i = b.take i → Ev (fun k => gessoref11_Same.l0 k a b i) (decide (a = b)) := by
  intro t
  induction t with
  | zero =>
    intro i h1 h2 h3
    obtain rfl : i = a.length := by omega
    rw [List.take_length, hl, List.take_length] at h3
    refine ⟨1, fun k hk => ?_⟩
    obtain ⟨k, rfl⟩ : ∃ q, k = q + 1 := ⟨k - 1, by omega⟩
    simp only [gessoref11_Same.l0]
    rw [if_neg (by omega), decide_eq_true h3]
  | succ t ih =>
    intro i h1 h2 h3
    by_cases hi : i = a.length
    · exact ih i (by omega) h2 h3
    · have ha : i < a.length := by omega
      have hb2 : i < b.length := by omega
      have ea : rdOf ByteArray.empty a (i : Int) = a[i] := by simp [rdOf, List.getD_eq_getElem?_getD, ha]
      have eb : rdOf ByteArray.empty b (i : Int) = b[i] := by simp [rdOf, List.getD_eq_getElem?_getD, hb2]
      by_cases c : a[i].toList = b[i].toList
      · have e := data_inj c
        refine ev_step (fun k => ?_) (ih (i + 1) (by omega) (by omega) (by rw [List.take_succ_eq_append_getElem ha, List.take_succ_eq_append_getElem hb2, h3, e]))
        simp only [gessoref11_Same.l0]
        rw [if_pos (by omega), if_pos (by omega), if_pos (by omega), ea, eb, if_pos c, wrap_id (by omega) (by omega)]; rfl
      · refine ⟨1, fun k hk => ?_⟩
        obtain ⟨k, rfl⟩ : ∃ q, k = q + 1 := ⟨k - 1, by omega⟩
        simp only [gessoref11_Same.l0]
        rw [if_pos (by omega), if_pos (by omega), if_pos (by omega), ea, eb, if_neg c, decide_eq_false]
        intro h; subst h; exact c rfl
theorem Same11_ev (a b : List ByteArray) (hb : a.length ≤ 100000) : Ev (fun k => gessoref11_Same.f k a b) (decide (a = b)) := by
  unfold gessoref11_Same.f
  by_cases h : (a.length : Int) = (b.length : Int)
  · refine Ev.congr (fun k => ?_) (rsame_ev a b (by omega) hb a.length 0 (by omega) (by omega) rfl)
    rw [if_pos h]; rfl
  · refine ⟨0, fun k _ => ?_⟩
    show (if (a.length : Int) = (b.length : Int) then _ else some false) = _
    rw [if_neg h, decide_eq_false]
    intro e; subst e; exact h rfl
end Go.Proofs.Ytlomehhlhbpanaa

/- The reference's Light. -/
namespace Go.Proofs.Ytlomehhlhbpanaa
open Go.RowKit Go.Lib Go.Proofs.YtlomehhlhbpanaaW.PrintWords Go.Proofs.YtlomehhlhbpanaaW.PrintLast Go.Proofs.YtlomehhlhbpanaaW.PrintMore Go.Proofs.Ytlomehhlhbpanaa.Prt

def wtIt (x : It) : Nat := min x.f3.length 20001 + min x.f1.size 20001
def wtL (L : List It) : Nat := (L.map wtIt).sum
def lightB (L : List It) : Bool := decide (L.length ≤ 70) && decide (wtL L ≤ 20000)

theorem wt_take {L : List It} {i : Nat} (h : i < L.length) : wtL (L.take (i + 1)) = wtL (L.take i) + wtIt L[i] := by
  unfold wtL
  rw [List.take_succ_eq_append_getElem h, List.map_append, List.sum_append]; simp
theorem wt_le (x : It) : wtIt x ≤ 40002 := by unfold wtIt; omega
theorem wtL_le : ∀ (L : List It), wtL L ≤ L.length * 40002
  | [] => by simp [wtL]
  | x :: L => by
    have h1 := wtL_le L
    have h2 := wt_le x
    unfold wtL at h1 ⊢
    rw [List.map_cons, List.sum_cons, List.length_cons]; omega
theorem wt_mem {L : List It} {x : It} (h : x ∈ L) : wtIt x ≤ wtL L := by
  induction L with
  | nil => cases h
  | cons y L ih =>
    unfold wtL at ih ⊢
    rw [List.map_cons, List.sum_cons]
    rcases List.mem_cons.1 h with rfl | h
    · omega
    · have := ih h; omega
theorem light_facts {L : List It} (h : lightB L = true) : L.length ≤ 70 ∧ ∀ x ∈ L, x.f1.size ≤ 20000 ∧ x.f3.length ≤ 20000 := by
  simp only [lightB, Bool.and_eq_true, decide_eq_true_eq] at h
  refine ⟨h.1, fun x hx => ?_⟩
  have h1 := wt_mem hx
  have h2 : wtIt x ≤ 20000 := by omega
  unfold wtIt at h2
  generalize x.f1.size = a at *
  constructor <;> omega

theorem ev_step' {α : Type} {g : Nat → Option α} {f : Nat → Option α} {r : α} (h : ∀ k, g (k + 1) = f k) (hf : Ev f r) : Ev g r := by
  obtain ⟨K, hK⟩ := hf
  refine ⟨K + 1, fun k hk => ?_⟩
  obtain ⟨k, rfl⟩ : ∃ q, k = q + 1 := ⟨k - 1, by omega⟩
  rw [h]; exact hK k (by omega)

theorem light_ev {L : List It} (hL : L.length ≤ 70) : ∀ (t i : Nat), L.length - i ≤ t → i ≤ L.length → Ev (fun k => gessoref14_Light.l0 k L 20000 (wtL (L.take i) : Int) i) (decide (wtL L ≤ 20000)) := by
  intro t
  induction t with
  | zero =>
    intro i h1 h2
    obtain rfl : i = L.length := by omega
    rw [List.take_length]
    refine ⟨1, fun k hk => ?_⟩
    obtain ⟨k, rfl⟩ : ∃ q, k = q + 1 := ⟨k - 1, by omega⟩
    simp only [gessoref14_Light.l0]
    rw [if_neg (by omega)]
    congr 1
    exact decide_eq_decide.2 (by omega)
  | succ t ih =>
    intro i h1 h2
    by_cases hi : i = L.length
    · exact ih i (by omega) h2
    · have hlt : i < L.length := by omega
      refine ev_step' (fun k => ?_) (ih (i + 1) (by omega) (by omega))
      have hb := wtL_le (L.take i)
      have hbl : (L.take i).length ≤ 70 := by rw [List.length_take]; omega
      have hb2 : wtL (L.take i) ≤ 2800140 := by omega
      simp only [gessoref14_Light.l0]
      rw [if_pos (by omega), if_pos (by omega), show (rd_T41 L (i : Int)) = L[i] from itA_get hlt, wt_take hlt]
      have e1 : wrap64 ((20000 : Int) + 1) = 20001 := wrap_id (by omega) (by omega)
      rw [e1, wrap_id (x := (i : Int) + 1) (by omega) (by omega)]
      unfold wtIt
      generalize L[i].f3.length = a
      generalize L[i].f1.size = b
      generalize wtL (L.take i) = s at *
      have m1 : mn (a : Int) 20001 = ((min a 20001 : Nat) : Int) := by unfold mn; omega
      have m2 : mn (b : Int) 20001 = ((min b 20001 : Nat) : Int) := by unfold mn; omega
      rw [m1, m2]
      rw [wrap_id (x := (s : Int) + ((min a 20001 : Nat) : Int)) (by omega) (by omega)]
      rw [wrap_id (by omega) (by omega)]
      congr 1 <;> omega
theorem Light_ev (L : List It) : Ev (fun k => gessoref14_Light.f k L 20000) (lightB L) := by
  unfold gessoref14_Light.f
  by_cases h : (L.length : Int) > 70
  · refine ⟨0, fun k _ => ?_⟩
    show (if (L.length : Int) > 70 then some false else _) = _
    rw [if_pos h]; simp only [lightB]; rw [decide_eq_false (by omega)]; rfl
  · have := light_ev (L := L) (by omega) L.length 0 (by omega) (by omega)
    rw [show lightB L = decide (wtL L ≤ 20000) from by simp only [lightB]; rw [decide_eq_true (by omega), Bool.true_and]]
    refine Ev.congr (fun k => ?_) this
    rw [if_neg h]; rfl
end Go.Proofs.Ytlomehhlhbpanaa

/- slices.Equal of bytes, the closure of tree.Same, slices.EqualFunc. -/
namespace Go.Proofs.Ytlomehhlhbpanaa
open Go.RowKit Go.Lib Go.Proofs.YtlomehhlhbpanaaW.PrintWords Go.Proofs.YtlomehhlhbpanaaW.PrintLast Go.Proofs.YtlomehhlhbpanaaW.PrintMore Go.Proofs.Ytlomehhlhbpanaa.Prt

theorem rd_get {l : List Int} {i : Nat} (h : i < l.length) : rd l (i : Int) = l[i] := by
  simp [rd, List.getD_eq_getElem?_getD, h]

set_option maxRecDepth 100000 in
set_option maxHeartbeats 8000000 in
theorem eqb_any (a b : List Int) (A B : Option Addr) (c d : Nat) (w : World) (hA : (Kd.int .u8).C w A a.length a) (hB : (Kd.int .u8).C w B b.length b) :
    Calls Try.prog 38 #[.slice A a.length c, .slice B b.length d] w fun e w' => e = .returned (.bool (decide (a = b))) ∧ Drawn0 w w' := by
  have HA := Aside0.mk hA
  have HB := Aside0.mk hB
  have la := hA.2.1
  have lb := hB.2.1
  clear hA hB
  by_cases hne : a.length = b.length
  · have hz : ((a.length : Int) != (b.length : Int)) = false := by simp [hne]
    go_enter Try.func38, Try.ntmps38
    have HN := Aside0.mk hne
    clear hne
    go_wp2
    go_loopg [13] a.length (fun gg v13 wr => ∃ i : Nat, i ≤ a.length ∧ a.length - i ≤ gg ∧ v13 = .int .i64 i ∧ Aside0 (Drawn0 w wr) ∧ Aside0 (a.take i = b.take i))
    case atStart => exact ⟨0, Nat.zero_le _, by omega, rfl, ⟨Drawn0.refl _⟩, ⟨rfl⟩⟩
    case round =>
      obtain ⟨i, hi, hg, rfl, HD, HE⟩ := hrel
      by_cases hlt : i < a.length
      · have hltz : (i : Int) < (a.length : Int) := by omega
        have hbl : i < b.length := by have := HN.out; omega
        have hblz : (i : Int) < (b.length : Int) := by omega
        obtain ⟨ad, rfl, h0⟩ := Kd.at_int (Kd.C_below HA.out HD.out.below) (i : Int) (by omega) hltz
        obtain ⟨ad2, rfl, h1⟩ := Kd.at_int (Kd.C_below HB.out HD.out.below) (i : Int) (by omega) hblz
        rw [Int.toNat_natCast, rd_get hlt] at h0
        rw [Int.toNat_natCast, rd_get hbl] at h1
        by_cases hxy : a[i] = b[i]
        · have HE2 : Aside0 (a.take (i + 1) = b.take (i + 1)) := ⟨by rw [List.take_succ_eq_append_getElem hlt, List.take_succ_eq_append_getElem hbl, HE.out, hxy]⟩
          rw [← hxy] at h1
          clear hxy
          go_wp2
          go_quiet (fail)
          go_wp2
          go_roundg (a.length - (i + 1))
          case measure => omega
          case rel => exact ⟨i + 1, by omega, by omega, by go_num, ⟨by repeat (first | exact HD.out | apply Drawn0.step)⟩, HE2⟩
        · have hr : decide (a = b) = false := decide_eq_false (fun e => by subst e; exact hxy rfl)
          have hxz : (a[i] != b[i]) = true := by simpa using hxy
          generalize a[i] = x at *
          generalize b[i] = y at *
          go_wp2
          go_quiet (fail)
          go_wp2
          go_ret
          first | exact ⟨rfl, by repeat (first | exact HD.out | apply Drawn0.step)⟩ | (rw [hr]; exact ⟨rfl, by repeat (first | exact HD.out | apply Drawn0.step)⟩)
      · have hltz : ¬ (i : Int) < (a.length : Int) := by omega
        have hr : decide (a = b) = true := decide_eq_true (by
          have h := HE.out
          have h2 := HN.out
          rw [List.take_of_length_le (by omega), List.take_of_length_le (by omega)] at h
          exact h)
        go_wp2
        go_ret
        first | exact ⟨rfl, HD.out⟩ | (rw [hr]; exact ⟨rfl, HD.out⟩)
  · have hz : ((a.length : Int) != (b.length : Int)) = true := by rw [bne_iff_ne]; omega
    have hr : decide (a = b) = false := decide_eq_false (fun e => hne (by rw [e]))
    go_enter Try.func38, Try.ntmps38
    go_wp2
    go_ret
    first | exact ⟨rfl, Drawn0.refl _⟩ | (rw [hr]; exact ⟨rfl, Drawn0.refl _⟩)

def eqIt (x y : It) : Bool := decide (x.f0 = y.f0) && (x.f1.toList == y.f1.toList) && (x.f2 == y.f2) && decide (x.f3 = y.f3)

set_option maxRecDepth 100000 in
set_option maxHeartbeats 8000000 in
theorem same1_any (x y : It) (A B : Option Addr) (c d : Nat) (w W : World) (hb : Below w.heap.size w W) (hA : (Kd.int .u8).C W A x.f3.length x.f3) (hB : (Kd.int .u8).C W B y.f3.length y.f3) :
    Calls Try.prog 37 #[.agg (cellsIt x A c), .agg (cellsIt y B d)] W fun e w' => e = .returned (.bool (eqIt x y)) ∧ Below w.heap.size w w' := by
  have hu41 := Try.underlying41
  have HA := Aside0.mk hA
  have HB := Aside0.mk hB
  have hb2 := below_then hb hb.size (below_alloc (below_alloc (Below.refl W.heap.size W) (Obj.cells (cellsIt x A c) 41)) (Obj.cells (cellsIt y B d) 41))
  have hb3 := below_alloc (below_alloc (Below.refl W.heap.size W) (Obj.cells (cellsIt x A c) 41)) (Obj.cells (cellsIt y B d) 41)
  clear hA hB
  unfold cellsIt at *
  have HB2 := Aside0.mk hb2
  have HB3 := Aside0.mk hb3
  clear hb2 hb3
  obtain ⟨p, nm, dr, dt⟩ := x
  obtain ⟨q, mm, er, et⟩ := y
  simp only at HA HB HB2 HB3 ⊢
  by_cases c0 : p = q
  · subst c0
    by_cases c1 : nm = mm
    · subst c1
      by_cases c2 : dr = er
      · subst c2
        have hr : eqIt ⟨p, nm, dr, dt⟩ ⟨p, nm, dr, et⟩ = decide (dt = et) := by simp [eqIt]
        rw [hr]
        go_enter Try.func37, Try.ntmps37
        go_wp2_with (go_at_call 38; refine (eqb_any dt et A B c d _ (Kd.C_below HA.out HB3.out) (Kd.C_below HB.out HB3.out)).mono ?_; rintro e w1 ⟨rfl, hd⟩)
        go_ret
        exact ⟨rfl, below_step HB2.out hd.below⟩
      · have c2b : (dr == er) = false := by simpa using c2
        have hr : eqIt ⟨p, nm, dr, dt⟩ ⟨p, nm, er, et⟩ = false := by simp only [eqIt, c2b]; simp
        go_enter Try.func37, Try.ntmps37
        go_wp2
        go_ret
        first | exact ⟨rfl, HB2.out⟩ | (rw [hr]; exact ⟨rfl, HB2.out⟩)
    · have c1b : (nm.toList == mm.toList) = false := by
        rw [beq_eq_false_iff_ne]; exact fun h => c1 (data_inj h)
      have hr : eqIt ⟨p, nm, dr, dt⟩ ⟨p, mm, er, et⟩ = false := by simp only [eqIt, c1b]; simp
      clear c1
      go_enter Try.func37, Try.ntmps37
      go_wp2
      go_ret
      first | exact ⟨rfl, HB2.out⟩ | (rw [hr]; exact ⟨rfl, HB2.out⟩)
  · have c0b : (p == q) = false := by simpa using c0
    have hr : eqIt ⟨p, nm, dr, dt⟩ ⟨q, mm, er, et⟩ = false := by simp only [eqIt, decide_eq_false c0]; simp
    go_enter Try.func37, Try.ntmps37
    go_wp2
    go_ret
    first | exact ⟨rfl, HB2.out⟩ | (rw [hr]; exact ⟨rfl, HB2.out⟩)
end Go.Proofs.Ytlomehhlhbpanaa

/- slices.EqualFunc over items, with the closure of tree.Same. -/
namespace Go.Proofs.Ytlomehhlhbpanaa
open Go.RowKit Go.Lib Go.Proofs.YtlomehhlhbpanaaW.PrintWords Go.Proofs.YtlomehhlhbpanaaW.PrintLast Go.Proofs.YtlomehhlhbpanaaW.PrintMore Go.Proofs.Ytlomehhlhbpanaa.Prt

def eqL (L M : List It) : Bool := decide (L.length = M.length) && (List.range L.length).all fun i => eqIt (itA L i) (itA M i)

set_option maxRecDepth 100000 in
set_option maxHeartbeats 8000000 in
theorem eqf_any (L M : List It) (A B : Option Addr) (c d : Nat) (w : World) (hA : Kd.C kIt w A L.length L) (hB : Kd.C kIt w B M.length M) :
    Calls Try.prog 36 #[.slice A L.length c, .slice B M.length d, .func (.func 37) #[] #[]] w fun e w' => e = .returned (.bool (eqL L M)) ∧ Below w.heap.size w w' := by
  have hu41 := Try.underlying41
  have HA := Aside0.mk hA
  have HB := Aside0.mk hB
  have la := hA.2.1
  have lb := hB.2.1
  clear hA hB
  by_cases hne : L.length = M.length
  · have hz : ((L.length : Int) != (M.length : Int)) = false := by simp [hne]
    have HN := Aside0.mk hne
    clear hne
    go_enter Try.func36, Try.ntmps36
    go_wp2
    go_loopg [17] L.length (fun gg v17 wr => ∃ i : Nat, i ≤ L.length ∧ L.length - i ≤ gg ∧ v17 = .int .i64 i ∧ Aside0 (Below w.heap.size w wr) ∧ Aside0 (∀ j : Nat, j < i → eqIt (itA L j) (itA M j) = true))
    case atStart => exact ⟨0, Nat.zero_le _, by omega, rfl, ⟨Below.refl _ _⟩, ⟨fun j hj => absurd hj (by omega)⟩⟩
    case round =>
      obtain ⟨i, hi, hg, rfl, HD, HE⟩ := hrel
      by_cases hlt : i < L.length
      · have hltz : (i : Int) < (L.length : Int) := by omega
        have hbl : i < M.length := by have := HN.out; omega
        have hblz : (i : Int) < (M.length : Int) := by omega
        obtain ⟨ad, A3, c3, rfl, x0, x1, x2, x3, _, g3⟩ := at_T41 (Kd.C_below HA.out HD.out) (i : Int) (by omega) hltz
        have HX1 := below_alloc (Below.refl wr.heap.size wr) (Obj.cells (cellsIt (itA L i) A3 c3) 41)
        obtain ⟨ad2, B3, d3, rfl, y0, y1, y2, y3, _, k3⟩ := at_T41 (Kd.C_below HB.out (below_then HD.out HD.out.size HX1)) (i : Int) (by omega) hblz
        rw [Int.toNat_natCast] at x0 x1 x2 x3 y0 y1 y2 y3
        have HG := Aside0.mk g3
        have HK := Aside0.mk k3
        clear g3 k3
        have hE : ∀ q, eqIt (itA L i) (itA M i) = q → q = true → Aside0 (∀ j : Nat, j < i + 1 → eqIt (itA L j) (itA M j) = true) := fun q h1 h2 => ⟨fun j hj => by
          by_cases e : j = i
          · subst e; rw [h1, h2]
          · exact HE.out j (by omega)⟩
        have hF : eqIt (itA L i) (itA M i) = false → eqL L M = false := fun h => by
          simp only [eqL]
          rw [Bool.and_eq_false_iff]; right
          rw [← Bool.not_eq_true, List.all_eq_true]
          intro hh
          have := hh i (List.mem_range.2 hlt)
          rw [h] at this; cases this
        obtain ⟨x, hx⟩ : ∃ x, itA L (i : Int) = x := ⟨_, rfl⟩
        obtain ⟨y, hy⟩ : ∃ y, itA M (i : Int) = y := ⟨_, rfl⟩
        rw [hx, hy] at hE hF
        rw [hx] at HX1
        rw [show rd_T41 L (i : Int) = x from hx] at x0 x1 x2 x3 HG
        rw [show rd_T41 M (i : Int) = y from hy] at y0 y1 y2 y3 HK
        rw [hx] at y0 y1 y2 y3 HK
        clear hx hy
        have HB2 := below_alloc (Below.refl (wr.alloc (Obj.cells (cellsIt x A3 c3) 41)).heap.size (wr.alloc (Obj.cells (cellsIt x A3 c3) 41))) (Obj.cells (cellsIt y B3 d3) 41)
        have HBB := below_step HX1 HB2
        have HBW := below_then HD.out HD.out.size HBB
        have hcall := same1_any x y A3 B3 c3 d3 w _ HBW (Kd.C_below HG.out HBB) (Kd.C_below HK.out HB2)
        clear HBB HBW HX1 HB2
        unfold cellsIt at y0 y1 y2 y3
        unfold cellsIt at hcall
        cases hq : eqIt x y with
        | true =>
          have HE2 := hE _ hq rfl
          rw [hq] at hcall
          clear hF hE
          go_wp2_with (go_at_call 37; refine hcall.mono ?_; rintro e w1 ⟨rfl, hb1⟩)
          go_roundg (L.length - (i + 1))
          case measure => omega
          case rel => exact ⟨i + 1, by omega, by omega, by go_num, ⟨hb1⟩, HE2⟩
        | false =>
          have hr := hF hq
          rw [hq] at hcall
          clear hF hE
          go_wp2_with (go_at_call 37; refine hcall.mono ?_; rintro e w1 ⟨rfl, hb1⟩)
          go_ret
          first | exact ⟨rfl, hb1⟩ | (rw [hr]; exact ⟨rfl, hb1⟩)
      · have hltz : ¬ (i : Int) < (L.length : Int) := by omega
        have hr : eqL L M = true := by
          simp only [eqL]
          rw [decide_eq_true HN.out, Bool.true_and, List.all_eq_true]
          intro j hj
          exact HE.out j (by have := List.mem_range.1 hj; omega)
        go_wp2
        go_ret
        first | exact ⟨rfl, HD.out⟩ | (rw [hr]; exact ⟨rfl, HD.out⟩)
  · have hz : ((L.length : Int) != (M.length : Int)) = true := by rw [bne_iff_ne]; omega
    have hr : eqL L M = false := by simp only [eqL, decide_eq_false hne]; rfl
    go_enter Try.func36, Try.ntmps36
    go_wp2
    go_ret
    first | exact ⟨rfl, Below.refl _ _⟩ | (rw [hr]; exact ⟨rfl, Below.refl _ _⟩)
end Go.Proofs.Ytlomehhlhbpanaa

/- cmp.Compare over strings, slices.Compare over lists of strings. -/
namespace Go.Proofs.Ytlomehhlhbpanaa
open Go.RowKit Go.Lib Go.Proofs.YtlomehhlhbpanaaW.PrintWords Go.Proofs.YtlomehhlhbpanaaW.PrintLast Go.Proofs.YtlomehhlhbpanaaW.PrintMore Go.Proofs.Ytlomehhlhbpanaa.Prt

def ltS (s t : ByteArray) : Bool := Op.bytesLess s.toList t.toList
def cmpS (s t : ByteArray) : Int := if ltS s t then -1 else if s.toList == t.toList then 0 else 1
def cmpL : List ByteArray → List ByteArray → Int
  | [], [] => 0
  | [], _ :: _ => -1
  | _ :: _, [] => 1
  | a :: l, b :: m => if cmpS a b = 0 then cmpL l m else cmpS a b

theorem gtr_s (t : TypeId) (a b : ByteArray) : binOp .gtr t (.string a) (.string b) = pure (.bool !(Op.bytesLess a.toList b.toList || a.toList == b.toList)) := by simp [binOp, Op.stringOp]
attribute [local go_sem] gtr_s

set_option maxRecDepth 100000 in
set_option maxHeartbeats 8000000 in
theorem nan_any (s : ByteArray) (w : World) : Calls Try.prog 58 #[.string s] w fun e w' => e = .returned (.bool false) ∧ w' = w := by
  go_enter Try.func58, Try.ntmps58
  go_wp2
  go_ret
  exact ⟨rfl, rfl⟩

set_option maxRecDepth 100000 in
set_option maxHeartbeats 8000000 in
theorem cmpc_any (s t : ByteArray) (w : World) : Calls Try.prog 46 #[.string s, .string t] w fun e w' => e = .returned (.int .i64 (cmpS s t)) ∧ w' = w := by
  cases h1 : Op.bytesLess s.toList t.toList with
  | true =>
    have hr : cmpS s t = -1 := by simp only [cmpS, ltS, h1]; rfl
    go_enter Try.func46, Try.ntmps46
    go_wp2_with (go_at_call 58; refine (nan_any _ _).mono ?_; rintro e w1 ⟨rfl, rfl⟩)
    go_ret
    rw [hr]; exact ⟨rfl, rfl⟩
  | false =>
    cases h2 : (s.toList == t.toList) with
    | true =>
      have hr : cmpS s t = 0 := by simp only [cmpS, ltS, h1, h2]; rfl
      go_enter Try.func46, Try.ntmps46
      go_wp2_with (go_at_call 58; refine (nan_any _ _).mono ?_; rintro e w1 ⟨rfl, rfl⟩)
      go_ret
      rw [hr]; exact ⟨rfl, rfl⟩
    | false =>
      have hr : cmpS s t = 1 := by simp only [cmpS, ltS, h1, h2]; rfl
      go_enter Try.func46, Try.ntmps46
      go_wp2_with (go_at_call 58; refine (nan_any _ _).mono ?_; rintro e w1 ⟨rfl, rfl⟩)
      go_ret
      rw [hr]; exact ⟨rfl, rfl⟩

theorem rdOf_get {l : List ByteArray} {i : Nat} (h : i < l.length) : rdOf ByteArray.empty l (i : Int) = l[i] := by
  simp [rdOf, List.getD_eq_getElem?_getD, h]
theorem cmpL_drop {a b : List ByteArray} {i : Nat} (h1 : i < a.length) (h2 : i < b.length) : cmpL (a.drop i) (b.drop i) = if cmpS a[i] b[i] = 0 then cmpL (a.drop (i + 1)) (b.drop (i + 1)) else cmpS a[i] b[i] := by
  rw [List.drop_eq_getElem_cons h1, List.drop_eq_getElem_cons h2, cmpL]

set_option maxRecDepth 100000 in
set_option maxHeartbeats 8000000 in
theorem cmpl_any (a b : List ByteArray) (A B : Option Addr) (c d : Nat) (w : World) (hA : Kd.C Kd.string w A a.length a) (hB : Kd.C Kd.string w B b.length b) :
    Calls Try.prog 35 #[.slice A a.length c, .slice B b.length d] w fun e w' => e = .returned (.int .i64 (cmpL a b)) ∧ Drawn0 w w' := by
  have HA := Aside0.mk hA
  have HB := Aside0.mk hB
  have la := hA.2.1
  have lb := hB.2.1
  clear hA hB
  go_enter Try.func35, Try.ntmps35
  go_wp2
  go_loopg [11] a.length (fun gg v11 wr => ∃ i : Nat, i ≤ a.length ∧ a.length - i ≤ gg ∧ v11 = .int .i64 i ∧ Aside0 (i ≤ b.length) ∧ Aside0 (Drawn0 w wr) ∧ Aside0 (cmpL a b = cmpL (a.drop i) (b.drop i)))
  case atStart => exact ⟨0, Nat.zero_le _, by omega, rfl, ⟨Nat.zero_le _⟩, ⟨Drawn0.refl _⟩, ⟨rfl⟩⟩
  case round =>
    obtain ⟨i, hi, hg, rfl, HI, HD, HE⟩ := hrel
    by_cases hlt : i < a.length
    · have hltz : (i : Int) < (a.length : Int) := by omega
      obtain ⟨ad, rfl, h0⟩ := Kd.at_string (Kd.C_below HA.out HD.out.below) (i : Int) (by omega) hltz
      rw [Int.toNat_natCast, rdOf_get hlt] at h0
      by_cases hbl : i < b.length
      · have hblz : ¬ (b.length : Int) ≤ (i : Int) := by omega
        have hblz2 : (i : Int) < (b.length : Int) := by omega
        obtain ⟨ad2, rfl, h1⟩ := Kd.at_string (Kd.C_below HB.out HD.out.below) (i : Int) (by omega) hblz2
        rw [Int.toNat_natCast, rdOf_get hbl] at h1
        have hE := HE.out
        rw [cmpL_drop hlt hbl] at hE
        generalize hx : a[i] = x at *
        generalize hy : b[i] = y at *
        by_cases hz : cmpS x y = 0
        · rw [if_pos hz] at hE
          have HE2 := Aside0.mk hE
          clear hE HE hx hy
          go_wp2_with (go_at_call 46; refine (cmpc_any _ _ _).mono ?_; rintro e w1 ⟨rfl, rfl⟩; rw [hz])
          go_roundg (a.length - (i + 1))
          case measure => omega
          case rel => exact ⟨i + 1, by omega, by omega, by go_num, ⟨by omega⟩, HD, HE2⟩
        · rw [if_neg hz] at hE
          have HE2 := Aside0.mk hE
          have hz2 : (cmpS x y != 0) = true := by simpa using hz
          clear hE HE hx hy
          go_wp2_with (go_at_call 46; refine (cmpc_any _ _ _).mono ?_; rintro e w1 ⟨rfl, rfl⟩; rw [show (cmpS x y) = cmpS x y from rfl])
          go_ret
          first | exact ⟨rfl, HD.out⟩ | (rw [HE2.out]; exact ⟨rfl, HD.out⟩)
      · have hblz : (b.length : Int) ≤ (i : Int) := by omega
        have hib : i = b.length := by have := HI.out; omega
        have hr : cmpL a b = 1 := by
          rw [HE.out, List.drop_eq_getElem_cons hlt, List.drop_eq_nil_of_le (by omega : b.length ≤ i), cmpL]
        clear hib
        go_wp2
        go_ret
        first | exact ⟨rfl, HD.out⟩ | (rw [hr]; exact ⟨rfl, HD.out⟩)
    · have hltz : ¬ (i : Int) < (a.length : Int) := by omega
      have hia : i = a.length := by omega
      by_cases hbl : (a.length : Int) < (b.length : Int)
      · have hr : cmpL a b = -1 := by
          rw [HE.out, List.drop_eq_nil_of_le (by omega : a.length ≤ i), List.drop_eq_getElem_cons (by omega : i < b.length), cmpL]
        go_wp2
        go_ret
        first | exact ⟨rfl, HD.out⟩ | (rw [hr]; exact ⟨rfl, HD.out⟩)
      · have hr : cmpL a b = 0 := by
          have := HI.out
          rw [HE.out, List.drop_eq_nil_of_le (by omega : a.length ≤ i), List.drop_eq_nil_of_le (by omega : b.length ≤ i), cmpL]
        go_wp2
        go_ret
        first | exact ⟨rfl, HD.out⟩ | (rw [hr]; exact ⟨rfl, HD.out⟩)
end Go.Proofs.Ytlomehhlhbpanaa

/- The closure that tree.Sort hands to slices.SortFunc. -/
namespace Go.Proofs.Ytlomehhlhbpanaa
open Go.RowKit Go.Lib Go.Proofs.YtlomehhlhbpanaaW.PrintWords Go.Proofs.YtlomehhlhbpanaaW.PrintLast Go.Proofs.YtlomehhlhbpanaaW.PrintMore Go.Proofs.Ytlomehhlhbpanaa.Prt

abbrev kPs : Kd (List ByteArray) := Kd.slice 9 Kd.string

theorem cmpl_q (a b : List ByteArray) (A B : Option Addr) (c d : Nat) (w : World) (hA : Kd.C Kd.string w A a.length a) (hB : Kd.C Kd.string w B b.length b) :
    Calls Try.prog 35 #[.slice A a.length c, .slice B b.length d] w fun e w' => e = .returned (.int .i64 (cmpL a b)) ∧ ∃ m, w' = w.drewN m :=
  (cmpl_any a b A B c d w hA hB).mono fun _ _ h => ⟨h.1, h.2.out⟩

set_option maxRecDepth 100000 in
set_option maxHeartbeats 8000000 in
theorem clos_any (Ps : List (List ByteArray)) (pb : Nat) (A : Option Addr) (c : Nat) (a b : Nat) (ha : a < Ps.length) (hb : b < Ps.length) (W : World)
    (hp : W.cell? ⟨pb, 0, none⟩ = some (.slice A Ps.length c)) (hC : Kd.C kPs W A Ps.length Ps) :
    Calls Try.prog 34 #[.int .i64 a, .int .i64 b, .pointer (some ⟨pb, 0, none⟩)] W fun e w' => e = .returned (.int .i64 (cmpL (Ps.getD a []) (Ps.getD b []))) ∧ Drawn0 W w' := by
  have h1 := Kd.C_get hC ([] : List ByteArray) (a : Int) (by omega) (by omega)
  have h2 := Kd.C_get hC ([] : List ByteArray) (b : Int) (by omega) (by omega)
  obtain ⟨ad, c1, rfl, _, hK1, hc1⟩ := h1
  obtain ⟨ad2, c2, e2, _, hK2, hc2⟩ := h2
  cases e2
  obtain ⟨A1, d1, rfl, l1, g1⟩ := hK1
  obtain ⟨A2, d2, rfl, l2, g2⟩ := hK2
  have x1 := hc1 0 _ rfl
  have x2 := hc2 0 _ rfl
  rw [Int.toNat_natCast] at x1 x2 g1 g2
  rw [show a * kPs.sz + 0 = a from by show a * 1 + 0 = a; omega] at x1
  rw [show b * kPs.sz + 0 = b from by show b * 1 + 0 = b; omega] at x2
  have hal : (a : Int) < (Ps.length : Int) := by omega
  have hbl : (b : Int) < (Ps.length : Int) := by omega
  have HG1 := Aside0.mk g1
  have HG2 := Aside0.mk g2
  clear hC hc1 hc2 g1 g2 l1 l2
  generalize Ps.getD a [] = p at *
  generalize Ps.getD b [] = q at *
  go_enter Try.func34, Try.ntmps34
  go_wp2
  go_quiet ((go_at_call 35; exact Calls.quiet_of (cmpl_q p q A1 A2 d1 d2 _ (Kd.C_below HG1.out (Drawn0.below ⟨⟨_, rfl⟩⟩)) (Kd.C_below HG2.out (Drawn0.below ⟨⟨_, rfl⟩⟩)))))
  go_wp2
  go_ret
  exact ⟨rfl, ⟨⟨_, rfl⟩⟩⟩
end Go.Proofs.Ytlomehhlhbpanaa

/- slices.Compare over lists of strings is a strict total order. -/
namespace Go.Proofs.Ytlomehhlhbpanaa
open Go.RowKit Go.Lib

theorem bl_irr : ∀ x : List UInt8, Op.bytesLess x x = false
  | [] => rfl
  | a :: x => by
    have ih := bl_irr x
    simp [Op.bytesLess, ih]
theorem bl_tri : ∀ x y : List UInt8, Op.bytesLess x y = false → x ≠ y → Op.bytesLess y x = true
  | [], [], _, h => absurd rfl h
  | [], b :: y, h, _ => by simp [Op.bytesLess] at h
  | a :: x, [], _, _ => by simp [Op.bytesLess]
  | a :: x, b :: y, h, hne => by
    simp only [Op.bytesLess, Bool.or_eq_false_iff, decide_eq_false_iff_not, Bool.and_eq_false_iff, beq_eq_false_iff_ne] at h
    simp only [Op.bytesLess, Bool.or_eq_true, decide_eq_true_eq, Bool.and_eq_true, beq_iff_eq]
    obtain ⟨h1, h2⟩ := h
    by_cases e : a = b
    · subst e
      right
      refine ⟨rfl, bl_tri x y ?_ (fun e => hne (by rw [e]))⟩
      rcases h2 with h2 | h2
      · exact absurd rfl h2
      · exact h2
    · left
      have h3 : ¬ a.toNat = b.toNat := fun h => e (UInt8.toNat_inj.1 h)
      rw [UInt8.lt_iff_toNat_lt] at h1 ⊢
      omega
theorem bl_trans : ∀ x y z : List UInt8, Op.bytesLess x y = true → Op.bytesLess y z = true → Op.bytesLess x z = true
  | [], [], z, h, _ => by simp [Op.bytesLess] at h
  | [], b :: y, [], _, h => by simp [Op.bytesLess] at h
  | [], b :: y, c :: z, _, _ => by simp [Op.bytesLess]
  | a :: x, [], z, h, _ => by simp [Op.bytesLess] at h
  | a :: x, b :: y, [], _, h => by simp [Op.bytesLess] at h
  | a :: x, b :: y, c :: z, h1, h2 => by
    simp only [Op.bytesLess, Bool.or_eq_true, decide_eq_true_eq, Bool.and_eq_true, beq_iff_eq] at h1 h2 ⊢
    rcases h1 with h1 | ⟨rfl, h1⟩
    · rcases h2 with h2 | ⟨rfl, h2⟩
      · left; rw [UInt8.lt_iff_toNat_lt] at *; omega
      · left; exact h1
    · rcases h2 with h2 | ⟨rfl, h2⟩
      · left; exact h2
      · right; exact ⟨rfl, bl_trans x y z h1 h2⟩

theorem str_inj {a b : ByteArray} (h : a.toList = b.toList) : a = b := by
  rw [toList_data, toList_data] at h
  exact ByteArray.ext (Array.toList_inj.1 h)
theorem cmpS_zero {s t : ByteArray} : cmpS s t = 0 ↔ s = t := by
  unfold cmpS ltS
  constructor
  · intro h
    cases h1 : Op.bytesLess s.toList t.toList with
    | true => rw [h1] at h; simp at h
    | false =>
      rw [h1] at h
      by_cases h2 : s.toList = t.toList
      · exact str_inj h2
      · rw [show (s.toList == t.toList) = false from by simpa using h2] at h; simp at h
  · rintro rfl
    rw [bl_irr]; simp
theorem cmpS_neg {s t : ByteArray} : cmpS s t < 0 ↔ Op.bytesLess s.toList t.toList = true := by
  unfold cmpS ltS
  cases h1 : Op.bytesLess s.toList t.toList with
  | true => simp
  | false =>
    by_cases h2 : s.toList = t.toList
    · rw [h2]; simp
    · rw [show (s.toList == t.toList) = false from by simpa using h2]; simp

theorem cmpL_refl : ∀ a : List ByteArray, cmpL a a = 0
  | [] => rfl
  | x :: a => by rw [cmpL, if_pos (cmpS_zero.2 rfl)]; exact cmpL_refl a
theorem cmpL_zero : ∀ a b : List ByteArray, cmpL a b = 0 → a = b
  | [], [], _ => rfl
  | [], _ :: _, h => by simp [cmpL] at h
  | _ :: _, [], h => by simp [cmpL] at h
  | x :: a, y :: b, h => by
    rw [cmpL] at h
    by_cases e : cmpS x y = 0
    · rw [if_pos e] at h
      rw [cmpS_zero.1 e, cmpL_zero a b h]
    · rw [if_neg e] at h; exact absurd h e
theorem cmpL_tri : ∀ a b : List ByteArray, ¬ cmpL a b < 0 → a ≠ b → cmpL b a < 0
  | [], [], _, h => absurd rfl h
  | [], _ :: _, h, _ => by simp [cmpL] at h
  | _ :: _, [], _, _ => by simp [cmpL]
  | x :: a, y :: b, h, hne => by
    rw [cmpL] at h ⊢
    by_cases e : cmpS x y = 0
    · rw [if_pos e] at h
      have exy := cmpS_zero.1 e
      subst exy
      rw [if_pos e]
      exact cmpL_tri a b h (fun e2 => hne (by rw [e2]))
    · rw [if_neg e] at h
      have hxy : x ≠ y := fun h => e (cmpS_zero.2 h)
      rw [if_neg (fun h => hxy (cmpS_zero.1 h).symm)]
      rw [cmpS_neg] at h ⊢
      exact bl_tri _ _ (by simpa using h) (fun h2 => hxy (str_inj h2))
theorem cmpL_trans : ∀ a b c : List ByteArray, cmpL a b < 0 → cmpL b c < 0 → cmpL a c < 0
  | [], [], _, h, _ => by simp [cmpL] at h
  | [], _ :: _, [], _, h => by simp [cmpL] at h
  | [], _ :: _, _ :: _, _, _ => by simp [cmpL]
  | _ :: _, [], _, h, _ => by simp [cmpL] at h
  | _ :: _, _ :: _, [], _, h => by simp [cmpL] at h
  | x :: a, y :: b, z :: c, h1, h2 => by
    rw [cmpL] at h1 h2 ⊢
    by_cases e1 : cmpS x y = 0
    · have := cmpS_zero.1 e1
      subst this
      rw [if_pos e1] at h1
      by_cases e2 : cmpS x z = 0
      · rw [if_pos e2] at h2 ⊢; exact cmpL_trans a b c h1 h2
      · rw [if_neg e2] at h2 ⊢; exact h2
    · rw [if_neg e1] at h1
      by_cases e2 : cmpS y z = 0
      · have := cmpS_zero.1 e2
        subst this
        rw [if_neg e1]; exact h1
      · rw [if_neg e2] at h2
        have h3 := bl_trans _ _ _ (cmpS_neg.1 h1) (cmpS_neg.1 h2)
        have h4 := cmpS_neg.2 h3
        rw [if_neg (by omega)]; exact h4
end Go.Proofs.Ytlomehhlhbpanaa

/- The reference's Less is slices.Compare below nought. -/
namespace Go.Proofs.Ytlomehhlhbpanaa
open Go.RowKit Go.Lib Go.Proofs.YtlomehhlhbpanaaW.PrintWords Go.Proofs.YtlomehhlhbpanaaW.PrintLast Go.Proofs.YtlomehhlhbpanaaW.PrintMore Go.Proofs.Ytlomehhlhbpanaa.Prt

theorem less_ev (a b : List ByteArray) (ha : a.length ≤ 100000) : ∀ (t i : Nat), a.length - i ≤ t → i ≤ a.length → i ≤ b.length → cmpL a b = cmpL (a.drop i) (b.drop i) →
    Ev (fun k => gessoref14_Less.l0 k a b i) (decide (cmpL a b < 0)) := by
  have stop : ∀ i : Nat, ¬ (i < a.length ∧ i < b.length) → i ≤ a.length → i ≤ b.length → cmpL a b = cmpL (a.drop i) (b.drop i) → Ev (fun k => gessoref14_Less.l0 k a b i) (decide (cmpL a b < 0)) := by
    intro i h1 h2 h3 h4
    have e : decide ((a.length : Int) < (b.length : Int)) = decide (cmpL a b < 0) := by
      rw [h4]
      by_cases c1 : i < a.length
      · have c2 : i = b.length := by omega
        rw [List.drop_eq_getElem_cons c1, List.drop_eq_nil_of_le (by omega : b.length ≤ i), cmpL]
        exact decide_eq_decide.2 (by omega)
      · rw [List.drop_eq_nil_of_le (by omega : a.length ≤ i)]
        by_cases c2 : i < b.length
        · rw [List.drop_eq_getElem_cons c2, cmpL]
          exact decide_eq_decide.2 (by omega)
        · rw [List.drop_eq_nil_of_le (by omega : b.length ≤ i), cmpL]
          exact decide_eq_decide.2 (by omega)
    refine ⟨2, fun k hk => ?_⟩
    obtain ⟨k, rfl⟩ : ∃ q, k = q + 1 + 1 := ⟨k - 2, by omega⟩
    simp only [gessoref14_Less.l0, gessoref14_Less.j1]
    by_cases c1 : i < a.length
    · rw [if_pos (by omega), decide_eq_false (by omega : ¬ (i : Int) < (b.length : Int)), if_neg (by decide), e]
    · rw [if_neg (by omega), if_neg (by simp), e]
  intro t
  induction t with
  | zero =>
    intro i h1 h2 h3 h4
    exact stop i (by omega) h2 h3 h4
  | succ t ih =>
    intro i h1 h2 h3 h4
    by_cases c : i < a.length ∧ i < b.length
    · obtain ⟨c1, c2⟩ := c
      have hs := cmpL_drop c1 c2
      have ea := rdOf_get c1
      have eb := rdOf_get c2
      by_cases e : a[i].toList = b[i].toList
      · have e0 : cmpS a[i] b[i] = 0 := cmpS_zero.2 (str_inj e)
        rw [if_pos e0] at hs
        obtain ⟨K, hK⟩ := ih (i + 1) (by omega) (by omega) (by omega) (h4.trans hs)
        refine ⟨K + 2, fun k hk => ?_⟩
        obtain ⟨k, rfl⟩ : ∃ q, k = q + 1 + 1 := ⟨k - 2, by omega⟩
        have h5 : gessoref14_Less.l0 k a b ((i + 1 : Nat) : Int) = _ := hK k (by omega)
        simp only [gessoref14_Less.l0, gessoref14_Less.j1]
        rw [if_pos (by omega), decide_eq_true (by omega : (i : Int) < (b.length : Int)), if_pos rfl, if_pos (by omega), if_pos (by omega), if_pos (by omega), ea, eb, if_pos e, wrap_id (by omega) (by omega)]
        exact h5
      · have e0 : ¬ cmpS a[i] b[i] = 0 := fun h => e (by rw [cmpS_zero.1 h])
        rw [if_neg e0] at hs
        refine ⟨2, fun k hk => ?_⟩
        obtain ⟨k, rfl⟩ : ∃ q, k = q + 1 + 1 := ⟨k - 2, by omega⟩
        simp only [gessoref14_Less.l0, gessoref14_Less.j1]
        rw [if_pos (by omega), decide_eq_true (by omega : (i : Int) < (b.length : Int)), if_pos rfl, if_pos (by omega), if_pos (by omega), if_pos (by omega), ea, eb, if_neg e, h4, hs]
        congr 1
        rw [Bool.eq_iff_iff, decide_eq_true_eq]
        exact cmpS_neg.symm
    · exact stop i c h2 h3 h4
theorem Less_ev (a b : List ByteArray) (ha : a.length ≤ 100000) : Ev (fun k => gessoref14_Less.f k a b) (decide (cmpL a b < 0)) := by
  unfold gessoref14_Less.f
  exact less_ev a b ha a.length 0 (by omega) (by omega) (by omega) rfl
end Go.Proofs.Ytlomehhlhbpanaa
