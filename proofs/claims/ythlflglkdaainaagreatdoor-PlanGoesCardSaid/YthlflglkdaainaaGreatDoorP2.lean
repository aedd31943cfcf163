import Derived.Test.YthlflglkdaainaaGreatDoorP1
import Derived.Test.YthlflglkdaainaaGreatDoorPLayS
import Derived.Test.YthlflglkdaainaaGreatDoorPY
/- slices.SortFunc over a plan's steps. -/
set_option maxRecDepth 100000
namespace Go.Proofs.YthlflglkdaainaaGreatDoor.Tr
open Go.Shelf Go.RowKit Go.Lib Go.Sort Go.Proofs.YthlflglkdaainaaGreatDoorW.PrintWords Go.Proofs.YthlflglkdaainaaGreatDoorW.PrintLast Go.Proofs.YthlflglkdaainaaGreatDoorW.PrintMore Go.Proofs.YthlflglkdaainaaGreatDoor.Prt

abbrev kSt : Kd St := k67

/-! ### lists of cells, three an element -/
theorem flatK_list3 {α : Type} [Inhabited α] (enc : α → List Value) (hk : ∀ x, (enc x).length = 3) (d : Array α) : (flatK enc 3 d).toList = d.toList.flatMap enc := by
  have gen : ∀ l : List α, (List.range (l.length * 3)).map (fun t => (enc l[t / 3]!)[t % 3]!) = l.flatMap enc := by
    intro l
    induction l with
    | nil => rfl
    | cons a l ih =>
      have e : (a :: l).length * 3 = l.length * 3 + 1 + 1 + 1 := by rw [List.length_cons]; omega
      rw [e, List.range_succ_eq_map, List.map_cons, List.range_succ_eq_map, List.map_cons, List.map_cons, List.map_map, List.map_map, List.range_succ_eq_map, List.map_cons, List.map_map, List.flatMap_cons, ← ih]
      have e0 : ∀ t, t < 3 → enc (a :: l)[t / 3]! = enc a := fun t ht => by rw [show t / 3 = 0 by omega]; rfl
      show (enc (a :: l)[0 / 3]!)[0 % 3]! :: (enc (a :: l)[1 / 3]!)[1 % 3]! :: (enc (a :: l)[2 / 3]!)[2 % 3]! :: List.map _ _ = _
      rw [e0 0 (by omega)]
      match h : enc a, hk a with
      | [x, y, z], _ =>
        show x :: y :: z :: List.map _ _ = x :: y :: z :: List.map _ _
        congr 3
        refine List.map_congr_left fun t _ => ?_
        show (enc (a :: l)[(t + 1 + 1 + 1) / 3]!)[(t + 1 + 1 + 1) % 3]! = (enc l[t / 3]!)[t % 3]!
        rw [show (t + 1 + 1 + 1) / 3 = t / 3 + 1 by omega, show (t + 1 + 1 + 1) % 3 = t % 3 by omega, show (a :: l)[t / 3 + 1]! = l[t / 3]! from by rw [List.getElem!_cons_succ]]
  unfold flatK
  rw [Array.toList_map, Array.toList_range, ← gen d.toList, Array.length_toList]
  refine List.map_congr_left fun t _ => ?_
  rw [show d[t / 3]! = d.toList[t / 3]! by rw [getElem!_def, getElem!_def, Array.getElem?_toList]]
theorem flat_reps3 : ∀ (rows : List (List Value)) (inner : List Value), inner.length = rows.length * 3 → (∀ (j : Nat) (p : List Value), rows[j]? = some p → (inner.drop (j * 3)).take 3 = p) → rows.flatMap (fun r => r) = inner
  | [], inner, h, _ => by
    rw [List.length_nil, Nat.zero_mul] at h
    rw [List.eq_nil_of_length_eq_zero h]; rfl
  | p :: ps, inner, h, hr => by
    have h0 := hr 0 p rfl
    rw [Nat.zero_mul, List.drop_zero] at h0
    rw [List.flatMap_cons, flat_reps3 ps (inner.drop 3) (by rw [List.length_drop, h, List.length_cons]; omega) (fun j q hq => by
      have := hr (j + 1) q (by simpa using hq)
      rw [List.drop_drop, show 3 + j * 3 = (j + 1) * 3 by omega]
      exact this), ← h0, List.take_append_drop]
theorem reps_flat3 : ∀ (rows : List (List Value)), (∀ r ∈ rows, r.length = 3) → (rows.flatMap (fun r => r)).length = rows.length * 3 ∧ ∀ (j : Nat) (p : List Value), rows[j]? = some p → ((rows.flatMap (fun r => r)).drop (j * 3)).take 3 = p
  | [], _ => ⟨rfl, fun j p h => by simp at h⟩
  | r :: rs, h => by
    obtain ⟨h1, h2⟩ := reps_flat3 rs fun q hq => h q (List.mem_cons_of_mem _ hq)
    have hr := h r List.mem_cons_self
    refine ⟨by rw [List.flatMap_cons, List.length_append, h1, hr, List.length_cons]; omega, fun j p hj => ?_⟩
    rw [List.flatMap_cons]
    cases j with
    | zero =>
      have : r = p := by simpa using hj
      rw [Nat.zero_mul, List.drop_zero, List.take_append_of_le_length (by omega), List.take_of_length_le (by omega), this]
    | succ j =>
      rw [show (j + 1) * 3 = r.length + j * 3 by omega, List.drop_append, show r.drop (r.length + j * 3) = [] from List.drop_of_length_le (by omega), List.nil_append, show r.length + j * 3 - r.length = j * 3 by omega]
      exact h2 j p (by simpa using hj)

/-! ### the sort -/
def dflS : List Value := [.bool false, .slice none 0 0, .string ⟨#[]⟩]
def stpA (X : List St) (i : Nat) : St := X.getD i ⟨false, [], ⟨#[]⟩⟩
def encS {n : Nat} (rows : List (List Value)) (x : Fin n) : List Value := rows.getD x.val dflS
def cfS (X : List St) (x y : Fin X.length) : Int := ordS (stpA X x.val) (stpA X y.val)
theorem srow_at {X : List St} {rows : List (List Value)} (hl : rows.length = X.length) {W : World} {ok : Nat → Prop} (hf : ∀ (j : Nat) (x : St) (c : List Value), X[j]? = some x → rows[j]? = some c → Kd.FK kSt W ok x c) (i : Fin X.length) :
    ∃ A c, encS rows i = [.bool (stpA X i.val).f0, .slice A (stpA X i.val).f1.length c, .string (stpA X i.val).f2] ∧ Kd.F Kd.string W ok A (stpA X i.val).f1.length (stpA X i.val).f1 ∧ Kd.FK kSt W ok (stpA X i.val) (encS rows i) := by
  have hi := i.isLt
  have h1 : X[i.val]? = some X[i.val] := List.getElem?_eq_getElem hi
  have h2 : rows[i.val]? = some (rows[i.val]'(by omega)) := List.getElem?_eq_getElem (by omega)
  have hq := hf i.val _ _ h1 h2
  have ep : stpA X i.val = X[i.val] := by
    unfold stpA
    rw [List.getD_eq_getElem?_getD, h1]; rfl
  have er : encS rows i = rows[i.val]'(by omega) := by
    unfold encS
    rw [List.getD_eq_getElem?_getD, h2]; rfl
  rw [← ep, ← er] at hq
  obtain ⟨A1, c1, e, _, h3⟩ := k67_openF hq
  exact ⟨A1, c1, e, h3, hq⟩
theorem cfS_swo (X : List St) : SWO (ltOf (cfS X)) := by
  have hlt : ∀ x y, ltOf (cfS X) x y = decide (ordS (stpA X x.val) (stpA X y.val) < 0) := fun x y => rfl
  refine ⟨fun x => ?_, fun x y z h1 h2 => ?_, fun x y z h1 h2 => ?_⟩
  · rw [hlt, decide_eq_false_iff_not]; exact ordS_irr _
  · rw [hlt, decide_eq_true_eq] at *; exact ordS_tr h1 h2
  · rw [hlt, decide_eq_false_iff_not] at *
    intro h3
    by_cases e : (stpA X x.val).f0 = (stpA X y.val).f0 ∧ (stpA X x.val).f1 = (stpA X y.val).f1
    · rw [ordS_lt] at h2 h3
      rw [e.1, e.2] at h3
      exact h2 h3
    · exact h2 (ordS_tr (ordS_tri h1 e) h3)
theorem holds_own3 {w : World} {base g cap n : Nat} {e : TypeId} {xs : List Value} {F : Array Value} (h : w.ownsRow base e 3 (.slice (some ⟨g, 0, none⟩) n cap) n xs) (hF : F.toList = xs) : Holds id w g 0 F := by
  have hs : F.size = n * 3 := by rw [← Array.length_toList, hF]; exact h.1
  intro j hj
  rw [Nat.zero_add]
  refine ⟨?_, h.frozenAt j⟩
  rw [h.cellAt j (by omega), ← hF, Array.getElem?_toList, getElem!_pos F j hj]
  simp [hj]
theorem own_sorted3 {w : World} {base g cap n m : Nat} {e : TypeId} {os : Array Obj} {xs : List Value} {F : Array Value} (h : w.ownsRow base e 3 (.slice (some ⟨g, 0, none⟩) n cap) n xs) (hF : F.size = n * 3) :
    (grow (putRow id (Sort.ahead w m) g 0 F) os).ownsRow base e 3 (.slice (some ⟨g, 0, none⟩) n cap) n F.toList ∧ w.grownBy (grow (putRow id (Sort.ahead w m) g 0 F) os) (some g) := by
  refine ⟨?_, rfl, rfl, rfl, by simp, fun k hk hne => ?_⟩
  · rcases h.2 with ⟨h', _⟩ | ⟨g', cap', cur, h', hb, hg, hnc, hcm, hcs, htake⟩
    · simp at h'
    · simp only [Value.slice.injEq, Option.some.injEq, Addr.mk.injEq, and_true, true_and] at h'
      obtain ⟨rfl, rfl⟩ := h'
      refine ⟨by rw [Array.length_toList]; exact hF, .inr ⟨g, cap, putCells id 0 F cur, rfl, hb, ?_, hnc, hcm, by simp [putCells, hcs], ?_⟩⟩
      · have hlt : g < w.heap.size := (Array.getElem?_eq_some_iff.1 hg).1
        rw [heap_grow_old _ _ (by simpa using hlt)]
        simp [putRow, mapBlock, Sort.ahead, Array.getElem?_modify, hg, onCells]
      · apply List.ext_getElem?
        intro j
        by_cases hj : j < n * 3
        · have hc : n * 3 ≤ cur.size := by rw [hcs]; exact Nat.mul_le_mul_right 3 hnc
          have hjF : j < F.size := by omega
          have hjc : j < cur.size := by omega
          rw [List.getElem?_take_of_lt hj, Array.getElem?_toList, Array.getElem?_toList]
          simp [putCells, hjF, hjc]
        · rw [List.getElem?_take_eq_none (by omega), List.getElem?_eq_none (by rw [Array.length_toList]; omega)]
  · rw [heap_grow_old _ _ (by simpa using hk)]
    have : g ≠ k := fun e => hne (by rw [e])
    simp [putRow, mapBlock, Sort.ahead, Array.getElem?_modify, this]


def idxs (n : Nat) : List (Fin n) := List.ofFn fun i => i
theorem idxs_map (X : List St) : (idxs X.length).map (fun i => stpA X i.val) = X := by
  apply List.ext_getElem
  · simp [idxs]
  · intro j h1 h2
    simp only [idxs, List.getElem_map, List.getElem_ofFn, stpA]
    rw [List.getD_eq_getElem?_getD, List.getElem?_eq_getElem h2]; rfl
theorem idxs_rows (X : List St) {rows : List (List Value)} (hl : rows.length = X.length) : (idxs X.length).map (fun i => encS rows i) = rows := by
  apply List.ext_getElem
  · simp [idxs, hl]
  · intro j h1 h2
    simp only [idxs, List.getElem_map, List.getElem_ofFn, encS]
    rw [List.getD_eq_getElem?_getD, List.getElem?_eq_getElem h2]; rfl
/-- Steps in order. -/
def sortSt (X : List St) : List St := X.mergeSort (fun x y => !decide (ordS y x < 0))
theorem sort_map (X : List St) : ((idxs X.length).mergeSort fun x y => !(ltOf (cfS X)) y x).map (fun i => stpA X i.val) = sortSt X := by
  rw [List.map_mergeSort (r := fun x y => !(ltOf (cfS X)) y x) (s := fun x y : St => !decide (ordS y x < 0)) (f := fun i : Fin X.length => stpA X i.val) (fun a _ b _ => rfl), idxs_map]
  rfl
/-- No two steps are of one kind with one path. -/
def StInj (X : List St) : Prop := ∀ i j : Fin X.length, (stpA X i.val).f0 = (stpA X j.val).f0 → (stpA X i.val).f1 = (stpA X j.val).f1 → i = j
theorem cfS_tot {X : List St} (h : StInj X) (x y : Fin X.length) (h1 : ltOf (cfS X) x y = false) (h2 : ltOf (cfS X) y x = false) : x = y := by
  have hlt : ∀ x y, ltOf (cfS X) x y = decide (ordS (stpA X x.val) (stpA X y.val) < 0) := fun x y => rfl
  rw [hlt, decide_eq_false_iff_not] at h1 h2
  by_cases e : (stpA X x.val).f0 = (stpA X y.val).f0 ∧ (stpA X x.val).f1 = (stpA X y.val).f1
  · exact h x y e.1 e.2
  · exact absurd (ordS_tri h1 e) h2

theorem sortSteps_any (w : World) (base g cap : Nat) (ok : Nat → Prop) (X : List St) (h0n : 0 < X.length) (hl : X.length ≤ 1000000) (hinj : StInj X) (h : Kd.N kSt 67 w base ok (.slice (some ⟨g, 0, none⟩) X.length cap) X) :
    Calls Tryz.prog 42 #[.slice (some ⟨g, 0, none⟩) X.length cap, .func (.func 43) #[] #[]] w fun e w' =>
      e = .returned (.tuple #[]) ∧ Kd.N kSt 67 w' base ok (.slice (some ⟨g, 0, none⟩) X.length cap) (sortSt X) ∧ w.grownBy w' (some g) := by
  letI : Inhabited (Fin X.length) := ⟨⟨0, h0n⟩⟩
  have hgo : ∀ m, (Value.slice (some ⟨g, 0, none⟩) m cap).ownBlock = some g := fun m => by simp [Value.ownBlock]
  have hlt : g < w.heap.size := Kd.N_lt h g (hgo _)
  obtain ⟨h0, rows, hlr, ⟨hr0, inner, hown, hrep⟩, hf⟩ := h
  have hk : ∀ x : Fin X.length, (encS rows x).length = 3 := fun x => by
    obtain ⟨A, c, e, _⟩ := srow_at hlr hf x
    rw [e]; rfl
  have h1 : ∀ x : Fin X.length, ∀ u ∈ encS rows x, u.oneCell' = true := fun x => by
    obtain ⟨A, c, e, _⟩ := srow_at hlr hf x
    rw [e]
    intro u hu
    simp only [List.mem_cons, List.not_mem_nil, or_false] at hu
    rcases hu with rfl | rfl | rfl <;> rfl
  have hin : rows.flatMap (fun r => r) = inner := flat_reps3 rows inner hrep.1 (fun j p hj => (hrep.2 j p hj).1)
  have hsz : (idxs X.length).toArray.size = X.length := by simp [idxs]
  have hmap : ∀ d : List (Fin X.length), d.flatMap (encS rows) = (d.map (fun x => encS rows x)).flatMap (fun r => r) := fun d => by rw [List.flatMap_map]
  have hF : (flatK (encS rows) 3 (idxs X.length).toArray).toList = inner := by
    rw [flatK_list3 _ hk, ← hin, hmap]
    congr 1
    exact idxs_rows X hlr
  have hown' : w.ownsRow base 67 3 (.slice (some ⟨g, 0, none⟩) X.length cap) X.length inner := by
    have := hown
    rw [hlr] at this
    exact this
  have hH : HoldsK (encS rows) 3 w g 0 (idxs X.length).toArray := holds_own3 hown' hF
  have hcmp : CmpLays Tryz.prog 43 #[] (encS rows) 3 (cfS X) g 0 (idxs X.length).toArray.size w := by
    intro m os dk _ x y
    obtain ⟨A, c, e1, f1, _⟩ := srow_at hlr hf x
    obtain ⟨B, d, e2, f2, _⟩ := srow_at hlr hf y
    rw [e1, e2]
    have step : ∀ {p : List ByteArray} {A : Option Addr}, Kd.F Kd.string w (fun k => ok k ∧ some k ≠ (Value.slice (some ⟨g, 0, none⟩) X.length cap).ownBlock) A p.length p → Kd.C Kd.string (sortWorldK (encS rows) 3 w g 0 m dk os) A p.length p := fun hp =>
      Kd.F_now (Kd.F_step hp (fun k hk hkl => heap_swK_other _ _ _ _ _ _ _ _ _ (fun e => hk.2 (by rw [hgo, e])) hkl))
    exact order_any (stpA X x.val) (stpA X y.val) A B c d _ (step f1) (step f2)
  have hw := AnyQ.slices_SortFunc_total lSortS 3 Tryz.isAgg67 Tryz.sizeOf67 (encS rows) hk h1 (cfS X) (cfS_swo X) 43 #[] g 0 cap (idxs X.length).toArray w (enters_of Tryz.func43 (by kernel_rfl) rfl) hcmp hH hlt (by rw [hsz]; omega) (cfS_tot hinj)
  rw [hsz] at hw
  refine Calls.mono (show Calls Tryz.prog 42 _ w _ from hw) ?_
  rintro e w' ⟨rfl, n, os, rfl⟩
  obtain ⟨S, hS⟩ : ∃ S, ((idxs X.length).mergeSort fun x y => !(ltOf (cfS X)) y x) = S := ⟨_, rfl⟩
  have hsl := sort_map X
  have hSl : S.length = X.length := by rw [← hS, List.length_mergeSort]; simp [idxs]
  have hrl : (sortSt X).length = X.length := List.length_mergeSort _
  rw [show (idxs X.length).toArray.toList = idxs X.length from rfl, hS]
  rw [hS] at hsl
  obtain ⟨q1, q2⟩ := own_sorted3 (m := n) (os := os) (F := flatK (encS rows) 3 S.toArray) hown' (by rw [size_flatK]; simp [hSl])
  rw [flatK_list3 _ hk, hmap] at q1
  have hr2 := reps_flat3 (S.map (fun i => encS rows i)) (fun r hr => by
    obtain ⟨i, _, rfl⟩ := List.mem_map.1 hr
    exact hk i)
  refine ⟨rfl, ⟨h0, S.map (fun i => encS rows i), ?_, ⟨?_, _, ?_, hr2.1, fun j p hj => ⟨hr2.2 j p hj, ?_, ?_⟩⟩, ?_⟩, q2⟩
  · rw [List.length_map, hrl, hSl]
  · exact hr0
  · rw [List.length_map, hSl]; exact q1
  · have e := hr2.2 j p hj
    show (List.take 3 (List.drop (j * 3) _)).length = 3
    rw [e]
    obtain ⟨i, _, rfl⟩ := List.mem_map.1 (List.mem_of_getElem? hj)
    exact hk i
  · have e := hr2.2 j p hj
    show ∀ u : Value, u ∈ List.take 3 (List.drop (j * 3) _) → u.oneCell' = true
    rw [e]
    obtain ⟨i, _, rfl⟩ := List.mem_map.1 (List.mem_of_getElem? hj)
    exact h1 i
  · intro j x c hx hc
    rw [← hsl, List.getElem?_map] at hx
    rw [List.getElem?_map] at hc
    cases hs : S[j]? with
    | none => rw [hs] at hx; cases hx
    | some i =>
      rw [hs] at hx hc
      have hx : stpA X i.val = x := Option.some.inj hx
      have hc : encS rows i = c := Option.some.inj hc
      subst hx; subst hc
      obtain ⟨A, c, e, _, hF⟩ := srow_at hlr hf i
      exact Kd.FK_grown hF q2 (fun k hk => by have := hk.2; rwa [hgo] at this)
end Go.Proofs.YthlflglkdaainaaGreatDoor.Tr
