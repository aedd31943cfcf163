import Derived.Test.YtgjlneedpbgfpaaDoorStabT
import Derived.Test.YtgjlneedpbgfpaaDoorOrdR2
import Derived.RangeFuncBox
/- Marks in memory; the sort of a row of marks. -/
namespace Go.Proofs.YtgjlneedpbgfpaaDoor
open Go.Shelf Go.RowKit Go.Lib Go.Sort

noncomputable def encM (x : Nat × Nat) : List Value := [.int .u32 (x.1 : Int), .int .i64 (cls x.1 : Int)]
noncomputable def cfM (x y : Nat × Nat) : Int := (cls x.1 : Int) - (cls y.1 : Int)
noncomputable def mk2 (R : List Nat) : List Value := R.flatMap fun (c : Nat) => [Value.int .u32 (c : Int), Value.int .i64 (cls c : Int)]
theorem mk2_length (R : List Nat) : (mk2 R).length = R.length * 2 := by
  unfold mk2
  induction R with
  | nil => rfl
  | cons a R ih => rw [List.flatMap_cons, List.length_append, ih]; simp; omega
theorem mk2_append (A B : List Nat) : mk2 (A ++ B) = mk2 A ++ mk2 B := by unfold mk2; rw [List.flatMap_append]
theorem mk2_get : ∀ (R : List Nat) (k : Nat), k < R.length → (mk2 R)[k * 2]? = some (.int .u32 ((R.getD k 0 : Nat) : Int)) ∧ (mk2 R)[k * 2 + 1]? = some (.int .i64 ((cls (R.getD k 0) : Nat) : Int))
  | [], k, h => by cases h
  | a :: R, 0, _ => ⟨rfl, rfl⟩
  | a :: R, k + 1, h => by
    have ih := mk2_get R k (by simpa using h)
    have e : mk2 (a :: R) = Value.int .u32 (a : Int) :: Value.int .i64 (cls a : Int) :: mk2 R := rfl
    rw [e, show (k + 1) * 2 = k * 2 + 1 + 1 by omega]
    simpa using ih

theorem flatM_list (d : Array (Nat × Nat)) : (flatK encM 2 d).toList = mk2 (d.toList.map (·.1)) := by
  have gen : ∀ l : List (Nat × Nat), (List.range (l.length * 2)).map (fun t => (encM l[t / 2]!)[t % 2]!) = mk2 (l.map (·.1)) := by
    intro l
    refine List.ext_getElem? fun t => ?_
    by_cases ht : t < l.length * 2
    · have hq : t / 2 < (l.map (·.1)).length := by rw [List.length_map]; omega
      have hg := mk2_get (l.map (·.1)) (t / 2) hq
      have hx : (l.map (·.1)).getD (t / 2) 0 = (l[t / 2]!).1 := by
        rw [List.length_map] at hq
        rw [List.getD, List.getElem?_map, List.getElem?_eq_getElem hq, getElem!_pos l (t / 2) hq]; rfl
      rw [hx] at hg
      rw [List.getElem?_map, List.getElem?_range ht, Option.map_some]
      rcases Nat.mod_two_eq_zero_or_one t with h | h
      · rw [h]
        have : t / 2 * 2 = t := by omega
        rw [this] at hg
        rw [hg.1]; rfl
      · rw [h]
        have : t / 2 * 2 + 1 = t := by omega
        rw [this] at hg
        rw [hg.2]; rfl
    · rw [List.getElem?_eq_none (by simp; omega), List.getElem?_eq_none (by rw [mk2_length, List.length_map]; omega)]
  unfold flatK
  rw [Array.toList_map, Array.toList_range, ← gen d.toList, Array.length_toList]
  refine List.map_congr_left fun t _ => ?_
  rw [show d[t / 2]! = d.toList[t / 2]! by rw [getElem!_def, getElem!_def, Array.getElem?_toList]]

theorem holds_own {w : World} {base g cap n : Nat} {e : TypeId} {xs : List Value} {F : Array Value} (h : w.ownsRow base e 2 (.slice (some ⟨g, 0, none⟩) n cap) n xs) (hF : F.toList = xs) : Holds id w g 0 F := by
  have hs : F.size = n * 2 := by rw [← Array.length_toList, hF]; exact h.1
  intro j hj
  rw [Nat.zero_add]
  refine ⟨?_, h.frozenAt j⟩
  rw [h.cellAt j (by omega), ← hF, Array.getElem?_toList, getElem!_pos F j hj]
  simp [hj]
theorem own_sorted {w : World} {base g cap n m : Nat} {e : TypeId} {os : Array Obj} {xs : List Value} {F : Array Value} (h : w.ownsRow base e 2 (.slice (some ⟨g, 0, none⟩) n cap) n xs) (hF : F.size = n * 2) :
    (grow (putRow id (Sort.ahead w m) g 0 F) os).ownsRow base e 2 (.slice (some ⟨g, 0, none⟩) n cap) n F.toList ∧ w.grownBy (grow (putRow id (Sort.ahead w m) g 0 F) os) (some g) := by
  refine ⟨?_, rfl, rfl, rfl, by simp, fun k hk hne => ?_⟩
  · rcases h.2 with ⟨h', _⟩ | ⟨g', cap', cur, h', hb, hg, hnc, hcm, hcs, htake⟩
    · simp at h'
    · simp only [Value.slice.injEq, Option.some.injEq, Addr.mk.injEq, and_true, true_and] at h'
      obtain ⟨rfl, rfl⟩ := h'
      refine ⟨by rw [Array.length_toList]; exact hF, .inr ⟨g, cap, putCells id 0 F cur, rfl, hb, ?_, hnc, hcm, by simp [putCells, hcs], ?_⟩⟩
      · have hlt : g < w.heap.size := (Array.getElem?_eq_some_iff.1 hg).1
        rw [heap_grow_old _ _ (by simpa using hlt)]
        simp [putRow, mapBlock, Sort.ahead, Array.getElem?_modify, hg, onCells]
      · apply List.ext_getElem?
        intro j
        by_cases hj : j < n * 2
        · have hc : n * 2 ≤ cur.size := by rw [hcs]; exact Nat.mul_le_mul_right 2 hnc
          have hjF : j < F.size := by omega
          have hjc : j < cur.size := by omega
          rw [List.getElem?_take_of_lt hj, Array.getElem?_toList, Array.getElem?_toList]
          simp [putCells, hjF, hjc]
        · rw [List.getElem?_take_eq_none (by omega), List.getElem?_eq_none (by rw [Array.length_toList]; omega)]
  · rw [heap_grow_old _ _ (by simpa using hk)]
    have : g ≠ k := fun e => hne (by rw [e])
    simp [putRow, mapBlock, Sort.ahead, Array.getElem?_modify, this]

set_option maxHeartbeats 1000000 in
theorem cmp_any (c k d l : Nat) (hk : k ≤ 255) (hl : l ≤ 255) (w : World) : Calls Tryd.prog 68 #[.agg #[.int .u32 (c : Int), .int .i64 (k : Int)], .agg #[.int .u32 (d : Int), .int .i64 (l : Int)]] w fun e w' => e = .returned (.int .i64 ((k : Int) - (l : Int))) ∧ ∃ q os', w' = grow (w.drewN q) os' := by
  have h1 : (k : Int) ≤ 255 := by omega
  have h2 : (l : Int) ≤ 255 := by omega
  go_enter Tryd.func68, Tryd.ntmps68
  go_wp2
  go_ret
  exact ⟨rfl, 0, _, by rw [alloc_eq_grow, alloc_eq_grow, grow_grow]; rfl⟩

theorem cmpLays (blk off size : Nat) (w : World) : CmpLays Tryd.prog 68 #[] encM 2 cfM blk off size w := by
  intro m os dk _ x y
  exact cmp_any x.1 (cls x.1) y.1 (cls y.1) (cls_le _) (cls_le _) _

theorem ltM_eq : ltOf cfM = fun x y : Nat × Nat => decide (cls x.1 < cls y.1) := by
  funext x y
  unfold ltOf cfM
  rw [decide_eq_decide]; omega
theorem swoC : SWO (fun x y : Nat => decide (cls x < cls y)) :=
  ⟨fun x => by simp, fun x y z h1 h2 => by simp only [decide_eq_true_eq] at *; omega, fun x y z h1 h2 => by simp only [decide_eq_false_iff_not] at *; omega⟩
theorem stable_srt (R : List Nat) : (stableA (ltOf cfM) R.length R.zipIdx.toArray).toList.map (·.1) = srt R := by
  have h := stable_sorts (fun x y : Nat => decide (cls x < cls y)) swoC R
  rw [ltM_eq, h]
  unfold srt lec
  congr 1
  funext x y
  rw [← decide_not, decide_eq_decide]; omega

theorem own_mk2_two {x : Nat × Nat} : ∀ v ∈ encM x, v.oneCell' = true := by
  intro v hv
  unfold encM at hv
  simp only [List.mem_cons, List.not_mem_nil, or_false] at hv
  rcases hv with rfl | rfl <;> rfl

/-- **The sort of a row of marks that the call owns.** -/
theorem sortRow_any (w : World) (base g cap : Nat) (R : List Nat) (hl : R.length ≤ 1000000) (h : w.ownsRow base 56 2 (.slice (some ⟨g, 0, none⟩) R.length cap) R.length (mk2 R)) :
    Calls Tryd.prog 67 #[.slice (some ⟨g, 0, none⟩) R.length cap, .func (.func 68) #[] #[]] w fun e w' =>
      e = .returned (.tuple #[]) ∧ w'.ownsRow base 56 2 (.slice (some ⟨g, 0, none⟩) R.length cap) R.length (mk2 (srt R)) ∧ w.grownBy w' (some g) := by
  have hsz : R.zipIdx.toArray.size = R.length := by simp
  have hF : (flatK encM 2 R.zipIdx.toArray).toList = mk2 R := by
    rw [flatM_list]
    congr 1
    exact List.zipIdx_map_fst 0 R
  have hH : HoldsK encM 2 w g 0 R.zipIdx.toArray := holds_own h hF
  have hlt : g < w.heap.size := by
    rcases h.2 with ⟨h', _⟩ | ⟨g', cap', cur, h', hb, hg, _⟩
    · simp at h'
    · simp only [Value.slice.injEq, Option.some.injEq, Addr.mk.injEq, and_true, true_and] at h'
      obtain ⟨rfl, _⟩ := h'
      exact (Array.getElem?_eq_some_iff.1 hg).1
  have R0 : RowK encM 2 w g 0 R.zipIdx.toArray := ⟨fun _ => rfl, fun _ => own_mk2_two, hH, hlt⟩
  have hw := sortStable_walk encM cfM 68 #[] g 0 cap R.zipIdx.toArray w (enters_of Tryd.func68 (by kernel_rfl) rfl) (cmpLays g 0 _ w) R0 (by rw [hsz]; omega) R.zipIdx.toArray w rfl (SWK.start hH)
  rw [hsz] at hw
  refine hw.mono ?_
  rintro e w' ⟨rfl, n, os, rfl⟩
  have hst : (stableA (ltOf cfM) R.length R.zipIdx.toArray).size = R.length := by
    have := congrArg List.length (stable_srt R)
    rw [List.length_map, Array.length_toList, srt_length] at this; exact this
  obtain ⟨h1, h2⟩ := own_sorted (m := n) (os := os) (F := flatK encM 2 (stableA (ltOf cfM) R.length R.zipIdx.toArray)) h (by rw [size_flatK, hst])
  rw [flatM_list, stable_srt] at h1
  exact ⟨rfl, h1, h2⟩
end Go.Proofs.YtgjlneedpbgfpaaDoor
