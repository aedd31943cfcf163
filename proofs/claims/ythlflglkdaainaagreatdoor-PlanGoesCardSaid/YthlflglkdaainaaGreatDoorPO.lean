import Derived.Laws.MakeOwn
import Derived.RegionTactic
import Derived.RangeFuncBox
import Derived.Test.YthlflglkdaainaaGreatDoorPB
import Derived.Test.YthlflglkdaainaaGreatDoorPL
import Derived.Test.YthlflglkdaainaaGreatDoorPR
import Derived.Test.YthlflglkdaainaaGreatDoorPS
/- Texts of this seat: KO. -/
set_option maxRecDepth 100000
set_option maxHeartbeats 8000000
namespace Go.Proofs.YthlflglkdaainaaGreatDoor
open Go.RowKit
theorem row_shape {w : World} {base : Nat} {e : TypeId} {size : Nat} {v : Value} {n : Nat} {xs : List Value} (h : w.ownsRow base e size v n xs) : ∃ a c, v = .slice a n c := by
 rcases h.2 with ⟨rfl, rfl⟩ | ⟨g, cap, cur, hv, _⟩
 · exact ⟨none, 0, rfl⟩
 · exact ⟨_, _, hv⟩
theorem inOrd_false {p c : Nat} {t : List Nat} (h : cls c ≠ 0 ∧ cls c < p) : inOrd cls p (c :: t) = false := by
 rw [inOrd, show (Nat.beq (cls c) 0 || Nat.ble p (cls c)) = false by rw [Bool.or_eq_false_iff, ← Bool.not_eq_true, ← Bool.not_eq_true, Nat.beq_eq, Nat.ble_eq]; omega]; rfl
theorem inOrd_true {p c : Nat} {t : List Nat} (h : ¬ (cls c ≠ 0 ∧ cls c < p)) : inOrd cls p (c :: t) = inOrd cls (cls c) t := by
 rw [inOrd, show (Nat.beq (cls c) 0 || Nat.ble p (cls c)) = true by rw [Bool.or_eq_true, Nat.beq_eq, Nat.ble_eq]; omega]; rfl
theorem drop_cons {L : List Nat} {k : Nat} (h : k < L.length) : L.drop k = L.getD k 0 :: L.drop (k + 1) := by
 rw [List.drop_eq_getElem_cons h, List.getD, List.getElem?_eq_getElem h]; rfl
end Go.Proofs.YthlflglkdaainaaGreatDoor
namespace Go.Proofs.YthlflglkdaainaaGreatDoor
open Go.RowKit
end Go.Proofs.YthlflglkdaainaaGreatDoor
namespace Go.Proofs.YthlflglkdaainaaGreatDoor
open Go.RowKit
end Go.Proofs.YthlflglkdaainaaGreatDoor
namespace Go.Proofs.YthlflglkdaainaaGreatDoor
open Go.Shelf Go.RowKit Go.Lib Go.Sort
noncomputable def encM (x : Nat × Nat) : List Value := [.int .u32 (x.1 : Int), .int .i64 (cls x.1 : Int)]
noncomputable def cfM (x y : Nat × Nat) : Int := (cls x.1 : Int) - (cls y.1 : Int)
noncomputable def mk2 (R : List Nat) : List Value := R.flatMap fun (c : Nat) => [Value.int .u32 (c : Int), Value.int .i64 (cls c : Int)]
theorem mk2_length (R : List Nat) : (mk2 R).length = R.length * 2 := by
 unfold mk2
 induction R with
 | nil => rfl
 | cons a R ih => rw [List.flatMap_cons, List.length_append, ih]; simp; omega
theorem mk2_append (A B : List Nat) : mk2 (A ++ B) = mk2 A ++ mk2 B := by unfold mk2; rw [List.flatMap_append]
theorem mk2_get : ∀ (R : List Nat) (k : Nat), k < R.length → (mk2 R)[k * 2]? = some (.int .u32 ((R.getD k 0 : Nat) : Int)) ∧ (mk2 R)[k * 2 + 1]? = some (.int .i64 ((cls (R.getD k 0) : Nat) : Int))
 | [], k, h => by cases h
 | a :: R, 0, _ => ⟨rfl, rfl⟩
 | a :: R, k + 1, h => by
  have ih := mk2_get R k (by simpa using h)
  have e : mk2 (a :: R) = Value.int .u32 (a : Int) :: Value.int .i64 (cls a : Int) :: mk2 R := rfl
  rw [e, show (k + 1) * 2 = k * 2 + 1 + 1 by omega]
  simpa using ih
theorem flatM_list (d : Array (Nat × Nat)) : (flatK encM 2 d).toList = mk2 (d.toList.map (·.1)) := by
 have gen : ∀ l : List (Nat × Nat), (List.range (l.length * 2)).map (fun t => (encM l[t / 2]!)[t % 2]!) = mk2 (l.map (·.1)) := by
  intro l
  refine List.ext_getElem? fun t => ?_
  by_cases ht : t < l.length * 2
  · have hq : t / 2 < (l.map (·.1)).length := by rw [List.length_map]; omega
    have hg := mk2_get (l.map (·.1)) (t / 2) hq
    have hx : (l.map (·.1)).getD (t / 2) 0 = (l[t / 2]!).1 := by
     rw [List.length_map] at hq
     rw [List.getD, List.getElem?_map, List.getElem?_eq_getElem hq, getElem!_pos l (t / 2) hq]; rfl
    rw [hx] at hg
    rw [List.getElem?_map, List.getElem?_range ht, Option.map_some]
    rcases Nat.mod_two_eq_zero_or_one t with h | h
    · rw [h]
      have : t / 2 * 2 = t := by omega
      rw [this] at hg
      rw [hg.1]; rfl
    · rw [h]
      have : t / 2 * 2 + 1 = t := by omega
      rw [this] at hg
      rw [hg.2]; rfl
  · rw [List.getElem?_eq_none (by simp; omega), List.getElem?_eq_none (by rw [mk2_length, List.length_map]; omega)]
 unfold flatK
 rw [Array.toList_map, Array.toList_range, ← gen d.toList, Array.length_toList]
 refine List.map_congr_left fun t _ => ?_
 rw [show d[t / 2]! = d.toList[t / 2]! by rw [getElem!_def, getElem!_def, Array.getElem?_toList]]
theorem holds_own {w : World} {base g cap n : Nat} {e : TypeId} {xs : List Value} {F : Array Value} (h : w.ownsRow base e 2 (.slice (some ⟨g, 0, none⟩) n cap) n xs) (hF : F.toList = xs) : Holds id w g 0 F := by
 have hs : F.size = n * 2 := by rw [← Array.length_toList, hF]; exact h.1
 intro j hj
 rw [Nat.zero_add]
 refine ⟨?_, h.frozenAt j⟩
 rw [h.cellAt j (by omega), ← hF, Array.getElem?_toList, getElem!_pos F j hj]
 simp [hj]
theorem own_sorted {w : World} {base g cap n m : Nat} {e : TypeId} {os : Array Obj} {xs : List Value} {F : Array Value} (h : w.ownsRow base e 2 (.slice (some ⟨g, 0, none⟩) n cap) n xs) (hF : F.size = n * 2) :
    (grow (putRow id (Sort.ahead w m) g 0 F) os).ownsRow base e 2 (.slice (some ⟨g, 0, none⟩) n cap) n F.toList ∧ w.grownBy (grow (putRow id (Sort.ahead w m) g 0 F) os) (some g) := by
 refine ⟨?_, rfl, rfl, rfl, by simp, fun k hk hne => ?_⟩
 · rcases h.2 with ⟨h', _⟩ | ⟨g', cap', cur, h', hb, hg, hnc, hcm, hcs, htake⟩
   · simp at h'
   · simp only [Value.slice.injEq, Option.some.injEq, Addr.mk.injEq, and_true, true_and] at h'
     obtain ⟨rfl, rfl⟩ := h'
     refine ⟨by rw [Array.length_toList]; exact hF, .inr ⟨g, cap, putCells id 0 F cur, rfl, hb, ?_, hnc, hcm, by simp [putCells, hcs], ?_⟩⟩
     · have hlt : g < w.heap.size := (Array.getElem?_eq_some_iff.1 hg).1
       rw [heap_grow_old _ _ (by simpa using hlt)]
       simp [putRow, mapBlock, Sort.ahead, Array.getElem?_modify, hg, onCells]
     · apply List.ext_getElem?
       intro j
       by_cases hj : j < n * 2
       · have hc : n * 2 ≤ cur.size := by rw [hcs]; exact Nat.mul_le_mul_right 2 hnc
         have hjF : j < F.size := by omega
         have hjc : j < cur.size := by omega
         rw [List.getElem?_take_of_lt hj, Array.getElem?_toList, Array.getElem?_toList]
         simp [putCells, hjF, hjc]
       · rw [List.getElem?_take_eq_none (by omega), List.getElem?_eq_none (by rw [Array.length_toList]; omega)]
 · rw [heap_grow_old _ _ (by simpa using hk)]
   have : g ≠ k := fun e => hne (by rw [e])
   simp [putRow, mapBlock, Sort.ahead, Array.getElem?_modify, this]
theorem cmp_any (c k d l : Nat) (hk : k ≤ 255) (hl : l ≤ 255) (w : World) : Calls Tryz.prog 134 #[.agg #[.int .u32 (c : Int), .int .i64 (k : Int)], .agg #[.int .u32 (d : Int), .int .i64 (l : Int)]] w fun e w' => e = .returned (.int .i64 ((k : Int) - (l : Int))) ∧ ∃ q os', w' = grow (w.drewN q) os' := by
 have h1 : (k : Int) ≤ 255 := by omega
 have h2 : (l : Int) ≤ 255 := by omega
 go_enter Tryz.func134, Tryz.ntmps134
 go_wp2
 go_ret
 exact ⟨rfl, 0, _, by rw [alloc_eq_grow, alloc_eq_grow, grow_grow]; rfl⟩
theorem cmpLays (blk off size : Nat) (w : World) : CmpLays Tryz.prog 134 #[] encM 2 cfM blk off size w := by
 intro m os dk _ x y
 exact cmp_any x.1 (cls x.1) y.1 (cls y.1) (cls_le _) (cls_le _) _
theorem ltM_eq : ltOf cfM = fun x y : Nat × Nat => decide (cls x.1 < cls y.1) := by
 funext x y
 unfold ltOf cfM
 rw [decide_eq_decide]; omega
theorem swoC : SWO (fun x y : Nat => decide (cls x < cls y)) :=
 ⟨fun x => by simp, fun x y z h1 h2 => by simp only [decide_eq_true_eq] at *; omega, fun x y z h1 h2 => by simp only [decide_eq_false_iff_not] at *; omega⟩
theorem stable_srt (R : List Nat) : (stableA (ltOf cfM) R.length R.zipIdx.toArray).toList.map (·.1) = srt R := by
 have h := stable_sorts (fun x y : Nat => decide (cls x < cls y)) swoC R
 rw [ltM_eq, h]
 unfold srt lec
 congr 1
 funext x y
 rw [← decide_not, decide_eq_decide]; omega
theorem own_mk2_two {x : Nat × Nat} : ∀ v ∈ encM x, v.oneCell' = true := by
 intro v hv
 unfold encM at hv
 simp only [List.mem_cons, List.not_mem_nil, or_false] at hv
 rcases hv with rfl | rfl <;> rfl
theorem sortRow_any (w : World) (base g cap : Nat) (R : List Nat) (hl : R.length ≤ 1000000) (h : w.ownsRow base 173 2 (.slice (some ⟨g, 0, none⟩) R.length cap) R.length (mk2 R)) :
    Calls Tryz.prog 133 #[.slice (some ⟨g, 0, none⟩) R.length cap, .func (.func 134) #[] #[]] w fun e w' =>
     e = .returned (.tuple #[]) ∧ w'.ownsRow base 173 2 (.slice (some ⟨g, 0, none⟩) R.length cap) R.length (mk2 (srt R)) ∧ w.grownBy w' (some g) := by
 have hsz : R.zipIdx.toArray.size = R.length := by simp
 have hF : (flatK encM 2 R.zipIdx.toArray).toList = mk2 R := by
  rw [flatM_list]
  congr 1
  exact List.zipIdx_map_fst 0 R
 have hH : HoldsK encM 2 w g 0 R.zipIdx.toArray := holds_own h hF
 have hlt : g < w.heap.size := by
  rcases h.2 with ⟨h', _⟩ | ⟨g', cap', cur, h', hb, hg, _⟩
  · simp at h'
  · simp only [Value.slice.injEq, Option.some.injEq, Addr.mk.injEq, and_true, true_and] at h'
    obtain ⟨rfl, _⟩ := h'
    exact (Array.getElem?_eq_some_iff.1 hg).1
 have R0 : RowK encM 2 w g 0 R.zipIdx.toArray := ⟨fun _ => rfl, fun _ => own_mk2_two, hH, hlt⟩
 have hw := sortStable_walk encM cfM 134 #[] g 0 cap R.zipIdx.toArray w (enters_of Tryz.func134 (by kernel_rfl) rfl) (cmpLays g 0 _ w) R0 (by rw [hsz]; omega) R.zipIdx.toArray w rfl (SWK.start hH)
 rw [hsz] at hw
 refine hw.mono ?_
 rintro e w' ⟨rfl, n, os, rfl⟩
 have hst : (stableA (ltOf cfM) R.length R.zipIdx.toArray).size = R.length := by
  have := congrArg List.length (stable_srt R)
  rw [List.length_map, Array.length_toList, srt_length] at this; exact this
 obtain ⟨h1, h2⟩ := own_sorted (m := n) (os := os) (F := flatK encM 2 (stableA (ltOf cfM) R.length R.zipIdx.toArray)) h (by rw [size_flatK, hst])
 rw [flatM_list, stable_srt] at h1
 exact ⟨rfl, h1, h2⟩
end Go.Proofs.YthlflglkdaainaaGreatDoor
namespace Go.Proofs.YthlflglkdaainaaGreatDoor
open Go.Shelf Go.RowKit Go.Lib Go.Sort
theorem info_mark : (Tryz.prog.info? 173).map (fun i => (i.zero, i.size, i.bytes)) = some (some (.agg #[.int .u32 0, .int .i64 0]), 2, 16) := by kernel_rfl
theorem rows_ne {W : World} {n₀ e1 e2 s1 s2 k1 k2 : Nat} {v1 v2 : Value} {x1 x2 : List Value} (h1 : W.ownsRow n₀ e1 s1 v1 k1 x1) (h2 : W.ownsRow n₀ e2 s2 v2 k2 x2) (hne : e1 ≠ e2) : v1.ownBlock = none ∨ v1.ownBlock ≠ v2.ownBlock := by
 rcases h1.2 with ⟨rfl, _⟩ | ⟨g, cap, cur, rfl, _, hg, _⟩
 · exact .inl rfl
 · right
   rcases h2.2 with ⟨rfl, _⟩ | ⟨g2, cap2, cur2, rfl, _, hg2, _⟩
   · simp [Value.ownBlock]
   · intro e
     obtain rfl : g = g2 := by simpa [Value.ownBlock] using e
     rw [hg] at hg2
     injection hg2 with hg2; injection hg2 with _ h; exact hne h
structure St (n₀ Br Bo : Nat) (R O : List Nat) (vr vo : Value) (W : World) : Prop where
 br : Boxed W Br 170 vr
 bo : Boxed W Bo 108 vo
 row : W.ownsRow n₀ 173 2 vr R.length (mk2 R)
 out : W.ownsRow n₀ 134 1 vo O.length (u32s O)
variable {n₀ Br Bo : Nat} {R O : List Nat} {vr vo : Value} {W W' : World}
theorem St.gr (h : St n₀ Br Bo R O vr vo W) (g : Gr W W') : St n₀ Br Bo R O vr vo W' :=
 ⟨(g.block Br h.br.lt).trans h.br, (g.block Bo h.bo.lt).trans h.bo, ownsRow_gr h.row g, ownsRow_gr h.out g⟩
theorem St.ne (h : St n₀ Br Bo R O vr vo W) : some Br ≠ vr.ownBlock ∧ some Br ≠ vo.ownBlock ∧ some Bo ≠ vr.ownBlock ∧ some Bo ≠ vo.ownBlock :=
 ⟨h.br.not_row (by decide) h.row, h.br.not_row (by decide) h.out, h.bo.not_row (by decide) h.row, h.bo.not_row (by decide) h.out⟩
theorem St.rowTurn {R' : List Nat} {n : Nat} {vr' : Value} {xs : List Value} (h : St n₀ Br Bo R O vr vo W) (hne : Br ≠ Bo) (hg : W.grownBy W' vr.ownBlock) (hr : W'.ownsRow n₀ 173 2 vr' n xs) (hn : n = R'.length) (hx : xs = mk2 R') :
    Boxed W' Br 170 vr ∧ St n₀ Br Bo R' O vr' vo (W'.setCell ⟨Br, 0, none⟩ vr') := by
 subst hn hx
 obtain ⟨h1, h2, h3, h4⟩ := h.ne
 have b1 := h.br.kept hg h1
 have b2 := h.bo.kept hg h3
 have o2 := h.out.kept hg (rows_ne h.out h.row (by decide))
 refine ⟨b1, b1.set _, b2.kept (grownBy_setCell' W' Br vr') (by simpa using (Ne.symm hne)), hr.kept (grownBy_setCell' W' Br vr') (.inr (b1.not_row (by decide) hr).symm), o2.kept (grownBy_setCell' W' Br vr') (.inr (b1.not_row (by decide) o2).symm)⟩
theorem St.outTurn {O' : List Nat} {n : Nat} {vo' : Value} {xs : List Value} (h : St n₀ Br Bo R O vr vo W) (hne : Br ≠ Bo) (hg : W.grownBy W' vo.ownBlock) (hr : W'.ownsRow n₀ 134 1 vo' n xs) (hn : n = O'.length) (hx : xs = u32s O') :
    Boxed W' Bo 108 vo ∧ St n₀ Br Bo R O' vr vo' (W'.setCell ⟨Bo, 0, none⟩ vo') := by
 subst hn hx
 obtain ⟨h1, h2, h3, h4⟩ := h.ne
 have b1 := h.bo.kept hg h4
 have b2 := h.br.kept hg h2
 have o2 := h.row.kept hg (rows_ne h.row h.out (by decide))
 refine ⟨b1, b2.kept (grownBy_setCell' W' Bo vo') (by simpa using hne), b1.set _, o2.kept (grownBy_setCell' W' Bo vo') (.inr (b1.not_row (by decide) o2).symm), hr.kept (grownBy_setCell' W' Bo vo') (.inr (b1.not_row (by decide) hr).symm)⟩
theorem St.alloc (h : St n₀ Br Bo R O vr vo W) (o : Obj) : St n₀ Br Bo R O vr vo (W.alloc o) := h.gr (Gr.alloc _ _)
theorem own_cut {w : World} {base g cap n size : Nat} {e : TypeId} {xs : List Value} (h : w.ownsRow base e size (.slice (some ⟨g, 0, none⟩) n cap) n xs) : w.ownsRow base e size (.slice (some ⟨g, 0, none⟩) 0 cap) 0 [] := by
 rcases h.2 with ⟨h', _⟩ | ⟨g', cap', cur, h', hb, hg, hnc, hcm, hcs, _⟩
 · simp at h'
 · simp only [Value.slice.injEq, Option.some.injEq, Addr.mk.injEq, and_true, true_and] at h'
   obtain ⟨rfl, rfl⟩ := h'
   exact ⟨by simp, .inr ⟨g, cap, cur, rfl, hb, hg, Nat.zero_le _, hcm, hcs, by simp⟩⟩
theorem insNil_any (w : World) (f : Value) : Calls Tryz.prog 186 #[.slice none 0 0, .int .i64 0, .int .i64 0, f] w fun e w' => e = .returned (.tuple #[]) ∧ w' = w := by
 go_enter Tryz.func186, Tryz.ntmps186
 go_wp2_with fail
 go_loop [8] (fun v => v = .int .i64 1) (fun _ => 0)
 case atStart => rfl
 case round =>
  subst hrel
  go_wp2
  go_end0
  exact ⟨rfl, rfl⟩
theorem stableNil_any (w : World) (f : Value) : Calls Tryz.prog 166 #[.slice none 0 0, .int .i64 0, f] w fun e w' => e = .returned (.tuple #[]) ∧ w' = w := by
 go_enter Tryz.func166, Tryz.ntmps166
 go_wp2_with fail
 go_loop [7, 8] (fun v u => v = .int .i64 0 ∧ u = .int .i64 20) (fun _ _ => 0)
 case atStart => exact ⟨rfl, rfl⟩
 case round =>
  obtain ⟨rfl, rfl⟩ := hrel
  go_wp2_with (go_at_call 186; refine (insNil_any _ _).mono ?_; rintro e w2 ⟨rfl, rfl⟩)
  go_loop [6] (fun v => v = .int .i64 20) (fun _ => 0)
  case atStart => rfl
  case round =>
   subst hrel
   go_wp2
   go_end0
   exact ⟨rfl, rfl⟩
theorem sortNil_any (w : World) (f : Value) : Calls Tryz.prog 133 #[.slice none 0 0, f] w fun e w' => e = .returned (.tuple #[]) ∧ w' = w := by
 go_enter Tryz.func133, Tryz.ntmps133
 go_wp2_with (go_at_call 166; refine (stableNil_any _ _).mono ?_; rintro e w2 ⟨rfl, rfl⟩)
 go_end0
 exact ⟨rfl, rfl⟩
def Flushed (n₀ Br Bo : Nat) (R O : List Nat) (w : World) (e : Ending) (w' : World) : Prop := e = .returned (.tuple #[]) ∧ (∃ vr vo, St n₀ Br Bo [] (O ++ srt R) vr vo w') ∧ Below n₀ w w' ∧ w.heap.size ≤ w'.heap.size
theorem flush_any (hne : Br ≠ Bo) (hn1 : n₀ ≤ Br) (hn2 : n₀ ≤ Bo) (hR : R.length ≤ 1000000) (hO : O.length + R.length ≤ 1000000) (h : St n₀ Br Bo R O vr vo W) :
    Calls Tryz.prog 132 #[.pointer (some ⟨Br, 0, none⟩), .pointer (some ⟨Bo, 0, none⟩)] W (Flushed n₀ Br Bo R O W) := by
 have hsz : n₀ ≤ W.heap.size := by have := h.br.lt; omega
 have hc1 := h.br.cell
 have hc2 := h.bo.cell
 have hf1 := h.br.frozen
 rcases h.row.2 with ⟨rfl, h0⟩ | ⟨g, cap, cur, rfl, hgb, _⟩
 · have hR0 : R = [] := List.eq_nil_of_length_eq_zero h0
   subst hR0
   have HS := hid h
   clear h h0 hc2
   go_enter Tryz.func132, Tryz.ntmps132
   go_wp2_with (go_at_call 133; refine (sortNil_any _ _).mono ?_; rintro e w2 ⟨rfl, rfl⟩)
   go_loop [8] (fun v => v = .int .i64 0) (fun _ => 0)
   case atStart => rfl
   case round =>
    subst hrel
    go_wp2
    go_end0
    have ht := HS.out.rowTurn (R' := []) hne (World.grownBy.refl _ _) HS.out.row rfl rfl
    refine ⟨rfl, ⟨.slice none 0 0, vo, ?_⟩, (Below.refl _ _).setCell hn1 _, by simp [World.setCell]⟩
    rw [show srt [] = [] from List.eq_nil_of_length_eq_zero (srt_length []), List.append_nil]
    exact ht.2
 · have hl := hR
   have HSR := hid (sortRow_any W n₀ g cap R hR h.row)
   obtain ⟨n, hn⟩ : ∃ n, R.length = n := ⟨_, rfl⟩
   have hsl : (srt R).length = n := by rw [srt_length]; exact hn
   rw [hn] at HSR hc1 hO hl
   have hnb : (n : Int) ≤ 1000000 := by omega
   have HS := hid h
   have HN := hid hn
   have HSL := hid hsl
   obtain ⟨i0, hi, hz0, hz1, hz2⟩ := info_parts info_u32
   clear h hR hn hsl
   go_enter Tryz.func132, Tryz.ntmps132
   go_wp2_with (go_at_call 133; refine HSR.out.mono ?_; rintro e w2 ⟨rfl, hr2, hg2⟩; obtain ⟨q1, q2, q3, q4⟩ := HS.out.ne; have S2 : St n₀ Br Bo (srt R) O (.slice (some ⟨g, 0, none⟩) n cap) vo w2 := ⟨by have := HS.out.br.kept hg2 q1; rw [HN.out] at this; exact this, HS.out.bo.kept hg2 q3, by rw [HSL.out]; exact hr2, HS.out.out.kept hg2 (rows_ne HS.out.out HS.out.row (by decide))⟩; have B2 : Below n₀ W w2 := (Below.refl n₀ W).grown hg2 hsz (fun k hk => by have : g = k := Option.some.inj hk; omega); have z2 := hg2.size; have hc1 := S2.br.cell; have HS2 := hid S2; clear S2 hr2 hg2 q1 q2 q3 q4)
   go_loopw [8] (fun vi wr => ∃ (k : Nat) (vo' : Value), k ≤ n ∧ vi = .int .i64 k ∧ Hid (St n₀ Br Bo (srt R) (O ++ (srt R).take k) (.slice (some ⟨g, 0, none⟩) n cap) vo' wr) ∧ Below n₀ W wr ∧ W.heap.size ≤ wr.heap.size) (fun vi _ => n - (intOf vi).toNat)
   case atStart => exact ⟨0, vo, Nat.zero_le _, rfl, by rw [List.take_zero, List.append_nil]; exact HS2, B2, z2⟩
   case round =>
    obtain ⟨k, vo', hk, rfl, HK, hBk, hzk⟩ := hrel
    clear HS HS2 B2 z2 HSR hc1 hc2 hf1
    by_cases hkn : k < n
    · have hkL : k < (srt R).length := by rw [HSL.out]; exact hkn
      have hm := mk2_get (srt R) k hkL
      have hr := HK.out.row
      rw [HSL.out] at hr
      have hce1 := hr.cellAt (k * 2) (by omega)
      have hce2 := hr.cellAt (k * 2 + 1) (by omega)
      rw [hm.1] at hce1
      rw [hm.2] at hce2
      have hcb := HK.out.bo.cell
      have hca := fun o => (HK.out.bo.alloc o).cell
      have hcaa := fun o o' => ((HK.out.bo.alloc o).alloc o').cell
      have HT : Hid (O ++ (srt R).take (k + 1) = (O ++ (srt R).take k) ++ [(srt R).getD k 0]) := by
       show _ = _
       rw [List.take_succ_eq_append_getElem hkL, List.getD, List.getElem?_eq_getElem hkL, List.append_assoc]; rfl
      have HOL : Hid ((O ++ (srt R).take k).length ≤ 1000000) := by show _ ≤ _; rw [List.length_append, List.length_take]; omega
      have hnw : n₀ ≤ wr.heap.size := by omega
      clear hm hr
      generalize cls ((srt R).getD k 0) = c at hce2
      generalize (srt R).getD k 0 = x at hce1 HT
      generalize O ++ (srt R).take k = P at HK HT HOL
      have hlt : (k : Int) < n := by omega
      have e0 : (k : Int).toNat = k := by omega
      go_wp2_with (at_builtin; (refine wpList_append_own _ rfl _ _ 108 rfl n₀ 134 i0 (.int .u32 0) 1 4 Tryz.underlying108 hi hz0 hz1 hz2 rfl (by decide) vo' _ _ rfl ((HK.out.alloc _).alloc _).out ⟨wr.heap.size + 1, 0, none⟩ 1 1 [.int .u32 (x : Int)] rfl rfl (by simpa using cell_one_new (wr.alloc _) _ _) (by simp [Value.oneCell']) (by have := HOL.out; unfold maxLen; omega) (by have := HOL.out; omega) (by simp; omega) ?_; intro v' w1 hown' hgrow _; obtain ⟨g', cap', rfl⟩ := ownsRow_succ hown'; obtain ⟨hb1, S3⟩ := ((HK.out.alloc _).alloc _).outTurn (O' := P ++ [x]) hne hgrow hown' (by simp) (by unfold u32s; rw [List.map_append]; rfl); have hcb1 := hb1.cell; have hfb1 := hb1.frozen; have HS3 := hid S3; clear S3 hb1))
      go_roundw
      case rel =>
       have hB1 : Below n₀ W w1 := Below.grown ((hBk.alloc hnw _).alloc (by simp; omega) _) hgrow (by simp; omega) (row_block HK.out.out)
       have hz1 := hgrow.size
       exact ⟨k + 1, _, hkn, by go_num, by rw [HT.out]; exact HS3, hB1.setCell hn2 _, by simp [World.setCell] at hz1 ⊢; omega⟩
      case measure => simp [intOf]; omega
    · have hkn' : k = n := by omega
      have hcr := HK.out.br.cell
      have hfr := HK.out.br.frozen
      have HT : Hid (O ++ (srt R).take k = O ++ srt R) := by show _ = _; rw [List.take_of_length_le (by rw [HSL.out]; omega)]
      rw [HT.out] at HK
      go_wp2
      go_end0
      have ht := HK.out.rowTurn (R' := []) (vr' := .slice (some ⟨g, 0, none⟩) 0 cap) (n := 0) (xs := []) hne (World.grownBy.refl _ _) (by have := HK.out.row; rw [HSL.out] at this; exact own_cut this) rfl rfl
      exact ⟨rfl, ⟨_, _, ht.2⟩, hBk.setCell hn1 _, by simp [World.setCell]; omega⟩
end Go.Proofs.YthlflglkdaainaaGreatDoor
namespace Go.Proofs.YthlflglkdaainaaGreatDoor
open Go.Shelf Go.RowKit Go.Lib Go.Sort
theorem cells_two_new (w : World) (a b : Value) (t : TypeId) : ∀ (j : Nat) (u : Value), [a, b][j]? = some u → (w.alloc (.cells #[a, b] t)).cell? ((⟨w.heap.size, 0, none⟩ : Addr).add j) = some u := by
 intro j u h
 match j, h with
 | 0, h => simp at h; subst h; simp [Addr.add, World.cell?_alloc_new]
 | 1, h => simp at h; subst h; simp [Addr.add, World.cell?_alloc_new]
 | j + 2, h => simp at h
theorem Order_any (v : Value) (L : List Nat) (w : World) (ht : Tz w) (hv : Sl w v L) (hb : ∀ x ∈ L, x < 4294967296) (hl : L.length ≤ 1000000) : Calls Tryz.prog 101 #[v] w (RowOf (ordL L) w) := by
 obtain ⟨ao, ca, rfl, _, hA⟩ := hv
 obtain ⟨n, hn⟩ : ∃ n, L.length = n := ⟨_, rfl⟩
 rw [hn] at hA ⊢
 have hnb : (n : Int) ≤ 1000000 := by omega
 have HN := hid hn
 have HA := hid hA
 have HB := hid hb
 obtain ⟨F, hF⟩ : ∃ F, ordL L = F := ⟨_, rfl⟩
 rw [hF]
 have HF : Hid ([] ++ ordG [] (L.drop 0) = F) := hF
 clear hn hA hb hl hF
 obtain ⟨i0, hi, hz0, hz1, hz2⟩ := info_parts info_u32
 obtain ⟨j0, hj, hy0, hy1, hy2⟩ := info_parts info_mark
 have S0 : St w.heap.size (w.heap.size + 1) w.heap.size [] [] (.slice none 0 0) (.slice none 0 0) ((w.alloc (.cells #[.slice none 0 0] 108)).alloc (.cells #[.slice none 0 0] 170)) := by
  refine ⟨?_, (Boxed.new w _ _).alloc _, World.ownsRow_nil _ _ _ _, World.ownsRow_nil _ _ _ _⟩
  have := Boxed.new (w.alloc (.cells #[.slice none 0 0] 108)) 170 (.slice none 0 0)
  rw [World.size_alloc] at this
  exact this
 have HS0 := hid S0
 clear S0
 obtain ⟨n₀, hn₀⟩ : ∃ n₀, w.heap.size = n₀ := ⟨_, rfl⟩
 have HN0 := hid hn₀
 go_enter Tryz.func101, Tryz.ntmps101
 go_wp2_with fail
 rw [HN0.out] at HS0
 clear hn₀
 go_loopw [12] (fun vi wr => ∃ (k : Nat) (R O : List Nat) (vr vo : Value), k ≤ n ∧ vi = .int .i64 k ∧ O.length + R.length = k ∧ Hid (St n₀ (n₀ + 1) n₀ R O vr vo wr) ∧ Hid (O ++ ordG R (L.drop k) = F) ∧ Gr w wr ∧ n₀ + 2 ≤ wr.heap.size) (fun vi _ => n - (intOf vi).toNat)
 case atStart => exact ⟨0, [], [], _, _, Nat.zero_le _, rfl, rfl, HS0, HF, (Gr.alloc _ _).trans (Gr.alloc _ _), by simp; have := HN0.out; omega⟩
 case round =>
  obtain ⟨k, R, O, vr, vo, hk, rfl, hRO, HS, HE, hgk, hzk⟩ := hrel
  clear HS0 HF
  have hne : n₀ + 1 ≠ n₀ := by omega
  by_cases hkn : k < n
  · obtain ⟨g, off, rfl, hcell⟩ := HA.out k hkn
    have hcell := hgk.cell hcell
    have hkL : k < L.length := by rw [HN.out]; exact hkn
    have hx : L.getD k 0 < 4294967296 := by
     rw [List.getD, List.getElem?_eq_getElem hkL]; exact HB.out _ (List.getElem_mem _)
    have HC := hid (class_any (L.getD k 0) hx wr (ht.gr hgk))
    have hE := HE.out
    rw [drop_cons hkL] at hE
    have HE2 := hid hE
    clear hx hE HE
    generalize L.getD k 0 = x at hcell HC HE2
    have hlt : (k : Int) < n := by omega
    by_cases h0 : cls x = 0
    · -- a starter: the row is flushed
      have HE3 : Hid (O ++ srt R ++ [x] ++ ordG [] (L.drop (k + 1)) = F) := by
       show _ = _
       rw [← HE2.out, ordG_s h0]; simp
      rw [h0] at HC
      clear HE2 h0
      have hlR : R.length ≤ 1000000 := by omega
      go_wp2_with (first
       | (go_at_call 129; refine HC.out.mono ?_; rintro e w1 ⟨rfl, g1⟩; have hS1 := HS.out.gr g1; have hzw1 := g1.size; have HS1 := hid hS1; clear hS1)
       | (go_at_call 132; refine (flush_any hne (by omega) (Nat.le_refl _) hlR (by omega) HS1.out).mono ?_; rintro e w2 ⟨rfl, ⟨vr2, vo2, S2⟩, hB2, hzw2⟩; have hco := S2.bo.cell; have hcoa := fun o => (S2.bo.alloc o).cell; have HOL : Hid ((O ++ srt R).length = k) := (by show _ = _; rw [List.length_append, srt_length]; exact hRO); generalize O ++ srt R = P at S2 HE3 HOL; have HS2 := hid S2; clear S2)
       | (at_builtin; go_loud ((refine wpList_append_own _ rfl _ _ 108 rfl n₀ 134 i0 (.int .u32 0) 1 4 Tryz.underlying108 hi hz0 hz1 hz2 rfl (by decide) vo2 _ _ rfl (HS2.out.alloc _).out ⟨w2.heap.size, 0, none⟩ 1 1 [.int .u32 (x : Int)] rfl rfl (cell_one_new _ _ _) (by simp [Value.oneCell']) (by rw [HOL.out]; unfold maxLen; omega) (by rw [HOL.out]; omega) (by simp; omega) ?_; intro v' w3 hown' hgrow _; obtain ⟨g', cap', rfl⟩ := ownsRow_succ hown'; obtain ⟨hb2, S3⟩ := (HS2.out.alloc _).outTurn (O' := P ++ [x]) hne hgrow hown' (by simp) (by unfold u32s; rw [List.map_append]; rfl); have hcb2 := hb2.cell; have hfb2 := hb2.frozen; have HS3 := hid S3; clear S3 hb2))))
      go_roundw
      case rel =>
       have hrow := HS2.out.out
       rw [← HN0.out] at hrow
       have hG := gr_added (Below.trans (hgk.trans g1) (by rw [HN0.out]; exact hB2)) hrow hgrow
       have hzz := hgrow.size
       exact ⟨k + 1, [], P ++ [x], _, _, hkn, by go_num, by simp; have := HOL.out; omega, HS3, HE3, hG.setCell (p := ⟨n₀, 0, none⟩) (by have := HN0.out; simp; omega) _, by simp [World.setCell] at hzz ⊢; omega⟩
      case measure => simp [intOf]; omega
    · have HE3 : Hid (O ++ ordG (R ++ [x]) (L.drop (k + 1)) = F) := by show _ = _; rw [← HE2.out, ordG_m h0]
      have h0z : ((cls x : Int) != 0) = true := by rw [bne_iff_ne]; omega
      have h0y : ¬ (cls x : Int) = 0 := by omega
      have hm : mk2 (R ++ [x]) = mk2 R ++ [Value.int .u32 (x : Int), Value.int .i64 (cls x : Int)] := by rw [mk2_append]; rfl
      have hlR : R.length ≤ 1000000 := by omega
      have HM := hid hm
      clear HE2 h0 hm
      generalize cls x = c at HC h0z h0y HM
      go_wp2_with (first
       | (go_at_call 129; refine HC.out.mono ?_; rintro e w1 ⟨rfl, g1⟩; have hS1 := HS.out.gr g1; have hcr := hS1.br.cell; have hcra := fun o => (hS1.br.alloc o).cell; have hzw1 := g1.size; have HS1 := hid hS1; clear hS1)
       | (at_builtin; (refine wpList_append_own _ rfl _ _ 170 rfl n₀ 173 j0 (.agg #[.int .u32 0, .int .i64 0]) 2 16 Tryz.underlying170 hj hy0 hy1 hy2 rfl (by decide) vr _ _ rfl (HS1.out.alloc _).row ⟨w1.heap.size, 0, none⟩ 1 1 [.int .u32 (x : Int), .int .i64 (c : Int)] rfl rfl (cells_two_new _ _ _ _) (by simp [Value.oneCell']) (by unfold maxLen; omega) (by omega) (by simp; omega) ?_; intro v' w2 hown' hgrow _; obtain ⟨g', cap', rfl⟩ := ownsRow_succ hown'; obtain ⟨hb2, S3⟩ := (HS1.out.alloc _).rowTurn (R' := R ++ [x]) hne hgrow hown' (by simp) HM.out.symm; have hcb2 := hb2.cell; have hfb2 := hb2.frozen; have HS3 := hid S3; clear S3 hb2)))
      go_roundw
      case rel =>
       have hrow := HS1.out.row
       rw [← HN0.out] at hrow
       have hG := gr_added (hgk.trans g1) hrow hgrow
       have hzz := hgrow.size
       exact ⟨k + 1, R ++ [x], O, _, _, hkn, by go_num, by simp; omega, HS3, HE3, hG.setCell (p := ⟨n₀ + 1, 0, none⟩) (by have := HN0.out; simp; omega) _, by simp [World.setCell] at hzz ⊢; omega⟩
      case measure => simp [intOf]; omega
  · have hlR : R.length ≤ 1000000 := by omega
    have hE : O ++ srt R = F := by
     have := HE.out
     rw [List.drop_of_length_le (by rw [HN.out]; omega), ordG_n] at this
     exact this
    have HE2 := hid hE
    clear hE HE
    go_wp2_with (go_at_call 132; refine (flush_any hne (by omega) (Nat.le_refl _) hlR (by omega) HS.out).mono ?_; rintro e w2 ⟨rfl, ⟨vr2, vo2, S2⟩, hB2, hzw2⟩; rw [HE2.out] at S2; have hco := S2.bo.cell; have hro := S2.out)
    go_ret
    refine ⟨vo2, rfl, by rw [HN0.out]; exact hro, ?_⟩
    exact Below.trans hgk (by rw [HN0.out]; exact hB2)
end Go.Proofs.YthlflglkdaainaaGreatDoor
namespace Go.Proofs.YthlflglkdaainaaGreatDoor
open Go.RowKit
end Go.Proofs.YthlflglkdaainaaGreatDoor
