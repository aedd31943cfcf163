import Derived.Laws.MakeOwn
import Derived.RegionTactic
import Derived.RangeFuncBox
import Derived.Test.YthlflglkdaainaaGreatDoorGB
import Derived.Test.YthlflglkdaainaaGreatDoorGL
import Derived.Test.YthlflglkdaainaaGreatDoorGR
import Derived.Test.YthlflglkdaainaaGreatDoorGS
/- Texts of this seat: KO. -/
set_option maxRecDepth 100000
set_option maxHeartbeats 16000000
namespace Go.Proofs.YthlflglkdaainaaGreatDoor
open Go.RowKit
theorem Jq {w : World} {base : Nat} {e : TypeId} {size : Nat} {v : Value} {n : Nat} {xs : List Value} (h : w.ownsRow base e size v n xs) : ∃ a c, v = .slice a n c := by
 rcases h.2 with ⟨rfl, rfl⟩ | ⟨g, cap, cur, hv, _⟩
 · exact ⟨none, 0, rfl⟩
 · exact ⟨_, _, hv⟩
theorem Ot {p c : Nat} {t : List Nat} (h : cls c ≠ 0 ∧ cls c < p) : dU cls p (c :: t) = false := by
 rw [dU, show (Nat.beq (cls c) 0 || Nat.ble p (cls c)) = false by rw [Bool.or_eq_false_iff, ← Bool.not_eq_true, ← Bool.not_eq_true, Nat.beq_eq, Nat.ble_eq]; omega]; rfl
theorem QT {p c : Nat} {t : List Nat} (h : ¬ (cls c ≠ 0 ∧ cls c < p)) : dU cls p (c :: t) = dU cls (cls c) t := by
 rw [dU, show (Nat.beq (cls c) 0 || Nat.ble p (cls c)) = true by rw [Bool.or_eq_true, Nat.beq_eq, Nat.ble_eq]; omega]; rfl
theorem drop_cons {L : List Nat} {k : Nat} (h : k < L.length) : L.drop k = L.getD k 0 :: L.drop (k + 1) := by
 rw [List.drop_eq_getElem_cons h, List.getD, List.getElem?_eq_getElem h]; rfl
noncomputable def DC (L : List Nat) (i : Nat) : List Nat := (L.take i).foldl og []
theorem MJ (T : List Nat) (x : Nat) : (og T x).length = T.length + 1 := by
 unfold og
 split
 · simp
 · have := Vq (oK T) (cls x) T.length
   rw [List.length_append, List.length_cons, List.length_take, List.length_drop]; omega
theorem qj : ∀ (l T : List Nat), (l.foldl og T).length = T.length + l.length
 | [], T => rfl
 | x :: l, T => by rw [List.foldl_cons, qj l, MJ, List.length_cons]; omega
theorem OO {L : List Nat} {i : Nat} (h : i ≤ L.length) : (DC L i).length = i := by
 unfold DC; rw [qj, List.length_take]; simp; omega
theorem Xg {L : List Nat} {i : Nat} (h : i < L.length) : DC L (i + 1) = og (DC L i) (L.getD i 0) := by
 unfold DC
 rw [List.take_succ_eq_append_getElem h, List.foldl_append, List.getD, List.getElem?_eq_getElem h]; rfl
theorem ZM {L : List Nat} : DC L L.length = fO L := by unfold DC; rw [List.take_length]; exact MG L
def arr (T : List Nat) (x : Nat) (D : List Nat) (k : Nat) : List Nat := T.take k ++ x :: (T.drop k ++ D)
theorem OQ {T : List Nat} {q : Nat} (hq : q < T.length) (x : Nat) (D : List Nat) : arr T x D (q + 1) = T.take q ++ T.getD q 0 :: x :: (T.drop (q + 1) ++ D) := by
 unfold arr
 rw [List.take_succ_eq_append_getElem hq, List.getD, List.getElem?_eq_getElem hq, List.append_assoc]; rfl
theorem Xh {T : List Nat} {q : Nat} (hq : q < T.length) (x : Nat) (D : List Nat) : arr T x D q = T.take q ++ x :: T.getD q 0 :: (T.drop (q + 1) ++ D) := by
 unfold arr
 rw [drop_cons hq]; rfl
theorem ZN (T : List Nat) (x : Nat) (D : List Nat) {k : Nat} (hk : k ≤ T.length) : (arr T x D k)[k]? = some x := by
 unfold arr
 rw [List.getElem?_append_right (by rw [List.length_take]; omega), List.length_take, Nat.min_eq_left hk, Nat.sub_self]; rfl
theorem Xi {T : List Nat} {q : Nat} (hq : q < T.length) (x : Nat) (D : List Nat) : (arr T x D (q + 1))[q]? = some (T.getD q 0) := by
 rw [OQ hq, List.getElem?_append_right (by rw [List.length_take]; omega), List.length_take, Nat.min_eq_left (by omega), Nat.sub_self]; rfl
theorem ZO {T : List Nat} {q : Nat} (hq : q < T.length) (x : Nat) (D : List Nat) : ((arr T x D (q + 1)).set q x).set (q + 1) (T.getD q 0) = arr T x D q := by
 rw [OQ hq, Xh hq]
 have hl : (T.take q).length = q := by rw [List.length_take]; omega
 rw [List.set_append_right _ _ (by omega), hl, Nat.sub_self, List.set_cons_zero, List.set_append_right _ _ (by omega), hl, show q + 1 - q = 0 + 1 by omega, List.set_cons_succ, List.set_cons_zero]
theorem MK {l : List Nat} {k x : Nat} (h : l[k]? = some x) : (bZ l)[k]? = some (.int .u32 (x : Int)) := by
 unfold bZ; rw [List.getElem?_map, h]; rfl
theorem OT (l : List Nat) (k x : Nat) : (bZ l).set k (.int .u32 (x : Int)) = bZ (l.set k x) := by unfold bZ; rw [List.map_set]
theorem Xj {T : List Nat} {x y : Nat} (h : y ∈ og T x) : y ∈ T ∨ y = x := by
 unfold og at h
 split at h
 · rcases List.mem_append.1 h with h | h
   · exact .inl h
   · exact .inr (List.mem_singleton.1 h)
 · rcases List.mem_append.1 h with h | h
   · exact .inl (List.mem_of_mem_take h)
   · rcases List.mem_cons.1 h with h | h
     · exact .inr h
     · exact .inl (List.mem_of_mem_drop h)
theorem uT {y : Nat} : ∀ (l T : List Nat), y ∈ l.foldl og T → y ∈ T ∨ y ∈ l
 | [], T, h => .inl h
 | x :: l, T, h => by
  rw [List.foldl_cons] at h
  rcases uT l _ h with h | h
  · rcases Xj h with h | h
    · exact .inl h
    · exact .inr (by rw [h]; simp)
  · exact .inr (List.mem_cons_of_mem _ h)
theorem ZP {L : List Nat} {i y : Nat} (h : y ∈ DC L i) : y ∈ L := by
 rcases uT _ _ h with h | h
 · cases h
 · exact List.mem_of_mem_take h
theorem QW (v : Value) (L : List Nat) (w : World) (hv : Sl w v L) (hb : ∀ x ∈ L, x < 4294967296) (hl : L.length ≤ 1000000) : Calls Tryz.prog 174 #[v] w (RowOf (fO L) w) := by
 have S0 := hid hv
 clear hv
 have HB := hid hb
 clear hb
 obtain ⟨n, hn⟩ : ∃ n, L.length = n := ⟨_, rfl⟩
 have hnb : (n : Int) ≤ 1000000 := by omega
 have HN := hid hn
 have mixed : Tryz.prog.follows .mixedOrders = true := by kernel_rfl
 have hlL : L.length ≤ 1000000 := hl
 have HL := hid hlL
 clear hn hl hlL
 go_enter Tryz.func174, Tryz.ntmps174
 go_wp2_with (at_builtin; refine pW rfl _ _ rfl L rfl _ rfl S0.out HL.out ?_; intro vi wi hvi gi; obtain ⟨ao, ca, rfl⟩ := Jq hvi; have HVI := hid hvi; clear hvi)
 have HO0 : Hid (wi.ownsRow w.heap.size 134 1 (.slice ao n ca) n (bZ (DC L 0 ++ L.drop 0))) := by
  show World.ownsRow _ _ _ _ _ _ _
  have := HVI.out
  rw [HN.out] at this
  exact this
 rw [HN.out]
 clear HVI
 go_loopw [4] (fun vk wr => ∃ i : Nat, i ≤ n ∧ vk = .int .i64 i ∧ Hid (wr.ownsRow w.heap.size 134 1 (.slice ao n ca) n (bZ (DC L i ++ L.drop i))) ∧ Gr w wr) (fun vk _ => n - (intOf vk).toNat)
 case atStart => exact ⟨0, Nat.zero_le _, rfl, HO0, gi⟩
 case round =>
  obtain ⟨i, hi, rfl, HO, hgk⟩ := hrel
  clear HO0 gi
  by_cases hin : i < n
  · obtain ⟨g, cap, e, hg1, hg2⟩ := EP HO.out (by omega)
    injection e with e1 e2 e3
    subst e1 e3
    have hiL : i < L.length := by rw [HN.out]; exact hin
    obtain ⟨T, hT⟩ : ∃ T, DC L i = T := ⟨_, rfl⟩
    obtain ⟨x, hx⟩ : ∃ x, L.getD i 0 = x := ⟨_, rfl⟩
    obtain ⟨D, hD⟩ : ∃ D, L.drop (i + 1) = D := ⟨_, rfl⟩
    have hTl : T.length = i := by rw [← hT]; exact OO (by omega)
    have hTb : ∀ y ∈ T, y < 4294967296 := fun y hy => HB.out y (ZP (by rw [hT]; exact hy))
    have hxb : x < 4294967296 := by
     rw [← hx, List.getD, List.getElem?_eq_getElem hiL]; exact HB.out _ (List.getElem_mem _)
    have HP : Hid (DC L (i + 1) = og T x) := by show _ = _; rw [Xg hiL, hT, hx]
    have HDl : Hid (D.length = n - (i + 1)) := by show _ = _; rw [← hD, List.length_drop, HN.out]
    have hO : wr.ownsRow w.heap.size 134 1 (.slice (some ⟨g, 0, none⟩) n ca) n (bZ (arr T x D i)) := by
     have := HO.out
     rw [drop_cons hiL, hT, hx, hD] at this
     have e : arr T x D i = T ++ x :: D := by unfold arr; rw [List.take_of_length_le (by omega), List.drop_of_length_le (by omega)]; rfl
     rw [e]; exact this
    have hcell := hO.cellAt i (by omega)
    rw [MK (ZN T x D (by omega))] at hcell
    have HC := hid (ql x hxb wr)
    have HTL := hid hTl
    have HTB := hid hTb
    have HDD := hid hD
    have HO2 := hid hO
    obtain ⟨c, hc⟩ : ∃ c, cls x = c := ⟨_, rfl⟩
    rw [hc] at HC
    have HCX := hid hc
    clear hx hT hTl hTb hxb hD hO HO hc
    have hlt : (i : Int) < n := by omega
    go_wp2_with (go_at_call 173; refine HC.out.mono ?_; rintro e w1 ⟨rfl, g1⟩)
    have HO3 := hid (aU HO2.out g1)
    have G1 := hgk.trans g1
    clear HO2 hcell HC g1 hgk
    obtain ⟨wo, rfl⟩ : ∃ wo : World, wo = w1 := ⟨_, rfl⟩
    go_loopw [6] (fun vk wr => ∃ k : Nat, k ≤ i ∧ vk = .int .i64 k ∧ Hid (wr.ownsRow w.heap.size 134 1 (.slice (some ⟨g, 0, none⟩) n ca) n (bZ (arr T x D k))) ∧ Hid (uV (oK T) c i = uV (oK T) c k) ∧ (c = 0 → k = i) ∧ Gr w wr) (fun vk _ => (intOf vk).toNat)
    case atStart => exact ⟨i, Nat.le_refl _, rfl, HO3, rfl, fun _ => rfl, G1⟩
    case round =>
     obtain ⟨k, hk, rfl, HOk, HPk, hck, hgj⟩ := hrel
     clear HO3 G1
     have leave : (c = 0 ∨ k = 0 ∨ oK T (k - 1) ≤ c) → Hid (og T x ++ D = arr T x D k) := fun h => by
      show _ = _
      unfold og arr
      rw [HCX.out, HTL.out]
      by_cases h0 : c = 0
      · rw [if_pos h0, hck h0, List.take_of_length_le (by rw [HTL.out]; exact Nat.le_refl _), List.drop_of_length_le (by rw [HTL.out]; exact Nat.le_refl _)]; simp
      · rw [if_neg h0, HPk.out]
        have : uV (oK T) c k = k := by
         rcases h with h | h | h
         · exact absurd h h0
         · rw [h]; rfl
         · cases k with
           | zero => rfl
           | succ k => rw [uV, if_pos (by simpa using h)]
        rw [this]; simp
     have LV : Hid _ := leave
     clear leave
     by_cases h0 : c = 0
     · have HL2 := LV.out (.inl h0)
       have h0z : ((c : Int) != 0) = false := by rw [bne_eq_false_iff_eq]; omega
       have h0y : (c : Int) = 0 := by omega
       clear hck h0
       by_cases hk0 : 0 < k
       · have hk0z : (0 : Int) < (k : Int) := by omega
         go_wp2
         go_roundw
         case rel => exact ⟨i + 1, hin, by go_num, by rw [HP.out, HDD.out, HL2.out]; exact HOk, hgj⟩
         case measure => simp [intOf]; omega
       · have hk0z : ¬ (0 : Int) < (k : Int) := by omega
         go_wp2
         go_roundw
         case rel => exact ⟨i + 1, hin, by go_num, by rw [HP.out, HDD.out, HL2.out]; exact HOk, hgj⟩
         case measure => simp [intOf]; omega
     · have h0z : ((c : Int) != 0) = true := by rw [bne_iff_ne]; omega
       have h0y : ¬ (c : Int) = 0 := by omega
       clear hck
       by_cases hk0 : 0 < k
       · obtain ⟨q, rfl⟩ : ∃ q, k = q + 1 := ⟨k - 1, by omega⟩
         have hqT : q < T.length := by rw [HTL.out]; omega
         have hcell := HOk.out.cellAt q (by omega)
         rw [MK (Xi hqT x D)] at hcell
         have hcell2 := HOk.out.cellAt (q + 1) (by omega)
         rw [MK (ZN T x D (by rw [HTL.out]; exact hk))] at hcell2
         have hf1 := HOk.out.frozenAt q
         have hf2 := HOk.out.frozenAt (q + 1)
         have hyb : T.getD q 0 < 4294967296 := by
          rw [List.getD, List.getElem?_eq_getElem hqT]; exact HTB.out _ (List.getElem_mem _)
         have HC := hid (ql (T.getD q 0) hyb wr)
         have HSW := hid (ZO hqT x D)
         have HCA : Hid (oK T q = cls (T.getD q 0)) := rfl
         generalize T.getD q 0 = y at hcell HC HSW HCA
         obtain ⟨d, hd⟩ : ∃ d, cls y = d := ⟨_, rfl⟩
         rw [hd] at HC HCA
         clear hyb hd h0
         have hwq : IntKind.i64.wrap (q : Int) = (q : Int) := by rw [IntKind.wrap_i64]; omega
         have hqz : (0 : Int) < (q : Int) + 1 := by omega
         have hqn : (q : Int) + 1 < (n : Int) := by omega
         have hqn2 : (q : Int) < (n : Int) := by omega
         by_cases hdc : d ≤ c
         · have hdcz : (d : Int) ≤ (c : Int) := by omega
           have HL2 := LV.out (.inr (.inr (by simp only [Nat.add_sub_cancel]; rw [HCA.out]; exact hdc)))
           clear hcell2 hf1 hf2
           go_wp2_with (go_at_call 173; refine HC.out.mono ?_; rintro e w2 ⟨rfl, g2⟩)
           go_roundw
           case rel => exact ⟨i + 1, hin, by go_num, by rw [HP.out, HDD.out, HL2.out]; exact aU HOk.out g2, hgj.trans g2⟩
           case measure => simp [intOf]; omega
         · have hdcz : ¬ (d : Int) ≤ (c : Int) := by omega
           have HP2 : Hid (uV (oK T) c i = uV (oK T) c q) := by show _ = _; rw [HPk.out, uV, HCA.out, if_neg hdc]
           go_wp2_with (go_at_call 173; refine HC.out.mono ?_; rintro e w2 ⟨rfl, g2⟩; have hO2 := aU HOk.out g2; have hcell := g2.cell hcell; have hcell2 := g2.cell hcell2; have hf1 := hO2.frozenAt q; have hf2 := hO2.frozenAt (q + 1); have HO2 := hid hO2; clear hO2)
           have hST : ∀ W : World, W.ownsRow w.heap.size 134 1 (.slice (some ⟨g, 0, none⟩) n ca) n (bZ (arr T x D (q + 1))) → ((W.setCell ⟨g, q, none⟩ (.int .u32 (x : Int))).setCell ⟨g, q + 1, none⟩ (.int .u32 (y : Int))).ownsRow w.heap.size 134 1 (.slice (some ⟨g, 0, none⟩) n ca) n (bZ (arr T x D q)) := fun W h => by
            have h2 := ((h.stored q (.int .u32 (x : Int))).1.stored (q + 1) (.int .u32 (y : Int))).1
            rw [OT, OT, HSW.out] at h2
            exact h2
           have HST := hid hST
           clear hST
           go_region
           all_goals go_wp2
           all_goals
            go_roundw
            case rel => exact ⟨q, by omega, rfl, HST.out _ HO2.out, HP2, fun h => by omega, (((hgj.trans g2).setCell (p := ⟨g, q, none⟩) hg1 _).setCell (p := ⟨g, q + 1, none⟩) hg1 _).trans (Gr.drew _)⟩
            case measure => simp [intOf]
       · have hk0z : ¬ (0 : Int) < (k : Int) := by omega
         have HL2 := LV.out (.inr (.inl (by omega)))
         go_wp2
         go_roundw
         case rel => exact ⟨i + 1, hin, by go_num, by rw [HP.out, HDD.out, HL2.out]; exact HOk, hgj⟩
         case measure => simp [intOf]; omega
  · have hin' : i = n := by omega
    go_wp2
    go_ret
    refine ⟨_, rfl, ?_, hgk⟩
    have := HO.out
    rw [hin', ← HN.out, ZM, List.drop_length, List.append_nil] at this
    rw [qO]
    rw [← HN.out]
    exact this
open Go.Shelf Go.RowKit Go.Lib Go.Sort
noncomputable def Iy (x : Nat × Nat) : List Value := [.int .u32 (x.1 : Int), .int .i64 (cls x.1 : Int)]
noncomputable def cfM (x y : Nat × Nat) : Int := (cls x.1 : Int) - (cls y.1 : Int)
noncomputable def mk2 (R : List Nat) : List Value := R.flatMap fun (c : Nat) => [Value.int .u32 (c : Int), Value.int .i64 (cls c : Int)]
theorem Ro (R : List Nat) : (mk2 R).length = R.length * 2 := by
 unfold mk2
 induction R with
 | nil => rfl
 | cons a R ih => rw [List.flatMap_cons, List.length_append, ih]; simp; omega
theorem Rq (A B : List Nat) : mk2 (A ++ B) = mk2 A ++ mk2 B := by unfold mk2; rw [List.flatMap_append]
theorem ML : ∀ (R : List Nat) (k : Nat), k < R.length → (mk2 R)[k * 2]? = some (.int .u32 ((R.getD k 0 : Nat) : Int)) ∧ (mk2 R)[k * 2 + 1]? = some (.int .i64 ((cls (R.getD k 0) : Nat) : Int))
 | [], k, h => by cases h
 | a :: R, 0, _ => ⟨rfl, rfl⟩
 | a :: R, k + 1, h => by
  have ih := ML R k (by simpa using h)
  have e : mk2 (a :: R) = Value.int .u32 (a : Int) :: Value.int .i64 (cls a : Int) :: mk2 R := rfl
  rw [e, show (k + 1) * 2 = k * 2 + 1 + 1 by omega]
  simpa using ih
theorem FI (d : Array (Nat × Nat)) : (flatK Iy 2 d).toList = mk2 (d.toList.map (·.1)) := by
 have gen : ∀ l : List (Nat × Nat), (List.range (l.length * 2)).map (fun t => (Iy l[t / 2]!)[t % 2]!) = mk2 (l.map (·.1)) := by
  intro l
  refine List.ext_getElem? fun t => ?_
  by_cases ht : t < l.length * 2
  · have hq : t / 2 < (l.map (·.1)).length := by rw [List.length_map]; omega
    have hg := ML (l.map (·.1)) (t / 2) hq
    have hx : (l.map (·.1)).getD (t / 2) 0 = (l[t / 2]!).1 := by
     rw [List.length_map] at hq
     rw [List.getD, List.getElem?_map, List.getElem?_eq_getElem hq, getElem!_pos l (t / 2) hq]; rfl
    rw [hx] at hg
    rw [List.getElem?_map, List.getElem?_range ht, Option.map_some]
    rcases Nat.mod_two_eq_zero_or_one t with h | h
    · rw [h]
      have : t / 2 * 2 = t := by omega
      rw [this] at hg
      rw [hg.1]; rfl
    · rw [h]
      have : t / 2 * 2 + 1 = t := by omega
      rw [this] at hg
      rw [hg.2]; rfl
  · rw [List.getElem?_eq_none (by simp; omega), List.getElem?_eq_none (by rw [Ro, List.length_map]; omega)]
 unfold flatK
 rw [Array.toList_map, Array.toList_range, ← gen d.toList, Array.length_toList]
 refine List.map_congr_left fun t _ => ?_
 rw [show d[t / 2]! = d.toList[t / 2]! by rw [getElem!_def, getElem!_def, Array.getElem?_toList]]
theorem Jr {w : World} {base g cap n : Nat} {e : TypeId} {xs : List Value} {F : Array Value} (h : w.ownsRow base e 2 (.slice (some ⟨g, 0, none⟩) n cap) n xs) (hF : F.toList = xs) : Holds id w g 0 F := by
 have hs : F.size = n * 2 := by rw [← Array.length_toList, hF]; exact h.1
 intro j hj
 rw [Nat.zero_add]
 refine ⟨?_, h.frozenAt j⟩
 rw [h.cellAt j (by omega), ← hF, Array.getElem?_toList, getElem!_pos F j hj]
 simp [hj]
theorem FM {w : World} {base g cap n m : Nat} {e : TypeId} {os : Array Obj} {xs : List Value} {F : Array Value} (h : w.ownsRow base e 2 (.slice (some ⟨g, 0, none⟩) n cap) n xs) (hF : F.size = n * 2) :
    (grow (putRow id (Sort.ahead w m) g 0 F) os).ownsRow base e 2 (.slice (some ⟨g, 0, none⟩) n cap) n F.toList ∧ w.grownBy (grow (putRow id (Sort.ahead w m) g 0 F) os) (some g) := by
 refine ⟨?_, rfl, rfl, rfl, by simp, fun k hk hne => ?_⟩
 · rcases h.2 with ⟨h', _⟩ | ⟨g', cap', cur, h', hb, hg, hnc, hcm, hcs, htake⟩
   · simp at h'
   · simp only [Value.slice.injEq, Option.some.injEq, Addr.mk.injEq, and_true, true_and] at h'
     obtain ⟨rfl, rfl⟩ := h'
     refine ⟨by rw [Array.length_toList]; exact hF, .inr ⟨g, cap, putCells id 0 F cur, rfl, hb, ?_, hnc, hcm, by simp [putCells, hcs], ?_⟩⟩
     · have hlt : g < w.heap.size := (Array.getElem?_eq_some_iff.1 hg).1
       rw [heap_grow_old _ _ (by simpa using hlt)]
       simp [putRow, mapBlock, Sort.ahead, Array.getElem?_modify, hg, onCells]
     · apply List.ext_getElem?
       intro j
       by_cases hj : j < n * 2
       · have hc : n * 2 ≤ cur.size := by rw [hcs]; exact Nat.mul_le_mul_right 2 hnc
         have hjF : j < F.size := by omega
         have hjc : j < cur.size := by omega
         rw [List.getElem?_take_of_lt hj, Array.getElem?_toList, Array.getElem?_toList]
         simp [putCells, hjF, hjc]
       · rw [List.getElem?_take_eq_none (by omega), List.getElem?_eq_none (by rw [Array.length_toList]; omega)]
 · rw [heap_grow_old _ _ (by simpa using hk)]
   have : g ≠ k := fun e => hne (by rw [e])
   simp [putRow, mapBlock, Sort.ahead, Array.getElem?_modify, this]
theorem adG (c k d l : Nat) (hk : k ≤ 255) (hl : l ≤ 255) (w : World) : Calls Tryz.prog 134 #[.agg #[.int .u32 (c : Int), .int .i64 (k : Int)], .agg #[.int .u32 (d : Int), .int .i64 (l : Int)]] w fun e w' => e = .returned (.int .i64 ((k : Int) - (l : Int))) ∧ ∃ q os', w' = grow (w.drewN q) os' := by
 have h1 : (k : Int) ≤ 255 := by omega
 have h2 : (l : Int) ≤ 255 := by omega
 go_enter Tryz.func134, Tryz.ntmps134
 go_wp2
 go_ret
 exact ⟨rfl, 0, _, by rw [alloc_eq_grow, alloc_eq_grow, grow_grow]; rfl⟩
theorem adH (blk off size : Nat) (w : World) : CmpLays Tryz.prog 134 #[] Iy 2 cfM blk off size w := by
 intro m os dk _ x y
 exact adG x.1 (cls x.1) y.1 (cls y.1) (ZK _) (ZK _) _
theorem agF : ltOf cfM = fun x y : Nat × Nat => decide (cls x.1 < cls y.1) := by
 funext x y
 unfold ltOf cfM
 rw [decide_eq_decide]; omega
theorem swoC : SWO (fun x y : Nat => decide (cls x < cls y)) :=
 ⟨fun x => by simp, fun x y z h1 h2 => by simp only [decide_eq_true_eq] at *; omega, fun x y z h1 h2 => by simp only [decide_eq_false_iff_not] at *; omega⟩
theorem FN (R : List Nat) : (eG (ltOf cfM) R.length R.zipIdx.toArray).toList.map (·.1) = srt R := by
 have h := Ak (fun x y : Nat => decide (cls x < cls y)) swoC R
 rw [agF, h]
 unfold srt lec
 congr 1
 funext x y
 rw [← decide_not, decide_eq_decide]; omega
theorem OU {x : Nat × Nat} : ∀ v ∈ Iy x, v.oneCell' = true := by
 intro v hv
 unfold Iy at hv
 simp only [List.mem_cons, List.not_mem_nil, or_false] at hv
 rcases hv with rfl | rfl <;> rfl
theorem OV (w : World) (base g cap : Nat) (R : List Nat) (hl : R.length ≤ 1000000) (h : w.ownsRow base 173 2 (.slice (some ⟨g, 0, none⟩) R.length cap) R.length (mk2 R)) :
    Calls Tryz.prog 133 #[.slice (some ⟨g, 0, none⟩) R.length cap, .func (.func 134) #[] #[]] w fun e w' =>
     e = .returned (.tuple #[]) ∧ w'.ownsRow base 173 2 (.slice (some ⟨g, 0, none⟩) R.length cap) R.length (mk2 (srt R)) ∧ w.grownBy w' (some g) := by
 have hsz : R.zipIdx.toArray.size = R.length := by simp
 have hF : (flatK Iy 2 R.zipIdx.toArray).toList = mk2 R := by
  rw [FI]
  congr 1
  exact List.zipIdx_map_fst 0 R
 have hH : HoldsK Iy 2 w g 0 R.zipIdx.toArray := Jr h hF
 have hlt : g < w.heap.size := by
  rcases h.2 with ⟨h', _⟩ | ⟨g', cap', cur, h', hb, hg, _⟩
  · simp at h'
  · simp only [Value.slice.injEq, Option.some.injEq, Addr.mk.injEq, and_true, true_and] at h'
    obtain ⟨rfl, _⟩ := h'
    exact (Array.getElem?_eq_some_iff.1 hg).1
 have R0 : RowK Iy 2 w g 0 R.zipIdx.toArray := ⟨fun _ => rfl, fun _ => OU, hH, hlt⟩
 have hw := oD Iy cfM 134 #[] g 0 cap R.zipIdx.toArray w (enters_of Tryz.func134 (by kernel_rfl) rfl) (adH g 0 _ w) R0 (by rw [hsz]; omega) R.zipIdx.toArray w rfl (SWK.start hH)
 rw [hsz] at hw
 refine hw.mono ?_
 rintro e w' ⟨rfl, n, os, rfl⟩
 have hst : (eG (ltOf cfM) R.length R.zipIdx.toArray).size = R.length := by
  have := congrArg List.length (FN R)
  rw [List.length_map, Array.length_toList, pX] at this; exact this
 obtain ⟨h1, h2⟩ := FM (m := n) (os := os) (F := flatK Iy 2 (eG (ltOf cfM) R.length R.zipIdx.toArray)) h (by rw [size_flatK, hst])
 rw [FI, FN] at h1
 exact ⟨rfl, h1, h2⟩
theorem Xk : (Tryz.prog.info? 173).map (fun i => (i.zero, i.size, i.bytes)) = some (some (.agg #[.int .u32 0, .int .i64 0]), 2, 16) := by kernel_rfl
theorem MN {W : World} {n₀ e1 e2 s1 s2 k1 k2 : Nat} {v1 v2 : Value} {x1 x2 : List Value} (h1 : W.ownsRow n₀ e1 s1 v1 k1 x1) (h2 : W.ownsRow n₀ e2 s2 v2 k2 x2) (hne : e1 ≠ e2) : v1.ownBlock = none ∨ v1.ownBlock ≠ v2.ownBlock := by
 rcases h1.2 with ⟨rfl, _⟩ | ⟨g, cap, cur, rfl, _, hg, _⟩
 · exact .inl rfl
 · right
   rcases h2.2 with ⟨rfl, _⟩ | ⟨g2, cap2, cur2, rfl, _, hg2, _⟩
   · simp [Value.ownBlock]
   · intro e
     obtain rfl : g = g2 := by simpa [Value.ownBlock] using e
     rw [hg] at hg2
     injection hg2 with hg2; injection hg2 with _ h; exact hne h
structure St (n₀ Br Bo : Nat) (R O : List Nat) (vr vo : Value) (W : World) : Prop where
 br : Boxed W Br 170 vr
 bo : Boxed W Bo 108 vo
 row : W.ownsRow n₀ 173 2 vr R.length (mk2 R)
 out : W.ownsRow n₀ 134 1 vo O.length (bZ O)
variable {n₀ Br Bo : Nat} {R O : List Nat} {vr vo : Value} {W W' : World}
theorem St.gr (h : St n₀ Br Bo R O vr vo W) (g : Gr W W') : St n₀ Br Bo R O vr vo W' :=
 ⟨(g.block Br h.br.lt).trans h.br, (g.block Bo h.bo.lt).trans h.bo, aU h.row g, aU h.out g⟩
theorem St.ne (h : St n₀ Br Bo R O vr vo W) : some Br ≠ vr.ownBlock ∧ some Br ≠ vo.ownBlock ∧ some Bo ≠ vr.ownBlock ∧ some Bo ≠ vo.ownBlock :=
 ⟨h.br.not_row (by decide) h.row, h.br.not_row (by decide) h.out, h.bo.not_row (by decide) h.row, h.bo.not_row (by decide) h.out⟩
theorem St.MO {R' : List Nat} {n : Nat} {vr' : Value} {xs : List Value} (h : St n₀ Br Bo R O vr vo W) (hne : Br ≠ Bo) (hg : W.grownBy W' vr.ownBlock) (hr : W'.ownsRow n₀ 173 2 vr' n xs) (hn : n = R'.length) (hx : xs = mk2 R') :
    Boxed W' Br 170 vr ∧ St n₀ Br Bo R' O vr' vo (W'.setCell ⟨Br, 0, none⟩ vr') := by
 subst hn hx
 obtain ⟨h1, h2, h3, h4⟩ := h.ne
 have b1 := h.br.kept hg h1
 have b2 := h.bo.kept hg h3
 have o2 := h.out.kept hg (MN h.out h.row (by decide))
 refine ⟨b1, b1.set _, b2.kept (grownBy_setCell' W' Br vr') (by simpa using (Ne.symm hne)), hr.kept (grownBy_setCell' W' Br vr') (.inr (b1.not_row (by decide) hr).symm), o2.kept (grownBy_setCell' W' Br vr') (.inr (b1.not_row (by decide) o2).symm)⟩
theorem St.Vy {O' : List Nat} {n : Nat} {vo' : Value} {xs : List Value} (h : St n₀ Br Bo R O vr vo W) (hne : Br ≠ Bo) (hg : W.grownBy W' vo.ownBlock) (hr : W'.ownsRow n₀ 134 1 vo' n xs) (hn : n = O'.length) (hx : xs = bZ O') :
    Boxed W' Bo 108 vo ∧ St n₀ Br Bo R O' vr vo' (W'.setCell ⟨Bo, 0, none⟩ vo') := by
 subst hn hx
 obtain ⟨h1, h2, h3, h4⟩ := h.ne
 have b1 := h.bo.kept hg h4
 have b2 := h.br.kept hg h2
 have o2 := h.row.kept hg (MN h.row h.out (by decide))
 refine ⟨b1, b2.kept (grownBy_setCell' W' Bo vo') (by simpa using hne), b1.set _, o2.kept (grownBy_setCell' W' Bo vo') (.inr (b1.not_row (by decide) o2).symm), hr.kept (grownBy_setCell' W' Bo vo') (.inr (b1.not_row (by decide) hr).symm)⟩
theorem St.alloc (h : St n₀ Br Bo R O vr vo W) (o : Obj) : St n₀ Br Bo R O vr vo (W.alloc o) := h.gr (Gr.alloc _ _)
theorem adI {w : World} {base g cap n size : Nat} {e : TypeId} {xs : List Value} (h : w.ownsRow base e size (.slice (some ⟨g, 0, none⟩) n cap) n xs) : w.ownsRow base e size (.slice (some ⟨g, 0, none⟩) 0 cap) 0 [] := by
 rcases h.2 with ⟨h', _⟩ | ⟨g', cap', cur, h', hb, hg, hnc, hcm, hcs, _⟩
 · simp at h'
 · simp only [Value.slice.injEq, Option.some.injEq, Addr.mk.injEq, and_true, true_and] at h'
   obtain ⟨rfl, rfl⟩ := h'
   exact ⟨by simp, .inr ⟨g, cap, cur, rfl, hb, hg, Nat.zero_le _, hcm, hcs, by simp⟩⟩
theorem yO (w : World) (f : Value) : Calls Tryz.prog 186 #[.slice none 0 0, .int .i64 0, .int .i64 0, f] w fun e w' => e = .returned (.tuple #[]) ∧ w' = w := by
 go_enter Tryz.func186, Tryz.ntmps186
 go_wp2_with fail
 go_loop [8] (fun v => v = .int .i64 1) (fun _ => 0)
 case atStart => rfl
 case round =>
  subst hrel
  go_wp2
  go_end0
  exact ⟨rfl, rfl⟩
theorem rH (w : World) (f : Value) : Calls Tryz.prog 166 #[.slice none 0 0, .int .i64 0, f] w fun e w' => e = .returned (.tuple #[]) ∧ w' = w := by
 go_enter Tryz.func166, Tryz.ntmps166
 go_wp2_with fail
 go_loop [7, 8] (fun v u => v = .int .i64 0 ∧ u = .int .i64 20) (fun _ _ => 0)
 case atStart => exact ⟨rfl, rfl⟩
 case round =>
  obtain ⟨rfl, rfl⟩ := hrel
  go_wp2_with (go_at_call 186; refine (yO _ _).mono ?_; rintro e w2 ⟨rfl, rfl⟩)
  go_loop [6] (fun v => v = .int .i64 20) (fun _ => 0)
  case atStart => rfl
  case round =>
   subst hrel
   go_wp2
   go_end0
   exact ⟨rfl, rfl⟩
theorem vP (w : World) (f : Value) : Calls Tryz.prog 133 #[.slice none 0 0, f] w fun e w' => e = .returned (.tuple #[]) ∧ w' = w := by
 go_enter Tryz.func133, Tryz.ntmps133
 go_wp2_with (go_at_call 166; refine (rH _ _).mono ?_; rintro e w2 ⟨rfl, rfl⟩)
 go_end0
 exact ⟨rfl, rfl⟩
def adJ (n₀ Br Bo : Nat) (R O : List Nat) (w : World) (e : Ending) (w' : World) : Prop := e = .returned (.tuple #[]) ∧ (∃ vr vo, St n₀ Br Bo [] (O ++ srt R) vr vo w') ∧ Below n₀ w w' ∧ w.heap.size ≤ w'.heap.size
theorem flush_any (hne : Br ≠ Bo) (hn1 : n₀ ≤ Br) (hn2 : n₀ ≤ Bo) (hR : R.length ≤ 1000000) (hO : O.length + R.length ≤ 1000000) (h : St n₀ Br Bo R O vr vo W) :
    Calls Tryz.prog 132 #[.pointer (some ⟨Br, 0, none⟩), .pointer (some ⟨Bo, 0, none⟩)] W (adJ n₀ Br Bo R O W) := by
 have hsz : n₀ ≤ W.heap.size := by have := h.br.lt; omega
 have hc1 := h.br.cell
 have hc2 := h.bo.cell
 have hf1 := h.br.frozen
 rcases h.row.2 with ⟨rfl, h0⟩ | ⟨g, cap, cur, rfl, hgb, _⟩
 · have hR0 : R = [] := List.eq_nil_of_length_eq_zero h0
   subst hR0
   have HS := hid h
   clear h h0 hc2
   go_enter Tryz.func132, Tryz.ntmps132
   go_wp2_with (go_at_call 133; refine (vP _ _).mono ?_; rintro e w2 ⟨rfl, rfl⟩)
   go_loop [8] (fun v => v = .int .i64 0) (fun _ => 0)
   case atStart => rfl
   case round =>
    subst hrel
    go_wp2
    go_end0
    have ht := HS.out.MO (R' := []) hne (World.grownBy.refl _ _) HS.out.row rfl rfl
    refine ⟨rfl, ⟨.slice none 0 0, vo, ?_⟩, (Below.refl _ _).setCell hn1 _, by simp [World.setCell]⟩
    rw [show srt [] = [] from List.eq_nil_of_length_eq_zero (pX []), List.append_nil]
    exact ht.2
 · have hl := hR
   have HSR := hid (OV W n₀ g cap R hR h.row)
   obtain ⟨n, hn⟩ : ∃ n, R.length = n := ⟨_, rfl⟩
   have hsl : (srt R).length = n := by rw [pX]; exact hn
   rw [hn] at HSR hc1 hO hl
   have hnb : (n : Int) ≤ 1000000 := by omega
   have HS := hid h
   have HN := hid hn
   have HSL := hid hsl
   obtain ⟨i0, hi, hz0, hz1, hz2⟩ := info_parts jP
   clear h hR hn hsl
   go_enter Tryz.func132, Tryz.ntmps132
   go_wp2_with (go_at_call 133; refine HSR.out.mono ?_; rintro e w2 ⟨rfl, hr2, hg2⟩; obtain ⟨q1, q2, q3, q4⟩ := HS.out.ne; have S2 : St n₀ Br Bo (srt R) O (.slice (some ⟨g, 0, none⟩) n cap) vo w2 := ⟨by have := HS.out.br.kept hg2 q1; rw [HN.out] at this; exact this, HS.out.bo.kept hg2 q3, by rw [HSL.out]; exact hr2, HS.out.out.kept hg2 (MN HS.out.out HS.out.row (by decide))⟩; have B2 : Below n₀ W w2 := (Below.refl n₀ W).grown hg2 hsz (fun k hk => by have : g = k := Option.some.inj hk; omega); have z2 := hg2.size; have hc1 := S2.br.cell; have HS2 := hid S2; clear S2 hr2 hg2 q1 q2 q3 q4)
   go_loopw [8] (fun vi wr => ∃ (k : Nat) (vo' : Value), k ≤ n ∧ vi = .int .i64 k ∧ Hid (St n₀ Br Bo (srt R) (O ++ (srt R).take k) (.slice (some ⟨g, 0, none⟩) n cap) vo' wr) ∧ Below n₀ W wr ∧ W.heap.size ≤ wr.heap.size) (fun vi _ => n - (intOf vi).toNat)
   case atStart => exact ⟨0, vo, Nat.zero_le _, rfl, by rw [List.take_zero, List.append_nil]; exact HS2, B2, z2⟩
   case round =>
    obtain ⟨k, vo', hk, rfl, HK, hBk, hzk⟩ := hrel
    clear HS HS2 B2 z2 HSR hc1 hc2 hf1
    by_cases hkn : k < n
    · have hkL : k < (srt R).length := by rw [HSL.out]; exact hkn
      have hm := ML (srt R) k hkL
      have hr := HK.out.row
      rw [HSL.out] at hr
      have hce1 := hr.cellAt (k * 2) (by omega)
      have hce2 := hr.cellAt (k * 2 + 1) (by omega)
      rw [hm.1] at hce1
      rw [hm.2] at hce2
      have hcb := HK.out.bo.cell
      have hca := fun o => (HK.out.bo.alloc o).cell
      have hcaa := fun o o' => ((HK.out.bo.alloc o).alloc o').cell
      have HT : Hid (O ++ (srt R).take (k + 1) = (O ++ (srt R).take k) ++ [(srt R).getD k 0]) := by
       show _ = _
       rw [List.take_succ_eq_append_getElem hkL, List.getD, List.getElem?_eq_getElem hkL, List.append_assoc]; rfl
      have HOL : Hid ((O ++ (srt R).take k).length ≤ 1000000) := by show _ ≤ _; rw [List.length_append, List.length_take]; omega
      have hnw : n₀ ≤ wr.heap.size := by omega
      clear hm hr
      generalize cls ((srt R).getD k 0) = c at hce2
      generalize (srt R).getD k 0 = x at hce1 HT
      generalize O ++ (srt R).take k = P at HK HT HOL
      have hlt : (k : Int) < n := by omega
      have e0 : (k : Int).toNat = k := by omega
      go_wp2_with (at_builtin; (refine wpList_append_own _ rfl _ _ 108 rfl n₀ 134 i0 (.int .u32 0) 1 4 Tryz.underlying108 hi hz0 hz1 hz2 rfl (by decide) vo' _ _ rfl ((HK.out.alloc _).alloc _).out ⟨wr.heap.size + 1, 0, none⟩ 1 1 [.int .u32 (x : Int)] rfl rfl (by simpa using cell_one_new (wr.alloc _) _ _) (by simp [Value.oneCell']) (by have := HOL.out; unfold maxLen; omega) (by have := HOL.out; omega) (by simp; omega) ?_; intro v' w1 hown' hgrow _; obtain ⟨g', cap', rfl⟩ := ownsRow_succ hown'; obtain ⟨hb1, S3⟩ := ((HK.out.alloc _).alloc _).Vy (O' := P ++ [x]) hne hgrow hown' (by simp) (by unfold bZ; rw [List.map_append]; rfl); have hcb1 := hb1.cell; have hfb1 := hb1.frozen; have HS3 := hid S3; clear S3 hb1))
      go_roundw
      case rel =>
       have hB1 : Below n₀ W w1 := Below.grown ((hBk.alloc hnw _).alloc (by simp; omega) _) hgrow (by simp; omega) (row_block HK.out.out)
       have hz1 := hgrow.size
       exact ⟨k + 1, _, hkn, by go_num, by rw [HT.out]; exact HS3, hB1.setCell hn2 _, by simp [World.setCell] at hz1 ⊢; omega⟩
      case measure => simp [intOf]; omega
    · have hkn' : k = n := by omega
      have hcr := HK.out.br.cell
      have hfr := HK.out.br.frozen
      have HT : Hid (O ++ (srt R).take k = O ++ srt R) := by show _ = _; rw [List.take_of_length_le (by rw [HSL.out]; omega)]
      rw [HT.out] at HK
      go_wp2
      go_end0
      have ht := HK.out.MO (R' := []) (vr' := .slice (some ⟨g, 0, none⟩) 0 cap) (n := 0) (xs := []) hne (World.grownBy.refl _ _) (by have := HK.out.row; rw [HSL.out] at this; exact adI this) rfl rfl
      exact ⟨rfl, ⟨_, _, ht.2⟩, hBk.setCell hn1 _, by simp [World.setCell]; omega⟩
end Go.Proofs.YthlflglkdaainaaGreatDoor
namespace Go.Proofs.YthlflglkdaainaaGreatDoor
open Go.Shelf Go.RowKit Go.Lib Go.Sort
theorem Iz (w : World) (a b : Value) (t : TypeId) : ∀ (j : Nat) (u : Value), [a, b][j]? = some u → (w.alloc (.cells #[a, b] t)).cell? ((⟨w.heap.size, 0, none⟩ : Addr).add j) = some u := by
 intro j u h
 match j, h with
 | 0, h => simp at h; subst h; simp [Addr.add, World.cell?_alloc_new]
 | 1, h => simp at h; subst h; simp [Addr.add, World.cell?_alloc_new]
 | j + 2, h => simp at h
theorem WR (v : Value) (L : List Nat) (w : World) (ht : Tz w) (hv : Sl w v L) (hb : ∀ x ∈ L, x < 4294967296) (hl : L.length ≤ 1000000) : Calls Tryz.prog 101 #[v] w (RowOf (fO L) w) := by
 obtain ⟨ao, ca, rfl, _, hA⟩ := hv
 obtain ⟨n, hn⟩ : ∃ n, L.length = n := ⟨_, rfl⟩
 rw [hn] at hA ⊢
 have hnb : (n : Int) ≤ 1000000 := by omega
 have HN := hid hn
 have HA := hid hA
 have HB := hid hb
 obtain ⟨F, hF⟩ : ∃ F, fO L = F := ⟨_, rfl⟩
 rw [hF]
 have HF : Hid ([] ++ mF [] (L.drop 0) = F) := hF
 clear hn hA hb hl hF
 obtain ⟨i0, hi, hz0, hz1, hz2⟩ := info_parts jP
 obtain ⟨j0, hj, hy0, hy1, hy2⟩ := info_parts Xk
 have S0 : St w.heap.size (w.heap.size + 1) w.heap.size [] [] (.slice none 0 0) (.slice none 0 0) ((w.alloc (.cells #[.slice none 0 0] 108)).alloc (.cells #[.slice none 0 0] 170)) := by
  refine ⟨?_, (Boxed.new w _ _).alloc _, World.ownsRow_nil _ _ _ _, World.ownsRow_nil _ _ _ _⟩
  have := Boxed.new (w.alloc (.cells #[.slice none 0 0] 108)) 170 (.slice none 0 0)
  rw [World.size_alloc] at this
  exact this
 have HS0 := hid S0
 clear S0
 obtain ⟨n₀, hn₀⟩ : ∃ n₀, w.heap.size = n₀ := ⟨_, rfl⟩
 have HN0 := hid hn₀
 go_enter Tryz.func101, Tryz.ntmps101
 go_wp2_with fail
 rw [HN0.out] at HS0
 clear hn₀
 go_loopw [12] (fun vi wr => ∃ (k : Nat) (R O : List Nat) (vr vo : Value), k ≤ n ∧ vi = .int .i64 k ∧ O.length + R.length = k ∧ Hid (St n₀ (n₀ + 1) n₀ R O vr vo wr) ∧ Hid (O ++ mF R (L.drop k) = F) ∧ Gr w wr ∧ n₀ + 2 ≤ wr.heap.size) (fun vi _ => n - (intOf vi).toNat)
 case atStart => exact ⟨0, [], [], _, _, Nat.zero_le _, rfl, rfl, HS0, HF, (Gr.alloc _ _).trans (Gr.alloc _ _), by simp; have := HN0.out; omega⟩
 case round =>
  obtain ⟨k, R, O, vr, vo, hk, rfl, hRO, HS, HE, hgk, hzk⟩ := hrel
  clear HS0 HF
  have hne : n₀ + 1 ≠ n₀ := by omega
  by_cases hkn : k < n
  · obtain ⟨g, off, rfl, hcell⟩ := HA.out k hkn
    have hcell := hgk.cell hcell
    have hkL : k < L.length := by rw [HN.out]; exact hkn
    have hx : L.getD k 0 < 4294967296 := by
     rw [List.getD, List.getElem?_eq_getElem hkL]; exact HB.out _ (List.getElem_mem _)
    have HC := hid (xu (L.getD k 0) hx wr (ht.gr hgk))
    have hE := HE.out
    rw [drop_cons hkL] at hE
    have HE2 := hid hE
    clear hx hE HE
    generalize L.getD k 0 = x at hcell HC HE2
    have hlt : (k : Int) < n := by omega
    by_cases h0 : cls x = 0
    · -- a starter: the row is flushed
      have HE3 : Hid (O ++ srt R ++ [x] ++ mF [] (L.drop (k + 1)) = F) := by
       show _ = _
       rw [← HE2.out, uy h0]; simp
      rw [h0] at HC
      clear HE2 h0
      have hlR : R.length ≤ 1000000 := by omega
      go_wp2_with (first
       | (go_at_call 129; refine HC.out.mono ?_; rintro e w1 ⟨rfl, g1⟩; have hS1 := HS.out.gr g1; have hzw1 := g1.size; have HS1 := hid hS1; clear hS1)
       | (go_at_call 132; refine (flush_any hne (by omega) (Nat.le_refl _) hlR (by omega) HS1.out).mono ?_; rintro e w2 ⟨rfl, ⟨vr2, vo2, S2⟩, hB2, hzw2⟩; have hco := S2.bo.cell; have hcoa := fun o => (S2.bo.alloc o).cell; have HOL : Hid ((O ++ srt R).length = k) := (by show _ = _; rw [List.length_append, pX]; exact hRO); generalize O ++ srt R = P at S2 HE3 HOL; have HS2 := hid S2; clear S2)
       | (at_builtin; go_loud ((refine wpList_append_own _ rfl _ _ 108 rfl n₀ 134 i0 (.int .u32 0) 1 4 Tryz.underlying108 hi hz0 hz1 hz2 rfl (by decide) vo2 _ _ rfl (HS2.out.alloc _).out ⟨w2.heap.size, 0, none⟩ 1 1 [.int .u32 (x : Int)] rfl rfl (cell_one_new _ _ _) (by simp [Value.oneCell']) (by rw [HOL.out]; unfold maxLen; omega) (by rw [HOL.out]; omega) (by simp; omega) ?_; intro v' w3 hown' hgrow _; obtain ⟨g', cap', rfl⟩ := ownsRow_succ hown'; obtain ⟨hb2, S3⟩ := (HS2.out.alloc _).Vy (O' := P ++ [x]) hne hgrow hown' (by simp) (by unfold bZ; rw [List.map_append]; rfl); have hcb2 := hb2.cell; have hfb2 := hb2.frozen; have HS3 := hid S3; clear S3 hb2))))
      go_roundw
      case rel =>
       have hrow := HS2.out.out
       rw [← HN0.out] at hrow
       have hG := dZ (Below.trans (hgk.trans g1) (by rw [HN0.out]; exact hB2)) hrow hgrow
       have hzz := hgrow.size
       exact ⟨k + 1, [], P ++ [x], _, _, hkn, by go_num, by simp; have := HOL.out; omega, HS3, HE3, hG.setCell (p := ⟨n₀, 0, none⟩) (by have := HN0.out; simp; omega) _, by simp [World.setCell] at hzz ⊢; omega⟩
      case measure => simp [intOf]; omega
    · have HE3 : Hid (O ++ mF (R ++ [x]) (L.drop (k + 1)) = F) := by show _ = _; rw [← HE2.out, nG h0]
      have h0z : ((cls x : Int) != 0) = true := by rw [bne_iff_ne]; omega
      have h0y : ¬ (cls x : Int) = 0 := by omega
      have hm : mk2 (R ++ [x]) = mk2 R ++ [Value.int .u32 (x : Int), Value.int .i64 (cls x : Int)] := by rw [Rq]; rfl
      have hlR : R.length ≤ 1000000 := by omega
      have HM := hid hm
      clear HE2 h0 hm
      generalize cls x = c at HC h0z h0y HM
      go_wp2_with (first
       | (go_at_call 129; refine HC.out.mono ?_; rintro e w1 ⟨rfl, g1⟩; have hS1 := HS.out.gr g1; have hcr := hS1.br.cell; have hcra := fun o => (hS1.br.alloc o).cell; have hzw1 := g1.size; have HS1 := hid hS1; clear hS1)
       | (at_builtin; (refine wpList_append_own _ rfl _ _ 170 rfl n₀ 173 j0 (.agg #[.int .u32 0, .int .i64 0]) 2 16 Tryz.underlying170 hj hy0 hy1 hy2 rfl (by decide) vr _ _ rfl (HS1.out.alloc _).row ⟨w1.heap.size, 0, none⟩ 1 1 [.int .u32 (x : Int), .int .i64 (c : Int)] rfl rfl (Iz _ _ _ _) (by simp [Value.oneCell']) (by unfold maxLen; omega) (by omega) (by simp; omega) ?_; intro v' w2 hown' hgrow _; obtain ⟨g', cap', rfl⟩ := ownsRow_succ hown'; obtain ⟨hb2, S3⟩ := (HS1.out.alloc _).MO (R' := R ++ [x]) hne hgrow hown' (by simp) HM.out.symm; have hcb2 := hb2.cell; have hfb2 := hb2.frozen; have HS3 := hid S3; clear S3 hb2)))
      go_roundw
      case rel =>
       have hrow := HS1.out.row
       rw [← HN0.out] at hrow
       have hG := dZ (hgk.trans g1) hrow hgrow
       have hzz := hgrow.size
       exact ⟨k + 1, R ++ [x], O, _, _, hkn, by go_num, by simp; omega, HS3, HE3, hG.setCell (p := ⟨n₀ + 1, 0, none⟩) (by have := HN0.out; simp; omega) _, by simp [World.setCell] at hzz ⊢; omega⟩
      case measure => simp [intOf]; omega
  · have hlR : R.length ≤ 1000000 := by omega
    have hE : O ++ srt R = F := by
     have := HE.out
     rw [List.drop_of_length_le (by rw [HN.out]; omega), BX] at this
     exact this
    have HE2 := hid hE
    clear hE HE
    go_wp2_with (go_at_call 132; refine (flush_any hne (by omega) (Nat.le_refl _) hlR (by omega) HS.out).mono ?_; rintro e w2 ⟨rfl, ⟨vr2, vo2, S2⟩, hB2, hzw2⟩; rw [HE2.out] at S2; have hco := S2.bo.cell; have hro := S2.out)
    go_ret
    refine ⟨vo2, rfl, by rw [HN0.out]; exact hro, ?_⟩
    exact Below.trans hgk (by rw [HN0.out]; exact hB2)
open Go.RowKit
end Go.Proofs.YthlflglkdaainaaGreatDoor
