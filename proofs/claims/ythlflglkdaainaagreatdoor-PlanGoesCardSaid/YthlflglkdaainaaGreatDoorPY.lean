import Derived.WideKeyEntry
import Derived.Lib.ConvBytes
import Derived.Lib.AtoiErrMem
import Derived.Test.YthlflglkdaainaaGreatDoorPM
import Derived.Test.YthlflglkdaainaaGreatDoorPP
import Derived.Test.YthlflglkdaainaaGreatDoorPX
import Derived.Test.YthlflglkdaainaaGreatDoorPZ
/- Texts of this seat: VIt, VData, Vd0, Vd1, Vd2, Vd3, VLn, VMap, VJ1, VRf, VJ2, VJ3, VJudge, VRn, VRd, VRj, VTu, Vd4, VTg, VRp, VRq, VLight, VAx, VAw, VLt, VLa. -/
set_option maxRecDepth 100000
set_option maxHeartbeats 8000000
namespace Go.Proofs.YthlflglkdaainaaGreatDoor.Tr
open Go.RowKit Go.Lib Go.Joins Go.ChangeShapes Go.Deep Go.Proofs.YthlflglkdaainaaGreatDoorW.PrintWords Go.Proofs.YthlflglkdaainaaGreatDoorW.PrintLast Go.Proofs.YthlflglkdaainaaGreatDoorW.PrintMore Go.Proofs.YthlflglkdaainaaGreatDoor.Prt
theorem open_cap {H : Type} {enc : TypeId × Value → H} {w : World} {base : Nat} {spare held : _} {fuel : Nat} {cs : List Value} {x : DataW H × List MemPlace}
    (h : DataW.trod enc Tryz.prog w base spare held fuel 46 cs = some x) : ∃ A l c, cs = [.slice A l c] ∧ c ≤ maxLen ∧ (A = none → c = 0) := by
 rcases open_ints Tryz.underlying46 Tryz.underlying5 (by kernel_rfl) h with ⟨hcs, _⟩ | ⟨a, l, c, zs, hcs, _, hl, hm, hz, _, hcell, hwz⟩
 · exact ⟨none, 0, 0, hcs, by decide, fun _ => rfl⟩
 · exact ⟨some a, l, c, hcs, hm, fun h => by cases h⟩
def CapR (w : World) (A : Option Addr) (n : Nat) : Prop := ∀ j, j < n → ∃ ad A3 l3 c3, A = some ad ∧ w.cell? (ad.add (j * 4 + 3)) = some (.slice A3 l3 c3) ∧ c3 ≤ maxLen ∧ (A3 = none → c3 = 0)
theorem CapR.below {w w' : World} {A : Option Addr} {n : Nat} (h : CapR w A n) (hb : Below w.heap.size w w') : CapR w' A n := fun j hj => by
 obtain ⟨ad, A3, l3, c3, e, hc, h1, h2⟩ := h j hj
 exact ⟨ad, A3, l3, c3, e, (hb.cell (World.block_lt_of_cell? w _ hc)).trans hc, h1, h2⟩
theorem open_caps {H : Type} {enc : TypeId × Value → H} {w : World} {base : Nat} {spare held : _} {fuel : Nat} {A : Option Addr} {n c : Nat} {x : DataW H × List MemPlace}
    (h : DataW.trod enc Tryz.prog w base spare held fuel 22 [.slice A n c] = some x) : CapR w A n := by
 rcases open_slice Tryz.underlying22 h with ⟨hcs, _⟩ | ⟨a, len, cap, m, n', D, Pl, hcs, hb, hl, hm, hmm, _, hx⟩
 · cases hcs
   exact fun j hj => absurd hj (Nat.not_lt_zero _)
 · cases hcs
   have hlm : n ≤ m := by rw [hmm]; split <;> omega
   have hc4 : Tryz.prog.cellsOf 53 = 4 := by kernel_rfl
   intro i hi
   obtain ⟨cs', h1, h2⟩ := hx i (by omega)
   rw [hc4] at h1
   obtain ⟨_, hlen, hcell⟩ := World.cells?_some h1
   obtain ⟨y0, y1, y2, y3, k, _, _, t0, t1, t2, t3⟩ := trod_struct4 Tryz.underlying53 h2
   match cs', hlen with
   | [c0, c1, c2, c3], _ =>
    obtain ⟨A3, l3, cc, e3, hc1, hc2⟩ := open_cap t3
    have d3 : c3 = .slice A3 l3 cc := by
     have : [c3] = [Value.slice A3 l3 cc] := e3
     exact (List.cons.inj this).1
    subst d3
    refine ⟨a, A3, l3, cc, rfl, ?_, hc1, hc2⟩
    have h5 := hcell 3 (by omega)
    rw [Addr.add_add] at h5
    exact h5
theorem cap_of_R {L : List It} {W : World} {base : Nat} {ok : Nat → Prop} {Aa : Option Addr} {n c : Nat} (h : Kd.R kIt 53 W base ok (.slice Aa n c) L) : CapR W Aa n := by
 intro j hj
 obtain ⟨hn, _⟩ := Kd.R_reads' h
 have hjl : j < L.length := by omega
 obtain ⟨g, cap, e, _, _, _⟩ := Kd.R_form h (by omega)
 cases e
 obtain ⟨cs, hM, hc⟩ := r_at h j hjl
 obtain ⟨v3, rfl, hv3⟩ := k53_openM hM
 obtain ⟨_, inner, ho, _⟩ := id hv3
 obtain ⟨A3, c3, rfl⟩ := Kd.R_slice hv3
 refine ⟨⟨g, 0, none⟩, A3, L[j].f3.length, c3, rfl, ?_, ?_⟩
 · have := (hc 3 _ rfl).1
   rw [add_at0]
   exact this
 · rcases ho.2 with ⟨e1, _⟩ | ⟨g2, cap2, cur, e1, _, _, _, hm, _⟩
   · injection e1 with _ _ e3
     exact ⟨by unfold maxLen; omega, fun _ => e3⟩
   · injection e1 with e2 _ e3
     exact ⟨by omega, fun h => by rw [h] at e2; cases e2⟩
def u8s (l : List Int) : List UInt8 := l.map fun n => UInt8.ofNat n.toNat
def i8s (b : List UInt8) : List Int := b.map fun x => (x.toNat : Int)
theorem i8s_u8s {l : List Int} (h : Bytes8 l) : i8s (u8s l) = l := by
 unfold i8s u8s
 rw [List.map_map]
 conv => rhs; rw [← List.map_id l]
 refine List.map_congr_left fun b hb => ?_
 have := h b hb
 show ((UInt8.ofNat b.toNat).toNat : Int) = b
 rw [UInt8.toNat_ofNat']
 omega
theorem u8s_i8s (b : List UInt8) : u8s (i8s b) = b := by
 unfold i8s u8s
 rw [List.map_map]
 conv => rhs; rw [← List.map_id b]
 refine List.map_congr_left fun x _ => ?_
 simp
theorem u8s_len (l : List Int) : (u8s l).length = l.length := by simp [u8s]
theorem i8s_len (b : List UInt8) : (i8s b).length = b.length := by simp [i8s]
theorem bytes8_i8s (b : List UInt8) : Bytes8 (i8s b) := by
 intro x hx
 obtain ⟨u, _, rfl⟩ := List.mem_map.1 hx
 have := u.toNat_lt
 constructor <;> omega
theorem bs_of_C {w : World} {A : Option Addr} {c : Nat} {l : List Int} (h : (Kd.int .u8).C w A l.length l) (hb : Bytes8 l) (hl : l.length ≤ c) (h1 : c ≤ maxLen) (h2 : A = none → c = 0) : Bs w (.slice A l.length c) (u8s l) := by
 refine ⟨A, c, by rw [u8s_len], by rw [u8s_len]; exact hl, h1, h2, fun k hk => ?_⟩
 rw [u8s_len] at hk
 obtain ⟨ad, rfl, hc⟩ := Kd.at_int h (k : Int) (by omega) (by omega)
 rw [Int.toNat_natCast] at hc
 obtain ⟨ad0, e0, hc0⟩ := Kd.at_int h 0 (by omega) (by omega)
 cases e0
 obtain ⟨b, off, spot⟩ := ad
 have hspot : spot = none := by simpa [Addr.add] using World.cell?_spot hc0
 subst hspot
 refine ⟨b, off, rfl, ?_⟩
 rw [show (Addr.mk b off none).add k = ⟨b, off + k, none⟩ from addr_add ..] at hc
 rw [hc]
 congr 2
 have hx := hb _ (List.getElem_mem hk)
 show l.getD (k : Int).toNat 0 = _
 rw [Int.toNat_natCast, List.getD_eq_getElem?_getD, List.getElem?_eq_getElem hk, Option.getD_some]
 unfold u8s
 rw [List.getD_eq_getElem?_getD, List.getElem?_map, List.getElem?_eq_getElem hk]
 show l[k] = ((UInt8.ofNat l[k].toNat).toNat : Int)
 rw [UInt8.toNat_ofNat']
 omega
end Go.Proofs.YthlflglkdaainaaGreatDoor.Tr
namespace Go.Proofs.YthlflglkdaainaaGreatDoor.Tr
open Go.RowKit Go.Lib Go.Proofs.YthlflglkdaainaaGreatDoorW.PrintWords Go.Proofs.YthlflglkdaainaaGreatDoorW.PrintLast Go.Proofs.YthlflglkdaainaaGreatDoorW.PrintMore Go.Proofs.YthlflglkdaainaaGreatDoor.Prt
noncomputable def dOf (b : List UInt8) : List UInt8 × Int := match textB b with
 | none => (b, 4)
 | some c => if 8192 < c.length then (b, 5) else (c, 0)
theorem R_bytes {W : World} {base : Nat} {v : Value} {b : List UInt8} (h : W.ownsRow base 5 1 v b.length (byteCells b)) : Kd.R (Kd.int .u8) 5 W base (fun _ => True) v (i8s b) := by
 refine Kd.R_of_own ?_ (fun _ _ => trivial)
 rw [i8s_len]
 have : encs (Value.int .u8) (i8s b) = byteCells b := by
  unfold encs i8s byteCells
  rw [List.map_map]; rfl
 rw [this]
 exact h
theorem data_any (l : List Int) (A : Option Addr) (c : Nat) (w : World) (ht : Tz w) (hu : Ut w) (hC : (Kd.int .u8).C w A l.length l) (hb : Bytes8 l) (hl : l.length ≤ c) (h1 : c ≤ maxLen) (h2 : A = none → c = 0) (hn : l.length ≤ 20000) :
    Calls Tryz.prog 57 #[.slice A l.length c] w fun e w' => ∃ v, e = .returned (.tuple #[v, .int .u8 (dOf (u8s l)).2]) ∧ Kd.R (Kd.int .u8) 5 w' w.heap.size (fun _ => True) v (i8s (dOf (u8s l)).1) ∧ Below w.heap.size w w' := by
 have HC := Aside0.mk hC
 have HT := Text_any (.slice A l.length c) (u8s l) w ht hu (bs_of_C hC hb hl h1 h2) (by rw [u8s_len]; exact hn)
 have HCl := fun W (B : Below w.heap.size w W) => clone_any l A c W (Kd.C_below HC.out B) (by omega)
 clear hC
 cases hx : textB (u8s l) with
 | none =>
  have hd : dOf (u8s l) = (u8s l, 4) := by unfold dOf; rw [hx]
  rw [hd, i8s_u8s hb]
  have HT2 : Calls Tryz.prog 34 #[.slice A l.length c] w fun e w' => e = .returned (.tuple #[.slice none 0 0, .int .i64 6]) ∧ Below w.heap.size w w' := HT.mono fun e w' h => by
   rcases h with ⟨⟨_, h1⟩ | ⟨c', v', h1, _⟩, h2⟩
   · exact ⟨h1, h2⟩
   · rw [hx] at h1; cases h1
  clear HT hx hd
  go_enter Tryz.func57, Tryz.ntmps57
  go_wp2_with (first
   | (go_at_call 34; with_reducible refine HT2.mono ?_; rintro e w1 ⟨rfl, hb1⟩)
   | (go_at_call 66; with_reducible refine (HCl _ hb1).mono ?_; rintro e w2 ⟨v2, rfl, hr2, hb2⟩; have hb20 := hb1.trans (hb2.mono hb1.size)))
  go_ret2
  exact ⟨_, rfl, Kd.R_lower hr2 hb1.size, hb20⟩
 | some c' =>
  have HT2 : Calls Tryz.prog 34 #[.slice A l.length c] w fun e w' => ∃ A' k, e = .returned (.tuple #[.slice A' c'.length k, .int .i64 0]) ∧ Kd.R (Kd.int .u8) 5 w' w.heap.size (fun _ => True) (.slice A' c'.length k) (i8s c') ∧ Below w.heap.size w w' := HT.mono fun e w' h => by
   rcases h with ⟨⟨h1, _⟩ | ⟨c2, v', h1, h3, h4⟩, h2⟩
   · rw [hx] at h1; cases h1
   · rw [hx] at h1
     cases h1
     have hr := R_bytes h4
     obtain ⟨A', k, rfl⟩ := Kd.R_slice hr
     rw [i8s_len] at hr h3
     exact ⟨A', k, h3, hr, h2⟩
  clear HT
  by_cases hlen : 8192 < c'.length
  · have hd : dOf (u8s l) = (u8s l, 5) := by unfold dOf; rw [hx]; exact if_pos hlen
    rw [hd, i8s_u8s hb]
    have hz : decide ((8192 : Int) < (c'.length : Int)) = true := decide_eq_true (by omega)
    clear hx hd hlen
    go_enter Tryz.func57, Tryz.ntmps57
    go_wp2_with (first
     | (go_at_call 34; with_reducible refine HT2.mono ?_; rintro e w1 ⟨A', k', rfl, hr1, hb1⟩)
     | (go_at_call 66; with_reducible refine (HCl _ hb1).mono ?_; rintro e w2 ⟨v2, rfl, hr2, hb2⟩; have hb20 := hb1.trans (hb2.mono hb1.size)))
    go_ret2
    exact ⟨_, rfl, Kd.R_lower hr2 hb1.size, hb20⟩
  · have hd : dOf (u8s l) = (c', 0) := by unfold dOf; rw [hx]; exact if_neg hlen
    rw [hd]
    have hz : decide ((8192 : Int) < (c'.length : Int)) = false := decide_eq_false (by omega)
    clear hx hd hlen
    go_enter Tryz.func57, Tryz.ntmps57
    go_wp2_with (first
     | (go_at_call 34; with_reducible refine HT2.mono ?_; rintro e w1 ⟨A', k', rfl, hr1, hb1⟩))
    go_ret2
    exact ⟨_, rfl, hr1, hb1⟩
noncomputable def cmB (x : It) : Option (List UInt8) := textB x.f1.data.toList
noncomputable def cntN (L : List It) (n : Nat) (p : Int) (c : List UInt8) : Nat := (L.take n).countP fun x => decide (x.f0 = p) && decide (cmB x = some c)
noncomputable def jNm (L : List It) (x : It) : ByteArray × Int := match cmB x with
 | none => (x.f1, 1)
 | some c => if 48 < c.length then (x.f1, 3) else if 1 < cntN L L.length x.f0 c then (x.f1, 2) else (strB c, 0)
noncomputable def jDt (x : It) : List Int × Int := if x.f2 then ([], 0) else (i8s (dOf (u8s x.f3)).1, (dOf (u8s x.f3)).2)
noncomputable def turnI (L : List It) (x : It) : It := ⟨x.f0, (jNm L x).1, x.f2, (jDt x).1⟩
noncomputable def turnL (L : List It) : List It := L.map (turnI L)
theorem cnt_snoc {L : List It} {n : Nat} (hn : n < L.length) (p : Int) (c : List UInt8) : cntN L (n + 1) p c = cntN L n p c + if (itA L n).f0 = p ∧ cmB (itA L n) = some c then 1 else 0 := by
 unfold cntN
 rw [List.take_succ_eq_append_getElem hn, List.countP_append, itA_get hn]
 congr 1
 by_cases h : L[n].f0 = p ∧ cmB L[n] = some c
 · rw [if_pos h]
   simp [h.1, h.2]
 · rw [if_neg h]
   simp only [List.countP_singleton, Bool.and_eq_true, decide_eq_true_eq]
   rw [if_neg h]
theorem cnt_two {L : List It} {i k : Nat} (hi : i < L.length) (hk : k < L.length) (hne : i ≠ k) {c : List UInt8} (h1 : cmB (itA L i) = some c) (h2 : cmB (itA L k) = some c) (hp : (itA L i).f0 = (itA L k).f0) : 1 < cntN L L.length (itA L i).f0 c := by
 have main : ∀ a b : Nat, a < b → b < L.length → cmB (itA L a) = some c → cmB (itA L b) = some c → (itA L a).f0 = (itA L i).f0 → (itA L b).f0 = (itA L i).f0 → 1 < cntN L L.length (itA L i).f0 c := by
  intro a b hab hb ha1 hb1 ha2 hb2
  have mono : ∀ m n : Nat, m ≤ n → n ≤ L.length → cntN L m (itA L i).f0 c ≤ cntN L n (itA L i).f0 c := by
   intro m n hmn
   induction n with
   | zero =>
    intro _
    obtain rfl : m = 0 := by omega
    exact Nat.le_refl _
   | succ n ih =>
    intro hn
    by_cases e : m = n + 1
    · subst e; exact Nat.le_refl _
    · rw [cnt_snoc (by omega)]
      have := ih (by omega) (by omega)
      omega
  have s1 := cnt_snoc (show a < L.length by omega) (itA L i).f0 c
  have s2 := cnt_snoc hb (itA L i).f0 c
  rw [if_pos ⟨ha2, ha1⟩] at s1
  rw [if_pos ⟨hb2, hb1⟩] at s2
  have m1 := mono (a + 1) b (by omega) (by omega)
  have m2 := mono (b + 1) L.length (by omega) (Nat.le_refl _)
  omega
 rcases Nat.lt_or_gt_of_ne hne with h | h
 · exact main i k h hk h1 h2 rfl hp.symm
 · exact main k i h hi h2 h1 hp.symm rfl
theorem str_data {s : ByteArray} : strB s.data.toList = s := by
 unfold strB
 cases s; simp
theorem turn_nm (L : List It) (x : It) : cmB (turnI L x) = cmB x := by
 have e : (turnI L x).f1 = (jNm L x).1 := rfl
 show textB (turnI L x).f1.data.toList = cmB x
 rw [e]
 unfold jNm
 cases h : cmB x with
 | none => exact h
 | some c =>
  show textB (if 48 < c.length then (x.f1, (3 : Int)) else if 1 < cntN L L.length x.f0 c then (x.f1, 2) else (strB c, 0)).1.data.toList = some c
  by_cases h1 : 48 < c.length
  · rw [if_pos h1]; exact h
  · rw [if_neg h1]
    by_cases h2 : 1 < cntN L L.length x.f0 c
    · rw [if_pos h2]; exact h
    · rw [if_neg h2]
      show textB (strB c).data.toList = _
      rw [strB_list]
      obtain ⟨_, _, _, _, h3, _⟩ := textB_some h
      exact h3
theorem turn_len (L : List It) : (turnL L).length = L.length := List.length_map _
theorem turn_at {L : List It} {k : Nat} (hk : k < L.length) : itA (turnL L) k = turnI L (itA L k) := by
 rw [itA_get (by rw [turn_len]; exact hk), itA_get hk]
 unfold turnL
 rw [List.getElem_map]
theorem turn_cnt (L : List It) (n : Nat) (p : Int) (c : List UInt8) : cntN (turnL L) n p c = cntN L n p c := by
 unfold cntN turnL
 rw [← List.map_take, List.countP_map]
 congr 1
 funext x
 show (decide ((turnI L x).f0 = p) && decide (cmB (turnI L x) = some c)) = _
 rw [turn_nm]; rfl
theorem turn_again (L : List It) (x : It) : jNm (turnL L) (turnI L x) = ((jNm L x).1, (jNm L x).2) := by
 have hn := turn_nm L x
 unfold jNm
 rw [hn]
 cases h : cmB x with
 | none =>
  show ((turnI L x).f1, (1 : Int)) = (x.f1, 1)
  unfold turnI jNm; rw [h]
 | some c =>
  show (if 48 < c.length then ((turnI L x).f1, (3 : Int)) else if 1 < cntN (turnL L) (turnL L).length (turnI L x).f0 c then ((turnI L x).f1, 2) else (strB c, 0)) = _
  rw [turn_len, turn_cnt]
  show (if 48 < c.length then ((turnI L x).f1, (3 : Int)) else if 1 < cntN L L.length x.f0 c then ((turnI L x).f1, 2) else (strB c, 0)) = _
  have e : (turnI L x).f1 = (jNm L x).1 := rfl
  rw [e]
  unfold jNm
  rw [h]
  show _ = ((if 48 < c.length then (x.f1, (3 : Int)) else if 1 < cntN L L.length x.f0 c then (x.f1, 2) else (strB c, 0)).1, (if 48 < c.length then (x.f1, (3 : Int)) else if 1 < cntN L L.length x.f0 c then (x.f1, 2) else (strB c, 0)).2)
  by_cases h1 : 48 < c.length
  · rw [if_pos h1]; simp [h1]
  · rw [if_neg h1]
    by_cases h2 : 1 < cntN L L.length x.f0 c
    · rw [if_pos h2]; simp [h1, h2]
    · rw [if_neg h2]; simp [h1, h2]
theorem dOf_again (b : List UInt8) : dOf (dOf b).1 = dOf b := by
 cases h : textB b with
 | none =>
  have e : dOf b = (b, 4) := by unfold dOf; rw [h]
  rw [e]; exact e
 | some c =>
  by_cases h1 : 8192 < c.length
  · have e : dOf b = (b, 5) := by unfold dOf; rw [h]; exact if_pos h1
    rw [e]; exact e
  · have e : dOf b = (c, 0) := by unfold dOf; rw [h]; exact if_neg h1
    rw [e]
    obtain ⟨_, _, _, _, h3, _⟩ := textB_some h
    unfold dOf; rw [h3]; exact if_neg h1
theorem turn_data (L : List It) (x : It) : jDt (turnI L x) = jDt x := by
 unfold jDt turnI
 by_cases h : x.f2 = true
 · show (if x.f2 = true then _ else _) = _
   rw [if_pos h, if_pos h]
 · show (if x.f2 = true then _ else (i8s (dOf (u8s (jDt x).1)).1, (dOf (u8s (jDt x).1)).2)) = _
   rw [if_neg h, if_neg h]
   have e : (jDt x).1 = i8s (dOf (u8s x.f3)).1 := by unfold jDt; rw [if_neg h]
   rw [e, u8s_i8s, dOf_again]
end Go.Proofs.YthlflglkdaainaaGreatDoor.Tr
namespace Go.Proofs.YthlflglkdaainaaGreatDoor.Tr
open Go.RowKit Go.Lib
theorem full_slash {y x : Nat} (hy : x ∈ full y) (hx : x = 0 ∨ x = 47) : y = x := by
 cases hh : isH y with
 | true =>
  rw [full_h hh] at hy
  have := hsp_lt y hh x hy
  omega
 | false =>
  cases hd : dfind y with
  | none => rw [full_no hh hd, List.mem_singleton] at hy; exact hy.symm
  | some e =>
   have := (row_facts hd).2.1 x hy
   omega
theorem nfd_mem {l : List Nat} {x : Nat} (h : x ∈ nfd l) : ∃ y ∈ l, x ∈ full y := by
 unfold nfd at h
 rw [ordL_mem] at h
 unfold fullL at h
 obtain ⟨y, hy, hx⟩ := List.mem_flatMap.1 h
 exact ⟨y, hy, hx⟩
theorem mem_nfd {l : List Nat} {x y : Nat} (hy : y ∈ l) (hx : x ∈ full y) : x ∈ nfd l := by
 unfold nfd
 rw [ordL_mem]
 unfold fullL
 exact List.mem_flatMap.2 ⟨y, hy, hx⟩
theorem full_self {x : Nat} (hx : x = 0 ∨ x = 47) : x ∈ full x := by
 cases hh : isH x with
 | true => have := (isH_iff x).1 hh; omega
 | false =>
  cases hd : dfind x with
  | none => rw [full_no hh hd]; simp
  | some e =>
   exfalso
   cases hf : full x with
   | nil => have := (row_facts hd).2.2; rw [hf] at this; exact this (fun _ h => by cases h)
   | cons a t =>
    -- x is decomposed: not so
    have h0 : dfind 0 = none := by kernel_rfl
    have h47 : dfind 47 = none := by kernel_rfl
    rcases hx with rfl | rfl
    · rw [h0] at hd; cases hd
    · rw [h47] at hd; cases hd
theorem nfc_slash {l : List Nat} {x : Nat} (hx : x = 0 ∨ x = 47) (h : x ∈ nfc l) : x ∈ l := by
 have h1 := mem_nfd h (full_self hx)
 rw [nfd_nfc] at h1
 obtain ⟨y, hy, hxy⟩ := nfd_mem h1
 rw [full_slash hxy hx] at hy
 exact hy
theorem full_ne (c : Nat) : full c ≠ [] := by
 cases hh : isH c with
 | true =>
  rw [full_h hh]
  have := (hsp_len c).1
  intro e; rw [e] at this; simp at this
 | false =>
  cases hd : dfind c with
  | none => rw [full_no hh hd]; simp
  | some e =>
   intro e1
   have := (row_facts hd).2.2
   rw [e1] at this
   exact this (fun _ h => by cases h)
theorem nfc_ne {l : List Nat} (h : l ≠ []) : nfc l ≠ [] := by
 intro e
 cases l with
 | nil => exact h rfl
 | cons a t =>
  cases hf : full a with
  | nil => exact full_ne a hf
  | cons b u =>
   have hb : b ∈ nfd (a :: t) := mem_nfd (List.mem_cons_self) (by rw [hf]; simp)
   rw [← nfd_nfc, e] at hb
   obtain ⟨y, hy, _⟩ := nfd_mem hb
   cases hy
theorem plain_iff (x : Nat) : plainC x = true ↔ x = 46 ∨ x = 103 ∨ x = 101 ∨ x = 115 ∨ x = 111 ∨ x = 126 := by
 unfold plainC
 simp only [Bool.or_eq_true, Nat.beq_eq, or_assoc]
theorem plain_facts {x : Nat} (h : plainC x = true) : cls x = 0 ∧ full x = [x] := by
 rcases (plain_iff x).1 h with rfl | rfl | rfl | rfl | rfl | rfl
 · exact ⟨by kernel_rfl, by kernel_rfl⟩
 · exact ⟨by kernel_rfl, by kernel_rfl⟩
 · exact ⟨by kernel_rfl, by kernel_rfl⟩
 · exact ⟨by kernel_rfl, by kernel_rfl⟩
 · exact ⟨by kernel_rfl, by kernel_rfl⟩
 · exact ⟨by kernel_rfl, by kernel_rfl⟩
theorem ordL_zero : ∀ {l : List Nat}, (∀ x ∈ l, cls x = 0) → ordL l = l
 | [], _ => List.eq_nil_of_length_eq_zero (ordL_length [])
 | a :: t, h => by
  rw [ordL_cons (h a List.mem_cons_self), ordL_zero fun x hx => h x (List.mem_cons_of_mem _ hx)]
theorem nfc_plain {l : List Nat} (h : ∀ x ∈ nfc l, plainC x = true) : nfc l = l := by
 have h1 : nfd (nfc l) = nfc l := by
  show ordL (fullL (nfc l)) = nfc l
  rw [fullL_of_whole (fun x hx => (plain_facts (h x hx)).2), ordL_zero (fun x hx => (plain_facts (h x hx)).1)]
 rw [nfd_nfc] at h1
 have hp : ∀ y ∈ l, ∀ x ∈ full y, plainC x = true := fun y hy x hx => h x (h1 ▸ mem_nfd hy hx)
 have hw : Whole l := fun y hy => by
  cases hh : isH y with
  | true =>
   exfalso
   cases hf : full y with
   | nil => exact full_ne y hf
   | cons a t =>
    have h2 := hp y hy a (by rw [hf]; simp)
    rw [full_h hh] at hf
    have h3 := hsp_lt y hh a (by rw [hf]; simp)
    have h4 := (plain_iff a).1 h2
    omega
  | false =>
   cases hd : dfind y with
   | none => exact full_no hh hd
   | some e => exact absurd (hp y hy) (row_facts hd).2.2
 have hl : ∀ y ∈ l, cls y = 0 := fun y hy => (plain_facts (hp y hy y (by rw [hw y hy]; simp))).1
 have h2 : nfd l = l := by
  show ordL (fullL l) = l
  rw [fullL_of_whole hw, ordL_zero hl]
 rw [← h1, h2]
theorem enc_low {c : Nat} (hc : isCp c) {b : UInt8} (hb : b ∈ encN c) (h : b.toNat < 128) : c = b.toNat := by
 have hc2 : c ≤ 1114111 := by unfold isCp at hc; omega
 unfold encN at hb
 split at hb
 · rename_i h1
   rw [List.mem_singleton] at hb
   subst hb
   rw [u8_of _ (by omega)]
 · split at hb
   · rename_i h1 h2
     simp only [List.mem_cons, List.not_mem_nil, or_false] at hb
     rcases hb with rfl | rfl
     · rw [u8_of _ (by omega)] at h; omega
     · rw [u8_of _ (by omega)] at h; omega
   · split at hb
     · rename_i h1 h2 h3
       simp only [List.mem_cons, List.not_mem_nil, or_false] at hb
       rcases hb with rfl | rfl | rfl
       · rw [u8_of _ (by omega)] at h; omega
       · rw [u8_of _ (by omega)] at h; omega
       · rw [u8_of _ (by omega)] at h; omega
     · rename_i h1 h2 h3
       simp only [List.mem_cons, List.not_mem_nil, or_false] at hb
       rcases hb with rfl | rfl | rfl | rfl
       · rw [u8_of _ (by omega)] at h; omega
       · rw [u8_of _ (by omega)] at h; omega
       · rw [u8_of _ (by omega)] at h; omega
       · rw [u8_of _ (by omega)] at h; omega
theorem bytes_low {l : List Nat} (hl : OkL l) {b : UInt8} (hb : b ∈ bytesL l) (h : b.toNat < 128) : b.toNat ∈ l := by
 unfold bytesL at hb
 obtain ⟨c, hc, hcb⟩ := List.mem_flatMap.1 hb
 rw [← enc_low (hl c hc) hcb h]; exact hc
theorem low_bytes {l : List Nat} {c : Nat} (h : c ∈ l) (hc : c < 128) : UInt8.ofNat c ∈ bytesL l := by
 unfold bytesL
 refine List.mem_flatMap.2 ⟨c, h, ?_⟩
 unfold encN
 rw [if_pos hc]; simp
theorem encN_ne (c : Nat) : encN c ≠ [] := fun e => by
 have := encN_len c
 have h2 := wid_pos c
 rw [e] at this
 simp at this
 omega
theorem text_slash {b c : List UInt8} (h : textB b = some c) {x : UInt8} (hx : x = 0 ∨ x = 47) (hm : x ∈ c) : x ∈ b := by
 obtain ⟨l, h1, h2, h3, _, _⟩ := textB_some h
 obtain ⟨e1, ok1⟩ := bytes_codes h1
 obtain ⟨e3, ok3⟩ := bytes_codes h3
 have hn : x.toNat = 0 ∨ x.toNat = 47 := by rcases hx with rfl | rfl <;> decide
 rw [h2] at hm
 have h4 := nfc_slash hn (bytes_low ok3 hm (by omega))
 have h5 := low_bytes h4 (by omega)
 rw [e1] at h5
 simpa using h5
theorem text_ne {b c : List UInt8} (h : textB b = some c) (hb : b ≠ []) : c ≠ [] := by
 obtain ⟨l, h1, h2, h3, _, _⟩ := textB_some h
 obtain ⟨e1, ok1⟩ := bytes_codes h1
 have hl : l ≠ [] := fun e => by rw [e] at e1; exact hb e1.symm
 have h4 := nfc_ne hl
 rw [h2]
 cases hf : nfc l with
 | nil => exact absurd hf h4
 | cons a t =>
  rw [bytesL_cons]
  intro e
  exact encN_ne a (List.append_eq_nil_iff.1 e).1
theorem idx_iff {l : List UInt8} {c : UInt8} : Lib.indexByte l c < 0 ↔ c ∉ l := by
 constructor
 · intro h hm
   have := indexByte_ge l c
   obtain ⟨k, hk⟩ := List.mem_iff_getElem?.1 hm
   exact indexByte_none (by omega) k hk
 · intro h
   apply Classical.byContradiction
   intro hn
   obtain ⟨o, ho⟩ : ∃ o : Nat, Lib.indexByte l c = o := ⟨(Lib.indexByte l c).toNat, by omega⟩
   exact h (List.mem_iff_getElem?.2 ⟨o, (indexByte_some ho).1⟩)
theorem nameB_iff (s : ByteArray) : nameB s = true ↔ s.data.toList ≠ [] ∧ s.size ≤ 48 ∧ (0 : UInt8) ∉ s.data.toList ∧ (47 : UInt8) ∉ s.data.toList := by
 unfold nameB
 simp only [Bool.and_eq_true, Bool.not_eq_true', decide_eq_true_eq, idx_iff, toList_data, beq_eq_false_iff_ne, and_assoc]
theorem strB_sz (c : List UInt8) : (strB c).size = c.length := by
 show (strB c).data.size = _
 unfold strB; simp
theorem text_name {s : ByteArray} {c : List UInt8} (hs : nameB s = true) (h : textB s.data.toList = some c) (hc : c.length ≤ 48) : nameB (strB c) = true := by
 rw [nameB_iff] at hs ⊢
 rw [strB_list, strB_sz]
 exact ⟨text_ne h hs.1, hc, fun hm => hs.2.2.1 (text_slash h (.inl rfl) hm), fun hm => hs.2.2.2 (text_slash h (.inr rfl) hm)⟩
theorem text_res {s : ByteArray} {c : List UInt8} (hs : resB s = false) (h : textB s.data.toList = some c) : resB (strB c) = false := by
 rw [← Bool.not_eq_true]
 intro hr
 obtain ⟨l, h1, h2, h3, _, _⟩ := textB_some h
 have key : ∀ (d : List UInt8) (m : List Nat), codes d = some m → (∀ x ∈ m, plainC x = true) → c = d → s.data.toList = d := by
  intro d m hd hp e
  rw [e] at h3
  have e2 : nfc l = m := Option.some.inj (h3.symm.trans hd)
  have e3 : nfc l = l := nfc_plain (fun x hx => hp x (e2 ▸ hx))
  rw [e3] at h2
  rw [← (bytes_codes h1).1, ← h2, e]
 unfold resB at hr hs
 rw [toList_data, strB_list] at hr
 rw [toList_data] at hs
 rw [Bool.or_eq_true, beq_iff_eq, beq_iff_eq] at hr
 rcases hr with e | e
 · rw [key _ [46, 103, 101, 115, 115, 111] (by decide +kernel) (by decide) e] at hs
   simp at hs
 · rw [key _ [46, 103, 101, 115, 115, 111, 126] (by decide +kernel) (by decide) e] at hs
   simp at hs
theorem jNm_own (L : List It) (x : It) : (jNm L x).1 = x.f1 ∨ ∃ c, cmB x = some c ∧ c.length ≤ 48 ∧ ¬ 1 < cntN L L.length x.f0 c ∧ (jNm L x).1 = strB c := by
 unfold jNm
 cases h : cmB x with
 | none => exact .inl rfl
 | some c =>
  by_cases h1 : 48 < c.length
  · simp only [h1, if_true]; first | exact .inl rfl | exact .inl trivial
  · by_cases h2 : 1 < cntN L L.length x.f0 c
    · simp only [h1, h2, if_true, if_false]; first | exact .inl rfl | exact .inl trivial
    · simp only [h1, h2, if_false]
      exact .inr ⟨c, rfl, by omega, h2, rfl⟩
theorem turn_right {L : List It} {x : It} (h : rightB x = true) : rightB (turnI L x) = true := by
 unfold rightB at h ⊢
 rw [Bool.and_eq_true] at h ⊢
 constructor
 · show nameB (jNm L x).1 = true
   rcases jNm_own L x with e | ⟨c, h1, h2, _, e⟩
   · rw [e]; exact h.1
   · rw [e]; exact text_name h.1 h1 h2
 · have h2 := h.2
   show (decide ((jDt x).1.length = 0) || (!x.f2 && decide ((jDt x).1.length ≤ 8192))) = true
   unfold jDt
   cases hd : x.f2 with
   | true => rfl
   | false =>
    rw [hd] at h2
    simp only [Bool.false_eq_true, if_false, Bool.not_false, Bool.true_and, Bool.or_eq_true, decide_eq_true_eq] at h2 ⊢
    right
    rw [i8s_len]
    unfold dOf
    cases ht : textB (u8s x.f3) with
    | none =>
     show (u8s x.f3).length ≤ 8192
     rw [u8s_len]; omega
    | some c =>
     by_cases h3 : 8192 < c.length
     · simp only [h3, if_true]; rw [u8s_len]; omega
     · simp only [h3, if_false]; omega
theorem turn_res {L : List It} {x : It} (h : resB x.f1 = false) : resB (turnI L x).f1 = false := by
 show resB (jNm L x).1 = false
 rcases jNm_own L x with e | ⟨c, h1, h2, _, e⟩
 · rw [e]; exact h
 · rw [e]; exact text_res h h1
theorem turn_par {L : List It} {i : Nat} (hi : i < L.length) (h : parB L i = true) : parB (turnL L) i = true := by
 obtain ⟨h1, h2⟩ := par_ok h
 have e0 : (itA (turnL L) (i : Int)).f0 = (itA L (i : Int)).f0 := by rw [turn_at hi]; rfl
 unfold parB at h ⊢
 rw [e0]
 by_cases h3 : (itA L (i : Int)).f0 = -1
 · simp [h3] at h ⊢
   omega
 · obtain ⟨p, hp⟩ : ∃ p : Nat, (itA L (i : Int)).f0 = p := ⟨(itA L (i : Int)).f0.toNat, by omega⟩
   rw [hp] at h h2 ⊢
   rw [turn_at (show p < L.length by omega)]
   exact h
theorem turn_dep {L : List It} (hp : ∀ j, j < L.length → parB L j = true) : ∀ i, i < L.length → dep (turnL L) i = dep L i := by
 intro i
 induction i using Nat.strongRecOn with
 | _ i ih =>
  intro hi
  have e0 : (itA (turnL L) (i : Int)).f0 = (itA L (i : Int)).f0 := by rw [turn_at hi]; rfl
  obtain ⟨h1, h2⟩ := par_ok (hp i hi)
  by_cases h3 : (itA L (i : Int)).f0 = -1
  · rw [dep_one h3, dep_one (e0.trans h3)]
  · obtain ⟨p, hq⟩ : ∃ p : Nat, (itA L (i : Int)).f0 = p := ⟨(itA L (i : Int)).f0.toNat, by omega⟩
    rw [dep_step hq (by omega) (fun j hj => hp j (by omega)), dep_step (e0.trans hq) (by omega) (fun j hj => turn_par (by omega) (hp j (by omega))), ih p (by omega) (by omega)]
theorem turn_dup {L : List It} {i j : Nat} (hij : j < i) (hi : i < L.length) (ho : okAtB L i = true) (h0 : (itA L j).f0 = (itA L i).f0) : (jNm L (itA L j)).1 ≠ (jNm L (itA L i)).1 := by
 intro he
 have n1 := turn_nm L (itA L j)
 have n2 := turn_nm L (itA L i)
 have e1 : cmB (itA L j) = cmB (itA L i) := by
  rw [← n1, ← n2]
  show textB (jNm L (itA L j)).1.data.toList = textB (jNm L (itA L i)).1.data.toList
  rw [he]
 have hown : ∀ c, cmB (itA L j) = some c → 1 < cntN L L.length (itA L i).f0 c := fun c hc => by
  rw [← h0]
  exact cnt_two (show j < L.length by omega) hi (by omega) hc (e1 ▸ hc) h0
 rcases jNm_own L (itA L j) with a | ⟨c, a1, _, a2, _⟩
 · rcases jNm_own L (itA L i) with b | ⟨c, b1, _, b2, _⟩
   · rw [a, b] at he
     exact no_dup hij hi ho h0 he
   · exact b2 (hown c (e1.trans b1))
 · exact a2 (h0 ▸ hown c a1)
theorem turn_ok {L : List It} (hd : depB L = true) : depB (turnL L) = true := by
 simp only [depB, List.all_eq_true, List.mem_range] at hd
 have hp : ∀ j, j < L.length → parB L j = true := fun j hj => okAt_par (hd j hj)
 refine depB_true fun i hi => ?_
 rw [turn_len] at hi
 have ho := hd i hi
 have e0 : (itA (turnL L) (i : Int)).f0 = (itA L (i : Int)).f0 := by rw [turn_at hi]; rfl
 have hdp := turn_dep hp i hi
 simp only [okAtB, Bool.and_eq_true, Bool.not_eq_true', decide_eq_true_eq] at ho ⊢
 refine ⟨⟨turn_par hi ho.1.1, by rw [hdp]; exact ho.1.2⟩, ?_⟩
 rw [← Bool.not_eq_true]
 intro hdup
 unfold dupB at hdup
 obtain ⟨x, hx, hx2⟩ := List.any_eq_true.1 hdup
 obtain ⟨j, hj, rfl⟩ := List.mem_take_iff_getElem.1 hx
 have hji : j < i := by omega
 rw [← itA_get (L := turnL L) (by rw [turn_len]; omega), turn_at (by omega), turn_at hi, Bool.and_eq_true, decide_eq_true_eq, beq_iff_eq] at hx2
 exact turn_dup hji hi (hd i hi) hx2.1 (data_inj hx2.2)
theorem turn_check {L : List It} (h : checkN L = 0) : checkN (turnL L) = 0 := by
 obtain ⟨h1, h2, h3⟩ := check_ok (show checkN L ≠ 14 by rw [h]; decide)
 have h4 : L.any (fun x => resB x.f1) = false := by
  rw [← Bool.not_eq_true]
  intro hr
  unfold checkN at h
  rw [if_neg (by omega)] at h
  split at h
  · cases h
  · first | cases h | (rw [if_pos hr] at h; cases h)
 rw [List.all_eq_true] at h3
 rw [List.any_eq_false] at h4
 unfold checkN
 rw [turn_len, if_neg (by omega), if_neg, if_neg]
 · rw [Bool.not_eq_true, List.any_eq_false]
   intro x hx
   obtain ⟨y, hy, rfl⟩ := List.mem_map.1 hx
   rw [turn_res (by simpa using h4 y hy)]; decide
 · rw [turn_ok h2, Bool.not_true, Bool.false_or, Bool.not_eq_true, List.any_eq_false]
   intro x hx
   obtain ⟨y, hy, rfl⟩ := List.mem_map.1 hx
   rw [turn_right (h3 y hy)]; decide
end Go.Proofs.YthlflglkdaainaaGreatDoor.Tr
namespace Go.Proofs.YthlflglkdaainaaGreatDoor.Tr
open Go.RowKit Go.Lib Go.Proofs.YthlflglkdaainaaGreatDoorW.PrintWords Go.Proofs.YthlflglkdaainaaGreatDoorW.PrintLast Go.Proofs.YthlflglkdaainaaGreatDoorW.PrintMore Go.Proofs.YthlflglkdaainaaGreatDoor.Prt
section
variable {β K : Type} [DecidableEq K] {key : β → K} {lt : K → K → Bool}
theorem uniq_k (tri : ∀ a b, lt a b = false → a ≠ b → lt b a = true) : ∀ {A B : List β}, A.Pairwise (fun a b => lt (key b) (key a) = false) → B.Pairwise (fun a b => lt (key b) (key a) = false) → (∀ k, A.filter (fun x => decide (key x = k)) = B.filter (fun x => decide (key x = k))) → A = B
 | [], [], _, _, _ => rfl
 | [], b :: B, _, _, h => by have := h (key b); simp at this
 | a :: A, [], _, _, h => by have := h (key a); simp at this
 | a :: A, b :: B, hA, hB, h => by
  have hA' := List.pairwise_cons.1 hA
  have hB' := List.pairwise_cons.1 hB
  have h3 : key a = key b := by
   apply Classical.byContradiction
   intro hne
   have h1 : lt (key a) (key b) = false := by
    have : a ∈ (b :: B).filter (fun x => decide (key x = key a)) := by rw [← h]; simp
    rcases List.mem_cons.1 (List.mem_filter.1 this).1 with e | e
    · exact absurd (congrArg key e) hne
    · exact hB'.1 a e
   have h2 : lt (key b) (key a) = false := by
    have : b ∈ (a :: A).filter (fun x => decide (key x = key b)) := by rw [h]; simp
    rcases List.mem_cons.1 (List.mem_filter.1 this).1 with e | e
    · exact absurd (congrArg key e).symm hne
    · exact hA'.1 b e
   rw [tri _ _ h1 hne] at h2
   cases h2
  have h4 := h (key a)
  rw [List.filter_cons, List.filter_cons, if_pos (by simp), if_pos (by simp [h3])] at h4
  injection h4 with h4 _
  subst h4
  congr 1
  refine uniq_k tri hA'.2 hB'.2 fun k => ?_
  have := h k
  rw [List.filter_cons, List.filter_cons] at this
  split at this
  · injection this
  · exact this
theorem merge_k (irr : ∀ a, lt a a = false) (trans : ∀ a b c, lt a b = false → lt b c = false → lt a c = false) (tot : ∀ a b, lt a b = true → lt b a = false) (l : List β) :
    (l.mergeSort (fun x y => !lt (key y) (key x))).Pairwise (fun a b => lt (key b) (key a) = false) ∧ ∀ k, (l.mergeSort (fun x y => !lt (key y) (key x))).filter (fun x => decide (key x = k)) = l.filter (fun x => decide (key x = k)) := by
 have ht : ∀ a b c : β, (!lt (key b) (key a)) = true → (!lt (key c) (key b)) = true → (!lt (key c) (key a)) = true := fun a b c h1 h2 => by
  simp only [Bool.not_eq_true'] at h1 h2 ⊢
  exact trans _ _ _ h2 h1
 have hl : ∀ a b : β, ((!lt (key b) (key a)) || (!lt (key a) (key b))) = true := fun a b => by
  cases h : lt (key b) (key a)
  · rfl
  · rw [tot _ _ h]; rfl
 refine ⟨(List.pairwise_mergeSort ht hl l).imp fun h => by simpa using h, fun k => ?_⟩
 have hs : (l.filter (fun x => decide (key x = k))).Pairwise (fun a b => (!lt (key b) (key a)) = true) := by
  rw [List.pairwise_iff_forall_sublist]
  intro a b hab
  have ha := (List.mem_filter.1 (hab.subset (show a ∈ [a, b] by simp))).2
  have hb := (List.mem_filter.1 (hab.subset (show b ∈ [a, b] by simp))).2
  rw [decide_eq_true_eq] at ha hb
  rw [ha, hb, irr]; rfl
 have h1 := List.sublist_mergeSort ht hl hs List.filter_sublist
 have h2 := h1.filter (fun x => decide (key x = k))
 rw [List.filter_filter] at h2
 simp only [Bool.and_self] at h2
 exact (h2.eq_of_length (((List.mergeSort_perm l _).filter _).length_eq.symm)).symm
end
theorem filter_one {o : List Nat} (hn : o.Nodup) {P : Nat → Bool} (hP : ∀ a ∈ o, ∀ b ∈ o, P a = true → P b = true → a = b) : o.filter P = [] ∨ ∃ a, o.filter P = [a] := by
 cases h : o.filter P with
 | nil => exact .inl rfl
 | cons a t =>
  right
  cases t with
  | nil => exact ⟨a, rfl⟩
  | cons b t =>
   exfalso
   have h2 : (a :: b :: t).Nodup := by rw [← h]; exact hn.filter _
   have ha : a ∈ o.filter P := by rw [h]; simp
   have hb : b ∈ o.filter P := by rw [h]; simp
   have ha := List.mem_filter.1 ha
   have hb := List.mem_filter.1 hb
   have := hP a ha.1 b hb.1 ha.2 hb.2
   subst this
   simp at h2
theorem perm_one {o o' : List Nat} (hp : o.Perm o') (hn : o.Nodup) {P : Nat → Bool} (hP : ∀ a ∈ o, ∀ b ∈ o, P a = true → P b = true → a = b) : o.filter P = o'.filter P := by
 have hf := hp.filter P
 rcases filter_one hn hP with h | ⟨a, h⟩
 · rw [h] at hf ⊢
   exact hf.symm.eq_nil.symm
 · rw [h] at hf ⊢
   exact (List.perm_singleton.1 hf.symm).symm
theorem flat_filter {β : Type} {f : Nat → List β} {p : β → Bool} {P : Nat → Bool} : ∀ {o : List Nat}, (∀ k ∈ o, ∀ x ∈ f k, p x = P k) → (o.flatMap f).filter p = (o.filter P).flatMap f
 | [], _ => rfl
 | k :: o, h => by
  rw [List.flatMap_cons, List.filter_append, flat_filter fun j hj => h j (List.mem_cons_of_mem _ hj), List.filter_cons]
  cases hk : P k with
  | true =>
   rw [if_pos rfl, List.flatMap_cons]
   congr 1
   refine List.filter_eq_self.2 fun x hx => ?_
   rw [h k List.mem_cons_self x hx, hk]
  | false =>
   rw [if_neg (by decide)]
   have : (f k).filter p = [] := List.filter_eq_nil_iff.2 fun x hx => by
    rw [h k List.mem_cons_self x hx, hk]; decide
   rw [this, List.nil_append]
abbrev Ln := S90
noncomputable def lnL (L : List It) (k : Nat) : List Ln :=
 (if (jNm L (itA L k)).2 = 0 then [] else [⟨pathN (turnL L) k, (jNm L (itA L k)).2⟩]) ++ if (jDt (itA L k)).2 = 0 then [] else [⟨pathN (turnL L) k, (jDt (itA L k)).2⟩]
noncomputable def rep0 (L : List It) : List Ln := (List.range L.length).flatMap (lnL L)
noncomputable def repL (L : List It) : List Ln := (oL (turnL L)).flatMap (lnL L)
theorem ln_key {L : List It} {k : Nat} {x : Ln} (hx : x ∈ lnL L k) : x.f0 = pathN (turnL L) k := by
 unfold lnL at hx
 rw [List.mem_append] at hx
 rcases hx with hx | hx
 · split at hx
   · cases hx
   · rw [List.mem_singleton] at hx; rw [hx]
 · split at hx
   · cases hx
   · rw [List.mem_singleton] at hx; rw [hx]
def ltC (a b : List ByteArray) : Bool := decide (cmpL a b < 0)
theorem ltC_irr (a : List ByteArray) : ltC a a = false := by unfold ltC; rw [cmpL_refl]; rfl
theorem ltC_tri (a b : List ByteArray) (h : ltC a b = false) (hne : a ≠ b) : ltC b a = true := by
 unfold ltC at h ⊢
 exact decide_eq_true (cmpL_tri a b (of_decide_eq_false h) hne)
theorem ltC_tr (a b c : List ByteArray) (h : ltC a b = true) (h2 : ltC b c = true) : ltC a c = true := by
 unfold ltC at h h2 ⊢
 exact decide_eq_true (cmpL_trans a b c (of_decide_eq_true h) (of_decide_eq_true h2))
theorem ltC_asym (a b : List ByteArray) (h : ltC a b = true) : ltC b a = false := by
 rw [← Bool.not_eq_true]
 intro h2
 have := ltC_tr _ _ _ h h2
 rw [ltC_irr] at this; cases this
theorem ltC_ntr (a b c : List ByteArray) (h : ltC a b = false) (h2 : ltC b c = false) : ltC a c = false := by
 by_cases e1 : a = b
 · rw [e1]; exact h2
 · by_cases e2 : b = c
   · rw [← e2]; exact h
   · exact ltC_asym _ _ (ltC_tr _ _ _ (ltC_tri _ _ h2 e2) (ltC_tri _ _ h e1))
theorem rep_sort {L : List It} (h : checkN L = 0) : (rep0 L).mergeSort (fun x y => !ltC y.f0 x.f0) = repL L := by
 have hT : checkN (turnL L) ≠ 14 := by rw [turn_check h]; decide
 obtain ⟨_, hd, _⟩ := check_ok hT
 have hlen := turn_len L
 have hperm := oL_perm (turnL L)
 rw [hlen] at hperm
 obtain ⟨m1, m2⟩ := merge_k (key := fun x : Ln => x.f0) ltC_irr ltC_ntr ltC_asym (rep0 L)
 refine uniq_k (key := fun x : Ln => x.f0) ltC_tri m1 ?_ fun p => ?_
 · unfold repL
   have hs := oL_sorted hT
   rw [List.pairwise_flatMap]
   refine ⟨fun k hk => ?_, hs.imp fun {a b} hab x hx y hy => ?_⟩
   · rw [List.pairwise_iff_forall_sublist]
     intro x y hxy
     rw [ln_key (hxy.subset (show x ∈ [x, y] by simp)), ln_key (hxy.subset (show y ∈ [x, y] by simp))]
     exact ltC_irr _
   · rw [ln_key hx, ln_key hy]
     exact ltC_asym _ _ hab
 · rw [m2]
   unfold rep0 repL
   rw [flat_filter (P := fun k => decide (pathN (turnL L) k = p)) (fun k _ x hx => by rw [ln_key hx]), flat_filter (P := fun k => decide (pathN (turnL L) k = p)) (fun k _ x hx => by rw [ln_key hx])]
   rw [perm_one hperm.symm List.nodup_range]
   intro a ha b hb h1 h2
   rw [List.mem_range] at ha hb
   refine path_inj hd a a b (Nat.le_refl _) (by omega) (by omega) ?_
   rw [decide_eq_true_eq] at h1 h2
   rw [h1, h2]
end Go.Proofs.YthlflglkdaainaaGreatDoor.Tr
namespace Go.Proofs.YthlflglkdaainaaGreatDoor.Tr
open Go.Shelf Go.RowKit Go.Lib Go.Sort Go.Proofs.YthlflglkdaainaaGreatDoorW.PrintWords Go.Proofs.YthlflglkdaainaaGreatDoorW.PrintLast Go.Proofs.YthlflglkdaainaaGreatDoorW.PrintMore Go.Proofs.YthlflglkdaainaaGreatDoor.Prt
theorem insNil_any (w : World) (f : Value) : Calls Tryz.prog 123 #[.slice none 0 0, .int .i64 0, .int .i64 0, f] w fun e w' => e = .returned (.tuple #[]) ∧ w' = w := by
 go_enter Tryz.func123, Tryz.ntmps123
 go_wp2_with fail
 go_loop [8] (fun v => v = .int .i64 1) (fun _ => 0)
 case atStart => rfl
 case round =>
  subst hrel
  go_wp2
  go_end0
  exact ⟨rfl, rfl⟩
theorem stableNil_any (w : World) (f : Value) : Calls Tryz.prog 90 #[.slice none 0 0, .int .i64 0, f] w fun e w' => e = .returned (.tuple #[]) ∧ w' = w := by
 go_enter Tryz.func90, Tryz.ntmps90
 go_wp2_with fail
 go_loop [7, 8] (fun v u => v = .int .i64 0 ∧ u = .int .i64 20) (fun _ _ => 0)
 case atStart => exact ⟨rfl, rfl⟩
 case round =>
  obtain ⟨rfl, rfl⟩ := hrel
  go_wp2_with (go_at_call 123; refine (insNil_any _ _).mono ?_; rintro e w2 ⟨rfl, rfl⟩)
  go_loop [6] (fun v => v = .int .i64 20) (fun _ => 0)
  case atStart => rfl
  case round =>
   subst hrel
   go_wp2
   go_end0
   exact ⟨rfl, rfl⟩
theorem sortNil_any (w : World) (f : Value) : Calls Tryz.prog 63 #[.slice none 0 0, f] w fun e w' => e = .returned (.tuple #[]) ∧ w' = w := by
 go_enter Tryz.func63, Tryz.ntmps63
 go_wp2_with (go_at_call 90; refine (stableNil_any _ _).mono ?_; rintro e w2 ⟨rfl, rfl⟩)
 go_end0
 exact ⟨rfl, rfl⟩
abbrev kLn : Kd Ln := k90
theorem flatK_list {α : Type} [Inhabited α] (enc : α → List Value) (hk : ∀ x, (enc x).length = 2) (d : Array α) : (flatK enc 2 d).toList = d.toList.flatMap enc := by
 have gen : ∀ l : List α, (List.range (l.length * 2)).map (fun t => (enc l[t / 2]!)[t % 2]!) = l.flatMap enc := by
  intro l
  induction l with
  | nil => rfl
  | cons a l ih =>
   have e : (a :: l).length * 2 = l.length * 2 + 1 + 1 := by rw [List.length_cons]; omega
   rw [e, List.range_succ_eq_map, List.map_cons, List.range_succ_eq_map, List.map_cons, List.map_cons, List.map_map, List.map_map, List.flatMap_cons, ← ih]
   match h : enc a, hk a with
   | [x, y], _ =>
    show x :: y :: List.map _ _ = x :: y :: List.map _ _
    congr 2
    refine List.map_congr_left fun t _ => ?_
    show (enc (a :: l)[(t + 1 + 1) / 2]!)[(t + 1 + 1) % 2]! = (enc l[t / 2]!)[t % 2]!
    rw [show (t + 1 + 1) / 2 = t / 2 + 1 by omega, show (t + 1 + 1) % 2 = t % 2 by omega, show (a :: l)[t / 2 + 1]! = l[t / 2]! from by rw [List.getElem!_cons_succ]]
 unfold flatK
 rw [Array.toList_map, Array.toList_range, ← gen d.toList, Array.length_toList]
 refine List.map_congr_left fun t _ => ?_
 rw [show d[t / 2]! = d.toList[t / 2]! by rw [getElem!_def, getElem!_def, Array.getElem?_toList]]
theorem flat_reps : ∀ (rows : List (List Value)) (inner : List Value), inner.length = rows.length * 2 → (∀ (j : Nat) (p : List Value), rows[j]? = some p → (inner.drop (j * 2)).take 2 = p) → rows.flatMap (fun r => r) = inner
 | [], inner, h, _ => by
  rw [List.length_nil, Nat.zero_mul] at h
  rw [List.eq_nil_of_length_eq_zero h]; rfl
 | p :: ps, inner, h, hr => by
  have h0 := hr 0 p rfl
  rw [Nat.zero_mul, List.drop_zero] at h0
  rw [List.flatMap_cons, flat_reps ps (inner.drop 2) (by rw [List.length_drop, h, List.length_cons]; omega) (fun j q hq => by
   have := hr (j + 1) q (by simpa using hq)
   rw [List.drop_drop, show 2 + j * 2 = (j + 1) * 2 by omega]
   exact this), ← h0, List.take_append_drop]
theorem reps_flat : ∀ (rows : List (List Value)), (∀ r ∈ rows, r.length = 2) → (rows.flatMap (fun r => r)).length = rows.length * 2 ∧ ∀ (j : Nat) (p : List Value), rows[j]? = some p → ((rows.flatMap (fun r => r)).drop (j * 2)).take 2 = p
 | [], _ => ⟨rfl, fun j p h => by simp at h⟩
 | r :: rs, h => by
  obtain ⟨h1, h2⟩ := reps_flat rs fun q hq => h q (List.mem_cons_of_mem _ hq)
  have hr := h r List.mem_cons_self
  refine ⟨by rw [List.flatMap_cons, List.length_append, h1, hr, List.length_cons]; omega, fun j p hj => ?_⟩
  rw [List.flatMap_cons]
  cases j with
  | zero =>
   have : r = p := by simpa using hj
   rw [Nat.zero_mul, List.drop_zero, List.take_append_of_le_length (by omega), List.take_of_length_le (by omega), this]
  | succ j =>
   rw [show (j + 1) * 2 = r.length + j * 2 by omega, List.drop_append, show r.drop (r.length + j * 2) = [] from List.drop_of_length_le (by omega), List.nil_append, show r.length + j * 2 - r.length = j * 2 by omega]
   exact h2 j p (by simpa using hj)
theorem lineCmp_any (p q : List ByteArray) (A B : Option Addr) (c d : Nat) (y z : Int) (W : World) (hA : Kd.C Kd.string W A p.length p) (hB : Kd.C Kd.string W B q.length q) :
    Calls Tryz.prog 64 #[.agg #[.slice A p.length c, .int .u8 y], .agg #[.slice B q.length d, .int .u8 z]] W fun e w' => e = .returned (.int .i64 (cmpL p q)) ∧ ∃ n os', w' = grow (W.drewN n) os' := by
 have hu := Tryz.underlying90
 have HA := Aside0.mk hA
 have HB := Aside0.mk hB
 have hb1 := below_alloc (below_alloc (Below.refl W.heap.size W) (Obj.cells #[.slice A p.length c, .int .u8 y] 90)) (Obj.cells #[.slice B q.length d, .int .u8 z] 90)
 clear hA hB
 go_enter Tryz.func64, Tryz.ntmps64
 go_wp2_with (go_at_call 65; with_reducible refine (cmpl_q p q A B c d _ (Kd.C_below HA.out hb1) (Kd.C_below HB.out hb1)).mono ?_; rintro e w5 ⟨rfl, nq, rfl⟩)
 go_ret
 exact ⟨rfl, nq, _, by rw [alloc_eq_grow, alloc_eq_grow, grow_grow]; rfl⟩
def dfl : List Value := [.slice none 0 0, .int .u8 0]
def encL (rows : List (List Value)) (x : Nat × Nat) : List Value := rows.getD x.1 dfl
def pthL (X : List Ln) (i : Nat) : List ByteArray := (X.getD i ⟨[], 0⟩).f0
def cfL (X : List Ln) (x y : Nat × Nat) : Int := cmpL (pthL X x.1) (pthL X y.1)
theorem heap_swK_other {α : Type} [Inhabited α] (enc : α → List Value) (n : Nat) (W : World) (blk off m : Nat) (dk : Array α) (os : Array Obj) (k : Nat) (h1 : k ≠ blk) (h2 : k < W.heap.size) : (sortWorldK enc n W blk off m dk os).heap[k]? = W.heap[k]? := by
 unfold sortWorldK putRowK
 rw [heap_grow_old _ _ (by rw [size_putRow]; exact h2)]
 unfold putRow mapBlock
 simp only [Array.getElem?_modify]
 rw [if_neg (fun e => h1 e.symm)]
 rfl
theorem row_at {X : List Ln} {rows : List (List Value)} (hl : rows.length = X.length) {W : World} {ok : Nat → Prop} (hf : ∀ (j : Nat) (x : Ln) (c : List Value), X[j]? = some x → rows[j]? = some c → Kd.FK kLn W ok x c) (i : Nat) :
    ∃ A c y, rows.getD i dfl = [.slice A (pthL X i).length c, .int .u8 y] ∧ Kd.F Kd.string W ok A (pthL X i).length (pthL X i) := by
 by_cases hi : i < X.length
 · have h1 : X[i]? = some X[i] := List.getElem?_eq_getElem hi
   have h2 : rows[i]? = some (rows[i]'(by omega)) := List.getElem?_eq_getElem (by omega)
   have hq := hf i _ _ h1 h2
   obtain ⟨A0, c0, e, _, h3⟩ := k90_openF hq
   have ep : pthL X i = X[i].f0 := by
    unfold pthL
    rw [List.getD_eq_getElem?_getD, h1]; rfl
   rw [List.getD_eq_getElem?_getD, h2, Option.getD_some, ep]
   exact ⟨A0, c0, _, e, h3⟩
 · have ep : pthL X i = [] := by
     unfold pthL
     rw [List.getD_eq_getElem?_getD, List.getElem?_eq_none (by omega)]; rfl
   rw [List.getD_eq_getElem?_getD, List.getElem?_eq_none (by omega), ep]
   exact ⟨none, 0, 0, rfl, Kd.F_nil _ _ _⟩
theorem stable_lines (X : List Ln) : ((stableA (ltOf (cfL X)) X.length (List.range X.length).zipIdx.toArray).toList.map (·.1)).map (fun i => X.getD i ⟨[], 0⟩) = X.mergeSort (fun x y => !ltC y.f0 x.f0) := by
 have hS : SWO (fun i j : Nat => ltC (pthL X i) (pthL X j)) := ⟨fun x => ltC_irr _, fun x y z h1 h2 => ltC_tr _ _ _ h1 h2, fun x y z h1 h2 => ltC_ntr _ _ _ h1 h2⟩
 have h := stable_sorts (fun i j : Nat => ltC (pthL X i) (pthL X j)) hS (List.range X.length)
 rw [List.length_range] at h
 have e : ltOf (cfL X) = fun x y : Nat × Nat => (fun i j : Nat => ltC (pthL X i) (pthL X j)) x.1 y.1 := rfl
 rw [e, h, List.map_mergeSort (r := fun i j : Nat => !ltC (pthL X j) (pthL X i)) (s := fun x y : Ln => !ltC y.f0 x.f0) (f := fun i => X.getD i ⟨[], 0⟩) (fun a _ b _ => rfl)]
 congr 1
 apply List.ext_getElem
 · simp
 · intro j h1 h2
   simp only [List.getElem_map, List.getElem_range]
   rw [List.getD_eq_getElem?_getD, List.getElem?_eq_getElem h2]; rfl
theorem sortLines_any (w : World) (base g cap : Nat) (ok : Nat → Prop) (X : List Ln) (hl : X.length ≤ 1000000) (h : Kd.N kLn 90 w base ok (.slice (some ⟨g, 0, none⟩) X.length cap) X) :
    Calls Tryz.prog 63 #[.slice (some ⟨g, 0, none⟩) X.length cap, .func (.func 64) #[] #[]] w fun e w' =>
     e = .returned (.tuple #[]) ∧ Kd.N kLn 90 w' base ok (.slice (some ⟨g, 0, none⟩) X.length cap) (X.mergeSort (fun x y => !ltC y.f0 x.f0)) ∧ w.grownBy w' (some g) := by
 have hgo : ∀ m, (Value.slice (some ⟨g, 0, none⟩) m cap).ownBlock = some g := fun m => by simp [Value.ownBlock]
 have hlt : g < w.heap.size := Kd.N_lt h g (hgo _)
 obtain ⟨h0, rows, hlr, ⟨hr0, inner, hown, hrep⟩, hf⟩ := h
 have hk : ∀ x, (encL rows x).length = 2 := fun x => by
  unfold encL
  by_cases hi : x.1 < rows.length
  · rw [List.getD_eq_getElem?_getD, List.getElem?_eq_getElem hi, Option.getD_some]
    have e := hrep.2 x.1 _ (List.getElem?_eq_getElem hi)
    have e2 := e.2.1
    rw [e.1] at e2
    exact e2
  · rw [List.getD_eq_getElem?_getD, List.getElem?_eq_none (by omega)]; rfl
 have h1 : ∀ x, ∀ u ∈ encL rows x, u.oneCell' = true := fun x => by
  obtain ⟨A, c, y, e, _⟩ := row_at hlr hf x.1
  unfold encL
  rw [e]
  intro u hu
  simp only [List.mem_cons, List.not_mem_nil, or_false] at hu
  rcases hu with rfl | rfl <;> rfl
 have hin : rows.flatMap (fun r => r) = inner := flat_reps rows inner hrep.1 (fun j p hj => (hrep.2 j p hj).1)
 have hsz : (List.range X.length).zipIdx.toArray.size = X.length := by simp
 have hmap : ∀ d : List (Nat × Nat), d.flatMap (encL rows) = (d.map (fun x => rows.getD x.1 dfl)).flatMap (fun r => r) := fun d => by rw [List.flatMap_map]; rfl
 have hrows : (List.range X.length).map (fun i => rows.getD i dfl) = rows := by
  apply List.ext_getElem
  · simp [hlr]
  · intro j a1 a2
    simp only [List.getElem_map, List.getElem_range]
    rw [List.getD_eq_getElem?_getD, List.getElem?_eq_getElem a2]; rfl
 have hF : (flatK (encL rows) 2 (List.range X.length).zipIdx.toArray).toList = inner := by
  rw [flatK_list _ hk, ← hin, hmap]
  congr 1
  show ((List.range X.length).zipIdx).map (fun x => rows.getD x.1 dfl) = rows
  conv => rhs; rw [← hrows]
  rw [show (fun x : Nat × Nat => rows.getD x.1 dfl) = (fun i => rows.getD i dfl) ∘ Prod.fst from rfl, ← List.map_map]
  congr 1
  exact List.zipIdx_map_fst 0 _
 have hown' : w.ownsRow base 90 2 (.slice (some ⟨g, 0, none⟩) X.length cap) X.length inner := by
  have := hown
  rw [hlr] at this
  exact this
 have hH : HoldsK (encL rows) 2 w g 0 (List.range X.length).zipIdx.toArray := holds_own hown' hF
 have R0 : RowK (encL rows) 2 w g 0 (List.range X.length).zipIdx.toArray := ⟨hk, h1, hH, hlt⟩
 have hcmp : CmpLays Tryz.prog 64 #[] (encL rows) 2 (cfL X) g 0 (List.range X.length).zipIdx.toArray.size w := by
  intro m os dk _ x y
  obtain ⟨A, c, y1, e1, f1⟩ := row_at hlr hf x.1
  obtain ⟨B, d, z1, e2, f2⟩ := row_at hlr hf y.1
  unfold encL
  rw [e1, e2]
  have step : ∀ {p : List ByteArray} {A : Option Addr}, Kd.F Kd.string w (fun k => ok k ∧ some k ≠ (Value.slice (some ⟨g, 0, none⟩) X.length cap).ownBlock) A p.length p → Kd.C Kd.string (sortWorldK (encL rows) 2 w g 0 m dk os) A p.length p := fun hp =>
   Kd.F_now (Kd.F_step hp (fun k hk hkl => heap_swK_other _ _ _ _ _ _ _ _ _ (fun e => hk.2 (by rw [hgo, e])) hkl))
  exact lineCmp_any _ _ A B c d y1 z1 _ (step f1) (step f2)
 have hw := sortStable_walk (encL rows) (cfL X) 64 #[] g 0 cap (List.range X.length).zipIdx.toArray w (enters_of Tryz.func64 (by kernel_rfl) rfl) hcmp R0 (by rw [hsz]; omega) (List.range X.length).zipIdx.toArray w rfl (SWK.start hH)
 rw [hsz] at hw
 refine hw.mono ?_
 rintro e w' ⟨rfl, n, os, rfl⟩
 obtain ⟨S, hS⟩ : ∃ S, (stableA (ltOf (cfL X)) X.length (List.range X.length).zipIdx.toArray).toList.map (·.1) = S := ⟨_, rfl⟩
 have hsl := stable_lines X
 rw [hS] at hsl
 have hSl : S.length = X.length := by
  have := congrArg List.length hsl
  rwa [List.length_map, List.length_mergeSort] at this
 have hst : (stableA (ltOf (cfL X)) X.length (List.range X.length).zipIdx.toArray).size = X.length := by
  have := congrArg List.length hS
  rw [List.length_map, Array.length_toList, hSl] at this
  exact this
 obtain ⟨q1, q2⟩ := own_sorted (m := n) (os := os) (F := flatK (encL rows) 2 (stableA (ltOf (cfL X)) X.length (List.range X.length).zipIdx.toArray)) hown' (by rw [size_flatK, hst])
 rw [flatK_list _ hk, hmap] at q1
 have hS2 : (stableA (ltOf (cfL X)) X.length (List.range X.length).zipIdx.toArray).toList.map (fun x => rows.getD x.1 dfl) = S.map (fun i => rows.getD i dfl) := by
  rw [← hS, List.map_map]; rfl
 rw [hS2] at q1
 have hr2 := reps_flat (S.map (fun i => rows.getD i dfl)) (fun r hr => by
  obtain ⟨i, _, rfl⟩ := List.mem_map.1 hr
  exact hk (i, 0))
 have q2' : w.grownBy (sortWorldK (encL rows) 2 w g 0 n (stableA (ltOf (cfL X)) X.length (List.range X.length).zipIdx.toArray) os) (some g) := q2
 refine ⟨rfl, ⟨h0, S.map (fun i => rows.getD i dfl), ?_, ⟨?_, _, ?_, hr2.1, fun j p hj => ⟨hr2.2 j p hj, ?_, ?_⟩⟩, ?_⟩, q2⟩
 · rw [List.length_map, List.length_mergeSort, hSl]
 · exact hr0
 · rw [List.length_map, hSl]; exact q1
 · have e := hr2.2 j p hj
   show (List.take 2 (List.drop (j * 2) _)).length = 2
   rw [e]
   obtain ⟨i, _, rfl⟩ := List.mem_map.1 (List.mem_of_getElem? hj)
   exact hk (i, 0)
 · have e := hr2.2 j p hj
   show ∀ u : Value, u ∈ List.take 2 (List.drop (j * 2) _) → u.oneCell' = true
   rw [e]
   obtain ⟨i, _, rfl⟩ := List.mem_map.1 (List.mem_of_getElem? hj)
   exact h1 (i, 0)
 · intro j x c hx hc
   rw [← hsl, List.getElem?_map] at hx
   rw [List.getElem?_map] at hc
   cases hs : S[j]? with
   | none => rw [hs] at hx; cases hx
   | some i =>
    rw [hs] at hx hc
    have hx : X.getD i ⟨[], 0⟩ = x := Option.some.inj hx
    have hc : rows.getD i dfl = c := Option.some.inj hc
    subst hx; subst hc
    obtain ⟨A, c, y, e, hF⟩ := row_at hlr hf i
    have hstep : Kd.FK kLn w (fun k => ok k ∧ some k ≠ (Value.slice (some ⟨g, 0, none⟩) X.length cap).ownBlock) (X.getD i ⟨[], 0⟩) (rows.getD i dfl) := by
     by_cases hi : i < X.length
     · rw [List.getD_eq_getElem?_getD, List.getElem?_eq_getElem hi, List.getD_eq_getElem?_getD, List.getElem?_eq_getElem (show i < rows.length by omega)]
       exact hf i _ _ (List.getElem?_eq_getElem hi) (List.getElem?_eq_getElem _)
     · rw [List.getD_eq_getElem?_getD, List.getElem?_eq_none (by omega), List.getD_eq_getElem?_getD, List.getElem?_eq_none (by omega)]
       exact k90_mkF _ _ ⟨[], 0⟩ (A0 := none) (c0 := 0) (Nat.le_refl _) (Kd.F_nil _ _ _)
    exact Kd.FK_grown hstep q2' (fun k hk => by have := hk.2; rwa [hgo] at this)
end Go.Proofs.YthlflglkdaainaaGreatDoor.Tr
namespace Go.Proofs.YthlflglkdaainaaGreatDoor.Tr
open Go.RowKit Go.Lib Go.Maps Go.Proofs.YthlflglkdaainaaGreatDoorW.PrintWords Go.Proofs.YthlflglkdaainaaGreatDoorW.PrintLast Go.Proofs.YthlflglkdaainaaGreatDoorW.PrintMore Go.Proofs.YthlflglkdaainaaGreatDoor.Prt
theorem spotLaw : WideMaps.KeyLaw Tryz.prog 94 := deep_law_laid laidOut (m := 3) (by decide) (of_decide_eq_true (by kernel_rfl)) (by kernel_rfl) (by kernel_rfl)
theorem spotK : Keyed Tryz.prog 94 := Keyed.of_law spotLaw
theorem spot_key {p : Int} {s : ByteArray} (h1 : -9223372036854775808 ≤ p) (h2 : p ≤ 9223372036854775807) (hs : s.size ≤ maxLen) : ∃ kl, keyOf Tryz.prog 94 (.agg #[.int .i64 p, .string s]) = some kl := by
 have hw : (Lit.int .i64 p).wf = true := by
  simp [Lit.wf, IntKind.min, IntKind.max, IntKind.signed, IntKind.bits]; omega
 have hu := Tryz.underlying94
 have c1 : Tryz.prog.cellsOf 3 = 1 := by kernel_rfl
 have c2 : Tryz.prog.cellsOf 9 = 1 := by kernel_rfl
 have c3 : Tryz.prog.cellsOf 94 = 2 := by kernel_rfl
 have hk : Tryz.prog.keyType 94 = true := by kernel_rfl
 obtain ⟨m, hz⟩ : ∃ m, Tryz.prog.types.size = m + 1 := ⟨Tryz.prog.types.size - 1, by kernel_rfl⟩
 unfold keyOf
 rw [hu, hk]
 simp only [Bool.true_and, Value.formed, hu]
 rw [hz]
 simp [Program.keyLits, hu, c1, c2, c3, Value.cells, Tryz.underlying3, Tryz.underlying9, hw, hs]
def SeenC (D : DataW Unit) (L : List It) (i : Nat) : Prop := IsMap D ∧ ∀ (p : Int) (s : ByteArray) (kl : Lit), keyOf Tryz.prog 94 (.agg #[.int .i64 p, .string s]) = some kl → D.atKey kl (.lit (.int .i64 0)) = .lit (.int .i64 (cntN L i p s.data.toList : Int))
theorem seenC_empty (L : List It) : SeenC (.map []) L 0 := ⟨isMap_empty, fun p s kl _ => by simp [cntN, DataW.atKey]⟩
theorem seenC_pass {D : DataW Unit} {L : List It} {i : Nat} (h : SeenC D L i) (hi : i < L.length) (hn : cmB (itA L i) = none) : SeenC D L (i + 1) :=
 ⟨h.1, fun p s kl hk => by rw [h.2 p s kl hk, cnt_snoc hi, if_neg (by rw [hn]; rintro ⟨_, h⟩; cases h)]; simp⟩
theorem seenC_put {D : DataW Unit} {L : List It} {i : Nat} (h : SeenC D L i) (hi : i < L.length) {c : List UInt8} (hn : cmB (itA L i) = some c) {kl : Lit} (hk : keyOf Tryz.prog 94 (.agg #[.int .i64 (itA L i).f0, .string (strB c)]) = some kl) :
    SeenC (D.put kl (.lit (.int .i64 ((cntN L i (itA L i).f0 c : Int) + 1)))) L (i + 1) := by
 refine ⟨?_, fun p s kl' hk' => ?_⟩
 · obtain ⟨es, rfl⟩ := h.1
   exact ⟨_, rfl⟩
 · rw [cnt_snoc hi]
   by_cases he : kl' = kl
   · subst he
     have := spotK.inj hk hk'
     injection this with h1
     have h2 := (Array.mk.injEq _ _).mp h1
     simp only [List.cons.injEq, Value.int.injEq, Value.string.injEq, true_and, and_true] at h2
     rw [atKey_put_same h.1 (spotK.key hk), ← h2.1, ← h2.2, strB_list, if_pos ⟨rfl, hn⟩]
     simp
   · rw [atKey_put_other he, h.2 p s kl' hk', if_neg]
     · simp
     · rintro ⟨h1, h2⟩
       rw [hn] at h2
       rw [h1, Option.some.inj h2, str_data, hk'] at hk
       exact he (Option.some.inj hk)
open Go.MapKept Go.ChangeMaps in
theorem incr_facts {W : World} {b n : Nat} {D : DataW Unit} {key : Value} {kl : Lit} {c : Int} (HM : W.ownsMap Tryz.prog 94 (plainElem Tryz.prog 3) b n D) (hn : n < maxLen) (hkey : keyOf Tryz.prog 94 key = some kl) (hD : IsMap D)
    (hc : D.atKey kl (.lit (.int .i64 0)) = .lit (.int .i64 c)) (hw : (Lit.int .i64 (c + 1)).wf = true) :
    (Instr.lookup 92 (.map (some b)) key false).run Tryz.prog W = .ok (.int .i64 c) W ∧ ∃ v0 st w2 w3, (Instr.mapEntry 92 (.map (some b)) key).run Tryz.prog W = .ok (.tuple #[v0, goInt st]) w2 ∧
     (Instr.lookup 92 (.map (some b)) key false).run Tryz.prog w2 = .ok (.int .i64 c) w2 ∧ (Instr.entryStore 92 (.map (some b)) (goInt st) (.int .i64 (c + 1))).run Tryz.prog w2 = .ok () w3 ∧
     w3.ownsMap Tryz.prog 94 (plainElem Tryz.prog 3) b (n + 1) (D.put kl (.lit (.int .i64 (c + 1)))) ∧ W.grownBy w3 (some b) ∧ W.grownBy w2 (some b) := by
 have ht := Tryz.underlying92
 have he := Tryz.underlying3
 have look : ∀ {W' : World} {m : Nat} {D' : DataW Unit} {c' : Int}, W'.ownsMap Tryz.prog 94 (plainElem Tryz.prog 3) b m D' → D'.atKey kl (.lit (.int .i64 0)) = .lit (.int .i64 c') → (Instr.lookup 92 (.map (some b)) key false).run Tryz.prog W' = .ok (.int .i64 c') W' := by
  intro W' m D' c' h h2
  obtain ⟨c0, l1, l2, _⟩ := h.lookup_int spotK ht he (Tryz.zeroValue3 W') hkey
  rw [h2] at l2
  injection l2 with l2
  injection l2 with _ l2
  rw [l2]; exact l1
 have hl := look HM hc
 refine ⟨hl, ?_⟩
 obtain ⟨es, clock, hb, F, hs, hd⟩ := id HM
 obtain ⟨v0, st, es1, clock1, hE, _, hS⟩ := WideElems.entry_then_store spotLaw ht (z := .int .i64 0) (fun u => Tryz.zeroValue3 u) hb F hkey
 obtain ⟨es', clock', hst, hup⟩ := hS (setBlock W b (.map es1 clock1)) (.int .i64 (c + 1)) (heap_setBlock_same hb _)
 have hg2 : ∀ o : Obj, W.grownBy (setBlock W b o) (some b) := fun o => ⟨rfl, rfl, rfl, by simp [setBlock], fun i _ hi => heap_setBlock_other hb _ (fun e => hi (by rw [e]))⟩
 have hset : setBlock (setBlock W b (.map es1 clock1)) b (.map es' clock') = setBlock W b (.map es' clock') := by simp [setBlock]
 obtain ⟨w', hup2, ho2, hgr⟩ := HM.update spotK ht hn hkey (plainElem_int he hw)
 have hw' := (Result.ok.inj (hup.symm.trans hup2)).2
 subst hw'
 refine ⟨v0, st, _, _, hE, ?_, hst, by rw [hset]; exact ho2, by rw [hset]; exact hgr, hg2 _⟩
 rcases spotLaw.find W hkey es.toList F.keys with ⟨h1, h2⟩ | ⟨j, e0, h1, h2, h3⟩
 · have q1 : (Instr.mapEntry 92 (.map (some b)) key).run Tryz.prog W = .ok (.tuple #[.int .i64 0, goInt clock]) (setBlock W b (.map (es.push ⟨key, .int .i64 0, clock⟩) (clock + 1))) := by
     simp [Instr.mapEntry, run_underlying ht, MapKept.run_getObj_map hb, spotLaw.check W false hkey, h1, Tryz.zeroValue3, MapKept.run_setObj_map _ hb, Result.andThen, setBlock]
   have q2 : (Instr.mapUpdate 92 (.map (some b)) key (.int .i64 0)).run Tryz.prog W = .ok () (setBlock W b (.map (es.push ⟨key, .int .i64 0, clock⟩) (clock + 1))) := by
    simp [Instr.mapUpdate, run_underlying ht, MapKept.run_getObj_map hb, spotLaw.check W false hkey, h1, MapKept.run_setObj_map _ hb, Result.andThen, setBlock]
   have hE2 := (Result.ok.inj (q1.symm.trans hE)).2
   obtain ⟨w4, q3, q4, _⟩ := HM.update spotK ht hn hkey (plainElem_int (q := .i64) he (a := 0) (by decide))
   have q3b := (Result.ok.inj (q2.symm.trans q3)).2
   rw [← q3b, hE2] at q4
   have hz : c = 0 := by
    obtain ⟨c0, l1, l2, _⟩ := HM.lookup_int spotK ht he (Tryz.zeroValue3 W) hkey
    rcases Maps.fit_look false spotK ht (Tryz.zeroValue3 W) hb F hkey with ⟨hrun, _, _⟩ | ⟨e0, y, hy, hk, _⟩
    · have hr := hl.symm.trans hrun
      simpa using hr
    · exact absurd hk (h2 _ hy)
   subst hz
   exact look q4 (atKey_put_same hD (spotK.key hkey) _ _)
 · have q1 : ∃ v, (Instr.mapEntry 92 (.map (some b)) key).run Tryz.prog W = .ok v (setBlock W b (.map es clock)) := by
     have hj : es[j]? = some e0 := by simpa using h2
     have hsame : es.modify j (fun e => { e with key := key }) = es := by
      apply Array.ext'
      rw [Array.toList_modify, modify_eq_set _ _ _ _ h2]
      have : ({ e0 with key := key } : MapEntry) = e0 := by rw [← h3]
      rw [this]
      exact WideElems.set_self _ _ _ h2
     exact ⟨.tuple #[e0.val, goInt e0.born], by simp [Instr.mapEntry, run_underlying ht, MapKept.run_getObj_map hb, spotLaw.check W false hkey, h1, hj, h3, spotLaw.stays W hkey, hsame, MapKept.run_setObj_map _ hb, Result.andThen, setBlock]⟩
   obtain ⟨v, q1⟩ := q1
   rw [← (Result.ok.inj (q1.symm.trans hE)).2]
   exact look (D' := D) ⟨es, clock, heap_setBlock_same hb _, F, hs, hd⟩ hc
theorem bs_conv (W : World) (s : ByteArray) (hs : s.size ≤ maxLen) : Bs (Lib.bytesWorld W 5 s) (.slice (some ⟨W.heap.size, 0, none⟩) s.size (grownCap W s.size 0 5)) s.data.toList := by
 have hl : s.data.toList.length = s.size := Array.length_toList
 refine ⟨_, _, by rw [hl], by rw [hl]; exact grownCap_ge .., grownCap_le_maxLen _ _ _ _ hs, fun h => by (cases h), fun k hk => ⟨W.heap.size, 0, rfl, ?_⟩⟩
 rw [hl] at hk
 rw [Nat.zero_add, Lib.bytesWorld_cell W _ s k hk]
section
variable {P : Program} {ops : Array Oper} {rest : List Oper} {o : Oper} {a : Act} {Q : Exit → Act → World → Prop}
theorem conv_event {W : World} (hgd : o.guard = none) {N : Tmp} (_hd : o.dst = some N) (x : Operand) (ho : o.op = .convert 9 46 x) (s : ByteArray) (hx : a.eval x = .string s) (hs : s.size ≤ maxLen)
    (h : ∀ v w2, v = .slice (some ⟨W.heap.size, 0, none⟩) s.size (grownCap W s.size 0 5) → Bs w2 v s.data.toList → Below W.heap.size W w2 → wpList Tryz.prog ops Q rest (a.put o.dst v) w2) : wpList Tryz.prog ops Q (o :: rest) a W := by
 have hr := Lib.run_convert_string_bytes (P := Tryz.prog) W 9 46 5 s Tryz.underlying9 Tryz.underlying46 Tryz.underlying5
 have hrun : (execOp a.eval o).run Tryz.prog W = .ok (.value (.slice (some ⟨W.heap.size, 0, none⟩) s.size (grownCap W s.size 0 5))) (Lib.bytesWorld W 5 s) := by
  simp [execOp, ho, hx, hr]
 exact Kd.event_run hgd hrun (h _ _ rfl (bs_conv W s hs) (Lib.bytesWorld_below W _ s))
end
noncomputable def nmS (L : List It) (j : Nat) : ByteArray := match cmB (itA L j) with
 | none => ⟨#[]⟩
 | some c => strB c
noncomputable def rtB (L : List It) (j : Nat) : Bool := (cmB (itA L j)).isSome
theorem fill_pass {α : Type} (f : Nat → α) (z : α) (n i : Nat) (h : f i = z) : fillTo f z n i = fillTo f z n (i + 1) := by
 apply List.ext_getElem
 · simp [fillTo]
 · intro j h1 h2
   simp only [fillTo, List.getElem_map, List.getElem_range]
   by_cases e : j = i
   · subst e; rw [if_neg (by omega), if_pos (by omega), h]
   · by_cases e2 : j < i
     · rw [if_pos e2, if_pos (by omega)]
     · rw [if_neg e2, if_neg (by omega)]
structure J1 (w : World) (L : List It) (An : Option Addr) (cn : Nat) (Ar : Option Addr) (cr b i m : Nat) (wr : World) : Prop where
 below : Below w.heap.size w wr
 base : w.heap.size ≤ b
 names : Kd.R Kd.string 9 wr w.heap.size (fun k => k ≠ b ∧ some k ≠ (Value.slice Ar L.length cr).ownBlock) (.slice An L.length cn) (fillTo (nmS L) ⟨#[]⟩ L.length i)
 right : Kd.R Kd.bool 4 wr w.heap.size (fun k => k ≠ b ∧ some k ≠ (Value.slice An L.length cn).ownBlock) (.slice Ar L.length cr) (fillTo (rtB L) false L.length i)
 map : ∃ D : DataW Unit, wr.ownsMap Tryz.prog 94 (plainElem Tryz.prog 3) b m D ∧ SeenC D L m
section
variable {w wr w1 : World} {L : List It} {An Ar : Option Addr} {cn cr b i m : Nat}
theorem j1_lt (h : J1 w L An cn Ar cr b i m wr) : b < wr.heap.size := by
 obtain ⟨D, ⟨es, clock, hb, _⟩, _⟩ := h.map
 exact (Array.getElem?_eq_some_iff.1 hb).1
theorem j1_on (h : J1 w L An cn Ar cr b i m wr) (hb : Below wr.heap.size wr w1) : J1 w L An cn Ar cr b i m w1 := by
 have hlt := j1_lt h
 obtain ⟨D, ⟨es, clock, hm, r⟩, hD⟩ := h.map
 exact ⟨h.below.trans (hb.mono h.below.size), h.base, Kd.R_below h.names hb, Kd.R_below h.right hb, D, ⟨es, clock, (hb.block b hlt).trans hm, r⟩, hD⟩
theorem j1_pass (h : J1 w L An cn Ar cr b i i wr) (hi : i < L.length) (hn : cmB (itA L i) = none) : J1 w L An cn Ar cr b (i + 1) (i + 1) wr := by
 obtain ⟨D, ⟨es, clock, hm, hf, hs, hd⟩, hD⟩ := h.map
 refine ⟨h.below, h.base, ?_, ?_, D, ⟨es, clock, hm, hf, by omega, hd⟩, seenC_pass hD hi hn⟩
 · rw [← fill_pass (nmS L) ⟨#[]⟩ L.length i (by unfold nmS; rw [hn])]; exact h.names
 · rw [← fill_pass (rtB L) false L.length i (by unfold rtB; rw [hn]; rfl)]; exact h.right
theorem j1_form (h : J1 w L An cn Ar cr b i m wr) (hi : 0 < L.length) : ∃ gn gr, An = some ⟨gn, 0, none⟩ ∧ Ar = some ⟨gr, 0, none⟩ ∧ gn ≠ gr ∧ gn ≠ b ∧ gr ≠ b ∧ w.heap.size ≤ gn ∧ w.heap.size ≤ gr := by
 obtain ⟨gn, c1, e1, b1, l1, _⟩ := Kd.R_form h.names (by rw [fill_length]; omega)
 obtain ⟨gr, c2, e2, b2, l2, _⟩ := Kd.R_form h.right (by rw [fill_length]; omega)
 rw [fill_length] at e1 e2
 cases e1; cases e2
 have p1 := h.names.1 gn rfl
 have p2 := h.right.1 gr rfl
 exact ⟨gn, gr, rfl, rfl, fun e => p1.2 (by subst e; rfl), p1.1, p2.1, b1, b2⟩
theorem j1_cells {gn gr : Nat} (h : J1 w L (some ⟨gn, 0, none⟩) cn (some ⟨gr, 0, none⟩) cr b i m wr) {j : Nat} (hj : j < L.length) : (∃ u, wr.cell? ⟨gn, j, none⟩ = some u ∧ wr.frozen? ⟨gn, j, none⟩ = false) ∧ ∃ u, wr.cell? ⟨gr, j, none⟩ = some u ∧ wr.frozen? ⟨gr, j, none⟩ = false := by
 have h1 := Kd.R_celln ByteArray.empty h.names (j : Int) (by omega) (by omega)
 have h2 := Kd.R_celln false h.right (j : Int) (by omega) (by omega)
 rw [Int.toNat_natCast] at h1 h2
 exact ⟨⟨_, h1⟩, _, h2⟩
theorem j1_rows {gn gr : Nat} (h : J1 w L (some ⟨gn, 0, none⟩) cn (some ⟨gr, 0, none⟩) cr b i m wr) (hi : i < L.length) {c : List UInt8} (hn : cmB (itA L i) = some c) :
    J1 w L (some ⟨gn, 0, none⟩) cn (some ⟨gr, 0, none⟩) cr b (i + 1) m ((wr.setCell ⟨gn, i, none⟩ (.string (strB c))).setCell ⟨gr, i, none⟩ (.bool true)) := by
 obtain ⟨_, _, e1, e2, n1, n2, n3, n4, n5⟩ := j1_form h (by omega)
 cases e1; cases e2
 have r1 := (Kd.R_putg h.names (i : Int) (strB c)).1
 rw [Int.toNat_natCast] at r1
 have r2 := (Kd.R_putg (W := wr.setCell ⟨gn, i, none⟩ (.string (strB c))) (Kd.R_far (p := ⟨gn, i, none⟩) h.right (fun k hk => fun e => hk.2 (by show some k = some gn; rw [e])) _) (i : Int) true).1
 rw [Int.toNat_natCast] at r2
 have f1 : nmS L i = strB c := by unfold nmS; rw [hn]
 have f2 : rtB L i = true := by unfold rtB; rw [hn]; rfl
 rw [← f1, fill_set (nmS L)] at r1
 rw [← f2, fill_set (rtB L)] at r2
 obtain ⟨D, ⟨es, clock, hm, r⟩, hD⟩ := h.map
 rw [f2] at r2
 rw [f1] at r1
 exact ⟨(h.below.setCell (p := ⟨gn, i, none⟩) n4 _).setCell (p := ⟨gr, i, none⟩) n5 _, h.base, Kd.R_far (p := ⟨gr, i, none⟩) r1 (fun k hk => fun e => hk.2 (by show some k = some gr; rw [e])) _, r2, D,
  ⟨es, clock, by rw [Below.heap_setCell _ _ _ _ (fun e => n3 e.symm), Below.heap_setCell _ _ _ _ (fun e => n2 e.symm)]; exact hm, r⟩, hD⟩
theorem j1_map (h : J1 w L An cn Ar cr b i m wr) (hg : wr.grownBy w1 (some b)) {D : DataW Unit} {k : Nat} (hm : w1.ownsMap Tryz.prog 94 (plainElem Tryz.prog 3) b k D) (hD : SeenC D L k) : J1 w L An cn Ar cr b i k w1 :=
 ⟨Below.grown h.below hg h.below.size (fun k hk => by have e : b = k := Option.some.inj hk; have := h.base; omega), h.base, Kd.R_grown h.names hg (fun k hk e => hk.1 (Option.some.inj e)), Kd.R_grown h.right hg (fun k hk e => hk.1 (Option.some.inj e)), D, hm, hD⟩
end
end Go.Proofs.YthlflglkdaainaaGreatDoor.Tr
namespace Go.Proofs.YthlflglkdaainaaGreatDoor.Tr
open Go.RowKit Go.Lib Go.Proofs.YthlflglkdaainaaGreatDoorW.PrintWords Go.Proofs.YthlflglkdaainaaGreatDoorW.PrintLast Go.Proofs.YthlflglkdaainaaGreatDoorW.PrintMore Go.Proofs.YthlflglkdaainaaGreatDoor.Prt
end Go.Proofs.YthlflglkdaainaaGreatDoor.Tr
namespace Go.Proofs.YthlflglkdaainaaGreatDoor.Tr
open Go.RowKit Go.Lib Go.Maps Go.Proofs.YthlflglkdaainaaGreatDoorW.PrintWords Go.Proofs.YthlflglkdaainaaGreatDoorW.PrintLast Go.Proofs.YthlflglkdaainaaGreatDoorW.PrintMore Go.Proofs.YthlflglkdaainaaGreatDoor.Prt
abbrev Vd := S49
abbrev kVd : Kd Vd := k49
abbrev zVd : Vd := z49
noncomputable def vdI (L : List It) (x : It) : Vd := ⟨(jNm L x).1, (jNm L x).2, (jDt x).1, (jDt x).2⟩
noncomputable def vdL (L : List It) : List Vd := L.map (vdI L)
noncomputable def vdS (L : List It) (j : Nat) : Vd := vdI L (itA L j)
theorem vdL_len (L : List It) : (vdL L).length = L.length := by rw [vdL, List.length_map]
theorem vd_all (L : List It) : fillTo (vdS L) zVd L.length L.length = vdL L := by
 apply List.ext_getElem
 · rw [fill_length, vdL_len]
 · intro j h1 h2
   have hj : j < L.length := by rwa [vdL_len] at h2
   simp only [fillTo, List.getElem_map, List.getElem_range, vdL]
   rw [if_pos hj, vdS, itA_get hj]
theorem infoVd : (Tryz.prog.info? 48).map (fun i => (i.zero, i.size, i.bytes)) = some (some (.agg #[.string ⟨#[]⟩, .int .u8 0, .slice none 0 0, .int .u8 0]), 4, 56) := by kernel_rfl
structure J2 (W2 : World) (n : Nat) (Ao : Option Addr) (co : Nat) (ys : List Vd) (wr : World) : Prop where
 below : Below W2.heap.size W2 wr
 out : Kd.R kVd 48 wr W2.heap.size (fun _ => True) (.slice Ao n co) ys
section
variable {W2 wr w1 : World} {n : Nat} {Ao : Option Addr} {co go : Nat} {ys : List Vd}
theorem j2_on (h : J2 W2 n Ao co ys wr) (hb : Below wr.heap.size wr w1) : J2 W2 n Ao co ys w1 := ⟨h.below.trans (hb.mono h.below.size), Kd.R_below h.out hb⟩
theorem j2_form (h : J2 W2 n Ao co ys wr) (hp : 0 < ys.length) : ∃ go, Ao = some ⟨go, 0, none⟩ ∧ W2.heap.size ≤ go ∧ go < wr.heap.size := by
 obtain ⟨gn, c1, e1, b1, l1, _⟩ := Kd.R_form h.out hp
 cases e1
 exact ⟨gn, rfl, b1, l1⟩
theorem j2_cells (h : J2 W2 n (some ⟨go, 0, none⟩) co ys wr) {i : Nat} (hi : i < ys.length) : ∃ v2, wr.cell? ⟨go, i * 4, none⟩ = some (.string ys[i].f0) ∧ wr.cell? ⟨go, i * 4 + 1, none⟩ = some (.int .u8 ys[i].f1) ∧ wr.cell? ⟨go, i * 4 + 2, none⟩ = some v2 ∧ wr.cell? ⟨go, i * 4 + 3, none⟩ = some (.int .u8 ys[i].f3) ∧
    wr.frozen? ⟨go, i * 4, none⟩ = false ∧ wr.frozen? ⟨go, i * 4 + 1, none⟩ = false ∧ wr.frozen? ⟨go, i * 4 + 2, none⟩ = false ∧ wr.frozen? ⟨go, i * 4 + 3, none⟩ = false := by
 obtain ⟨cs, hM, hc⟩ := r_at h.out i hi
 obtain ⟨v2, rfl, _⟩ := k49_openM hM
 exact ⟨v2, (hc 0 _ rfl).1, (hc 1 _ rfl).1, (hc 2 _ rfl).1, (hc 3 _ rfl).1, (hc 0 _ rfl).2, (hc 1 _ rfl).2, (hc 2 _ rfl).2, (hc 3 _ rfl).2⟩
theorem j2_put (h : J2 W2 n (some ⟨go, 0, none⟩) co ys wr) {i k : Nat} (hi : i < ys.length) (hk : k < 4) (u : Value) {x' : Vd}
    (hM : ∀ cs, kVd.M wr W2.heap.size (fun b => True ∧ b ≠ go) ys[i] cs → kVd.M wr W2.heap.size (fun b => True ∧ b ≠ go) x' (cs.set k u)) : J2 W2 n (some ⟨go, 0, none⟩) co (ys.set i x') (wr.setCell ⟨go, i * 4 + k, none⟩ u) := by
 obtain ⟨g, e, h1, _⟩ := j2_form h (by omega)
 cases e
 exact ⟨h.below.setCell (p := ⟨go, i * 4 + k, none⟩) h1 _, (rk_put (d := kVd) h.out i k hi hk u hM).1⟩
theorem j2_f0 (h : J2 W2 n (some ⟨go, 0, none⟩) co ys wr) {i : Nat} (hi : i < ys.length) (s : ByteArray) : J2 W2 n (some ⟨go, 0, none⟩) co (ys.set i ⟨s, ys[i].f1, ys[i].f2, ys[i].f3⟩) (wr.setCell ⟨go, i * 4, none⟩ (.string s)) := by
 refine j2_put (k := 0) h hi (by decide) (.string s) fun cs hM => ?_
 obtain ⟨v2, rfl, h2⟩ := k49_openM hM
 exact k49_mkM _ _ _ ⟨s, ys[i].f1, ys[i].f2, ys[i].f3⟩ h2
theorem j2_f1 (h : J2 W2 n (some ⟨go, 0, none⟩) co ys wr) {i : Nat} (hi : i < ys.length) (s : Int) : J2 W2 n (some ⟨go, 0, none⟩) co (ys.set i ⟨ys[i].f0, s, ys[i].f2, ys[i].f3⟩) (wr.setCell ⟨go, i * 4 + 1, none⟩ (.int .u8 s)) := by
 refine j2_put (k := 1) h hi (by decide) (.int .u8 s) fun cs hM => ?_
 obtain ⟨v2, rfl, h2⟩ := k49_openM hM
 exact k49_mkM _ _ _ ⟨ys[i].f0, s, ys[i].f2, ys[i].f3⟩ h2
theorem j2_f3 (h : J2 W2 n (some ⟨go, 0, none⟩) co ys wr) {i : Nat} (hi : i < ys.length) (s : Int) : J2 W2 n (some ⟨go, 0, none⟩) co (ys.set i ⟨ys[i].f0, ys[i].f1, ys[i].f2, s⟩) (wr.setCell ⟨go, i * 4 + 3, none⟩ (.int .u8 s)) := by
 refine j2_put (k := 3) h hi (by decide) (.int .u8 s) fun cs hM => ?_
 obtain ⟨v2, rfl, h2⟩ := k49_openM hM
 exact k49_mkM _ _ _ ⟨ys[i].f0, ys[i].f1, ys[i].f2, s⟩ h2
theorem j2_f2 (h : J2 W2 n (some ⟨go, 0, none⟩) co ys wr) {i : Nat} (hi : i < ys.length) {v : Value} {l : List Int} {base : Nat} (hb : W2.heap.size ≤ base) (hg : go < base) (hv : Kd.R (Kd.int .u8) 5 wr base (fun _ => True) v l) :
    J2 W2 n (some ⟨go, 0, none⟩) co (ys.set i ⟨ys[i].f0, ys[i].f1, l, ys[i].f3⟩) (wr.setCell ⟨go, i * 4 + 2, none⟩ v) := by
 refine j2_put (k := 2) h hi (by decide) v fun cs hM => ?_
 obtain ⟨v2, rfl, h2⟩ := k49_openM hM
 exact k49_mkM _ _ _ ⟨ys[i].f0, ys[i].f1, l, ys[i].f3⟩ (Kd.R_mono (Kd.R_lower (Kd.R_bound hv) hb) fun k hk => ⟨trivial, fun e => by have := hk.2.1; omega⟩)
theorem j2_name (h : J2 W2 n (some ⟨go, 0, none⟩) co ys wr) {i : Nat} (hi : i < ys.length) (hz : ys[i] = zVd) (s : ByteArray) : J2 W2 n (some ⟨go, 0, none⟩) co (ys.set i ⟨s, 0, [], 0⟩) (wr.setCell ⟨go, i * 4, none⟩ (.string s)) := by
 have := j2_f0 h hi s
 rw [hz] at this
 exact this
theorem j2_names (h : J2 W2 n (some ⟨go, 0, none⟩) co ys wr) {i : Nat} (hi : i < ys.length) (hz : ys[i] = zVd) (s : ByteArray) (y : Int) : J2 W2 n (some ⟨go, 0, none⟩) co (ys.set i ⟨s, y, [], 0⟩) ((wr.setCell ⟨go, i * 4, none⟩ (.string s)).setCell ⟨go, i * 4 + 1, none⟩ (.int .u8 y)) := by
 have h1 := j2_f1 (j2_name h hi hz s) (i := i) (by rw [List.length_set]; exact hi) y
 rw [List.set_set, List.getElem_set_self] at h1
 exact h1
theorem j2_data {s : ByteArray} {y : Int} {i : Nat} (h : J2 W2 n (some ⟨go, 0, none⟩) co (ys.set i ⟨s, y, [], 0⟩) wr) (hi : i < ys.length) {v : Value} {l : List Int} {base : Nat} (hb : W2.heap.size ≤ base) (hg : go < base) (hv : Kd.R (Kd.int .u8) 5 wr base (fun _ => True) v l) (z : Int) :
    J2 W2 n (some ⟨go, 0, none⟩) co (ys.set i ⟨s, y, l, z⟩) ((wr.setCell ⟨go, i * 4 + 2, none⟩ v).setCell ⟨go, i * 4 + 3, none⟩ (.int .u8 z)) := by
 have h1 := j2_f2 h (i := i) (by rw [List.length_set]; exact hi) hb hg hv
 rw [List.set_set, List.getElem_set_self] at h1
 have h2 := j2_f3 h1 (i := i) (by rw [List.length_set]; exact hi) z
 rw [List.set_set, List.getElem_set_self] at h2
 exact h2
end
theorem many_look {w wr : World} {L : List It} {An Ar : Option Addr} {cn cr b i m : Nat} (h : J1 w L An cn Ar cr b i m wr) {p : Int} {s : ByteArray} (h1 : -9223372036854775808 ≤ p) (h2 : p ≤ 9223372036854775807) (hs : s.size ≤ maxLen) :
    (Instr.lookup 92 (.map (some b)) (.agg #[.int .i64 p, .string s]) false).run Tryz.prog wr = .ok (.int .i64 (cntN L m p s.data.toList : Int)) wr := by
 obtain ⟨D, hM, hD⟩ := h.map
 obtain ⟨kl, hk⟩ := spot_key h1 h2 hs
 obtain ⟨c0, l1, l2, _⟩ := hM.lookup_int spotK Tryz.underlying92 Tryz.underlying3 (Tryz.zeroValue3 wr) hk
 rw [hD.2 _ _ _ hk] at l2
 injection l2 with l2
 injection l2 with _ l2
 rw [l2]; exact l1
theorem j1_reads {w wr : World} {L : List It} {gn gr cn cr b : Nat} (h : J1 w L (some ⟨gn, 0, none⟩) cn (some ⟨gr, 0, none⟩) cr b L.length L.length wr) {j : Nat} (hj : j < L.length) : wr.cell? ⟨gn, j, none⟩ = some (.string (nmS L j)) ∧ wr.cell? ⟨gr, j, none⟩ = some (.bool (rtB L j)) := by
 have h1 := (Kd.R_celln ByteArray.empty h.names (j : Int) (by omega) (by omega)).1
 have h2 := (Kd.R_celln false h.right (j : Int) (by omega) (by omega)).1
 rw [Int.toNat_natCast] at h1 h2
 have f : ∀ {α : Type} (d z : α) (g : Nat → α), rdOf d (fillTo g z L.length L.length) (j : Int) = g j := by
  intro α d z g
  show (fillTo g z L.length L.length).getD (j : Int).toNat d = _
  rw [Int.toNat_natCast, List.getD_eq_getElem?_getD]
  unfold fillTo
  rw [List.getElem?_map, List.getElem?_range hj]
  show (if j < L.length then g j else z) = g j
  rw [if_pos hj]
 rw [f] at h1 h2
 exact ⟨h1, h2⟩
theorem fill_at {α : Type} (f : Nat → α) (z : α) {n k : Nat} (hk : k < n) : ∃ h : k < (fillTo f z n k).length, (fillTo f z n k)[k] = z := by
 refine ⟨by rw [fill_length]; exact hk, ?_⟩
 simp [fillTo]
theorem jNm_none {L : List It} {x : It} (h : cmB x = none) : jNm L x = (x.f1, 1) := by unfold jNm; rw [h]
theorem jNm_long {L : List It} {x : It} {c : List UInt8} (h : cmB x = some c) (hl : 48 < c.length) : jNm L x = (x.f1, 3) := by
 unfold jNm; rw [h]; exact if_pos hl
theorem jNm_many {L : List It} {x : It} {c : List UInt8} (h : cmB x = some c) (hl : ¬ 48 < c.length) (hm : 1 < cntN L L.length x.f0 c) : jNm L x = (x.f1, 2) := by
 unfold jNm; rw [h]; exact (if_neg hl).trans (if_pos hm)
theorem jNm_fine {L : List It} {x : It} {c : List UInt8} (h : cmB x = some c) (hl : ¬ 48 < c.length) (hm : ¬ 1 < cntN L L.length x.f0 c) : jNm L x = (strB c, 0) := by
 unfold jNm; rw [h]; exact (if_neg hl).trans (if_neg hm)
theorem nmS_some {L : List It} {j : Nat} {c : List UInt8} (h : cmB (itA L j) = some c) : nmS L j = strB c ∧ rtB L j = true := by
 unfold nmS rtB; rw [h]; exact ⟨rfl, rfl⟩
theorem rtB_none {L : List It} {j : Nat} (h : cmB (itA L j) = none) : rtB L j = false := by
 unfold rtB; rw [h]; rfl
theorem strB_size (c : List UInt8) : (strB c).size = c.length := by
 show (strB c).data.size = _
 unfold strB; simp
theorem infoStr : (Tryz.prog.info? 9).map (fun i => (i.zero, i.size, i.bytes)) = some (some (.string ⟨#[]⟩), 1, 16) := by kernel_rfl
theorem infoBool : (Tryz.prog.info? 4).map (fun i => (i.zero, i.size, i.bytes)) = some (some (.bool false), 1, 1) := by kernel_rfl
theorem text_no (v : Value) (b : List UInt8) (w : World) (ht : Tz w) (hu : Ut w) (hv : Bs w v b) (hl : b.length ≤ 20000) (hx : textB b = none) :
    Calls Tryz.prog 34 #[v] w fun e w' => e = .returned (.tuple #[.slice none 0 0, .int .i64 6]) ∧ Below w.heap.size w w' := (Text_any v b w ht hu hv hl).mono fun e w' h => by
 rcases h with ⟨⟨_, h1⟩ | ⟨c', v', h1, _⟩, h2⟩
 · exact ⟨h1, h2⟩
 · rw [hx] at h1; cases h1
theorem text_yes (v : Value) (b c : List UInt8) (w : World) (ht : Tz w) (hu : Ut w) (hv : Bs w v b) (hl : b.length ≤ 20000) (hx : textB b = some c) :
    Calls Tryz.prog 34 #[v] w fun e w' => ∃ A' k, e = .returned (.tuple #[.slice A' c.length k, .int .i64 0]) ∧ Kd.R (Kd.int .u8) 5 w' w.heap.size (fun _ => True) (.slice A' c.length k) (i8s c) ∧ Below w.heap.size w w' := (Text_any v b w ht hu hv hl).mono fun e w' h => by
 rcases h with ⟨⟨h1, _⟩ | ⟨c2, v', h1, h3, h4⟩, h2⟩
 · rw [hx] at h1; cases h1
 · rw [hx] at h1
   cases h1
   have hr := R_bytes h4
   obtain ⟨A', k, rfl⟩ := Kd.R_slice hr
   rw [i8s_len] at hr h3
   exact ⟨A', k, h3, hr, h2⟩
theorem cell_new4 (W : World) (a b c d : Value) (t : TypeId) : (W.alloc (.cells #[a, b, c, d] t)).cell? ⟨W.heap.size, 0, none⟩ = some a := World.cell?_alloc_new W #[a, b, c, d] t 0
theorem cnt_le (L : List It) (n : Nat) (p : Int) (c : List UInt8) : cntN L n p c ≤ n := by
 unfold cntN
 exact Nat.le_trans List.countP_le_length (by rw [List.length_take]; omega)
theorem own_len {W : World} {base : Nat} {A : Option Addr} {k : Nat} {c : List UInt8} (h : Kd.R (Kd.int .u8) 5 W base (fun _ => True) (.slice A c.length k) (i8s c)) : c.length ≤ maxLen := by
 obtain ⟨_, inner, ho, _⟩ := id h
 rcases ho.2 with ⟨e1, _⟩ | ⟨g2, cap2, cur, e1, _, _, h1, hm, _⟩
 · injection e1 with _ e2
   rw [e2]; decide
 · injection e1 with _ e2 e3
   rw [i8s_len] at h1 e2
   omega
theorem str_i8s (c : List UInt8) : strOfNums (i8s c) = strB c := by
 show (⟨(u8s (i8s c)).toArray⟩ : ByteArray) = _
 rw [u8s_i8s]; rfl
theorem tz_below {w w' : World} (h : Tz w) (hb : Below w.heap.size w w') : Tz w' := Gr.cell hb h
theorem j2_fin {W2 W : World} {L : List It} {n k : Nat} {Ao : Option Addr} {co : Nat} {s : ByteArray} {y z : Int} {l : List Int} (h : J2 W2 n Ao co ((fillTo (vdS L) zVd L.length k).set k ⟨s, y, l, z⟩) W) (e1 : jNm L (itA L (k : Int)) = (s, y)) (e2 : jDt (itA L (k : Int)) = (l, z)) : J2 W2 n Ao co (fillTo (vdS L) zVd L.length (k + 1)) W := by
 have e : vdS L k = ⟨s, y, l, z⟩ := by
  unfold vdS vdI
  rw [e1, e2]
 rw [← fill_set, e]
 exact h
theorem j2_box {W2 W5 : World} {wr : World} {n : Nat} {Ao : Option Addr} {co : Nat} {ys : List Vd} {a b c d : Value} (h : J2 W2 n Ao co ys W5) (hs : W5.heap.size = wr.heap.size) :
    Aside0 (J2 W2 n Ao co ys (W5.alloc (.cells #[a, b, c, d] 53))) ∧ (W5.alloc (.cells #[a, b, c, d] 53)).cell? ⟨wr.heap.size, 2, none⟩ = some c ∧ (W5.alloc (.cells #[a, b, c, d] 53)).cell? ⟨wr.heap.size, 3, none⟩ = some d ∧ wr.heap.size < (W5.alloc (.cells #[a, b, c, d] 53)).heap.size := by
 refine ⟨⟨j2_on h (below_alloc (Below.refl _ _) _)⟩, ?_, ?_, ?_⟩
 · rw [← hs]; exact World.cell?_alloc_new W5 #[a, b, c, d] _ 2
 · rw [← hs]; exact World.cell?_alloc_new W5 #[a, b, c, d] _ 3
 · rw [World.size_alloc, hs]; omega
theorem j2_boxd {W2 W5 : World} {wr : World} {n : Nat} {Ao : Option Addr} {co : Nat} {ys : List Vd} {a b c d : Value} (h : J2 W2 n Ao co ys W5) (hs : W5.heap.size = wr.heap.size) :
    Aside0 (J2 W2 n Ao co ys (W5.alloc (.cells #[a, b, c, d] 53)).drew) ∧ (W5.alloc (.cells #[a, b, c, d] 53)).drew.cell? ⟨wr.heap.size, 2, none⟩ = some c ∧ (W5.alloc (.cells #[a, b, c, d] 53)).drew.cell? ⟨wr.heap.size, 3, none⟩ = some d ∧ wr.heap.size < (W5.alloc (.cells #[a, b, c, d] 53)).drew.heap.size := by
 obtain ⟨h1, h2, h3, h4⟩ := j2_box (a := a) (b := b) (c := c) (d := d) h hs
 exact ⟨⟨j2_on h1.out (Below.drew (Below.refl _ _))⟩, h2, h3, h4⟩
theorem cm_len {x : It} {c : List UInt8} (h : cmB x = some c) (hs : x.f1.size ≤ 48) : c.length ≤ 144 := by
 obtain ⟨_, _, _, _, _, h1⟩ := textB_some h
 have : x.f1.data.toList.length = x.f1.size := Array.length_toList
 omega
theorem cap_at {w : World} {A : Option Addr} {n k : Nat} (h : CapR w A n) (hk : k < n) {ad : Addr} (hA : A = some ad) {A3 : Option Addr} {l c : Nat} (z3 : w.cell? ⟨(ad.add (k * 4)).block, (ad.add (k * 4)).off + 3, none⟩ = some (.slice A3 l c)) : c ≤ maxLen ∧ (A3 = none → c = 0) := by
 obtain ⟨ad', A4, l4, c4, e, hc, h1, h2⟩ := h k hk
 rw [hA] at e
 cases e
 have e2 : ad.add (k * 4 + 3) = ⟨(ad.add (k * 4)).block, (ad.add (k * 4)).off + 3, none⟩ := by
  unfold Addr.add
  rw [if_neg (by omega)]
  by_cases hk0 : k * 4 = 0
  · rw [if_pos hk0, hk0, Nat.zero_add]
  · rw [if_neg hk0, Nat.add_assoc]
 rw [e2, z3] at hc
 injection hc with hc
 injection hc with e3 _ e5
 subst e3; subst e5
 exact ⟨h1, h2⟩
theorem judge_any (L : List It) (A : Option Addr) (c : Nat) (w : World) (ht : Tz w) (hu : Ut w) (hC : Kd.C kIt w A L.length L) (hcap : CapR w A L.length) (hwf : WfL L) (h0 : checkN L = 0) :
    Calls Tryz.prog 26 #[.slice A L.length c] w fun e w' => ∃ v, e = .returned (.tuple #[v, .int .i64 0]) ∧ Kd.R kVd 48 w' w.heap.size (fun _ => True) v (vdL L) ∧ Below w.heap.size w w' := by
 have hu53 := Tryz.underlying53
 have HC := Aside0.mk hC
 have HCap := Aside0.mk hcap
 have HK := fun W B => check_any L A c W (Kd.C_below HC.out B) hwf
 obtain ⟨q1, q2, q3⟩ := check_ok (show checkN L ≠ 14 by rw [h0]; decide)
 rw [h0] at HK
 clear hC hcap
 go_enter Tryz.func26, Tryz.ntmps26
 go_wp2_with (first
  | (go_at_call 18; with_reducible refine (HK _ (Below.refl _ _)).mono ?_; rintro e w1 ⟨rfl, hb1⟩)
  | ((with_reducible refine gate_dst (N := 23) rfl ?_); refine Kd.R_make Kd.string w.heap.size 9 rfl (N := 23) rfl 65 _ _ rfl (L.length : Int) rfl rfl Tryz.underlying65 (.string ⟨#[]⟩) 16 infoStr rfl (by decide) (by omega) ⟨#[]⟩ (ok := fun _ => True) (okp := fun _ => True) rfl (fun _ hk => hk) trivial (by omega) (by omega) hb1 hb1.size ?_; intro vn w2 hrn hb2 hg2 hn2; rw [Int.toNat_natCast] at hrn; obtain ⟨An, cn, en⟩ := Kd.R_slice hrn; rw [List.length_replicate] at en; subst en)
  | ((with_reducible refine gate_dst (N := 26) rfl ?_); refine Kd.R_make Kd.bool w.heap.size 4 rfl (N := 26) rfl 91 _ _ rfl (L.length : Int) rfl rfl Tryz.underlying91 (.bool false) 1 infoBool rfl (by decide) (by omega) false (ok := fun _ => True) (okp := fun _ => True) rfl (fun _ hk => hk) trivial (by omega) (by omega) hb2 hb2.size ?_; intro vr w3 hrr hb3 hg3 hn3; rw [Int.toNat_natCast] at hrr; obtain ⟨Ar, cr, er⟩ := Kd.R_slice hrr; rw [List.length_replicate] at er; subst er))
 have hmk : (Instr.makeMap 92 none).run Tryz.prog w3 = .ok (.map (some w3.heap.size)) (w3.alloc (.map #[] 0)) := run_makeMap _ _
 rw [hmk]
 clear hmk
 go_wp2
 have H0 : J1 w L An cn Ar cr w3.heap.size 0 0 (w3.alloc (.map #[] 0)) := by
  obtain ⟨br, hbr, hlr⟩ := hn3
  have hgr : ∀ k, (Value.slice An L.length cn).ownBlock = some k → k < w2.heap.size := Kd.R_lt hrn
  have r1 := Kd.R_grown (Kd.R_mono (Kd.R_bound hrn) (ok' := fun k => k ≠ w3.heap.size ∧ some k ≠ (Value.slice Ar L.length cr).ownBlock) (fun k hk => ⟨by have := hk.2.2.1; have := hg3.size; omega, by rw [hbr]; intro e; have e : k = br := Option.some.inj e; have := hk.2.2.1; omega⟩)) hg3 (fun _ _ => nofun)
  refine ⟨below_alloc hb3 _, hb3.size, ?_, ?_, .map [], World.ownsMap_made _ _ _ _, seenC_empty L⟩
  · rw [fill_zero]; exact Kd.R_alloc r1 _
  · rw [fill_zero]
    refine Kd.R_alloc (Kd.R_of_own (Kd.own_of_R hrr) (fun k hk => ⟨?_, fun e => ?_⟩)) _
    · have := Kd.R_lt hrr k hk; omega
    · have h1 := hgr k e.symm
      rw [hbr] at hk
      have := Option.some.inj hk
      omega
 have H1 := Aside0.mk H0
 generalize w3.alloc (.map #[] 0) = W0 at H1 ⊢
 generalize w3.heap.size = b at H1 ⊢
 clear H0 hb1 hb2 hb3 hg2 hg3 hn2 hn3 hrn hrr HK
 go_loopg [30] L.length (fun gg v30 wr => ∃ i : Nat, i ≤ L.length ∧ L.length - i ≤ gg ∧ v30 = .int .i64 i ∧ Aside0 (J1 w L An cn Ar cr b i i wr))
 case atStart => exact ⟨0, Nat.zero_le _, by omega, rfl, H1⟩
 case round =>
  clear H1
  obtain ⟨i, hi, hg, rfl, HI⟩ := hrel
  by_cases hlt : i < L.length
  · have hltz : (i : Int) < (L.length : Int) := by omega
    have hbw := HI.out.below
    have htw : Tz wr := Gr.cell hbw ht
    obtain ⟨ad, A3, c3, hA, y0, y1, y2, y3, _, _⟩ := at_T53 (Kd.C_below HC.out hbw) (i : Int) (by omega) hltz
    rw [Int.toNat_natCast] at y0 y1 y2 y3
    subst hA
    obtain ⟨gn, gr, rfl, rfl, n1, n2, n3, n4, n5⟩ := j1_form HI.out (by omega)
    have hsz : (itA L (i : Int)).f1.size ≤ 48 := by
     have := List.all_eq_true.1 q3 _ (List.getElem_mem hlt)
     have := ((rightB_iff _).1 this).1.1.2
     rw [itA_get hlt]; omega
    have hsm : (itA L (i : Int)).f1.size ≤ maxLen := by unfold maxLen; omega
    have htw := tz_below ht hbw
    have huw := hu.gr hbw
    have hln : (itA L (i : Int)).f1.data.toList.length ≤ 20000 := by
     rw [show (itA L (i : Int)).f1.data.toList.length = (itA L (i : Int)).f1.size from Array.length_toList]; omega
    have hbx := below_alloc (Below.refl wr.heap.size wr) (Obj.cells #[.int .i64 (itA L (i : Int)).f0, .string (itA L (i : Int)).f1, .bool (itA L (i : Int)).f2, .slice A3 (itA L (i : Int)).f3.length c3] 53)
    have hpm : -9223372036854775808 ≤ (itA L (i : Int)).f0 ∧ (itA L (i : Int)).f0 ≤ 9223372036854775807 := by
     obtain ⟨r1, r2, _⟩ := hwf _ (List.getElem_mem hlt)
     rw [itA_get hlt]
     exact ⟨r1, r2⟩
    cases hcm : cmB (itA L (i : Int)) with
    | none =>
     have hcm2 : textB (itA L (i : Int)).f1.data.toList = none := hcm
     go_wp2_with (first
      | ((with_reducible refine gate_dst (N := 38) rfl ?_); refine conv_event rfl (N := 38) rfl (.tmp 37) rfl (itA L (i : Int)).f1 rfl hsm ?_; intro vb w4 hvb hbs hb4; clear hvb; have hb40 := hbx.trans (hb4.mono hbx.size); have HT := text_no vb _ w4 (tz_below htw hb40) (huw.gr hb40) hbs hln hcm2)
      | (go_at_call 34; with_reducible refine HT.mono ?_; rintro e w5 ⟨rfl, hb5⟩; have hb50 := hb40.trans (hb5.mono hb40.size)))
     go_roundg (L.length - (i + 1))
     case measure => omega
     case rel => exact ⟨i + 1, by omega, by omega, by go_num, ⟨j1_pass (j1_on HI.out hb50) hlt hcm⟩⟩
    | some c' =>
     have hcm2 : textB (itA L (i : Int)).f1.data.toList = some c' := hcm
     go_upto_region 13 with (first
      | ((with_reducible refine gate_dst (N := 38) rfl ?_); refine conv_event rfl (N := 38) rfl (.tmp 37) rfl (itA L (i : Int)).f1 rfl hsm ?_; intro vb w4 hvb hbs hb4; clear hvb; have hb40 := hbx.trans (hb4.mono hbx.size); have hbc4 := (hb4.cell (p := ⟨wr.heap.size, 0, none⟩) (by simp)).trans (cell_new4 wr _ _ _ _ 53); have HT := text_yes vb _ c' w4 (tz_below htw hb40) (huw.gr hb40) hbs hln hcm2)
      | (go_at_call 34; with_reducible refine HT.mono ?_; rintro e w5 ⟨A', k', rfl, hr5, hb5⟩; have hb50 := hb40.trans (hb5.mono hb40.size); have hbc5 := (hb5.cell (World.block_lt_of_cell? w4 _ hbc4)).trans hbc4; have HJ := j1_on HI.out hb50; obtain ⟨⟨u1, x1, f1⟩, u2, x2, f2⟩ := j1_cells HJ hlt; have hcvt := Kd.C_string (P := Tryz.prog) (w := w5) (A := A') (c := k') Tryz.underlying46 Tryz.underlying5 Tryz.underlying9 (xs := i8s c') (n := c'.length) (by have := (Kd.R_reads' hr5).2.2; rwa [i8s_len] at this)))
     have HJ2 := j1_rows HJ hlt hcm
     rw [str_i8s]
     have hbc6 : ((w5.setCell ⟨gn, i, none⟩ (.string (strB c'))).setCell ⟨gr, i, none⟩ (.bool true)).cell? ⟨wr.heap.size, 0, none⟩ = some (.int .i64 (itA L (i : Int)).f0) := by
      have e1 : gn < wr.heap.size := World.block_lt_of_cell? wr ⟨gn, 0, none⟩ (j1_cells HI.out (by omega)).1.choose_spec.1
      have e2 : gr < wr.heap.size := World.block_lt_of_cell? wr ⟨gr, 0, none⟩ (j1_cells HI.out (by omega)).2.choose_spec.1
      rw [World.cell?_setCell_other _ _ _ _ (fun e => by injection e; omega), World.cell?_setCell_other _ _ _ _ (fun e => by injection e; omega)]
      exact hbc5
     have hnc6 : ((w5.setCell ⟨gn, i, none⟩ (.string (strB c'))).setCell ⟨gr, i, none⟩ (.bool true)).cell? ⟨gn, i, none⟩ = some (.string (strB c')) := by
      rw [World.cell?_setCell_other _ _ _ _ (fun e => by injection e; omega), World.cell?_setCell_same _ _ _ x1]
     have hcl := own_len hr5
     generalize ((w5.setCell ⟨gn, i, none⟩ (.string (strB c'))).setCell ⟨gr, i, none⟩ (.bool true)) = W6 at HJ2 hbc6 hnc6 ⊢
     replace HJ2 := j1_on HJ2 (w1 := W6.drew) (Below.drew (Below.refl _ _))
     obtain ⟨D, hM, hD⟩ := HJ2.map
     obtain ⟨kl, hkl⟩ := spot_key (p := (itA L (i : Int)).f0) (s := strB c') hpm.1 hpm.2 (by show (strB c').data.size ≤ maxLen; unfold strB; simpa using hcl)
     have hle := cnt_le L i (itA L (i : Int)).f0 c'
     have hdl := hD.2 _ _ _ hkl
     rw [strB_list] at hdl
     obtain ⟨k1, v0, st, w7, w8, k2, k3, k4, k5, k6, k7⟩ := incr_facts hM (by unfold maxLen; omega) hkl hD.1 hdl (WalkArith.wf_i64 (by omega))
     have HK1 := Aside0.mk (j1_map HJ2 k6 k5 (seenC_put hD hlt hcm hkl))
     clear k5 hD hdl hM
     simp only [goInt] at k2 k4
     clear huw htw HJ hr5 hcvt HT hbc4 hbc5 hb40 hb50 hb5 hb4 hbx hbs x1 x2 f1 f2
     go_region
     all_goals (go_wp2; go_roundg (L.length - (i + 1)); (case measure => omega); (case rel => exact ⟨i + 1, by omega, by omega, by go_num, HK1⟩))
  · obtain rfl : i = L.length := by omega
    obtain ⟨W2, rfl⟩ : ∃ W2, W2 = wr := ⟨wr, rfl⟩
    have HJ := HI
    clear HI hi hg hlt
    have hzm : kVd.M W2 W2.heap.size (fun _ => True) zVd (Value.agg #[.string ⟨#[]⟩, .int .u8 0, .slice none 0 0, .int .u8 0]).cells.toList := k49_mkM _ _ _ zVd (Kd.R_nil _ _ _ _ _)
    go_wp2_with (first
     | ((with_reducible refine gate_dst (N := 67) rfl ?_); refine Kd.R_make kVd W2.heap.size 48 rfl (N := 67) rfl 39 _ _ rfl (L.length : Int) rfl rfl Tryz.underlying39 _ 56 infoVd rfl (by decide) (by omega) zVd (ok := fun _ => True) (okp := fun _ => True) hzm (fun _ hk => hk) trivial (by omega) (by omega) (Below.refl _ _) (Nat.le_refl _) ?_; intro vo w4 hro hb4 hg4 hn4; rw [Int.toNat_natCast] at hro; obtain ⟨Ao, co, eo⟩ := Kd.R_slice hro; rw [List.length_replicate] at eo; subst eo))
    have H2 : Aside0 (J2 W2 L.length Ao co (fillTo (vdS L) zVd L.length 0) w4) := ⟨⟨hb4, by rw [fill_zero]; exact hro⟩⟩
    clear hro hb4 hg4 hn4 hzm
    go_loopg [70] L.length (fun gg v70 wr => ∃ k : Nat, k ≤ L.length ∧ L.length - k ≤ gg ∧ v70 = .int .i64 k ∧ Aside0 (J2 W2 L.length Ao co (fillTo (vdS L) zVd L.length k) wr))
    case atStart => exact ⟨0, Nat.zero_le _, by omega, rfl, H2⟩
    case round =>
     clear H2
     obtain ⟨k, hk, hg, rfl, HI⟩ := hrel
     by_cases hlt : k < L.length
     · have hltz : (k : Int) < (L.length : Int) := by omega
       have hbw : Below w.heap.size w wr := HJ.out.below.trans (HI.out.below.mono HJ.out.below.size)
       obtain ⟨ad, A3, c3, hA, y0, y1, y2, y3, y4, y5⟩ := at_T53 HC.out (k : Int) (by omega) hltz
       rw [Int.toNat_natCast] at y0 y1 y2 y3
       have HCp := Aside0.mk (cap_at HCap.out hlt hA y3)
       have HY5 := Aside0.mk y5
       clear y5
       subst hA
       replace y0 := (hbw.cell (World.block_lt_of_cell? w _ y0)).trans y0
       replace y1 := (hbw.cell (World.block_lt_of_cell? w _ y1)).trans y1
       replace y2 := (hbw.cell (World.block_lt_of_cell? w _ y2)).trans y2
       replace y3 := (hbw.cell (World.block_lt_of_cell? w _ y3)).trans y3
       obtain ⟨go, rfl, o1, o2⟩ := j2_form HI.out (by rw [fill_length]; omega)
       obtain ⟨gn, gr, rfl, rfl, n1, n2, n3, n4, n5⟩ := j1_form HJ.out (by omega)
       obtain ⟨nc, rc⟩ := j1_reads (j1_on HJ.out HI.out.below) hlt
       have eg1 : gn < W2.heap.size := World.block_lt_of_cell? W2 ⟨gn, 0, none⟩ (j1_cells HJ.out (by omega)).1.choose_spec.1
       have eg2 : gr < W2.heap.size := World.block_lt_of_cell? W2 ⟨gr, 0, none⟩ (j1_cells HJ.out (by omega)).2.choose_spec.1
       obtain ⟨hyl', hyk'⟩ := fill_at (vdS L) zVd hlt
       obtain ⟨v2, c0, c1, c2, c3', z0, z1, z2, z3⟩ := j2_cells HI.out hyl'
       rw [hyk'] at c0 c1 c3'
       clear hyk' hyl'
       have hbx := below_alloc (Below.refl wr.heap.size wr) (Obj.cells #[.int .i64 (itA L (k : Int)).f0, .string (itA L (k : Int)).f1, .bool (itA L (k : Int)).f2, .slice A3 (itA L (k : Int)).f3.length c3] 53)
       have HX := Aside0.mk (j2_on HI.out hbx)
       have ncx := (hbx.cell (World.block_lt_of_cell? wr _ nc)).trans nc
       have rcx := (hbx.cell (World.block_lt_of_cell? wr _ rc)).trans rc
       have c0x := (hbx.cell (World.block_lt_of_cell? wr _ c0)).trans c0
       have c1x := (hbx.cell (World.block_lt_of_cell? wr _ c1)).trans c1
       have c2x := (hbx.cell (World.block_lt_of_cell? wr _ c2)).trans c2
       have c3'x := (hbx.cell (World.block_lt_of_cell? wr _ c3')).trans c3'
       have z0x := (hbx.frozen (p := ⟨go, k * 4, none⟩) o2).trans z0
       have z1x := (hbx.frozen (p := ⟨go, k * 4 + 1, none⟩) o2).trans z1
       have z2x := (hbx.frozen (p := ⟨go, k * 4 + 2, none⟩) o2).trans z2
       have z3x := (hbx.frozen (p := ⟨go, k * 4 + 3, none⟩) o2).trans z3
       cases hcm : cmB (itA L (k : Int))
       case' none =>
        have ej := Aside0.mk (jNm_none (L := L) hcm)
        rw [rtB_none hcm] at rc rcx
        clear nc ncx
        go_upto_region 27 with (fail)
        obtain ⟨hyl, hyk⟩ := fill_at (vdS L) zVd hlt
        have HB := j2_box (wr := wr) (a := .int .i64 (itA L (k : Int)).f0) (b := .string (itA L (k : Int)).f1) (c := .bool (itA L (k : Int)).f2) (d := .slice A3 (itA L (k : Int)).f3.length c3) (j2_names HI.out hyl hyk (itA L (k : Int)).f1 1) (by simp only [World.size_setCell])
        have HE : ∃ s y, Aside0 (jNm L (itA L (k : Int)) = (s, y)) ∧ Aside0 (J2 W2 L.length (some ⟨go, 0, none⟩) co ((fillTo (vdS L) zVd L.length k).set k ⟨s, y, [], 0⟩) (((wr.setCell ⟨go, k * 4, none⟩ (.string (itA L (k : Int)).f1)).setCell ⟨go, k * 4 + 1, none⟩ (.int .u8 1)).alloc (Obj.cells #[.int .i64 (itA L (k : Int)).f0, .string (itA L (k : Int)).f1, .bool (itA L (k : Int)).f2, .slice A3 (itA L (k : Int)).f3.length c3] 53))) := ⟨_, _, ej, HB.1⟩
        replace HB := HB.2
        clear hyl hyk
        generalize (((wr.setCell ⟨go, k * 4, none⟩ (.string (itA L (k : Int)).f1)).setCell ⟨go, k * 4 + 1, none⟩ (.int .u8 1)).alloc (Obj.cells #[.int .i64 (itA L (k : Int)).f0, .string (itA L (k : Int)).f1, .bool (itA L (k : Int)).f2, .slice A3 (itA L (k : Int)).f3.length c3] 53)) = W6 at HB HE ⊢
       case' some c' =>
        obtain ⟨en, er⟩ := nmS_some hcm
        rw [en] at nc ncx
        rw [er] at rc rcx
        clear en er
        have hss := strB_size c'
        by_cases hlong : 48 < c'.length
        case' pos =>
         have ej := Aside0.mk (jNm_long (L := L) hcm hlong)
         have hz : decide ((48 : Int) < ((strB c').size : Int)) = true := decide_eq_true (by omega)
         clear hss
         go_upto_region 27 with (fail)
         obtain ⟨hyl, hyk⟩ := fill_at (vdS L) zVd hlt
         have HB := j2_box (wr := wr) (a := .int .i64 (itA L (k : Int)).f0) (b := .string (itA L (k : Int)).f1) (c := .bool (itA L (k : Int)).f2) (d := .slice A3 (itA L (k : Int)).f3.length c3) (j2_names HI.out hyl hyk (itA L (k : Int)).f1 3) (by simp only [World.size_setCell])
         have HE : ∃ s y, Aside0 (jNm L (itA L (k : Int)) = (s, y)) ∧ Aside0 (J2 W2 L.length (some ⟨go, 0, none⟩) co ((fillTo (vdS L) zVd L.length k).set k ⟨s, y, [], 0⟩) (((wr.setCell ⟨go, k * 4, none⟩ (.string (itA L (k : Int)).f1)).setCell ⟨go, k * 4 + 1, none⟩ (.int .u8 3)).alloc (Obj.cells #[.int .i64 (itA L (k : Int)).f0, .string (itA L (k : Int)).f1, .bool (itA L (k : Int)).f2, .slice A3 (itA L (k : Int)).f3.length c3] 53))) := ⟨_, _, ej, HB.1⟩
         replace HB := HB.2
         clear hyl hyk
         generalize (((wr.setCell ⟨go, k * 4, none⟩ (.string (itA L (k : Int)).f1)).setCell ⟨go, k * 4 + 1, none⟩ (.int .u8 3)).alloc (Obj.cells #[.int .i64 (itA L (k : Int)).f0, .string (itA L (k : Int)).f1, .bool (itA L (k : Int)).f2, .slice A3 (itA L (k : Int)).f3.length c3] 53)) = W6 at HB HE ⊢
        case' neg =>
         have hz : decide ((48 : Int) < ((strB c').size : Int)) = false := decide_eq_false (by omega)
         have hpm : -9223372036854775808 ≤ (itA L (k : Int)).f0 ∧ (itA L (k : Int)).f0 ≤ 9223372036854775807 := by
          obtain ⟨r1, r2, _⟩ := hwf _ (List.getElem_mem hlt)
          rw [itA_get hlt]
          exact ⟨r1, r2⟩
         have HJd := j1_on (j1_on (j1_on HJ.out HI.out.below) hbx) (Below.drew (Below.refl _ _))
         have hlk := many_look HJd (p := (itA L (k : Int)).f0) (s := strB c') hpm.1 hpm.2 (by rw [strB_size]; unfold maxLen; have := cm_len hcm (show (itA L (k : Int)).f1.size ≤ 48 by have := List.all_eq_true.1 q3 _ (List.getElem_mem hlt); have := ((rightB_iff _).1 this).1.1.2; rw [itA_get hlt]; omega); omega)
         rw [strB_list] at hlk
         clear hss HJd hpm
         by_cases hm : 1 < cntN L L.length (itA L (k : Int)).f0 c'
         case' pos =>
          have ej := Aside0.mk (jNm_many (L := L) hcm hlong hm)
          have hmz : decide ((1 : Int) < (cntN L L.length (itA L (k : Int)).f0 c' : Int)) = true := decide_eq_true (by omega)
          go_upto_region 25 with (fail)
          go_region
          go_upto_region 27 with (fail)
          obtain ⟨hyl, hyk⟩ := fill_at (vdS L) zVd hlt
          have HB := j2_boxd (wr := wr) (a := .int .i64 (itA L (k : Int)).f0) (b := .string (itA L (k : Int)).f1) (c := .bool (itA L (k : Int)).f2) (d := .slice A3 (itA L (k : Int)).f3.length c3) (j2_names HI.out hyl hyk (itA L (k : Int)).f1 2) (by simp only [World.size_setCell])
          have HE : ∃ s y, Aside0 (jNm L (itA L (k : Int)) = (s, y)) ∧ Aside0 (J2 W2 L.length (some ⟨go, 0, none⟩) co ((fillTo (vdS L) zVd L.length k).set k ⟨s, y, [], 0⟩) ((((wr.setCell ⟨go, k * 4, none⟩ (.string (itA L (k : Int)).f1)).setCell ⟨go, k * 4 + 1, none⟩ (.int .u8 2)).alloc (Obj.cells #[.int .i64 (itA L (k : Int)).f0, .string (itA L (k : Int)).f1, .bool (itA L (k : Int)).f2, .slice A3 (itA L (k : Int)).f3.length c3] 53)).drew)) := ⟨_, _, ej, HB.1⟩
          replace HB := HB.2
          clear hyl hyk
          generalize (((wr.setCell ⟨go, k * 4, none⟩ (.string (itA L (k : Int)).f1)).setCell ⟨go, k * 4 + 1, none⟩ (.int .u8 2)).alloc (Obj.cells #[.int .i64 (itA L (k : Int)).f0, .string (itA L (k : Int)).f1, .bool (itA L (k : Int)).f2, .slice A3 (itA L (k : Int)).f3.length c3] 53)).drew = W6 at HB HE ⊢
         case' neg =>
          have ej := Aside0.mk (jNm_fine (L := L) hcm hlong hm)
          have hmz : decide ((1 : Int) < (cntN L L.length (itA L (k : Int)).f0 c' : Int)) = false := decide_eq_false (by omega)
          go_upto_region 25 with (fail)
          go_region
          go_upto_region 27 with (fail)
          obtain ⟨hyl, hyk⟩ := fill_at (vdS L) zVd hlt
          have HB := j2_boxd (wr := wr) (a := .int .i64 (itA L (k : Int)).f0) (b := .string (itA L (k : Int)).f1) (c := .bool (itA L (k : Int)).f2) (d := .slice A3 (itA L (k : Int)).f3.length c3) (j2_name HI.out hyl hyk (strB c')) (by simp only [World.size_setCell])
          have HE : ∃ s y, Aside0 (jNm L (itA L (k : Int)) = (s, y)) ∧ Aside0 (J2 W2 L.length (some ⟨go, 0, none⟩) co ((fillTo (vdS L) zVd L.length k).set k ⟨s, y, [], 0⟩) (((wr.setCell ⟨go, k * 4, none⟩ (.string (strB c'))).alloc (Obj.cells #[.int .i64 (itA L (k : Int)).f0, .string (itA L (k : Int)).f1, .bool (itA L (k : Int)).f2, .slice A3 (itA L (k : Int)).f3.length c3] 53)).drew)) := ⟨_, _, ej, HB.1⟩
          replace HB := HB.2
          clear hyl hyk
          generalize ((wr.setCell ⟨go, k * 4, none⟩ (.string (strB c'))).alloc (Obj.cells #[.int .i64 (itA L (k : Int)).f0, .string (itA L (k : Int)).f1, .bool (itA L (k : Int)).f2, .slice A3 (itA L (k : Int)).f3.length c3] 53)).drew = W6 at HB HE ⊢
       all_goals
        obtain ⟨hb2, hb3, hl6⟩ := HB
        obtain ⟨s, y, he1, HJ6⟩ := HE
        have hbw6 : Below w.heap.size w W6 := HJ.out.below.trans (HJ6.out.below.mono HJ.out.below.size)
        clear c0 c1 c2 c3' c0x c1x c2x c3'x z0 z1 z2 z3 z0x z1x z2x z3x y0 y1 y2 y3 rc rcx hbx HX HI hcm hbw
        have hgo6 : go < W6.heap.size := by
         obtain ⟨_, e1, _, e2⟩ := j2_form HJ6.out (by rw [List.length_set, fill_length]; omega)
         cases e1
         exact e2
        cases hdir : (itA L (k : Int)).f2
        case true =>
         have HN := Aside0.mk (j2_fin HJ6.out he1.out (show jDt (itA L (k : Int)) = ([], 0) by unfold jDt; rw [if_pos hdir]))
         rw [hdir] at hb2
         clear he1 HJ6
         go_wp2
         go_roundg (L.length - (k + 1))
         case measure => omega
         case rel => exact ⟨k + 1, by omega, by omega, by go_num, HN⟩
        case false =>
         have hwx := hwf _ (List.getElem_mem hlt)
         rw [← itA_get hlt] at hwx
         have hrx := List.all_eq_true.1 q3 _ (List.getElem_mem hlt)
         rw [← itA_get hlt] at hrx
         have hlx := right_len hrx
         have hd := data_any (itA L (k : Int)).f3 A3 c3 W6 (tz_below ht hbw6) (hu.gr hbw6) (Kd.C_below HY5.out hbw6) (fun b hb => hwx.2.2.2.1 b hb) y4 HCp.out.1 HCp.out.2 (by omega)
         have ej2 : jDt (itA L (k : Int)) = (i8s (dOf (u8s (itA L (k : Int)).f3)).1, (dOf (u8s (itA L (k : Int)).f3)).2) := by unfold jDt; rw [if_neg (by rw [hdir]; decide)]
         rw [hdir] at hb2
         generalize i8s (dOf (u8s (itA L (k : Int)).f3)).1 = dl at hd ej2
         generalize (dOf (u8s (itA L (k : Int)).f3)).2 = dz at hd ej2
         have ej2 := Aside0.mk ej2
         have hd2 : Calls Tryz.prog 57 #[.slice A3 (itA L (k : Int)).f3.length c3] W6 fun e w8 => ∃ A8 n8 c8, e = .returned (.tuple #[.slice A8 n8 c8, .int .u8 dz]) ∧ Kd.R (Kd.int .u8) 5 w8 W6.heap.size (fun _ => True) (.slice A8 n8 c8) dl ∧ Below W6.heap.size W6 w8 := hd.mono fun e w8 h => by
          obtain ⟨v8, e1, e2, e3⟩ := h
          obtain ⟨A8, c8, e4⟩ := Kd.R_slice e2
          subst e4
          exact ⟨A8, _, c8, e1, e2, e3⟩
         clear hd
         obtain ⟨v2', x0, x1, x2, x3, k0, k1, k2, k3⟩ := j2_cells HJ6.out (i := k) (by rw [List.length_set, fill_length]; exact hlt)
         have hW26 := HJ6.out.below.size
         clear x0 x1 k0 k1 hwx hrx hlx
         go_wp2_with (go_at_call 57; with_reducible refine hd2.mono ?_; rintro e w8 ⟨A8, n8, c8, rfl, hr8, hb8⟩; have g2 := (hb8.cell (p := ⟨go, k * 4 + 2, none⟩) hgo6).trans x2; have g3 := (hb8.cell (p := ⟨go, k * 4 + 3, none⟩) hgo6).trans x3; have f2 := (hb8.frozen (p := ⟨go, k * 4 + 2, none⟩) hgo6).trans k2; have f3 := (hb8.frozen (p := ⟨go, k * 4 + 3, none⟩) hgo6).trans k3)
         go_roundg (L.length - (k + 1))
         case measure => omega
         case rel => exact ⟨k + 1, by omega, by omega, by go_num, ⟨j2_fin (j2_data (j2_on HJ6.out hb8) (by rw [fill_length]; exact hlt) hW26 hgo6 hr8 dz) he1.out ej2.out⟩⟩
     · obtain rfl : k = L.length := by omega
       have hb := HJ.out.below.trans (HI.out.below.mono HJ.out.below.size)
       have hout := Kd.R_lower HI.out.out HJ.out.below.size
       rw [vd_all] at hout
       clear HI
       go_wp2
       go_ret2
       exact ⟨_, rfl, hout, hb⟩
noncomputable def judT (L : List It) : List Vd := if checkN L = 0 then vdL L else []
theorem Judge_any (L : List It) (A : Option Addr) (c : Nat) (w : World) (ht : Tz w) (hu : Ut w) (hC : Kd.C kIt w A L.length L) (hcap : CapR w A L.length) (hwf : WfL L) :
    Calls Tryz.prog 26 #[.slice A L.length c] w fun e w' => ∃ v, e = .returned (.tuple #[v, .int .i64 (checkN L)]) ∧ Kd.R kVd 48 w' w.heap.size (fun _ => True) v (judT L) ∧ Below w.heap.size w w' := by
 by_cases h0 : checkN L = 0
 · unfold judT
   rw [if_pos h0, h0]
   exact judge_any L A c w ht hu hC hcap hwf h0
 · have hj : judT L = [] := if_neg h0
   rw [hj]
   have HC := Aside0.mk hC
   have HK := fun W (B : Below w.heap.size w W) => check_any L A c W (Kd.C_below HC.out B) hwf
   have hne : (checkN L != 0) = true := by simpa using h0
   generalize checkN L = y at HK hne ⊢
   clear hC hcap hwf hj h0
   go_enter Tryz.func26, Tryz.ntmps26
   go_wp2_with (go_at_call 18; with_reducible refine (HK _ (Below.refl _ _)).mono ?_; rintro e w1 ⟨rfl, hb1⟩)
   go_ret2
   exact ⟨_, rfl, Kd.R_nil _ _ _ _ _, hb1⟩
theorem n_put4 {e base g n cap : Nat} {ok okp : Nat → Prop} {W : World} {xs : List It} (h : Kd.N kIt e W base ok (.slice (some ⟨g, 0, none⟩) n cap) xs) {k : Nat} (hk : k < n) {x' : It} {a b c d : Value} (hM : Kd.FK kIt W okp x' [a, b, c, d]) (hokp : ∀ j, okp j → ok j ∧ j ≠ g) :
    Kd.N kIt e ((((W.setCell ⟨g, k * 4, none⟩ a).setCell ⟨g, k * 4 + 1, none⟩ b).setCell ⟨g, k * 4 + 2, none⟩ c).setCell ⟨g, k * 4 + 3, none⟩ d) base ok (.slice (some ⟨g, 0, none⟩) n cap) (xs.set k x') := by
 obtain ⟨cs, h1, _, h3, _⟩ := Kd.N_elem h zIt (k : Int) (by omega) (by omega)
 rw [Int.toNat_natCast] at h3
 have := (Kd.N_seg h (k : Int) (by omega) (by omega) (c := cs) (seg := [a, b, c, d]) (j := 0) (x' := x') (okp := okp) h1 h3 (Nat.le_refl _) (by
  rw [List.take_zero, List.nil_append, List.drop_of_length_le (by rw [h1]; exact Nat.le_refl _), List.append_nil]; exact hM) hokp).1
 rw [Int.toNat_natCast] at this
 exact this
theorem n_cells {e base g n cap : Nat} {ok : Nat → Prop} {W : World} {xs : List It} (h : Kd.N kIt e W base ok (.slice (some ⟨g, 0, none⟩) n cap) xs) {k : Nat} (hk : k < n) :
    (∃ u, W.cell? ⟨g, k * 4, none⟩ = some u) ∧ (∃ u, W.cell? ⟨g, k * 4 + 1, none⟩ = some u) ∧ (∃ u, W.cell? ⟨g, k * 4 + 2, none⟩ = some u) ∧ (∃ u, W.cell? ⟨g, k * 4 + 3, none⟩ = some u) ∧ W.frozen? ⟨g, k * 4, none⟩ = false ∧ W.frozen? ⟨g, k * 4 + 1, none⟩ = false ∧ W.frozen? ⟨g, k * 4 + 2, none⟩ = false ∧ W.frozen? ⟨g, k * 4 + 3, none⟩ = false := by
 obtain ⟨cs, h1, _, h3, h4⟩ := Kd.N_elem h zIt (k : Int) (by omega) (by omega)
 rw [Int.toNat_natCast] at h3 h4
 have h1' : cs.length = 4 := h1
 match cs, h1' with
 | [x0, x1, x2, x3], _ => exact ⟨⟨_, h3 0 _ rfl⟩, ⟨_, h3 1 _ rfl⟩, ⟨_, h3 2 _ rfl⟩, ⟨_, h3 3 _ rfl⟩, h4 0, h4 1, h4 2, h4 3⟩
noncomputable def tuS (L : List It) (j : Nat) : It := turnI L (itA L j)
theorem tu_all (L : List It) : fillTo (tuS L) zIt L.length L.length = turnL L := by
 apply List.ext_getElem
 · rw [fill_length, turn_len]
 · intro j h1 h2
   have hj : j < L.length := by rwa [turn_len] at h2
   simp only [fillTo, List.getElem_map, List.getElem_range, turnL]
   rw [if_pos hj, tuS, itA_get hj]
structure Tu (W0 W1 : World) (L : List It) (v : Value) (Ao : Option Addr) (co k : Nat) (wr : World) : Prop where
 le : W0.heap.size ≤ W1.heap.size
 below : Below W0.heap.size W0 wr
 row : Kd.N kVd 48 wr 0 (fun b => b < W0.heap.size) v (vdL L)
 out : Kd.N kIt 53 wr W0.heap.size (fun _ => True) (.slice Ao L.length co) (fillTo (tuS L) zIt L.length k)
theorem tu_on {W0 W1 wr w1 : World} {L : List It} {v : Value} {Ao : Option Addr} {co k : Nat} (h : Tu W0 W1 L v Ao co k wr) (hb : Below wr.heap.size wr w1) : Tu W0 W1 L v Ao co k w1 := ⟨h.le, h.below.trans (hb.mono h.below.size), Kd.N_below h.row hb, Kd.N_below h.out hb⟩
theorem tu_step {W0 W1 wr : World} {L : List It} {v : Value} {go co k : Nat} (h : Tu W0 W1 L v (some ⟨go, 0, none⟩) co k wr) (hk : k < L.length) {nm : ByteArray} {A8 : Option Addr} {n8 c8 : Nat} (hn : (jNm L (itA L (k : Int))).1 = nm) (hd : (jDt (itA L (k : Int))).1.length = n8 ∧ n8 ≤ c8 ∧ Kd.F (Kd.int .u8) wr (fun b => b < W0.heap.size) A8 (jDt (itA L (k : Int))).1.length (jDt (itA L (k : Int))).1) :
    Tu W0 W1 L v (some ⟨go, 0, none⟩) co (k + 1) ((((wr.setCell ⟨go, k * 4, none⟩ (.int .i64 (itA L (k : Int)).f0)).setCell ⟨go, k * 4 + 1, none⟩ (.string nm)).setCell ⟨go, k * 4 + 2, none⟩ (.bool (itA L (k : Int)).f2)).setCell ⟨go, k * 4 + 3, none⟩ (.slice A8 n8 c8)) := by
 have hgo : W0.heap.size ≤ go := Kd.N_base h.out go rfl
 obtain ⟨e8, hc8, hF⟩ := hd
 subst hn; subst e8
 refine ⟨h.le, (((h.below.setCell (p := ⟨go, k * 4, none⟩) hgo _).setCell (p := ⟨go, k * 4 + 1, none⟩) hgo _).setCell (p := ⟨go, k * 4 + 2, none⟩) hgo _).setCell (p := ⟨go, k * 4 + 3, none⟩) hgo _, ?_, ?_⟩
 · have hne : ∀ b, b < W0.heap.size → b ≠ go := fun b hb => by omega
   exact Kd.N_far (p := ⟨go, k * 4 + 3, none⟩) (Kd.N_far (p := ⟨go, k * 4 + 2, none⟩) (Kd.N_far (p := ⟨go, k * 4 + 1, none⟩) (Kd.N_far (p := ⟨go, k * 4, none⟩) h.row hne _) hne _) hne _) hne _
 · rw [← fill_set]
   exact n_put4 h.out hk (x' := tuS L k) (okp := fun b => b < W0.heap.size) (k53_mkF wr _ (turnI L (itA L (k : Int))) hc8 hF) (fun b hb => ⟨trivial, by omega⟩)
theorem turned_any (L : List It) (A : Option Addr) (c : Nat) (w : World) (ht : Tz w) (hu : Ut w) (hC : Kd.C kIt w A L.length L) (hcap : CapR w A L.length) (hwf : WfL L) (h0 : checkN L = 0) :
    Calls Tryz.prog 50 #[.slice A L.length c] w fun e w' => ∃ A1 c1 A2 c2, e = .returned (.tuple #[.slice A1 L.length c1, .slice A2 L.length c2, .int .i64 0]) ∧ L.length ≤ c1 ∧ L.length ≤ c2 ∧ Kd.C kIt w' A1 L.length (turnL L) ∧ Kd.C kVd w' A2 L.length (vdL L) ∧ Below w.heap.size w w' := by
 have hu53 := Tryz.underlying53
 have HC := Aside0.mk hC
 have HJ := judge_any L A c w ht hu hC hcap hwf h0
 obtain ⟨q1, q2, q3⟩ := check_ok (show checkN L ≠ 14 by rw [h0]; decide)
 clear hC hcap
 have HJ2 : Calls Tryz.prog 26 #[.slice A L.length c] w fun e w' => ∃ A2 c2, e = .returned (.tuple #[.slice A2 L.length c2, .int .i64 0]) ∧ Aside0 (Kd.R kVd 48 w' w.heap.size (fun _ => True) (.slice A2 L.length c2) (vdL L)) ∧ Below w.heap.size w w' := HJ.mono fun e w' h => by
  obtain ⟨v, e1, e2, e3⟩ := h
  obtain ⟨A2, c2, e4⟩ := Kd.R_slice e2
  rw [vdL_len] at e4
  subst e4
  exact ⟨A2, c2, e1, ⟨e2⟩, e3⟩
 clear HJ
 have hzm : ∀ W base, kIt.M W base (fun _ => True) zIt (Value.agg #[.int .i64 0, .string ⟨#[]⟩, .bool false, .slice none 0 0]).cells.toList := fun W base => k53_mkM W base _ zIt (Kd.R_nil _ _ _ _ _)
 go_enter Tryz.func50, Tryz.ntmps50
 go_wp2_with (first
  | (go_at_call 26; with_reducible refine HJ2.mono ?_; rintro e W0 ⟨A2, c2, rfl, hr1, hb1⟩)
  | ((with_reducible refine gate_dst (N := 20) rfl ?_); refine Kd.R_make kIt W0.heap.size 53 rfl (N := 20) rfl 22 _ _ rfl (L.length : Int) rfl rfl Tryz.underlying22 _ 56 info53 rfl (by decide) (by omega) zIt (ok := fun _ => True) (okp := fun _ => True) (hzm W0 W0.heap.size) (fun _ hk => hk) trivial (by omega) (by omega) (Below.refl _ _) (Nat.le_refl _) ?_; intro vo w2 hro hb2 hg2 hn2; rw [Int.toNat_natCast] at hro; obtain ⟨Ao, co, eo⟩ := Kd.R_slice hro; rw [List.length_replicate] at eo; subst eo))
 have H1 : Aside0 (Tu W0 w2 L (.slice A2 L.length c2) Ao co 0 w2) := ⟨⟨hb2.size, hb2, Kd.N_lower (Kd.N_mono (Kd.N_below (Kd.N_bound (Kd.R_N hr1.out)) hb2) (fun b hb => hb.2)) (Nat.zero_le _), by rw [fill_zero]; exact Kd.R_N hro⟩⟩
 clear hro hg2 hn2 hzm hb2
 go_loopg [23] L.length (fun gg v23 wr => ∃ k : Nat, k ≤ L.length ∧ L.length - k ≤ gg ∧ v23 = .int .i64 k ∧ Aside0 (Tu W0 w2 L (.slice A2 L.length c2) Ao co k wr))
 case atStart => exact ⟨0, Nat.zero_le _, by omega, rfl, H1⟩
 case round =>
  clear H1
  obtain ⟨k, hk, hg, rfl, HI⟩ := hrel
  by_cases hlt : k < L.length
  · have hltz : (k : Int) < (L.length : Int) := by omega
    have hbw := hb1.trans (HI.out.below.mono hb1.size)
    obtain ⟨ad, A3, c3, hA, y0, y1, y2, y3, y4, y5⟩ := at_T53 HC.out (k : Int) (by omega) hltz
    rw [Int.toNat_natCast] at y0 y1 y2 y3
    subst hA
    replace y0 := (hbw.cell (World.block_lt_of_cell? w _ y0)).trans y0
    replace y1 := (hbw.cell (World.block_lt_of_cell? w _ y1)).trans y1
    replace y2 := (hbw.cell (World.block_lt_of_cell? w _ y2)).trans y2
    replace y3 := (hbw.cell (World.block_lt_of_cell? w _ y3)).trans y3
    obtain ⟨g2, cap2, e2, _, hg2, _⟩ := Kd.N_form HI.out.row (by rw [vdL_len]; omega)
    rw [vdL_len] at e2
    cases e2
    obtain ⟨go, capo, e2, hgo1, hgo2, _⟩ := Kd.N_form HI.out.out (by rw [fill_length]; omega)
    rw [fill_length] at e2
    cases e2
    obtain ⟨⟨o0, p0⟩, ⟨o1, p1⟩, ⟨o2, p2⟩, ⟨o3, p3⟩, z0, z1, z2, z3⟩ := n_cells HI.out.out hlt
    obtain ⟨cs, h1, h2, h3, _⟩ := Kd.N_elem HI.out.row zVd (k : Int) (by omega) hltz
    rw [Int.toNat_natCast] at h2 h3
    have ex : (vdL L).getD k zVd = vdI L (itA L (k : Int)) := by
     rw [List.getD_eq_getElem?_getD, List.getElem?_eq_getElem (by rw [vdL_len]; exact hlt), Option.getD_some]
     unfold vdL
     rw [List.getElem_map, itA_get hlt]
    rw [ex] at h2
    obtain ⟨A8, c8, rfl, hc8, hF⟩ := k49_openF h2
    obtain ⟨nm, hnm⟩ : ∃ nm, (jNm L (itA L (k : Int))).1 = nm := ⟨_, rfl⟩
    obtain ⟨n8, hn8⟩ : ∃ n8, (jDt (itA L (k : Int))).1.length = n8 := ⟨_, rfl⟩
    have x0 : wr.cell? ⟨g2, k * 4, none⟩ = some (.string nm) := by rw [← hnm]; exact h3 0 _ rfl
    have x2 : wr.cell? ⟨g2, k * 4 + 2, none⟩ = some (.slice A8 n8 c8) := by rw [← hn8]; exact h3 2 _ rfl
    have HS := Aside0.mk (tu_step HI.out hlt hnm ⟨hn8, hn8 ▸ hc8, Kd.F_mono hF (fun b hb => hb.1)⟩)
    clear h1 h2 h3 hF hc8 ex hnm hn8 HI y4 y5
    have hbx := below_alloc (Below.refl wr.heap.size wr) (Obj.cells #[.int .i64 (itA L (k : Int)).f0, .string (itA L (k : Int)).f1, .bool (itA L (k : Int)).f2, .slice A3 (itA L (k : Int)).f3.length c3] 53)
    have x0x := (hbx.cell (p := ⟨g2, k * 4, none⟩) hg2).trans x0
    have x2x := (hbx.cell (p := ⟨g2, k * 4 + 2, none⟩) hg2).trans x2
    have p0x := (hbx.cell (p := ⟨go, k * 4, none⟩) hgo2).trans p0
    have p1x := (hbx.cell (p := ⟨go, k * 4 + 1, none⟩) hgo2).trans p1
    have p2x := (hbx.cell (p := ⟨go, k * 4 + 2, none⟩) hgo2).trans p2
    have p3x := (hbx.cell (p := ⟨go, k * 4 + 3, none⟩) hgo2).trans p3
    have z0x := (hbx.frozen (p := ⟨go, k * 4, none⟩) hgo2).trans z0
    have z1x := (hbx.frozen (p := ⟨go, k * 4 + 1, none⟩) hgo2).trans z1
    have z2x := (hbx.frozen (p := ⟨go, k * 4 + 2, none⟩) hgo2).trans z2
    have z3x := (hbx.frozen (p := ⟨go, k * 4 + 3, none⟩) hgo2).trans z3
    go_upto_region 8 with (fail)
    go_region
    have HS2 := Aside0.mk (tu_on (tu_on HS.out (below_alloc (Below.refl _ _) (Obj.cells #[.int .i64 (itA L (k : Int)).f0, .string (itA L (k : Int)).f1, .bool (itA L (k : Int)).f2, .slice A3 (itA L (k : Int)).f3.length c3] 53))) (Below.drew (Below.refl _ _)))
    clear HS
    go_wp2
    go_roundg (L.length - (k + 1))
    case measure => omega
    case rel => exact ⟨k + 1, by omega, by omega, by go_num, HS2⟩
  · obtain rfl : k = L.length := by omega
    have hb := hb1.trans (HI.out.below.mono hb1.size)
    obtain ⟨_, r1, r2⟩ := Kd.N_reads' HI.out.row
    obtain ⟨_, t1, t2⟩ := Kd.N_reads' HI.out.out
    rw [vdL_len] at r2
    rw [fill_length, tu_all] at t2
    clear HI
    go_wp2
    go_ret3
    exact ⟨_, _, _, _, rfl, t1, r1, t2, r2, hb⟩
theorem Turned_any (L : List It) (A : Option Addr) (c : Nat) (w : World) (ht : Tz w) (hu : Ut w) (hC : Kd.C kIt w A L.length L) (hcap : CapR w A L.length) (hwf : WfL L) (h0 : checkN L ≠ 0) :
    Calls Tryz.prog 50 #[.slice A L.length c] w fun e w' => e = .returned (.tuple #[.slice none 0 0, .slice none 0 0, .int .i64 (checkN L)]) ∧ Below w.heap.size w w' := by
 have hj : judT L = [] := if_neg h0
 have HJ := Judge_any L A c w ht hu hC hcap hwf
 have hne : (checkN L != 0) = true := by simpa using h0
 generalize checkN L = y at HJ hne ⊢
 clear hC hcap hwf hj h0
 go_enter Tryz.func50, Tryz.ntmps50
 go_wp2_with (go_at_call 26; with_reducible refine HJ.mono ?_; rintro e w1 ⟨v, rfl, _, hb1⟩)
 go_ret3
 exact ⟨rfl, hb1⟩
end Go.Proofs.YthlflglkdaainaaGreatDoor.Tr
namespace Go.Proofs.YthlflglkdaainaaGreatDoor.Tr
open Go.RowKit Go.Lib Go.Proofs.YthlflglkdaainaaGreatDoorW.PrintWords Go.Proofs.YthlflglkdaainaaGreatDoorW.PrintLast Go.Proofs.YthlflglkdaainaaGreatDoorW.PrintMore Go.Proofs.YthlflglkdaainaaGreatDoor.Prt
theorem map_itA (T : List It) : (List.range T.length).map (fun j : Nat => itA T (j : Int)) = T := by
 apply List.ext_getElem
 · simp
 · intro j h1 h2
   simp only [List.getElem_map, List.getElem_range]
   exact itA_get h2
section
variable {T : List It} (h14 : checkN T ≠ 14)
include h14
theorem itS_f0 {j k : Nat} (hj : j < T.length) (hk : k < T.length) : (itS T k).f0 = (itS T j).f0 ↔ (itA T k).f0 = (itA T j).f0 := by
 have hp := tree_pars h14 hj j (Nat.le_refl _)
 have hq := tree_pars h14 hk k (Nat.le_refl _)
 obtain ⟨a1, a2⟩ := par_ok hp
 obtain ⟨b1, b2⟩ := par_ok hq
 show (if (itA T k).f0 = -1 then -1 else posI T (itA T k).f0) = (if (itA T j).f0 = -1 then -1 else posI T (itA T j).f0) ↔ _
 unfold posI
 by_cases e1 : (itA T k).f0 = -1
 · rw [if_pos e1]
   by_cases e2 : (itA T j).f0 = -1
   · rw [if_pos e2, e1, e2]
   · rw [if_neg e2]; constructor <;> intro h <;> omega
 · rw [if_neg e1]
   by_cases e2 : (itA T j).f0 = -1
   · rw [if_pos e2]; constructor <;> intro h <;> omega
   · rw [if_neg e2]
     constructor
     · intro h
       have h1 : (oL T).idxOf (itA T k).f0.toNat = (oL T).idxOf (itA T j).f0.toNat := by omega
       have h2 := oN_idx (L := T) (p := (itA T k).f0.toNat) (by omega)
       have h3 := oN_idx (L := T) (p := (itA T j).f0.toNat) (by omega)
       rw [h1, h3] at h2
       omega
     · intro h; rw [h]
theorem cnt_sort {j : Nat} (hj : j < T.length) (c : List UInt8) : cntN (sortL T) (sortL T).length (itS T j).f0 c = cntN T T.length (itA T j).f0 c := by
 unfold cntN
 rw [List.take_length, List.take_length]
 unfold sortL
 rw [List.countP_map, (oL_perm T).countP_eq]
 have e : ∀ P : It → Bool, T.countP P = ((List.range T.length).map (fun j : Nat => itA T (j : Int))).countP P := fun P => by rw [map_itA]
 rw [e, List.countP_map]
 refine List.countP_congr fun k hk => ?_
 rw [List.mem_range] at hk
 show (decide ((itS T k).f0 = (itS T j).f0) && decide (cmB (itS T k) = some c)) = true ↔ (decide ((itA T k).f0 = (itA T j).f0) && decide (cmB (itA T k) = some c)) = true
 rw [decide_eq_decide.2 (itS_f0 h14 hj hk)]
 exact Iff.rfl
theorem jNm_sort {j : Nat} (hj : j < T.length) : jNm (sortL T) (itS T j) = jNm T (itA T j) := by
 unfold jNm
 have e : cmB (itS T j) = cmB (itA T j) := rfl
 rw [e]
 cases cmB (itA T j) with
 | none => rfl
 | some c =>
  show (if 48 < c.length then ((itA T j).f1, (3 : Int)) else if 1 < cntN (sortL T) (sortL T).length (itS T j).f0 c then ((itA T j).f1, 2) else (strB c, 0)) = _
  rw [cnt_sort h14 hj]
end
theorem jDt_sort (T : List It) (j : Nat) : jDt (itS T j) = jDt (itA T j) := rfl
section
variable {L : List It} (h0 : checkN L = 0)
include h0
theorem turn14 : checkN (turnL L) ≠ 14 := by rw [turn_check h0]; decide
omit h0 in
theorem why_again {k : Nat} (hk : k < L.length) : jNm (turnL L) (itA (turnL L) k) = jNm L (itA L k) ∧ jDt (itA (turnL L) k) = jDt (itA L k) := by
 rw [turn_at hk]
 exact ⟨turn_again L _, turn_data L _⟩
theorem why_sort {k : Nat} (hk : k < L.length) : jNm (sortL (turnL L)) (itA (sortL (turnL L)) k) = jNm L (itA L (oN (turnL L) k)) ∧ jDt (itA (sortL (turnL L)) k) = jDt (itA L (oN (turnL L) k)) := by
 have h14 := turn14 h0
 have hl := turn_len L
 have hk' : k < (turnL L).length := by omega
 have hj := oN_lt hk'
 rw [sortL_at hk', jNm_sort h14 hj, jDt_sort]
 exact why_again (by omega)
theorem turn_sort : turnL (sortL (turnL L)) = sortL (turnL L) := by
 have h14 := turn14 h0
 have hl := turn_len L
 apply List.ext_getElem
 · rw [turn_len]
 · intro k h1 h2
   have hk : k < (turnL L).length := by rwa [sortL_len] at h2
   have hj := oN_lt hk
   obtain ⟨w1, w2⟩ := why_sort h0 (k := k) (by omega)
   rw [← itA_get h2, ← itA_get h1, turn_at h2]
   have e1 := sortL_at hk
   have e2 : itA (turnL L) (oN (turnL L) k) = turnI L (itA L (oN (turnL L) k)) := turn_at (by omega)
   unfold turnI
   rw [w1, w2, e1]
   show (⟨(itS (turnL L) (oN (turnL L) k)).f0, _, (itA (turnL L) (oN (turnL L) k)).f2, _⟩ : It) = ⟨(itS (turnL L) (oN (turnL L) k)).f0, (itA (turnL L) (oN (turnL L) k)).f1, (itA (turnL L) (oN (turnL L) k)).f2, (itA (turnL L) (oN (turnL L) k)).f3⟩
   rw [e2]
   rfl
theorem sort_res : checkN (sortL (turnL L)) = 0 := by
 have h14 := turn14 h0
 have hc := sort_check h14
 have hT := turn_check h0
 have h4 : (turnL L).any (fun x => resB x.f1) = false := by
  obtain ⟨h1, _, _⟩ := check_ok h14
  rw [← Bool.not_eq_true]
  intro hr
  unfold checkN at hT
  rw [if_neg (by omega)] at hT
  split at hT
  · cases hT
  · first | cases hT | (rw [if_pos hr] at hT; cases hT)
 obtain ⟨h1, h2, h3⟩ := check_ok hc
 unfold checkN
 rw [if_neg (by omega), if_neg, if_neg]
 · rw [Bool.not_eq_true, List.any_eq_false]
   rw [List.any_eq_false] at h4
   intro x hx
   obtain ⟨k, hk, rfl⟩ := List.mem_map.1 hx
   rw [oL_mem] at hk
   have := h4 _ (List.getElem_mem hk)
   rw [← itA_get hk] at this
   exact this
 · rw [h2, Bool.not_true, Bool.false_or, Bool.not_eq_true, List.any_eq_false]
   intro x hx
   rw [List.all_eq_true] at h3
   rw [h3 x hx]; decide
omit h0 in
theorem oL_range : oL (turnL L) = (List.range L.length).map (oN (turnL L)) := by
 have hl := turn_len L
 apply List.ext_getElem
 · rw [oL_len, List.length_map, List.length_range, hl]
 · intro k h1 h2
   have hk : k < (turnL L).length := by rwa [oL_len] at h1
   have := oN_get hk
   rw [List.getElem?_eq_getElem h1] at this
   simp only [List.getElem_map, List.getElem_range]
   exact Option.some.inj this
theorem rep_again : repL (sortL (turnL L)) = repL L := by
 have h14 := turn14 h0
 have hl := turn_len L
 have hs := sortL_len (turnL L)
 unfold repL
 rw [turn_sort h0, sort_ord h14, oL_range, List.flatMap_map, hl]
 rw [List.flatMap_def, List.flatMap_def]
 congr 1
 refine List.map_congr_left fun k hk => ?_
 rw [List.mem_range] at hk
 unfold lnL
 obtain ⟨w1, w2⟩ := why_sort h0 hk
 rw [w1, w2, turn_sort h0, (sort_path h14 k k (Nat.le_refl _) (by omega)).1]
end
end Go.Proofs.YthlflglkdaainaaGreatDoor.Tr
namespace Go.Proofs.YthlflglkdaainaaGreatDoor.Tr
open Go.RowKit Go.Lib Go.Maps Go.Proofs.YthlflglkdaainaaGreatDoorW.PrintWords Go.Proofs.YthlflglkdaainaaGreatDoorW.PrintLast Go.Proofs.YthlflglkdaainaaGreatDoorW.PrintMore Go.Proofs.YthlflglkdaainaaGreatDoor.Prt
theorem rd49 {L : List It} {k : Nat} (hk : k < L.length) : rd_T49 (vdL L) (k : Int) = vdI L (itA L (k : Int)) := by
 unfold rd_T49
 rw [Int.toNat_natCast, List.getD_eq_getElem?_getD, List.getElem?_eq_getElem (by rw [vdL_len]; exact hk), Option.getD_some]
 unfold vdL
 rw [List.getElem_map, itA_get hk]
noncomputable def tgtT (L : List It) : List It := if checkN L = 0 then sortL (turnL L) else []
theorem turn_wf {L : List It} (hwf : WfL L) (h0 : checkN L = 0) : WfL (turnL L) := by
 obtain ⟨_, _, q3⟩ := check_ok (turn14 h0)
 rw [List.all_eq_true] at q3
 intro x hx
 have hr := q3 x hx
 obtain ⟨y, hy, rfl⟩ := List.mem_map.1 hx
 obtain ⟨a1, a2, _, a4, _⟩ := hwf y hy
 refine ⟨a1, a2, ?_, ?_, ?_⟩
 · have := ((rightB_iff _).1 hr).1.1.2
   unfold maxLen
   omega
 · show ∀ b ∈ (jDt y).1, 0 ≤ b ∧ b ≤ 255
   unfold jDt
   by_cases hd : y.f2 = true
   · rw [if_pos hd]; intro b hb; cases hb
   · rw [if_neg hd]
     exact bytes8_i8s _
 · have := right_len hr
   unfold maxLen
   omega
theorem target_ok (L : List It) (A : Option Addr) (c : Nat) (w : World) (ht : Tz w) (hu : Ut w) (hC : Kd.C kIt w A L.length L) (hcap : CapR w A L.length) (hwf : WfL L) (h0 : checkN L = 0) :
    Calls Tryz.prog 20 #[.slice A L.length c] w fun e w' => ∃ v, e = .returned (.tuple #[v, .int .i64 0]) ∧ Kd.R kIt 53 w' w.heap.size (fun _ => True) v (sortL (turnL L)) ∧ Below w.heap.size w w' := by
 have HT := turned_any L A c w ht hu hC hcap hwf h0
 have hwt := turn_wf hwf h0
 have hlen := turn_len L
 have hsT : sortT (turnL L) = sortL (turnL L) := if_neg (turn14 h0)
 have hsE : sortE (turnL L) = 0 := if_neg (turn14 h0)
 have HS : ∀ W A1 c1, L.length ≤ c1 → Kd.C kIt W A1 L.length (turnL L) → Calls Tryz.prog 51 #[.slice A1 L.length c1] W fun e w' => ∃ v, e = .returned (.tuple #[v, .int .i64 0]) ∧ Kd.R kIt 53 w' W.heap.size (fun _ => True) v (sortL (turnL L)) ∧ Below W.heap.size W w' := fun W A1 c1 h1 h2 => by
  have := Sort_any (turnL L) A1 c1 (by omega) W (by rw [hlen]; exact h2) hwt
  rw [hlen, hsT, hsE] at this
  exact this
 generalize sortL (turnL L) = S at HS ⊢
 have HT := Aside0.mk HT
 clear hC hcap hwf hwt hlen hsT hsE
 go_enter Tryz.func20, Tryz.ntmps20
 go_wp2_with (first
  | (go_at_call 50; with_reducible refine HT.out.mono ?_; rintro e w1 ⟨A1, c1, A2, c2, rfl, l1, _, r1, _, hb1⟩; have HS1 := HS w1 A1 c1 l1 r1)
  | (go_at_call 51; with_reducible refine HS1.mono ?_; rintro e w2 ⟨v2, rfl, hr2, hb2⟩))
 go_ret2
 exact ⟨_, rfl, Kd.R_lower hr2 hb1.size, hb1.trans (hb2.mono hb1.size)⟩
theorem Target_any (L : List It) (A : Option Addr) (c : Nat) (w : World) (ht : Tz w) (hu : Ut w) (hC : Kd.C kIt w A L.length L) (hcap : CapR w A L.length) (hwf : WfL L) :
    Calls Tryz.prog 20 #[.slice A L.length c] w fun e w' => ∃ v, e = .returned (.tuple #[v, .int .i64 (checkN L)]) ∧ Kd.R kIt 53 w' w.heap.size (fun _ => True) v (tgtT L) ∧ Below w.heap.size w w' := by
 by_cases h0 : checkN L = 0
 · unfold tgtT
   rw [if_pos h0, h0]
   exact target_ok L A c w ht hu hC hcap hwf h0
 · have hj : tgtT L = [] := if_neg h0
   rw [hj]
   have HT := Turned_any L A c w ht hu hC hcap hwf h0
   have hne : (checkN L != 0) = true := by simpa using h0
   generalize checkN L = y at HT hne ⊢
   clear hC hcap hwf hj h0
   go_enter Tryz.func20, Tryz.ntmps20
   go_wp2_with (go_at_call 50; with_reducible refine HT.mono ?_; rintro e w1 ⟨rfl, hb1⟩)
   go_ret2
   exact ⟨_, rfl, Kd.R_nil _ _ _ _ _, hb1⟩
noncomputable def lnJ (L : List It) (k : Nat) (j : Nat) : List Ln :=
 (if 0 < j then (if (jNm L (itA L k)).2 = 0 then [] else [⟨pathN (turnL L) k, (jNm L (itA L k)).2⟩]) else []) ++ if 1 < j then (if (jDt (itA L k)).2 = 0 then [] else [⟨pathN (turnL L) k, (jDt (itA L k)).2⟩]) else []
theorem lnJ_two (L : List It) (k : Nat) : lnJ L k 2 = lnL L k := by unfold lnJ lnL; rfl
noncomputable def lns (L : List It) (k : Nat) : List Ln := (List.range k).flatMap (lnL L)
theorem lns_snoc (L : List It) (k : Nat) : lns L (k + 1) = lns L k ++ lnL L k := by
 unfold lns
 rw [List.range_succ, List.flatMap_append, List.flatMap_singleton]
theorem lnL_len (L : List It) (k : Nat) : (lnL L k).length ≤ 2 := by
 unfold lnL
 rw [List.length_append]
 have h1 : (if (jNm L (itA L k)).2 = 0 then ([] : List Ln) else [⟨pathN (turnL L) k, (jNm L (itA L k)).2⟩]).length ≤ 1 := by split <;> simp
 have h2 : (if (jDt (itA L k)).2 = 0 then ([] : List Ln) else [⟨pathN (turnL L) k, (jDt (itA L k)).2⟩]).length ≤ 1 := by split <;> simp
 omega
theorem lns_len (L : List It) : ∀ k, (lns L k).length ≤ 2 * k
 | 0 => by simp [lns]
 | k + 1 => by
  rw [lns_snoc, List.length_append]
  have := lns_len L k
  have := lnL_len L k
  omega
noncomputable def whJ (L : List It) (k j : Nat) : Int := if j = 0 then (jNm L (itA L k)).2 else (jDt (itA L k)).2
theorem lnJ_step {L : List It} {k j : Nat} (hj : j < 2) : lnJ L k (j + 1) = lnJ L k j ++ if whJ L k j = 0 then [] else [⟨pathN (turnL L) k, whJ L k j⟩] := by
 match j, hj with
 | 0, _ => unfold lnJ whJ; simp
 | 1, _ => unfold lnJ whJ; simp
theorem lnJ_len (L : List It) (k j : Nat) : (lnJ L k j).length ≤ 2 := by
 unfold lnJ
 rw [List.length_append]
 have h1 : (if 0 < j then (if (jNm L (itA L k)).2 = 0 then ([] : List Ln) else [⟨pathN (turnL L) k, (jNm L (itA L k)).2⟩]) else []).length ≤ 1 := by split <;> (try split) <;> simp
 have h2 : (if 1 < j then (if (jDt (itA L k)).2 = 0 then ([] : List Ln) else [⟨pathN (turnL L) k, (jDt (itA L k)).2⟩]) else []).length ≤ 1 := by split <;> (try split) <;> simp
 omega
structure Rp (W0 : World) (ok : Nat → Prop) (v : Value) (X : List Ln) (wr : World) : Prop where
 below : Below W0.heap.size W0 wr
 out : Kd.R kLn 90 wr W0.heap.size ok v X
theorem rp_on {W0 wr w1 : World} {ok : Nat → Prop} {v : Value} {X : List Ln} (h : Rp W0 ok v X wr) (hb : Below wr.heap.size wr w1) : Rp W0 ok v X w1 := ⟨h.below.trans (hb.mono h.below.size), Kd.R_below h.out hb⟩
theorem why_cells (W : World) (L : List It) (k : Nat) {j : Nat} (hj : j < 2) : (W.alloc (Obj.cells #[.int .u8 (vdI L (itA L (k : Int))).f1, .int .u8 (vdI L (itA L (k : Int))).f3] 45)).drew.cell? ⟨W.heap.size, j, none⟩ = some (.int .u8 (whJ L k j)) := by
 have h : (W.alloc (Obj.cells #[.int .u8 (vdI L (itA L (k : Int))).f1, .int .u8 (vdI L (itA L (k : Int))).f3] 45)).drew.cell? ⟨W.heap.size, j, none⟩ = (#[.int .u8 (vdI L (itA L (k : Int))).f1, .int .u8 (vdI L (itA L (k : Int))).f3] : Array Value)[j]? := World.cell?_alloc_new W _ _ j
 rw [h]
 match j, hj with
 | 0, _ => rfl
 | 1, _ => rfl
theorem infoLn : (Tryz.prog.info? 90).map (fun i => (i.zero, i.size, i.bytes)) = some (some (.agg #[.slice none 0 0, .int .u8 0]), 2, 32) := by kernel_rfl
theorem tpath_any (L : List It) (k : Nat) (hk : k < L.length) (hlen : (turnL L).length = L.length) (h14 : checkN (turnL L) ≠ 14) (hwf : WfL (turnL L)) (A1 : Option Addr) (c1 : Nat) (hc : L.length ≤ c1) (W : World) (hC : Kd.C kIt W A1 L.length (turnL L)) :
    Calls Tryz.prog 41 #[.slice A1 L.length c1, .int .i64 k] W fun e w' => ∃ Ap np cp, e = .returned (.slice Ap np cp) ∧ Kd.R Kd.string 9 w' W.heap.size (fun _ => True) (.slice Ap np cp) (pathN (turnL L) k) ∧ Below W.heap.size W w' := by
 have h := Path_any (turnL L) (k : Int) A1 c1 (by omega) W (by rw [hlen]; exact hC) hwf
 rw [hlen, tPath_in h14 (by omega)] at h
 refine h.mono fun e w' h => ?_
 obtain ⟨v, rfl, h1, h2⟩ := h
 obtain ⟨Ap, cp, rfl⟩ := Kd.R_slice h1
 exact ⟨Ap, _, cp, rfl, h1, h2⟩
theorem report_ok (L : List It) (A : Option Addr) (c : Nat) (w : World) (ht : Tz w) (hu : Ut w) (hC : Kd.C kIt w A L.length L) (hcap : CapR w A L.length) (hwf : WfL L) (h0 : checkN L = 0) :
    Calls Tryz.prog 29 #[.slice A L.length c] w fun e w' => ∃ A3 c3, e = .returned (.tuple #[.slice A3 (repL L).length c3, .int .i64 0]) ∧ (repL L).length ≤ c3 ∧ Kd.C kLn w' A3 (repL L).length (repL L) ∧ Below w.heap.size w w' := by
 have HT := Aside0.mk (turned_any L A c w ht hu hC hcap hwf h0)
 have HWt := Aside0.mk (turn_wf hwf h0)
 have H14 := Aside0.mk (turn14 h0)
 have HRS := Aside0.mk (rep_sort h0)
 have hlen := Aside0.mk (turn_len L)
 have hl64 := (check_ok (show checkN L ≠ 14 by rw [h0]; decide)).1
 have hu48 := Tryz.underlying48
 clear hC hcap hwf h0 ht hu
 go_enter Tryz.func29, Tryz.ntmps29
 go_wp2_with (go_at_call 50; with_reducible refine HT.out.mono ?_; rintro e W0 ⟨A1, c1, A2, c2, rfl, l1, l2, r1, r2, hb0⟩)
 have HC1 := Aside0.mk r1
 have HC2 := Aside0.mk r2
 clear r1 r2 HT
 have H0 : Aside0 (Rp W0 (fun _ => True) (.slice none 0 0) (lns L 0) W0) := ⟨⟨Below.refl _ _, Kd.R_nil _ _ _ _ _⟩⟩
 go_loopg [7, 22] L.length (fun gg v7 v22 wr => ∃ k : Nat, k ≤ L.length ∧ L.length - k ≤ gg ∧ v22 = .int .i64 k ∧ Aside0 (Rp W0 (fun _ => True) v7 (lns L k) wr))
 case atStart => exact ⟨0, Nat.zero_le _, by omega, rfl, H0⟩
 case round =>
  clear H0
  obtain ⟨k, hk, hg, rfl, HI⟩ := hrel
  by_cases hlt : k < L.length
  · have hltz : (k : Int) < (L.length : Int) := by omega
    obtain ⟨ad2, A8, c8, hA2, y0, y1, y2, y3, _, _⟩ := at_T49 (Kd.C_below HC2.out HI.out.below) (k : Int) (by omega) hltz
    rw [Int.toNat_natCast, rd49 hlt] at y0 y1 y2 y3
    subst hA2
    go_upto_region 8 with (fail)
    go_region
    have hw0 : (vdI L (itA L (k : Int))).f1 = whJ L k 0 := rfl
    have hw1 : (vdI L (itA L (k : Int))).f3 = whJ L k 1 := rfl
    have H1 : Aside0 (Rp W0 (fun x => x ≠ wr.heap.size) u7 (lns L k ++ lnJ L k 0) (wr.alloc (Obj.cells #[.int .u8 (vdI L (itA L (k : Int))).f1, .int .u8 (vdI L (itA L (k : Int))).f3] 45)).drew) := by
     have hbb := below_drew (below_alloc (Below.refl wr.heap.size wr) (Obj.cells #[.int .u8 (vdI L (itA L (k : Int))).f1, .int .u8 (vdI L (itA L (k : Int))).f3] 45))
     refine ⟨⟨HI.out.below.trans (hbb.mono HI.out.below.size), ?_⟩⟩
     rw [show lnJ L k 0 = [] from rfl, List.append_nil]
     exact Kd.R_below (Kd.R_mono (Kd.R_elderB HI.out.out wr.heap.size (Nat.le_refl _)) (fun _ h => h.2)) hbb
    have H2 : Aside0 (∀ j : Nat, j < 2 → (wr.alloc (Obj.cells #[.int .u8 (vdI L (itA L (k : Int))).f1, .int .u8 (vdI L (itA L (k : Int))).f3] 45)).drew.cell? ⟨wr.heap.size, j, none⟩ = some (.int .u8 (whJ L k j))) := ⟨fun j hj => why_cells wr L k hj⟩
    have hlb : wr.heap.size < (wr.alloc (Obj.cells #[.int .u8 (vdI L (itA L (k : Int))).f1, .int .u8 (vdI L (itA L (k : Int))).f3] 45)).drew.heap.size := by
     show wr.heap.size < (wr.alloc _).heap.size
     rw [World.size_alloc]; omega
    clear y0 y1 y2 y3 hw0 hw1 HI
    generalize (wr.alloc (Obj.cells #[.int .u8 (vdI L (itA L (k : Int))).f1, .int .u8 (vdI L (itA L (k : Int))).f3] 45)).drew = W1 at H1 H2 hlb ⊢
    generalize wr.heap.size = b at H1 H2 hlb ⊢
    generalize (vdI L (itA L (k : Int))).f1 = f1
    generalize (vdI L (itA L (k : Int))).f3 = f3
    obtain ⟨gko, rfl⟩ : ∃ gko, gko = gk := ⟨_, rfl⟩
    go_wp2
    go_loopg [7, 37] 2 (fun gj v7 v37 wr2 => ∃ j : Nat, j ≤ 2 ∧ 2 - j ≤ gj ∧ v37 = .int .i64 j ∧ Aside0 (Rp W0 (fun x => x ≠ b) v7 (lns L k ++ lnJ L k j) wr2) ∧ Aside0 (∀ i : Nat, i < 2 → wr2.cell? ⟨b, i, none⟩ = some (.int .u8 (whJ L k i))) ∧ b < wr2.heap.size)
    case atStart => exact ⟨0, by omega, by omega, rfl, H1, H2, hlb⟩
    case round =>
     clear H1 H2 hlb
     obtain ⟨j, hj, hgj, rfl, HI, HB, hlb⟩ := hrel
     by_cases hj2 : j < 2
     · have hjz : (j : Int) < 2 := by omega
       have hcell := HB.out j hj2
       have hst := Aside0.mk (lnJ_step (L := L) (k := k) hj2)
       have hln := lns_len L k
       have hll := lnJ_len L k j
       by_cases hw : whJ L k j = 0
       · have hwz : (whJ L k j != 0) = false := by rw [hw]; rfl
         have HN : Aside0 (Rp W0 (fun x => x ≠ b) u7 (lns L k ++ lnJ L k (j + 1)) wr) := ⟨⟨HI.out.below, by rw [hst.out, if_pos hw, List.append_nil]; exact HI.out.out⟩⟩
         clear hw
         go_wp2
         go_roundg (2 - (j + 1))
         case measure => omega
         case rel => exact ⟨j + 1, by omega, by omega, by go_num, HN, HB, hlb⟩
       · have hwz : (whJ L k j != 0) = true := by simpa using hw
         have HP := tpath_any L k hlt hlen.out H14.out HWt.out A1 c1 l1 wr (Kd.C_below HC1.out HI.out.below)
         have e7 : lns L k ++ lnJ L k (j + 1) = (lns L k ++ lnJ L k j) ++ [⟨pathN (turnL L) k, whJ L k j⟩] := by rw [hst.out, if_neg hw, List.append_assoc]
         have e7 := Aside0.mk e7
         obtain ⟨yw, hyw⟩ : ∃ yw, whJ L k j = yw := ⟨_, rfl⟩
         rw [hyw] at hwz hcell
         have hyw := Aside0.mk hyw
         clear hw
         go_wp2_with (first
          | (go_at_call 41; with_reducible refine HP.mono ?_; rintro e w5 ⟨Ap, np, cp, rfl, hr5, hb5⟩; have H5 := rp_on HI.out hb5)
          | ((with_reducible refine gate_builtin (b := .append) (xs := #[.tmp 43, .tmp 49]) rfl ?_); at_builtin; refine Kd.R_append kLn (w0 := W0) (W := w5) W0.heap.size rfl (.tmp 43) (.tmp 49) 54 90 (.agg #[.slice none 0 0, .int .u8 0]) 32 rfl Tryz.underlying54 infoLn rfl (by decide) (by omega) u7 (lns L k ++ lnJ L k j) ⟨pathN (turnL L) k, yw⟩ [.slice Ap np cp, .int .u8 yw] (fun x => x ≠ b) (fun x => wr.heap.size ≤ x) rfl rfl ?hp ?hokp ?hfresh H5.out H5.below H5.below.size ?hl ?_; (case hp => exact k90_mkM _ _ _ ⟨pathN (turnL L) k, yw⟩ (Kd.R_lower (Kd.R_mono (Kd.R_bound hr5) (fun x hx => hx.2.1)) HI.out.below.size)); (case hokp => (intro x hx; exact ⟨by omega, fun e => by have := Kd.R_lt HI.out.out x e.symm; omega⟩)); (case hfresh => (intro x hx; have := hb5.size; omega)); (case hl => (rw [List.length_append]; omega)); intro v12 w12 ho12 hb12 hg12 hat12))
         have hbw := hb5.size
         go_roundg (2 - (j + 1))
         case measure => omega
         case rel =>
          refine ⟨j + 1, by omega, by omega, by go_num, ⟨⟨hb12, by rw [e7.out, hyw.out]; exact ho12⟩⟩, ⟨fun i hi => ?_⟩, by have := hg12.size; omega⟩
          have hne : some b ≠ u7.ownBlock := fun e => HI.out.out.1 b e.symm rfl
          have h1 := hg12.block b (by omega) hne
          have h2 := (hb5.cell (p := ⟨b, i, none⟩) hlb).trans (HB.out i hi)
          simp only [World.cell?, h1] at h2 ⊢
          exact h2
     · obtain rfl : j = 2 := by omega
       have HN : Aside0 (Rp W0 (fun _ => True) u7 (lns L (k + 1)) wr) := ⟨⟨HI.out.below, by rw [lns_snoc, ← lnJ_two]; exact Kd.R_mono HI.out.out (fun _ _ => trivial)⟩⟩
       clear HI HB
       go_wp2
       go_roundg (L.length - (k + 1))
       case measure => omega
       case rel => exact ⟨k + 1, by omega, by omega, by go_num, HN⟩
  · obtain rfl : k = L.length := by omega
    have hX : lns L L.length = rep0 L := rfl
    have hll := lns_len L L.length
    obtain ⟨_, inner, ho, _⟩ := id HI.out.out
    rcases ho.2 with ⟨e1, h1⟩ | ⟨g, cap, cur, e1, hg1, _⟩
    · subst e1
      have hr : repL L = [] := by
       rw [← HRS.out, ← hX, List.eq_nil_of_length_eq_zero h1]; simp
      have hb := HI.out.below
      clear HI ho h1 hX
      go_wp2_with (go_at_call 63; with_reducible refine (sortNil_any _ _).mono ?_; rintro e w2 ⟨rfl, rfl⟩)
      go_ret2
      rw [hr]
      exact ⟨none, 0, rfl, Nat.le_refl _, Kd.C_nil _ _, hb0.trans (hb.mono hb0.size)⟩
    · subst e1
      have HS := Aside0.mk (sortLines_any wr W0.heap.size g cap (fun _ => True) (lns L L.length) (by omega) (Kd.R_N HI.out.out))
      rw [hX, HRS.out] at HS
      have hb := HI.out.below
      rw [hX] at hll ⊢
      have hrl : (rep0 L).length = (repL L).length := by rw [← HRS.out, List.length_mergeSort]
      rw [hrl] at HS ⊢
      clear HI ho hX hrl
      go_wp2_with (go_at_call 63; with_reducible refine HS.out.mono ?_; rintro e w2 ⟨rfl, hn2, hg2⟩)
      go_ret2
      obtain ⟨_, t1, t2⟩ := Kd.N_reads' hn2
      have hb2 : Below W0.heap.size W0 w2 := Below.grown hb hg2 hb.size (fun x hx => by have e : g = x := Option.some.inj hx; omega)
      exact ⟨_, _, rfl, t1, t2, hb0.trans (hb2.mono hb0.size)⟩
noncomputable def repT (L : List It) : List Ln := if checkN L = 0 then repL L else []
theorem Report_any (L : List It) (A : Option Addr) (c : Nat) (w : World) (ht : Tz w) (hu : Ut w) (hC : Kd.C kIt w A L.length L) (hcap : CapR w A L.length) (hwf : WfL L) :
    Calls Tryz.prog 29 #[.slice A L.length c] w fun e w' => ∃ A3 c3, e = .returned (.tuple #[.slice A3 (repT L).length c3, .int .i64 (checkN L)]) ∧ (repT L).length ≤ c3 ∧ Kd.C kLn w' A3 (repT L).length (repT L) ∧ Below w.heap.size w w' := by
 by_cases h0 : checkN L = 0
 · unfold repT
   rw [if_pos h0, h0]
   exact report_ok L A c w ht hu hC hcap hwf h0
 · have hj : repT L = [] := if_neg h0
   rw [hj]
   have HT := Turned_any L A c w ht hu hC hcap hwf h0
   have hne : (checkN L != 0) = true := by simpa using h0
   generalize checkN L = y at HT hne ⊢
   clear hC hcap hwf hj h0
   go_enter Tryz.func29, Tryz.ntmps29
   go_wp2_with (go_at_call 50; with_reducible refine HT.mono ?_; rintro e w1 ⟨rfl, hb1⟩)
   go_ret2
   exact ⟨none, 0, rfl, Nat.le_refl _, Kd.C_nil _ _, hb1⟩
noncomputable def acc (L : List It) (i : Nat) : List Ln := (List.range i).flatMap fun j => lnL L (oN (turnL L) j)
theorem acc_snoc (L : List It) (i : Nat) : acc L (i + 1) = acc L i ++ lnL L (oN (turnL L) i) := by
 unfold acc
 rw [List.range_succ, List.flatMap_append, List.flatMap_singleton]
theorem acc_all (L : List It) : acc L L.length = repL L := by
 unfold acc repL
 rw [oL_range, List.flatMap_map]
theorem acc_len (L : List It) : ∀ i, (acc L i).length ≤ 2 * i
 | 0 => by simp [acc]
 | i + 1 => by
  rw [acc_snoc, List.length_append]
  have := acc_len L i
  have := lnL_len L (oN (turnL L) i)
  omega
theorem path_small (L : List It) (k : Nat) (hk : k ≤ 64) : (pathN L k).length ≤ 100000 := by
 have := path_len L k
 omega
theorem rd90 {X : List Ln} {i : Nat} (hi : i < X.length) : rd_T90 X (i : Int) = X[i] := by
 unfold rd_T90
 rw [Int.toNat_natCast, List.getD_eq_getElem?_getD, List.getElem?_eq_getElem hi]; rfl
theorem lines_l {X : List Ln} (hm : X.length ≤ 100000) (hp : ∀ x ∈ X, x.f0.length ≤ 100000) : ∀ (t i : Nat), X.length - i ≤ t → i ≤ X.length → Ev (fun k => gessoref16_SameLines.l0 k X X i) true := by
 intro t
 induction t with
 | zero =>
  intro i h1 h2
  obtain rfl : i = X.length := by omega
  refine ⟨1, fun k hk => ?_⟩
  obtain ⟨k, rfl⟩ : ∃ q, k = q + 1 := ⟨k - 1, by omega⟩
  simp only [gessoref16_SameLines.l0]
  rw [if_neg (by omega)]
 | succ t ih =>
  intro i h1 h2
  by_cases hi : i = X.length
  · exact ih i (by omega) h2
  · have hlt : i < X.length := by omega
    have hev := Same11_ev X[i].f0 X[i].f0 (hp _ (List.getElem_mem hlt))
    rw [decide_eq_true rfl] at hev
    obtain ⟨k1, hk1⟩ := hev
    obtain ⟨k2, hk2⟩ := ih (i + 1) (by omega) (by omega)
    refine ⟨k1 + k2 + 1, fun k hk => ?_⟩
    obtain ⟨k, rfl⟩ : ∃ q, k = q + 1 := ⟨k - 1, by omega⟩
    simp only [gessoref16_SameLines.l0]
    rw [if_pos (by omega), if_pos (by omega), if_pos (by omega), rd90 hlt, if_pos trivial, (show gessoref11_Same.f k X[i].f0 X[i].f0 = some true from hk1 k (by omega)), Option.bind_some, if_pos rfl, wrap_id (x := (i : Int) + 1) (by omega) (by omega)]
    exact hk2 k (by omega)
theorem SameLines_any (X : List Ln) (hm : X.length ≤ 100000) (hp : ∀ x ∈ X, x.f0.length ≤ 100000) (A B : Option Addr) (c d : Nat) (hc : X.length ≤ c) (hd : X.length ≤ d) (w : World) (hA : Kd.C kLn w A X.length X) (hB : Kd.C kLn w B X.length X) :
    Calls Tryz.prog 31 #[.slice A X.length c, .slice B X.length d] w fun e w' => e = .returned (.bool true) ∧ Below w.heap.size w w' := by
 have hev : Ev (fun k => gessoref16_SameLines.f k X X) true := by
  refine Ev.congr (fun k => ?_) (lines_l hm hp X.length 0 (by omega) (Nat.zero_le _))
  unfold gessoref16_SameLines.f
  rw [if_pos rfl]; rfl
 obtain ⟨k, hk⟩ := hev.rounds
 exact (gessoref16_SameLines.calls k A c X B d X _ w hA hc hB hd hk).mono fun e w' h => ⟨h.1, h.2.below⟩
theorem rep_paths {L : List It} : (repT L).length ≤ 100000 ∧ ∀ x ∈ repT L, x.f0.length ≤ 100000 := by
 unfold repT
 by_cases h0 : checkN L = 0
 · rw [if_pos h0]
   have hl64 := (check_ok (show checkN L ≠ 14 by rw [h0]; decide)).1
   have h1 := acc_len L L.length
   rw [acc_all] at h1
   refine ⟨by omega, fun x hx => ?_⟩
   unfold repL at hx
   obtain ⟨k, hk, hx⟩ := List.mem_flatMap.1 hx
   rw [oL_mem, turn_len] at hk
   rw [ln_key hx]
   exact path_small _ _ (by omega)
 · rw [if_neg h0]
   exact ⟨by simp, fun x hx => by cases hx⟩
end Go.Proofs.YthlflglkdaainaaGreatDoor.Tr
namespace Go.Proofs.YthlflglkdaainaaGreatDoor.Tr
open Go.RowKit Go.Lib Go.Proofs.YthlflglkdaainaaGreatDoorW.PrintWords Go.Proofs.YthlflglkdaainaaGreatDoorW.PrintLast Go.Proofs.YthlflglkdaainaaGreatDoorW.PrintMore Go.Proofs.YthlflglkdaainaaGreatDoor.Prt
def wtM (m : Nat) (x : It) : Nat := min x.f3.length (m + 1) + min x.f1.size (m + 1)
def wtLM (m : Nat) (L : List It) : Nat := (L.map (wtM m)).sum
def lightM (m : Nat) (L : List It) : Bool := decide (L.length ≤ 70) && decide (wtLM m L ≤ m)
theorem wtM_take {m : Nat} {L : List It} {i : Nat} (h : i < L.length) : wtLM m (L.take (i + 1)) = wtLM m (L.take i) + wtM m L[i] := by
 unfold wtLM
 rw [List.take_succ_eq_append_getElem h, List.map_append, List.sum_append]; simp
theorem wtM_le {m : Nat} (hm : m ≤ 20000) (x : It) : wtM m x ≤ 40002 := by unfold wtM; omega
theorem wtLM_le {m : Nat} (hm : m ≤ 20000) : ∀ (L : List It), wtLM m L ≤ L.length * 40002
 | [] => by simp [wtLM]
 | x :: L => by
  have h1 := wtLM_le hm L
  have h2 := wtM_le hm x
  unfold wtLM at h1 ⊢
  rw [List.map_cons, List.sum_cons, List.length_cons]; omega
theorem lightM_ev {m : Nat} (hm : m ≤ 20000) {L : List It} (hL : L.length ≤ 70) : ∀ (t i : Nat), L.length - i ≤ t → i ≤ L.length → Ev (fun k => gessoref14_Light.l0 k L (m : Int) (wtLM m (L.take i) : Int) i) (decide (wtLM m L ≤ m)) := by
 intro t
 induction t with
 | zero =>
  intro i h1 h2
  obtain rfl : i = L.length := by omega
  rw [List.take_length]
  refine ⟨1, fun k hk => ?_⟩
  obtain ⟨k, rfl⟩ : ∃ q, k = q + 1 := ⟨k - 1, by omega⟩
  simp only [gessoref14_Light.l0]
  rw [if_neg (by omega)]
  congr 1
  exact decide_eq_decide.2 (by omega)
 | succ t ih =>
  intro i h1 h2
  by_cases hi : i = L.length
  · exact ih i (by omega) h2
  · have hlt : i < L.length := by omega
    refine ev_step' (fun k => ?_) (ih (i + 1) (by omega) (by omega))
    have hb := wtLM_le hm (L.take i)
    have hbl : (L.take i).length ≤ 70 := by rw [List.length_take]; omega
    have hb2 : wtLM m (L.take i) ≤ 2800140 := by omega
    simp only [gessoref14_Light.l0]
    rw [if_pos (by omega), if_pos (by omega), show (rd_T53 L (i : Int)) = L[i] from itA_get hlt, wtM_take hlt]
    have e1 : wrap64 ((m : Int) + 1) = ((m + 1 : Nat) : Int) := by rw [wrap_id (by omega) (by omega)]; omega
    rw [e1, wrap_id (x := (i : Int) + 1) (by omega) (by omega)]
    unfold wtM
    generalize L[i].f3.length = a
    generalize L[i].f1.size = b
    generalize wtLM m (L.take i) = s at *
    have m1 : mn (a : Int) ((m + 1 : Nat) : Int) = ((min a (m + 1) : Nat) : Int) := by unfold mn; omega
    have m2 : mn (b : Int) ((m + 1 : Nat) : Int) = ((min b (m + 1) : Nat) : Int) := by unfold mn; omega
    rw [m1, m2]
    rw [wrap_id (x := (s : Int) + ((min a (m + 1) : Nat) : Int)) (by omega) (by omega)]
    rw [wrap_id (by omega) (by omega)]
    congr 1 <;> omega
theorem LightM_ev {m : Nat} (hm : m ≤ 20000) (L : List It) : Ev (fun k => gessoref14_Light.f k L (m : Int)) (lightM m L) := by
 unfold gessoref14_Light.f
 by_cases h : (L.length : Int) > 70
 · refine ⟨0, fun k _ => ?_⟩
   show (if (L.length : Int) > 70 then some false else _) = _
   rw [if_pos h]; simp only [lightM]; rw [decide_eq_false (by omega)]; rfl
 · have := lightM_ev hm (L := L) (by omega) L.length 0 (by omega) (by omega)
   rw [show lightM m L = decide (wtLM m L ≤ m) from by simp only [lightM]; rw [decide_eq_true (by omega), Bool.true_and]]
   refine Ev.congr (fun k => ?_) this
   rw [if_neg h]; rfl
theorem LightM_any (m : Nat) (hm : m ≤ 20000) (L : List It) (A : Option Addr) (c : Nat) (hc : L.length ≤ c) (w : World) (hC : Kd.C kIt w A L.length L) :
    Calls Tryz.prog 15 #[.slice A L.length c, .int .i64 (m : Int)] w fun e w' => e = .returned (.bool (lightM m L)) ∧ Below w.heap.size w w' := by
 obtain ⟨k, hk⟩ := (LightM_ev hm L).rounds
 exact gessoref14_Light.calls k A c L (m : Int) _ w hC hc hk
def exL : List It := [⟨-1, ⟨#[101, 204, 129]⟩, false, [65, 204, 138]⟩, ⟨-1, ⟨#[120, 255]⟩, false, [255]⟩]
def exT : List It := [⟨-1, ⟨#[195, 169]⟩, false, [195, 133]⟩, ⟨-1, ⟨#[120, 255]⟩, false, [255]⟩]
def exS : List It := [⟨-1, ⟨#[120, 255]⟩, false, [255]⟩, ⟨-1, ⟨#[195, 169]⟩, false, [195, 133]⟩]
theorem ex_f : codes [101, 204, 129] = some [101, 769] ∧ bytesL [233] = [195, 169] ∧ codes [120, 255] = none ∧ codes [65, 204, 138] = some [65, 778] ∧ bytesL [197] = [195, 133] ∧ codes [255] = none := by decide +kernel
theorem ex_t : comp (ordF (fullL [101, 769])) = [233] := by decide +kernel
theorem ex_u : nfc [101, 769] = [233] := by
 have h := ex_t
 rw [ordF_eq] at h; exact h
theorem ex_v : comp (ordF (fullL [65, 778])) = [197] := by decide +kernel
theorem ex_w : nfc [65, 778] = [197] := by
 have h := ex_v
 rw [ordF_eq] at h; exact h
theorem ex_1 : textB [101, 204, 129] = some [195, 169] := by
 obtain ⟨h1, h2, _⟩ := ex_f
 unfold textB
 rw [h1, Option.map_some, ex_u, h2]
theorem ex_2 : textB [120, 255] = none := by
 unfold textB
 rw [ex_f.2.2.1]; rfl
theorem ex_3 : textB [65, 204, 138] = some [195, 133] := by
 obtain ⟨_, _, _, h1, h2, _⟩ := ex_f
 unfold textB
 rw [h1, Option.map_some, ex_w, h2]
theorem ex_4 : textB [255] = none := by
 unfold textB
 rw [ex_f.2.2.2.2.2]; rfl
theorem ex_c : checkN exL = 0 := by kernel_rfl
theorem ex_wf : WfL exL := by
 intro x hx
 simp only [exL, List.mem_cons, List.not_mem_nil, or_false] at hx
 rcases hx with rfl | rfl <;> refine ⟨by decide, by decide, by decide, by decide, by decide⟩
theorem ex_cnt : cntN exL exL.length (-1) [195, 169] = 1 := by
 have h1 : cmB (itA exL ((0 : Nat) : Int)) = some [195, 169] := ex_1
 have h2 : cmB (itA exL ((1 : Nat) : Int)) = none := ex_2
 have s0 : cntN exL 0 (-1) [195, 169] = 0 := by simp [cntN]
 have s1 := cnt_snoc (L := exL) (n := 0) (by decide) (-1) [195, 169]
 have s2 := cnt_snoc (L := exL) (n := 1) (by decide) (-1) [195, 169]
 rw [if_pos ⟨rfl, h1⟩, s0] at s1
 rw [if_neg (fun h => by rw [h2] at h; cases h.2), s1] at s2
 exact s2
theorem ex_n0 : jNm exL (itA exL ((0 : Nat) : Int)) = (⟨#[195, 169]⟩, 0) :=
 jNm_fine (x := itA exL ((0 : Nat) : Int)) ex_1 (by decide) (by
  have h := ex_cnt
  show ¬ 1 < cntN exL exL.length (-1) [195, 169]
  omega)
theorem ex_n1 : jNm exL (itA exL ((1 : Nat) : Int)) = (⟨#[120, 255]⟩, 1) := jNm_none (x := itA exL ((1 : Nat) : Int)) ex_2
theorem ex_d0 : jDt (itA exL ((0 : Nat) : Int)) = ([195, 133], 0) := by
 have h : dOf [65, 204, 138] = ([195, 133], 0) := by unfold dOf; rw [ex_3]; rfl
 show (if false = true then (([], 0) : List Int × Int) else (i8s (dOf [65, 204, 138]).1, (dOf [65, 204, 138]).2)) = _
 rw [h]; rfl
theorem ex_d1 : jDt (itA exL ((1 : Nat) : Int)) = ([255], 4) := by
 have h : dOf [255] = ([255], 4) := by unfold dOf; rw [ex_4]
 show (if false = true then (([], 0) : List Int × Int) else (i8s (dOf [255]).1, (dOf [255]).2)) = _
 rw [h]; rfl
theorem ex_turn : turnL exL = exT := by
 have h0 : turnI exL (itA exL ((0 : Nat) : Int)) = ⟨-1, ⟨#[195, 169]⟩, false, [195, 133]⟩ := by
  unfold turnI
  rw [ex_n0, ex_d0]; rfl
 have h1 : turnI exL (itA exL ((1 : Nat) : Int)) = ⟨-1, ⟨#[120, 255]⟩, false, [255]⟩ := by
  unfold turnI
  rw [ex_n1, ex_d1]; rfl
 show [turnI exL (itA exL ((0 : Nat) : Int)), turnI exL (itA exL ((1 : Nat) : Int))] = _
 rw [h0, h1]; rfl
theorem ex_sort : sortL exT = exS := by kernel_rfl
theorem ex_ord : oL exT = [1, 0] := by kernel_rfl
theorem ex_tgt : tgtT exL = exS := by
 unfold tgtT
 rw [if_pos ex_c, ex_turn, ex_sort]
theorem ex_rep : ∃ p q : List ByteArray, repT exL = [⟨p, 1⟩, ⟨q, 4⟩] := by
 have h0 : lnL exL 0 = [] := by
  unfold lnL
  rw [show ((0 : Nat) : Int) = ((0 : Nat) : Int) from rfl, ex_n0, ex_d0]; rfl
 have h1 : lnL exL 1 = [⟨pathN (turnL exL) ((1 : Nat) : Int), 1⟩, ⟨pathN (turnL exL) ((1 : Nat) : Int), 4⟩] := by
  unfold lnL
  rw [ex_n1, ex_d1]; rfl
 refine ⟨pathN (turnL exL) ((1 : Nat) : Int), pathN (turnL exL) ((1 : Nat) : Int), ?_⟩
 unfold repT repL
 rw [if_pos ex_c]
 conv => lhs; rw [ex_turn]
 rw [ex_ord]
 show lnL exL 1 ++ (lnL exL 0 ++ []) = _
 rw [h0, h1]; rfl
def exW (w : World) : World := ((w.alloc (Obj.cells #[.int .u8 65, .int .u8 204, .int .u8 138] 5 (3, 4))).alloc (Obj.cells #[.int .u8 255] 5 (1, 2))).alloc (Obj.cells #[.int .i64 (-1), .string ⟨#[101, 204, 129]⟩, .bool false, .slice (some ⟨w.heap.size, 0, none⟩) 3 3, .int .i64 (-1), .string ⟨#[120, 255]⟩, .bool false, .slice (some ⟨w.heap.size + 1, 0, none⟩) 1 1] 53)
theorem ex_below (w : World) : Below w.heap.size w (exW w) := below_alloc (below_alloc (below_alloc (Below.refl _ _) _) _) _
theorem ex_cell (w : World) (i : Nat) {v : Value} (h : (#[.int .i64 (-1), .string ⟨#[101, 204, 129]⟩, .bool false, .slice (some ⟨w.heap.size, 0, none⟩) 3 3, .int .i64 (-1), .string ⟨#[120, 255]⟩, .bool false, .slice (some ⟨w.heap.size + 1, 0, none⟩) 1 1] : Array Value)[i]? = some v) : (exW w).cell? ⟨w.heap.size + 1 + 1, i, none⟩ = some v := by
 have hsz : ((w.alloc (Obj.cells #[.int .u8 65, .int .u8 204, .int .u8 138] 5 (3, 4))).alloc (Obj.cells #[.int .u8 255] 5 (1, 2))).heap.size = w.heap.size + 1 + 1 := by rw [World.size_alloc, World.size_alloc]
 rw [← hsz]
 exact cell_alloc_new _ _ _ _ _ h
theorem ex_b0 (w : World) (i : Nat) {v : Value} (h : (#[.int .u8 65, .int .u8 204, .int .u8 138] : Array Value)[i]? = some v) : (exW w).cell? ⟨w.heap.size, i, none⟩ = some v :=
 pw_cell_below (below_alloc (Below.refl _ _) _) (pw_cell_below (below_alloc (Below.refl _ _) _) (cell_alloc_new w _ _ _ _ h))
theorem ex_b1 (w : World) (i : Nat) {v : Value} (h : (#[.int .u8 255] : Array Value)[i]? = some v) : (exW w).cell? ⟨w.heap.size + 1, i, none⟩ = some v := by
 refine pw_cell_below (below_alloc (Below.refl _ _) _) ?_
 have hsz : (w.alloc (Obj.cells #[.int .u8 65, .int .u8 204, .int .u8 138] 5 (3, 4))).heap.size = w.heap.size + 1 := by rw [World.size_alloc]
 rw [← hsz]
 exact cell_alloc_new _ _ _ _ _ h
theorem ex_C (w : World) : Kd.C kIt (exW w) (some ⟨w.heap.size + 1 + 1, 0, none⟩) 2 exL := by
 refine ⟨rfl, by decide, fun _ => ⟨_, rfl, fun j p hj => ?_⟩⟩
 match j, hj with
 | 0, hj =>
  cases hj
  refine ⟨[.int .i64 (-1), .string ⟨#[101, 204, 129]⟩, .bool false, .slice (some ⟨w.heap.size, 0, none⟩) 3 3], rfl, k53_mk _ ⟨-1, ⟨#[101, 204, 129]⟩, false, [65, 204, 138]⟩ (Nat.le_refl _) ⟨rfl, by decide, fun _ => ⟨_, rfl, fun j p hj => ?_⟩⟩, fun i u hu => ?_⟩
  · match j, hj with
    | 0, hj =>
     cases hj
     refine ⟨[.int .u8 65], rfl, rfl, fun i u hu => ?_⟩
     match i, hu with
     | 0, hu => rw [add_at0]; exact ex_b0 w 0 hu
     | i + 1, hu => simp at hu
    | 1, hj =>
     cases hj
     refine ⟨[.int .u8 204], rfl, rfl, fun i u hu => ?_⟩
     match i, hu with
     | 0, hu => rw [add_at0]; exact ex_b0 w 1 hu
     | i + 1, hu => simp at hu
    | 2, hj =>
     cases hj
     refine ⟨[.int .u8 138], rfl, rfl, fun i u hu => ?_⟩
     match i, hu with
     | 0, hu => rw [add_at0]; exact ex_b0 w 2 hu
     | i + 1, hu => simp at hu
    | j + 3, hj => simp at hj
  · rw [add_at0]
    match i, hu with
    | 0, hu => exact ex_cell w 0 hu
    | 1, hu => exact ex_cell w 1 hu
    | 2, hu => exact ex_cell w 2 hu
    | 3, hu => exact ex_cell w 3 hu
    | i + 4, hu => simp at hu
 | 1, hj =>
  cases hj
  refine ⟨[.int .i64 (-1), .string ⟨#[120, 255]⟩, .bool false, .slice (some ⟨w.heap.size + 1, 0, none⟩) 1 1], rfl, k53_mk _ ⟨-1, ⟨#[120, 255]⟩, false, [255]⟩ (Nat.le_refl _) ⟨rfl, by decide, fun _ => ⟨_, rfl, fun j p hj => ?_⟩⟩, fun i u hu => ?_⟩
  · match j, hj with
    | 0, hj =>
     cases hj
     refine ⟨[.int .u8 255], rfl, rfl, fun i u hu => ?_⟩
     match i, hu with
     | 0, hu => rw [add_at0]; exact ex_b1 w 0 hu
     | i + 1, hu => simp at hu
    | j + 1, hj => simp at hj
  · rw [add_at0]
    match i, hu with
    | 0, hu => exact ex_cell w 4 hu
    | 1, hu => exact ex_cell w 5 hu
    | 2, hu => exact ex_cell w 6 hu
    | 3, hu => exact ex_cell w 7 hu
    | i + 4, hu => simp at hu
 | j + 2, hj => simp [exL] at hj
theorem ex_cap (w : World) : CapR (exW w) (some ⟨w.heap.size + 1 + 1, 0, none⟩) 2 := by
 intro j hj
 match j, hj with
 | 0, _ => exact ⟨_, some ⟨w.heap.size, 0, none⟩, 3, 3, rfl, by rw [add_at0]; exact ex_cell w 3 rfl, by decide, nofun⟩
 | 1, _ => exact ⟨_, some ⟨w.heap.size + 1, 0, none⟩, 1, 1, rfl, by rw [add_at0]; exact ex_cell w 7 rfl, by decide, nofun⟩
theorem ex_cells {W : World} {base g n c : Nat} {ok : Nat → Prop} (h : Kd.R kIt 53 W base ok (.slice (some ⟨g, 0, none⟩) n c) exS) :
    W.cell? ⟨g, 5, none⟩ = some (.string ⟨#[195, 169]⟩) ∧ ∃ A3 c3, W.cell? ⟨g, 7, none⟩ = some (.slice A3 2 c3) ∧ (Kd.int .u8).C W A3 2 [195, 133] := by
 obtain ⟨cs, hM, hc⟩ := r_at h 1 (by decide)
 obtain ⟨v3, rfl, h3⟩ := k53_openM hM
 obtain ⟨A3, c3, rfl⟩ := Kd.R_slice h3
 exact ⟨(hc 1 _ rfl).1, A3, c3, (hc 3 _ rfl).1, (Kd.R_reads' h3).2.2⟩
theorem awake16_any (w : World) (ht : Tz w) (hu : Ut w) : Calls Tryz.prog 25 #[] w fun e w' => e = .returned (.bool true) ∧ Below w.heap.size w w' := by
 have hu41 := Tryz.underlying53
 have hu22 := Tryz.underlying22
 have k1 := fun (W : World) => run_convert_bytes_const (P := Tryz.prog) W 46 5 #[.int .u8 65, .int .u8 204, .int .u8 138] 3 3 Tryz.underlying46 Tryz.underlying5
 have k2 := run_convert_bytes_const (P := Tryz.prog) (w.alloc (Obj.cells #[.int .u8 65, .int .u8 204, .int .u8 138] 5 (3, 4))) 46 5 #[.int .u8 255] 1 1 Tryz.underlying46 Tryz.underlying5
 rw [World.size_alloc] at k2
 go_enter Tryz.func25, Tryz.ntmps25
 have HTg := Target_any exL (some ⟨w.heap.size + 1 + 1, 0, none⟩) 2 (exW w) (tz_below ht (ex_below w)) (hu.gr (ex_below w)) (ex_C w) (ex_cap w) ex_wf
 have HRp := fun W (B : Below (exW w).heap.size (exW w) W) => Report_any exL (some ⟨w.heap.size + 1 + 1, 0, none⟩) 2 W (tz_below ht ((ex_below w).trans (B.mono (ex_below w).size))) (hu.gr ((ex_below w).trans (B.mono (ex_below w).size))) (Kd.C_below (ex_C w) B) (CapR.below (ex_cap w) B) ex_wf
 rw [ex_tgt, ex_c] at HTg
 obtain ⟨p, q, hr⟩ := ex_rep
 rw [hr, ex_c] at HRp
 have HTg2 : Calls Tryz.prog 20 #[.slice (some ⟨w.heap.size + 1 + 1, 0, none⟩) 2 2] (exW w) fun e w4 => ∃ g4 c4, e = .returned (.tuple #[.slice (some ⟨g4, 0, none⟩) 2 c4, .int .i64 0]) ∧ Kd.R kIt 53 w4 (exW w).heap.size (fun _ => True) (.slice (some ⟨g4, 0, none⟩) 2 c4) exS ∧ Below (exW w).heap.size (exW w) w4 := HTg.mono fun e w4 h => by
  obtain ⟨v4, rfl, hr4, hb4⟩ := h
  obtain ⟨g4, c4, e4, _⟩ := Kd.R_form hr4 (by decide)
  subst e4
  exact ⟨g4, c4, rfl, hr4, hb4⟩
 have HRp2 : ∀ W, Below (exW w).heap.size (exW w) W → Calls Tryz.prog 29 #[.slice (some ⟨w.heap.size + 1 + 1, 0, none⟩) 2 2] W fun e w5 => ∃ b5 o5 c5, e = .returned (.tuple #[.slice (some ⟨b5, o5, none⟩) 2 c5, .int .i64 0]) ∧ w5.cell? ⟨b5, o5 + 1, none⟩ = some (.int .u8 1) ∧ w5.cell? ⟨b5, o5 + 2 + 1, none⟩ = some (.int .u8 4) ∧ Below W.heap.size W w5 := fun W B => (HRp W B).mono fun e w5 h => by
  obtain ⟨A5, c5, rfl, _, hC5, hb5⟩ := h
  obtain ⟨ad, A2, c2, hA, x0, x1⟩ := at_T90 hC5 ((0 : Nat) : Int) (by decide) (by simp)
  obtain ⟨ad', A3, c3, hA', _, x3⟩ := at_T90 hC5 ((1 : Nat) : Int) (by decide) (by simp)
  subst hA
  cases hA'
  obtain ⟨b5, o5, sp⟩ := ad
  have hs : sp = none := World.cell?_spot x0
  subst hs
  exact ⟨b5, o5, c5, rfl, x1.1, x3.1, hb5⟩
 clear HTg HRp hr
 go_wp2_with (first
  | (go_at_call 20; refine HTg2.mono ?_; rintro e w4 ⟨g4, c4, rfl, hr4, hb4⟩)
  | (go_at_call 29; refine (HRp2 _ hb4).mono ?_; rintro e w5 ⟨b5, o5, c5, rfl, n1, n2, hb5⟩; have n3 : w5.cell? ⟨b5, o5 + 3, none⟩ = some (.int .u8 4) := n2; obtain ⟨x1, A3, c3, x2, x3⟩ := ex_cells (Kd.R_below hr4 hb5); have cv := Kd.C_string (P := Tryz.prog) (w := w5) (A := A3) (c := c3) Tryz.underlying46 Tryz.underlying5 Tryz.underlying9 x3; rw [show strOfNums [195, 133] = ⟨#[195, 133]⟩ from by kernel_rfl] at cv; have hb50 := (ex_below w).trans ((hb4.trans (hb5.mono hb4.size)).mono (ex_below w).size)))
 go_ret
 exact ⟨rfl, hb50⟩
end Go.Proofs.YthlflglkdaainaaGreatDoor.Tr
namespace Go.Proofs.YthlflglkdaainaaGreatDoor.Tr
open Go.RowKit Go.Lib Go.Maps Go.Proofs.YthlflglkdaainaaGreatDoorW.PrintWords Go.Proofs.YthlflglkdaainaaGreatDoorW.PrintLast Go.Proofs.YthlflglkdaainaaGreatDoorW.PrintMore Go.Proofs.YthlflglkdaainaaGreatDoor.Prt
def dirN (M : List It) (i : Nat) : Nat := (M.take i).countP (·.f2)
theorem dirN_le (M : List It) (i : Nat) : dirN M i ≤ i := by
 unfold dirN
 exact Nat.le_trans List.countP_le_length (by rw [List.length_take]; omega)
theorem dirN_snoc {M : List It} {i : Nat} (hi : i < M.length) : dirN M (i + 1) = dirN M i + if (itA M (i : Int)).f2 then 1 else 0 := by
 unfold dirN
 rw [List.take_succ_eq_append_getElem hi, List.countP_append, itA_get hi]
 simp [List.countP_singleton]
theorem dirN_sort (L : List It) : dirN (sortL (turnL L)) L.length = dirN L L.length := by
 unfold dirN
 rw [List.take_of_length_le (by rw [sortL_len, turn_len]; exact Nat.le_refl _), List.take_length]
 unfold sortL
 rw [List.countP_map, (oL_perm (turnL L)).countP_eq]
 have e : (turnL L).countP (·.f2) = ((List.range (turnL L).length).map (fun j : Nat => itA (turnL L) (j : Int))).countP (·.f2) := by rw [map_itA]
 have e2 : (turnL L).countP (·.f2) = L.countP (·.f2) := by
  unfold turnL
  rw [List.countP_map]; rfl
 rw [← e2, e, List.countP_map]
 rfl
theorem sort_wf {L : List It} (hwf : WfL L) (h0 : checkN L = 0) : WfL (sortL (turnL L)) := by
 intro x hx
 obtain ⟨k, hk, rfl⟩ := List.mem_map.1 hx
 rw [oL_mem] at hk
 have hwt := turn_wf hwf h0 _ (List.getElem_mem hk)
 rw [← itA_get hk] at hwt
 obtain ⟨a1, a2, a3, a4, a5⟩ := hwt
 refine ⟨?_, ?_, a3, a4, a5⟩
 · show -9223372036854775808 ≤ (if (itA (turnL L) (k : Int)).f0 = -1 then -1 else posI (turnL L) (itA (turnL L) (k : Int)).f0)
   unfold posI
   split <;> omega
 · show (if (itA (turnL L) (k : Int)).f0 = -1 then -1 else posI (turnL L) (itA (turnL L) (k : Int)).f0) ≤ 9223372036854775807
   have hl64 := (check_ok (turn14 h0)).1
   have h1 := List.idxOf_le_length (l := oL (turnL L)) (a := (itA (turnL L) (k : Int)).f0.toNat)
   rw [oL_len] at h1
   unfold posI
   split <;> omega
set_option maxHeartbeats 16000000 in
theorem tree_ok (L : List It) (A : Option Addr) (c : Nat) (hc : L.length ≤ c) (w : World) (ht : Tz w) (hu : Ut w) (hC : Kd.C kIt w A L.length L) (hcap : CapR w A L.length) (hwf : WfL L) (hli : lightM 1000 L = true) (h0 : checkN L = 0) :
    Calls Tryz.prog 10 #[.slice A L.length c] w fun e w' => e = .returned (.bool true) ∧ Below w.heap.size w w' := by
 have hu53 := Tryz.underlying53
 have HL := LightM_any 1000 (by decide) L A c hc w hC
 simp only [Int.cast_ofNat_Int] at HL
 rw [hli] at HL
 have HAw := Aside0.mk (fun W (B : Below w.heap.size w W) => awake16_any W (tz_below ht B) (hu.gr B))
 have HT := fun W (B : Below w.heap.size w W) => target_ok L A c W (tz_below ht B) (hu.gr B) (Kd.C_below hC B) (CapR.below hcap B) hwf h0
 have HR := fun W (B : Below w.heap.size w W) => report_ok L A c W (tz_below ht B) (hu.gr B) (Kd.C_below hC B) (CapR.below hcap B) hwf h0
 obtain ⟨S, hS⟩ : ∃ S, sortL (turnL L) = S := ⟨_, rfl⟩
 have hSl : S.length = L.length := by rw [← hS, sortL_len, turn_len]
 have hdir := dirN_sort L
 rw [hS] at HT hdir
 have hcS : checkN S = 0 := by rw [← hS]; exact sort_res h0
 have hwS : WfL S := by rw [← hS]; exact sort_wf hwf h0
 have hl64 := (check_ok (show checkN L ≠ 14 by rw [h0]; decide)).1
 have hrl : (repL L).length ≤ 2 * L.length := by
  have := acc_len L L.length
  rwa [acc_all] at this
 have HK := fun W A4 c4 (h1 : S.length ≤ c4) (h2 : Kd.C kIt W A4 S.length S) => check_any S A4 c4 W h2 hwS
 rw [hcS] at HK
 have HC := Aside0.mk hC
 have HL := Aside0.mk HL
 have HT2 : Aside0 (∀ W, Below w.heap.size w W → Calls Tryz.prog 20 #[.slice A L.length c] W fun e w' => ∃ A4 c4, e = .returned (.tuple #[.slice A4 L.length c4, .int .i64 0]) ∧ L.length ≤ c4 ∧ Aside0 (Kd.C kIt w' A4 L.length S) ∧ Below W.heap.size W w') := ⟨fun W B => (HT W B).mono fun e w' h => by
  obtain ⟨v, rfl, h1, h2⟩ := h
  obtain ⟨A4, c4, rfl⟩ := Kd.R_slice h1
  obtain ⟨_, h3, h4⟩ := Kd.R_reads' h1
  rw [hSl] at h3 h4 ⊢
  exact ⟨A4, c4, rfl, h3, ⟨h4⟩, h2⟩⟩
 rw [hSl] at HK
 have HK := Aside0.mk HK
 have HSl := Aside0.mk hSl
 have HR := Aside0.mk HR
 have Hdir := Aside0.mk hdir
 generalize (repL L).length = rn at HR hrl
 have hr1 : (rn : Int) ≤ 2 * (L.length : Int) := by omega
 clear hC hcap hwf ht hu hli HT hS hSl hcS hwS hdir h0
 go_enter Tryz.func10, Tryz.ntmps10
 go_wp2_with (first
  | (go_at_call 15; with_reducible refine HL.out.mono ?_; rintro e w1 ⟨rfl, hb1⟩)
  | (go_at_call 20; with_reducible refine (HT2.out _ hb1).mono ?_; rintro e w2 ⟨A4, c4, rfl, l4, r4, hb2⟩; have hb20 := hb1.trans (hb2.mono hb1.size))
  | (go_at_call 29; with_reducible refine (HR.out _ hb20).mono ?_; rintro e w3 ⟨A5, c5, rfl, l5, r5, hb3⟩; have hb30 := hb20.trans (hb3.mono hb20.size)))
 have RT := Aside0.mk (Kd.C_below r4.out hb3)
 have HB3 := Aside0.mk hb30
 clear HL HT2 HR r4 r5 l5 hb1 hb2 hb3 hb20 hb30
 go_loopg [7, 8, 9] L.length (fun gg v7 v8 v9 wr => ∃ i : Nat, i ≤ L.length ∧ L.length - i ≤ gg ∧ v9 = .int .i64 i ∧ v7 = .int .i64 (dirN L i : Nat) ∧ v8 = .int .i64 (dirN S i : Nat) ∧ Aside0 (Below w3.heap.size w3 wr))
 case atStart => exact ⟨0, Nat.zero_le _, by omega, rfl, rfl, rfl, ⟨Below.refl _ _⟩⟩
 case round =>
  obtain ⟨i, hi, hg, rfl, rfl, rfl, HI⟩ := hrel
  by_cases hlt : i < L.length
  · have hltz : (i : Int) < (L.length : Int) := by omega
    obtain ⟨ad, A6, c6, hA, _, _, y2, _, _, _⟩ := at_T53 (Kd.C_below HC.out (HB3.out.trans (HI.out.mono HB3.out.size))) (i : Int) (by omega) hltz
    obtain ⟨ad2, A7, c7, hA2, _, _, z2, _, _, _⟩ := at_T53 (Kd.C_below RT.out HI.out) (i : Int) (by omega) hltz
    rw [Int.toNat_natCast] at y2 z2
    have d1 := dirN_snoc (M := L) hlt
    have d2 := dirN_snoc (M := S) (i := i) (by rw [HSl.out]; exact hlt)
    have e1 := dirN_le L i
    have e2 := dirN_le S i
    subst hA
    subst hA2
    have D1 := Aside0.mk d1
    have D2 := Aside0.mk d2
    generalize dirN L i = m1 at D1 e1 ⊢
    generalize dirN S i = m2 at D2 e2 ⊢
    clear d1 d2
    cases h1 : (itA L (i : Int)).f2
    all_goals (cases h2 : (itA S (i : Int)).f2)
    all_goals
     rw [h1] at y2 D1
     rw [h2] at z2 D2
     clear h1 h2
     go_wp2
     go_roundg (L.length - (i + 1))
     case measure => omega
     case rel => exact ⟨i + 1, by omega, by omega, by go_num, by first | (rw [D1.out]; simp; done) | (rw [D1.out]; rfl), by first | (rw [D2.out]; simp; done) | (rw [D2.out]; rfl), HI⟩
  · obtain rfl : i = L.length := by omega
    have hd : ((dirN L L.length : Nat) : Int) = ((dirN S L.length : Nat) : Int) := by rw [Hdir.out]
    have hdb : (((dirN L L.length : Nat) : Int) == ((dirN S L.length : Nat) : Int)) = true := by rw [hd]; exact beq_self_eq_true _
    have hlb : ((L.length : Int) == (L.length : Int)) = true := beq_self_eq_true _
    generalize dirN L L.length = m1 at hdb ⊢
    generalize dirN S L.length = m2 at hdb ⊢
    have HB4 := Aside0.mk (HB3.out.trans (HI.out.mono HB3.out.size))
    have HK1 := HK.out wr A4 c4 l4 (Kd.C_below RT.out HI.out)
    clear hd HI
    go_wp2_with (first
     | (go_at_call 18; with_reducible refine HK1.mono ?_; rintro e w6 ⟨rfl, hb6⟩; have hb60 := HB4.out.trans (hb6.mono HB4.out.size))
     | (go_at_call 25; with_reducible refine (HAw.out _ hb60).mono ?_; rintro e w7 ⟨rfl, hb7⟩))
    go_ret
    exact ⟨rfl, hb60.trans (hb7.mono hb60.size)⟩
theorem verdictTree_walk (L : List It) (A : Option Addr) (c : Nat) (hc : L.length ≤ c) (w : World) (ht : Tz w) (hu : Ut w) (hC : Kd.C kIt w A L.length L) (hcap : CapR w A L.length) (hwf : WfL L) :
    Calls Tryz.prog 10 #[.slice A L.length c] w fun e w' => e = .returned (.bool true) ∧ Below w.heap.size w w' := by
 have HL := LightM_any 1000 (by decide) L A c hc w hC
 simp only [Int.cast_ofNat_Int] at HL
 have HAw := fun W (B : Below w.heap.size w W) => awake16_any W (tz_below ht B) (hu.gr B)
 cases hli : lightM 1000 L with
 | false =>
  rw [hli] at HL
  have HL := Aside0.mk HL
  have HAw := Aside0.mk HAw
  clear hC hcap hwf ht hu
  go_enter Tryz.func10, Tryz.ntmps10
  go_wp2_with (first
   | (go_at_call 15; with_reducible refine HL.out.mono ?_; rintro e w1 ⟨rfl, hb1⟩)
   | (go_at_call 25; with_reducible refine (HAw.out _ hb1).mono ?_; rintro e w2 ⟨rfl, hb2⟩))
  go_ret
  exact ⟨rfl, hb1.trans (hb2.mono hb1.size)⟩
 | true =>
  by_cases h0 : checkN L = 0
  · exact tree_ok L A c hc w ht hu hC hcap hwf hli h0
  · rw [hli] at HL
    have HT := fun W (B : Below w.heap.size w W) => Target_any L A c W (tz_below ht B) (hu.gr B) (Kd.C_below hC B) (CapR.below hcap B) hwf
    have HR := fun W (B : Below w.heap.size w W) => Report_any L A c W (tz_below ht B) (hu.gr B) (Kd.C_below hC B) (CapR.below hcap B) hwf
    have hj : tgtT L = [] := if_neg h0
    have hj2 : repT L = [] := if_neg h0
    rw [hj] at HT
    rw [hj2] at HR
    have HT2 : ∀ W, Below w.heap.size w W → Calls Tryz.prog 20 #[.slice A L.length c] W fun e w' => ∃ A4 c4, e = .returned (.tuple #[.slice A4 0 c4, .int .i64 (checkN L)]) ∧ Below W.heap.size W w' := fun W B => (HT W B).mono fun e w' h => by
     obtain ⟨v, rfl, h1, h2⟩ := h
     obtain ⟨A4, c4, rfl⟩ := Kd.R_slice h1
     exact ⟨A4, c4, rfl, h2⟩
    have HR2 : ∀ W, Below w.heap.size w W → Calls Tryz.prog 29 #[.slice A L.length c] W fun e w' => ∃ A4 c4, e = .returned (.tuple #[.slice A4 0 c4, .int .i64 (checkN L)]) ∧ Below W.heap.size W w' := fun W B => (HR W B).mono fun e w' h => by
     obtain ⟨A4, c4, rfl, _, _, h2⟩ := h
     exact ⟨A4, c4, rfl, h2⟩
    have hne : (checkN L != 0) = true := by simpa using h0
    have hee : (checkN L == checkN L) = true := beq_self_eq_true _
    generalize checkN L = y at HT2 HR2 hne hee
    have HL := Aside0.mk HL
    have HT2 := Aside0.mk HT2
    have HR2 := Aside0.mk HR2
    have HAw := Aside0.mk HAw
    clear hC hcap hwf ht hu hli h0 hj hj2 HT HR
    go_enter Tryz.func10, Tryz.ntmps10
    go_wp2_with (first
     | (go_at_call 15; with_reducible refine HL.out.mono ?_; rintro e w1 ⟨rfl, hb1⟩)
     | (go_at_call 20; with_reducible refine (HT2.out _ hb1).mono ?_; rintro e w2 ⟨A4, c4, rfl, hb2⟩; have hb20 := hb1.trans (hb2.mono hb1.size))
     | (go_at_call 29; with_reducible refine (HR2.out _ hb20).mono ?_; rintro e w3 ⟨A5, c5, rfl, hb3⟩; have hb30 := hb20.trans (hb3.mono hb20.size))
     | (go_at_call 25; with_reducible refine (HAw.out _ hb30).mono ?_; rintro e w4 ⟨rfl, hb4⟩))
    go_ret
    exact ⟨rfl, hb30.trans (hb4.mono hb30.size)⟩
set_option maxHeartbeats 16000000 in
theorem again_ok (L : List It) (A : Option Addr) (c : Nat) (hc : L.length ≤ c) (w : World) (ht : Tz w) (hu : Ut w) (hC : Kd.C kIt w A L.length L) (hcap : CapR w A L.length) (hwf : WfL L) (hli : lightM 1000 L = true) (h0 : checkN L = 0) :
    Calls Tryz.prog 9 #[.slice A L.length c] w fun e w' => e = .returned (.bool true) ∧ Below w.heap.size w w' := by
 have HL := LightM_any 1000 (by decide) L A c hc w hC
 simp only [Int.cast_ofNat_Int] at HL
 rw [hli] at HL
 have HAw := Aside0.mk (fun W (B : Below w.heap.size w W) => awake16_any W (tz_below ht B) (hu.gr B))
 have HT := fun W (B : Below w.heap.size w W) => target_ok L A c W (tz_below ht B) (hu.gr B) (Kd.C_below hC B) (CapR.below hcap B) hwf h0
 have HR := fun W (B : Below w.heap.size w W) => report_ok L A c W (tz_below ht B) (hu.gr B) (Kd.C_below hC B) (CapR.below hcap B) hwf h0
 obtain ⟨S, hS⟩ : ∃ S, sortL (turnL L) = S := ⟨_, rfl⟩
 have hSl : S.length = L.length := by rw [← hS, sortL_len, turn_len]
 rw [hS] at HT
 have hcS : checkN S = 0 := by rw [← hS]; exact sort_res h0
 have hwS : WfL S := by rw [← hS]; exact sort_wf hwf h0
 have htS : sortL (turnL S) = S := by rw [← hS, turn_sort h0, sort_again (turn14 h0)]
 have hrS : repL S = repL L := by rw [← hS]; exact rep_again h0
 have HT3 := fun W A4 c4 (B : Below w.heap.size w W) (h1 : Kd.C kIt W A4 S.length S) (h2 : CapR W A4 S.length) => target_ok S A4 c4 W (tz_below ht B) (hu.gr B) h1 h2 hwS hcS
 have HR3 := fun W A4 c4 (B : Below w.heap.size w W) (h1 : Kd.C kIt W A4 S.length S) (h2 : CapR W A4 S.length) => report_ok S A4 c4 W (tz_below ht B) (hu.gr B) h1 h2 hwS hcS
 rw [htS] at HT3
 rw [hrS] at HR3
 have hwB : WfB S := ⟨by have := (check_ok (show checkN S ≠ 14 by rw [hcS]; decide)).1; omega, fun x hx => (hwS x hx).2.2.2.1⟩
 have HEq := fun W A4 c4 A5 c5 (h1 : S.length ≤ c4) (h2 : S.length ≤ c5) (h3 : Kd.C kIt W A4 S.length S) (h4 : Kd.C kIt W A5 S.length S) => REqual_any hwB hwB A4 A5 c4 c5 h1 h2 W h3 h4
 rw [eqL_refl] at HEq
 have hrep : (repL L).length ≤ 100000 ∧ ∀ x ∈ repL L, x.f0.length ≤ 100000 := by
  have := rep_paths (L := L)
  unfold repT at this
  rwa [if_pos h0] at this
 have HSL := fun W A3 c3 A4 c4 (h1 : (repL L).length ≤ c3) (h2 : (repL L).length ≤ c4) (h3 : Kd.C kLn W A3 (repL L).length (repL L)) (h4 : Kd.C kLn W A4 (repL L).length (repL L)) => SameLines_any (repL L) hrep.1 hrep.2 A3 A4 c3 c4 h1 h2 W h3 h4
 generalize repL L = X at HR HR3 HSL
 have back : ∀ W (v : Value) base ok, Kd.R kIt 53 W base ok v S → ∃ A4 c4, v = .slice A4 S.length c4 ∧ S.length ≤ c4 ∧ Kd.C kIt W A4 S.length S ∧ CapR W A4 S.length := fun W v base ok h => by
  obtain ⟨A4, c4, rfl⟩ := Kd.R_slice h
  obtain ⟨_, h3, h4⟩ := Kd.R_reads' h
  exact ⟨A4, c4, rfl, h3, h4, cap_of_R h⟩
 have HT2 : Aside0 (∀ W, Below w.heap.size w W → Calls Tryz.prog 20 #[.slice A L.length c] W fun e w' => ∃ A4 c4, e = .returned (.tuple #[.slice A4 S.length c4, .int .i64 0]) ∧ S.length ≤ c4 ∧ Aside0 (Kd.C kIt w' A4 S.length S ∧ CapR w' A4 S.length) ∧ Below W.heap.size W w') := ⟨fun W B => (HT W B).mono fun e w' h => by
  obtain ⟨v, rfl, h1, h2⟩ := h
  obtain ⟨A4, c4, rfl, h3, h4⟩ := back _ _ _ _ h1
  exact ⟨A4, c4, rfl, h3, ⟨h4⟩, h2⟩⟩
 have HT4 : Aside0 (∀ W A4 c4, Below w.heap.size w W → Kd.C kIt W A4 S.length S → CapR W A4 S.length → Calls Tryz.prog 20 #[.slice A4 S.length c4] W fun e w' => ∃ A5 c5, e = .returned (.tuple #[.slice A5 S.length c5, .int .i64 0]) ∧ S.length ≤ c5 ∧ Aside0 (Kd.C kIt w' A5 S.length S ∧ CapR w' A5 S.length) ∧ Below W.heap.size W w') := ⟨fun W A4 c4 B q1 q2 => (HT3 W A4 c4 B q1 q2).mono fun e w' h => by
  obtain ⟨v, rfl, h1, h2⟩ := h
  obtain ⟨A5, c5, rfl, h3, h4⟩ := back _ _ _ _ h1
  exact ⟨A5, c5, rfl, h3, ⟨h4⟩, h2⟩⟩
 have HL := Aside0.mk HL
 have HR := Aside0.mk HR
 have HR3 := Aside0.mk HR3
 have HEq := Aside0.mk HEq
 have HSL := Aside0.mk HSL
 clear hC hcap hwf ht hu hli HT HT3 hS hSl hcS hwS h0 htS hrS hwB hrep back
 generalize S.length = n at *
 go_enter Tryz.func9, Tryz.ntmps9
 go_wp2_with (first
  | (go_at_call 15; with_reducible refine HL.out.mono ?_; rintro e w1 ⟨rfl, hb1⟩)
  | (go_at_call 20; with_reducible refine (HT2.out w1 hb1).mono ?_; rintro e w2 ⟨A4, c4, rfl, l4, r4, hb2⟩; have hb20 := hb1.trans (hb2.mono hb1.size); have HT5 := HT4.out w2 A4 c4 hb20 r4.out.1 r4.out.2)
  | (go_at_call 20; with_reducible refine HT5.mono ?_; rintro e w3 ⟨A5, c5, rfl, l5, r5, hb3⟩; have hb30 := hb20.trans (hb3.mono hb20.size); have HR1 := HR.out w3 hb30)
  | (go_at_call 29; with_reducible refine HR1.mono ?_; rintro e w4 ⟨A6, c6, rfl, l6, r6, hb4⟩; have hb40 := hb30.trans (hb4.mono hb30.size); have hb24 := hb3.trans (hb4.mono hb3.size); have HR4 := HR3.out w4 A4 c4 hb40 (Kd.C_below r4.out.1 hb24) (CapR.below r4.out.2 hb24))
  | (go_at_call 29; with_reducible refine HR4.mono ?_; rintro e w5 ⟨A7, c7, rfl, l7, r7, hb5⟩; have hb50 := hb40.trans (hb5.mono hb40.size); have hb25 := hb24.trans (hb5.mono hb24.size); have hb35 := hb4.trans (hb5.mono hb4.size); have HE1 := HEq.out w5 A4 c4 A5 c5 l4 l5 (Kd.C_below r4.out.1 hb25) (Kd.C_below r5.out.1 hb35); have R6 := Aside0.mk (Kd.C_below r6 hb5); have R7 := Aside0.mk r7; clear r6 r7)
  | (go_at_call 22; with_reducible refine HE1.mono ?_; rintro e w6 ⟨rfl, hd6⟩; have hb6 := hd6.below; have hb60 := hb50.trans (hb6.mono hb50.size); have HS1 := HSL.out w6 A6 c6 A7 c7 l6 l7 (Kd.C_below R6.out hb6) (Kd.C_below R7.out hb6))
  | (go_at_call 31; with_reducible refine HS1.mono ?_; rintro e w7 ⟨rfl, hb7⟩; have hb70 := hb60.trans (hb7.mono hb60.size))
  | (go_at_call 25; with_reducible refine (HAw.out _ hb70).mono ?_; rintro e w8 ⟨rfl, hb8⟩))
 go_ret
 exact ⟨rfl, hb70.trans (hb8.mono hb70.size)⟩
theorem verdictAgain_walk (L : List It) (A : Option Addr) (c : Nat) (hc : L.length ≤ c) (w : World) (ht : Tz w) (hu : Ut w) (hC : Kd.C kIt w A L.length L) (hcap : CapR w A L.length) (hwf : WfL L) :
    Calls Tryz.prog 9 #[.slice A L.length c] w fun e w' => e = .returned (.bool true) ∧ Below w.heap.size w w' := by
 have HL := LightM_any 1000 (by decide) L A c hc w hC
 simp only [Int.cast_ofNat_Int] at HL
 have HAw := fun W (B : Below w.heap.size w W) => awake16_any W (tz_below ht B) (hu.gr B)
 cases hli : lightM 1000 L with
 | false =>
  rw [hli] at HL
  have HL := Aside0.mk HL
  have HAw := Aside0.mk HAw
  clear hC hcap hwf ht hu
  go_enter Tryz.func9, Tryz.ntmps9
  go_wp2_with (first
   | (go_at_call 15; with_reducible refine HL.out.mono ?_; rintro e w1 ⟨rfl, hb1⟩)
   | (go_at_call 25; with_reducible refine (HAw.out _ hb1).mono ?_; rintro e w2 ⟨rfl, hb2⟩))
  go_ret
  exact ⟨rfl, hb1.trans (hb2.mono hb1.size)⟩
 | true =>
  by_cases h0 : checkN L = 0
  · exact again_ok L A c hc w ht hu hC hcap hwf hli h0
  · rw [hli] at HL
    have HT := fun W (B : Below w.heap.size w W) => Target_any L A c W (tz_below ht B) (hu.gr B) (Kd.C_below hC B) (CapR.below hcap B) hwf
    have HK := fun W (B : Below w.heap.size w W) => check_any L A c W (Kd.C_below hC B) hwf
    have hj : tgtT L = [] := if_neg h0
    rw [hj] at HT
    have HT2 : ∀ W, Below w.heap.size w W → Calls Tryz.prog 20 #[.slice A L.length c] W fun e w' => ∃ A4 c4, e = .returned (.tuple #[.slice A4 0 c4, .int .i64 (checkN L)]) ∧ Below W.heap.size W w' := fun W B => (HT W B).mono fun e w' h => by
     obtain ⟨v, rfl, h1, h2⟩ := h
     obtain ⟨A4, c4, rfl⟩ := Kd.R_slice h1
     exact ⟨A4, c4, rfl, h2⟩
    have hne : (checkN L != 0) = true := by simpa using h0
    have hee : (checkN L == checkN L) = true := beq_self_eq_true _
    generalize checkN L = y at HT2 HK hne hee
    have HL := Aside0.mk HL
    have HT2 := Aside0.mk HT2
    have HK := Aside0.mk HK
    have HAw := Aside0.mk HAw
    clear hC hcap hwf ht hu hli h0 hj HT
    go_enter Tryz.func9, Tryz.ntmps9
    go_wp2_with (first
     | (go_at_call 15; with_reducible refine HL.out.mono ?_; rintro e w1 ⟨rfl, hb1⟩)
     | (go_at_call 20; with_reducible refine (HT2.out _ hb1).mono ?_; rintro e w2 ⟨A4, c4, rfl, hb2⟩; have hb20 := hb1.trans (hb2.mono hb1.size))
     | (go_at_call 18; with_reducible refine (HK.out _ hb20).mono ?_; rintro e w3 ⟨rfl, hb3⟩; have hb30 := hb20.trans (hb3.mono hb20.size))
     | (go_at_call 25; with_reducible refine (HAw.out _ hb30).mono ?_; rintro e w4 ⟨rfl, hb4⟩))
    go_ret
    exact ⟨rfl, hb30.trans (hb4.mono hb30.size)⟩
end Go.Proofs.YthlflglkdaainaaGreatDoor.Tr
