import Derived.Deep.Slices
import Derived.Lib.SmallJoins
import Derived.ChangeSlices
import Derived.Lib.SlBytesConst
import Derived.Lib.IndexLaws
import Derived.Shelf.Small.Strs
import Derived.Maps.OwnSet
import Derived.DeepKeys4
import Derived.Test.YthlflglkdaainaaGreatDoorChecked
import Derived.Ground.SlsfProg
import Derived.Shelf.SlSortCmp.NoneTotal
import Derived.Shelf.SlicesE.Clone
import Derived.Laws.CopyRow
import Derived.Laws.CopyOwn
import Derived.Deep.RegionHeld3
import Derived.Test.YthlflglkdaainaaGreatDoorZRT
/- Texts of this seat: TIt, TThree, TRight, TCont, TDep, TDepW, TCheck, TPath, TRs, TCmp, TClos, TLayS, TOrd, TSortF, TInj, TSrt, TSo, TMk, TRef, TRef2, TRef3, TLess, TClone, TCopy, TSort, TEq, TEqF, TSame, TRSort, TREq, TLight, TAw14, TCon, TOrdr, TRk. -/
set_option maxRecDepth 100000
set_option maxHeartbeats 16000000
namespace Go.Proofs.YthlflglkdaainaaGreatDoor.Tr
open Go.RowKit Go.Lib Go.Joins Go.ChangeShapes Go.Deep Go.Proofs.YthlflglkdaainaaGreatDoorW.aN Go.Proofs.YthlflglkdaainaaGreatDoor.Prt
abbrev It := S53
abbrev kIt : Kd It := k53
abbrev zIt : It := z53
abbrev itA (L : List It) (i : Int) : It := aj L i
def WfIt (x : It) : Prop := -9223372036854775808 ≤ x.f0 ∧ x.f0 ≤ 9223372036854775807 ∧ x.f1.size ≤ maxLen ∧ (∀ b ∈ x.f3, 0 ≤ b ∧ b ≤ 255) ∧ x.f3.length ≤ maxLen
def WfL (L : List It) : Prop := ∀ x ∈ L, WfIt x
theorem PD {H : Type} {enc : TypeId × Value → H} {w : World} {base : Nat} {spare held : _} {fuel : Nat} {cs : List Value} {x : DataW H × List MemPlace}
    (h : DataW.trod enc Tryz.prog w base spare held fuel 46 cs = some x) :
    ∃ A c xs, cs = [.slice A xs.length c] ∧ xs.length ≤ c ∧ (Kd.int .u8).C w A xs.length xs ∧ (∀ b ∈ xs, 0 ≤ b ∧ b ≤ 255) ∧ xs.length ≤ maxLen := by
 rcases open_ints Tryz.underlying46 Tryz.underlying5 (by kernel_rfl) h with ⟨hcs, _⟩ | ⟨a, l, c, zs, hcs, _, hl, hm, hz, _, hcell, hwz⟩
 · exact ⟨none, 0, [], hcs, Nat.le_refl _, ⟨rfl, by simp, fun hn => absurd hn (by simp)⟩, by simp, by simp⟩
 · have hlz : l ≤ zs.length := by rw [hz]; split <;> omega
   have hlt : (zs.take l).length = l := by rw [List.length_take]; omega
   refine ⟨some a, c, zs.take l, by rw [hlt]; exact hcs, by omega, ⟨rfl, by rw [hlt]; simp only [maxLen] at hm; omega, fun _ => ⟨a, rfl, fun j p hj => ⟨[.int .u8 p], rfl, rfl, fun i u hu => ?_⟩⟩⟩, ?_, by omega⟩
   · have hjl : j < l := by have := (List.getElem?_eq_some_iff.1 hj).1; omega
     match i, hu with
     | 0, hu =>
      cases hu
      have h1 := hcell j (by omega)
      show w.cell? (a.add (j * 1 + 0)) = _
      rw [Nat.mul_one, Nat.add_zero, h1]
      rw [List.getElem?_take_of_lt hjl] at hj
      rw [List.getD_eq_getElem?_getD, hj]; rfl
     | i + 1, hu => simp at hu
   · intro b hb
     have h1 := hwz b (List.mem_of_mem_take hb)
     simp [Lit.wf, IntKind.min, IntKind.max, IntKind.signed, IntKind.bits] at h1
     constructor <;> omega
theorem open_items {H : Type} {enc : TypeId × Value → H} {w : World} {base : Nat} {spare held : _} {fuel : Nat} {cs : List Value} {x : DataW H × List MemPlace}
    (h : DataW.trod enc Tryz.prog w base spare held fuel 22 cs = some x) :
    ∃ A c L, cs = [.slice A L.length c] ∧ L.length ≤ c ∧ Kd.C kIt w A L.length L ∧ WfL L ∧ L.length ≤ maxLen := by
 rcases open_slice Tryz.underlying22 h with ⟨hcs, _⟩ | ⟨a, len, cap, m, n, D, Pl, hcs, hb, hl, hm, hmm, _, hx⟩
 · exact ⟨none, 0, [], hcs, Nat.le_refl _, ⟨rfl, by simp, fun hn => absurd hn (by simp)⟩, by simp [WfL], by simp⟩
 · have hlm : len ≤ m := by rw [hmm]; split <;> omega
   have hc4 : Tryz.prog.cellsOf 53 = 4 := by kernel_rfl
   have each : ∀ i, i < len → ∃ s : It, ∃ c : List Value, c.length = 4 ∧ kIt.K w s c ∧ (∀ j u, c[j]? = some u → w.cell? (a.add (i * 4 + j)) = some u) ∧ WfIt s := by
    intro i hi
    obtain ⟨cs', h1, h2⟩ := hx i (by omega)
    rw [hc4] at h1
    obtain ⟨_, hlen, hcell⟩ := World.cells?_some h1
    obtain ⟨y0, y1, y2, y3, k, _, _, t0, t1, t2, t3⟩ := trod_struct4 Tryz.underlying53 h2
    match cs', hlen with
    | [c0, c1, c2, c3], _ =>
     obtain ⟨p, e0, _, wf0⟩ := DataW.trod_int Tryz.underlying3 t0
     obtain ⟨s, e1, _, wf1⟩ := DataW.trod_string Tryz.underlying9 t1
     obtain ⟨b, e2, _⟩ := DataW.trod_bool Tryz.underlying4 t2
     obtain ⟨A3, cc, xs, e3, l3, g3, wf3, wl3⟩ := PD t3
     have d0 : c0 = .int .i64 p := by
      have : [c0] = [Value.int .i64 p] := e0
      exact (List.cons.inj this).1
     have d1 : c1 = .string s := by
      have : [c1] = [Value.string s] := e1
      exact (List.cons.inj this).1
     have d2 : c2 = .bool b := by
      have : [c2] = [Value.bool b] := e2
      exact (List.cons.inj this).1
     have d3 : c3 = .slice A3 xs.length cc := by
      have : [c3] = [Value.slice A3 xs.length cc] := e3
      exact (List.cons.inj this).1
     subst d0; subst d1; subst d2; subst d3
     refine ⟨⟨p, s, b, xs⟩, _, rfl, JW w ⟨p, s, b, xs⟩ l3 g3, fun j u hu => ?_, ?_⟩
     · have hj : j < 4 := by have := (List.getElem?_eq_some_iff.1 hu).1; simpa using this
       have h5 := hcell j hj
       rw [hu] at h5
       rw [← h5]
       rw [Addr.add_add]
     · simp [Lit.wf, IntKind.min, IntKind.max, IntKind.signed, IntKind.bits] at wf0
       exact ⟨by show _ ≤ p; omega, by show p ≤ _; omega, wf1, wf3, wl3⟩
   haveI : Inhabited It := ⟨zIt⟩
   obtain ⟨f, hf⟩ := choose_lt each
   have hlf : ((List.range len).map f).length = len := by simp
   refine ⟨some a, cap, (List.range len).map f, by rw [hlf]; exact hcs, by omega, ⟨rfl, by rw [hlf]; simp only [maxLen] at hm; omega, fun _ => ⟨a, rfl, fun j p hj => ?_⟩⟩, ?_, by omega⟩
   · rw [List.getElem?_map] at hj
     obtain ⟨i, hi, rfl⟩ := Option.map_eq_some_iff.1 hj
     obtain ⟨hjl, rfl⟩ := List.getElem?_eq_some_iff.1 hi
     have hjl' : j < len := by simpa using hjl
     rw [List.getElem_range]
     obtain ⟨c, q1, q2, q3, _⟩ := hf j hjl'
     exact ⟨c, q1, q2, q3⟩
   · intro y hy
     obtain ⟨i, hi, rfl⟩ := List.mem_map.1 hy
     exact (hf i (List.mem_range.1 hi)).choose_spec.2.2.2
open Go.RowKit Go.Lib Go.Proofs.YthlflglkdaainaaGreatDoorW.aN Go.Proofs.YthlflglkdaainaaGreatDoor.Prt
theorem ru (b k : Nat) : Addr.add ⟨b, 0, none⟩ k = ⟨b, k, none⟩ := by simp [Addr.add]; intro h; exact h.symm
theorem kC (w : World) (cs : Array Value) (e : TypeId) (fr : Nat × Nat) (i : Nat) {v : Value} (h : cs[i]? = some v) : (w.alloc (.cells cs e fr)).cell? ⟨w.heap.size, i, none⟩ = some v := by
 have : (w.alloc (.cells cs e fr)).heap[w.heap.size]? = some (.cells cs e fr) := by
  show (w.heap.push (.cells cs e fr))[w.heap.size]? = _
  simp
 simp only [World.cell?, this]
 exact h
def xM (x : It) (A : Option Addr) (c : Nat) : Array Value := #[.int .i64 x.f0, .string x.f1, .bool x.f2, .slice A x.f3.length c]
def nameB (s : ByteArray) : Bool := !(s.toList == []) && decide (s.size ≤ 48) && decide (Lib.indexByte s.data.toList 0 < 0) && decide (Lib.indexByte s.data.toList 47 < 0)
def iC (x : It) : Bool := nameB x.f1 && (decide (x.f3.length = 0) || (!x.f2 && decide (x.f3.length ≤ 8192)))
theorem nJ (x : It) : iC x = true ↔ ((¬ x.f1.toList = [] ∧ (x.f1.size : Int) ≤ 48) ∧ Lib.indexByte x.f1.data.toList 0 < 0 ∧ Lib.indexByte x.f1.data.toList 47 < 0) ∧ (x.f3 = [] ∨ (x.f2 = false ∧ (x.f3.length : Int) ≤ 8192)) := by
 have hl : x.f3.length = 0 ↔ x.f3 = [] := List.length_eq_zero_iff
 unfold iC nameB
 generalize x.f1.size = n
 generalize x.f1.toList = t
 grind
def aaM : Go.Shelf.Ren := ⟨fun | 137 => 82 | 217 => 117 | 266 => 146 | n => n, fun | 9 => 9 | 5 => 5 | 3 => 3 | n => n, fun | n => n⟩
theorem lIdx : Go.Proofs.Lays.n137 Tryz.prog aaM := {
 mixed := by kernel_rfl
 f137 := Tryz.func82.trans (congrArg some (by kernel_rfl))
 f217 := Tryz.func117.trans (congrArg some (by kernel_rfl))
 f266 := Tryz.func146.trans (congrArg some (by kernel_rfl))
 t3 := Tryz.underlying3
 a3 := Tryz.isAgg3
 z3 := Tryz.sizeOf3
 v3 := Tryz.zeroValue3
 t5 := Tryz.underlying5
 a5 := Tryz.isAgg5
 z5 := Tryz.sizeOf5
 v5 := Tryz.zeroValue5
 t9 := Tryz.underlying9
 a9 := Tryz.isAgg9
 z9 := Tryz.sizeOf9
 v9 := Tryz.zeroValue9 }
theorem aaN (s : ByteArray) (c : Int) (w : World) : Calls Tryz.prog 82 #[.string s, .int .u8 c] w fun e w' => e = .returned (.int .i64 (Lib.indexByte s.data.toList c.toNat.toUInt8)) ∧ w' = w :=
 Any.strings_IndexByte lIdx s c w
theorem XE (x : It) (A : Option Addr) (c : Nat) (w : World) :
    Calls Tryz.prog 47 #[.agg (xM x A c)] w fun e w' => e = .returned (.bool (iC x)) ∧ Below w.heap.size w w' := by
 have hu41 := Tryz.underlying53
 unfold xM
 go_enter Tryz.func47, Tryz.ntmps47
 go_wp2_with (go_at_call 82; refine (aaN _ _ _).mono ?_; rintro e w1 ⟨rfl, rfl⟩)
 all_goals (go_ret; refine ⟨?_, aI (Below.refl _ _) _⟩)
 all_goals (refine congrArg (fun b => Ending.returned (Value.bool b)) ?_)
 all_goals (clear hu41)
 all_goals (have hl : x.f3.length = 0 ↔ x.f3 = [] := List.length_eq_zero_iff; rw [Bool.eq_iff_iff, nJ]; grind)
def rO (s : ByteArray) : Bool := s.toList == ([46, 103, 101, 115, 115, 111] : List UInt8) || s.toList == ([46, 103, 101, 115, 115, 111, 126] : List UInt8)
theorem aee (s : ByteArray) (w : World) : Calls Tryz.prog 49 #[.string s] w fun e w' => e = .returned (.bool (rO s)) ∧ Below w.heap.size w w' := by
 go_enter Tryz.func49, Tryz.ntmps49
 go_wp2
 all_goals (go_ret; refine ⟨?_, Below.refl _ _⟩)
 all_goals (refine congrArg (fun b => Ending.returned (Value.bool b)) ?_)
 all_goals (unfold rO; generalize s.toList = t at *; grind)
def Nl (g : Nat) (lb : Array Value) (p : It → Bool) (w : World) : Prop :=
 ∀ (W : World) (x : It) (A : Option Addr) (c : Nat), Below w.heap.size w W → Calls Tryz.prog g (#[.agg (xM x A c)] ++ lb) W fun e w' => e = .returned (.bool (p x)) ∧ Below w.heap.size w w'
theorem aaO (p : It → Bool) (g : Nat) (lb : Array Value) (eg : ∀ args w, (callFunc g args).run Tryz.prog w = .ok (.enter g args) w) (L : List It) (A : Option Addr) (c : Nat) (w : World)
    (hC : Kd.C kIt w A L.length L) (hp : Nl g lb p w) :
    Calls Tryz.prog 73 #[.slice A L.length c, .func (.func g) #[] lb] w fun e w' => ∃ r : Int, e = .returned (.int .i64 r) ∧ decide (0 ≤ r) = L.any p ∧ Below w.heap.size w w' := by
 have hu41 := Tryz.underlying53
 have HC := ah.mk hC
 have HP := ah.mk hp
 have hlen := hC.2.1
 clear hC hp
 go_enter Tryz.func73, Tryz.ntmps73
 go_wp2
 go_loopg [5, 8] L.length (fun gg _ s8 wr => ∃ kk : Nat, kk ≤ L.length ∧ L.length - kk ≤ gg ∧ s8 = .int .i64 kk ∧ ah (Below w.heap.size w wr) ∧ ah (∀ x ∈ L.take kk, p x = false))
 case atStart => exact ⟨0, Nat.zero_le _, by omega, rfl, ⟨Below.refl _ w⟩, ⟨fun x hx => by simp at hx⟩⟩
 case round =>
  obtain ⟨kk, hkk, hg, rfl, BW, F⟩ := hrel
  by_cases hlt : kk < L.length
  · have hltz : (kk : Int) < (L.length : Int) := by omega
    obtain ⟨ad, A3, c3, rfl, h0, h1, h2, h3, _, _⟩ := bC (Kd.aT HC.out BW.out) (kk : Int) (by omega) hltz
    have hx : aj L (kk : Int) = L[kk] := by
     unfold aj
     rw [Int.toNat_natCast, List.getD_eq_getElem?_getD, List.getElem?_eq_getElem hlt]; rfl
    rw [hx] at h0 h1 h2 h3
    have hcall := HP.out wr L[kk] A3 c3 BW.out
    have F2 : ∀ q, p L[kk] = q → q = false → ah (∀ x ∈ L.take (kk + 1), p x = false) := fun q h1 h2 => ⟨fun x hx => by
     rw [List.take_succ_eq_append_getElem hlt] at hx
     rcases List.mem_append.1 hx with hx | hx
     · exact F.out x hx
     · rw [List.mem_singleton.1 hx, h1, h2]⟩
    have T2 : p L[kk] = true → L.any p = true := fun h => List.any_eq_true.2 ⟨_, List.getElem_mem hlt, h⟩
    clear hx
    rw [Int.toNat_natCast] at h0 h1 h2 h3
    unfold xM at hcall
    generalize L[kk] = y at *
    cases hq : p y with
    | true =>
     rw [hq] at hcall
     go_wp2_with (go_at_fn g; refine hcall.mono ?_; rintro e w' ⟨rfl, hb'⟩)
     go_ret
     exact ⟨_, rfl, by rw [T2 hq]; simp, hb'⟩
    | false =>
     rw [hq] at hcall
     go_wp2_with (go_at_fn g; refine hcall.mono ?_; rintro e w' ⟨rfl, hb'⟩)
     go_roundg (L.length - (kk + 1))
     case measure => omega
     case rel => exact ⟨kk + 1, by omega, by omega, by go_num, ⟨hb'⟩, F2 _ hq rfl⟩
  · have hltz : ¬ (kk : Int) < (L.length : Int) := by omega
    have : kk = L.length := by omega
    subst this
    go_wp2
    go_ret
    refine ⟨_, rfl, ?_, BW.out⟩
    have h := F.out
    rw [List.take_length] at h
    symm
    rw [show decide ((0:Int) ≤ -1) = false from rfl, List.any_eq_false]
    exact fun x hx => by rw [h x hx]; simp
theorem sU (p : It → Bool) (g : Nat) (lb : Array Value) (eg : ∀ args w, (callFunc g args).run Tryz.prog w = .ok (.enter g args) w) (L : List It) (A : Option Addr) (c : Nat) (w : World)
    (hC : Kd.C kIt w A L.length L) (hp : Nl g lb p w) :
    Calls Tryz.prog 45 #[.slice A L.length c, .func (.func g) #[] lb] w fun e w' => e = .returned (.bool (L.any p)) ∧ Below w.heap.size w w' := by
 go_enter Tryz.func45, Tryz.ntmps45
 go_wp2_with (go_at_call 73; refine (aaO p g lb eg L A c _ hC hp).mono ?_; rintro e w1 ⟨r, rfl, hr, hb⟩)
 go_ret
 exact ⟨rfl, hb⟩
theorem aaP (w : World) : Nl 46 #[] (fun x => !iC x) w := by
 intro W x A c hb
 have hu41 := Tryz.underlying53
 unfold xM
 go_enter Tryz.func46, Tryz.ntmps46
 go_wp2_with (go_at_call 47; refine (XE x A c _).mono ?_; rintro e w1 ⟨rfl, hb1⟩)
 go_ret
 exact ⟨rfl, yQ hb hb.size (dK (aI (Below.refl _ _) _) hb1)⟩
theorem afx (w : World) : Nl 48 #[] (fun x => rO x.f1) w := by
 intro W x A c hb
 have hu41 := Tryz.underlying53
 unfold xM
 go_enter Tryz.func48, Tryz.ntmps48
 go_wp2_with (go_at_call 49; refine (aee _ _).mono ?_; rintro e w1 ⟨rfl, hb1⟩)
 go_ret
 exact ⟨rfl, yQ hb hb.size (dK (aI (Below.refl _ _) _) hb1)⟩
open Go.RowKit Go.Lib Go.Maps Go.Proofs.YthlflglkdaainaaGreatDoorW.aN Go.Proofs.YthlflglkdaainaaGreatDoor.Prt
theorem laidOut : laidOutB Tryz.prog = true := by kernel_rfl
theorem Gz : Keyed Tryz.prog 122 := Keyed.of_law (deep_law_laid laidOut (m := 3) (by decide) (of_decide_eq_true (by kernel_rfl)) (by kernel_rfl) (by kernel_rfl))
theorem XF {p : Int} {s : ByteArray} (h1 : -9223372036854775808 ≤ p) (h2 : p ≤ 9223372036854775807) (hs : s.size ≤ maxLen) : ∃ kl, keyOf Tryz.prog 122 (.agg #[.int .i64 p, .string s]) = some kl := by
 have hw : (Lit.int .i64 p).wf = true := by
  simp [Lit.wf, IntKind.min, IntKind.max, IntKind.signed, IntKind.bits]; omega
 have hu := Tryz.underlying122
 have c1 : Tryz.prog.cellsOf 3 = 1 := by kernel_rfl
 have c2 : Tryz.prog.cellsOf 9 = 1 := by kernel_rfl
 have c3 : Tryz.prog.cellsOf 122 = 2 := by kernel_rfl
 have hk : Tryz.prog.keyType 122 = true := by kernel_rfl
 obtain ⟨m, hz⟩ : ∃ m, Tryz.prog.types.size = m + 1 := ⟨Tryz.prog.types.size - 1, by kernel_rfl⟩
 unfold keyOf
 rw [hu, hk]
 simp only [Bool.true_and, Value.formed, hu]
 rw [hz]
 simp [Program.keyLits, hu, c1, c2, c3, Value.cells, Tryz.underlying3, Tryz.underlying9, hw, hs]
theorem data_inj {a b : ByteArray} (h : a.toList = b.toList) : a = b := by
 rw [toList_data, toList_data] at h
 exact ByteArray.ext (Array.toList_inj.1 h)
def DL : Nat → List It → Int → Int
 | 0, _, _ => 1
 | f + 1, L, i => if (itA L i).f0 = -1 then 1 else DL f L (itA L i).f0 + 1
def dep (L : List It) (i : Nat) : Int := DL (i + 1) L i
def iq (L : List It) (i : Nat) : Bool := decide (-1 ≤ (itA L i).f0) && decide ((itA L i).f0 < i) && (decide ((itA L i).f0 = -1) || (itA L (itA L i).f0).f2)
def oh (L : List It) (i : Nat) (p : Int) (s : ByteArray) : Bool := (L.take i).any fun x => decide (x.f0 = p) && (x.f1.toList == s.toList)
def fK (L : List It) (i : Nat) : Bool := iq L i && decide (dep L i ≤ 8) && !oh L i (itA L i).f0 (itA L i).f1
def oH (L : List It) : Bool := (List.range L.length).all (fK L)
theorem XH {L : List It} : ∀ (i : Nat), (∀ j, j ≤ i → iq L j = true) → ∀ f, i + 1 ≤ f → DL f L i = DL (i + 1) L i := by
 intro i
 induction i using Nat.strongRecOn with
 | _ i ih =>
  intro h f hf
  obtain ⟨f, rfl⟩ : ∃ g, f = g + 1 := ⟨f - 1, by omega⟩
  have hp := h i (Nat.le_refl _)
  simp only [iq, Bool.and_eq_true, decide_eq_true_eq] at hp
  obtain ⟨⟨h1, h2⟩, _⟩ := hp
  simp only [DL]
  by_cases h0 : (itA L i).f0 = -1
  · rw [if_pos h0, if_pos h0]
  · rw [if_neg h0, if_neg h0]
    obtain ⟨q, hq⟩ : ∃ q : Nat, (itA L i).f0 = q := ⟨(itA L i).f0.toNat, by omega⟩
    rw [hq] at h2 ⊢
    rw [ih q (by omega) (fun j hj => h j (by omega)) f (by omega), ih q (by omega) (fun j hj => h j (by omega)) i (by omega)]
theorem pz {L : List It} {i : Nat} (h : (itA L i).f0 = -1) : dep L i = 1 := by
 simp only [dep, DL]; rw [if_pos h]
theorem sV {L : List It} {i q : Nat} (hq : (itA L i).f0 = q) (hlt : q < i) (h : ∀ j, j < i → iq L j = true) : dep L i = dep L q + 1 := by
 simp only [dep]
 rw [show DL (i + 1) L i = DL i L (itA L i).f0 + 1 from by rw [DL]; rw [if_neg (by omega)], hq]
 rw [XH q (fun j hj => h j (by omega)) i (by omega)]
theorem aaQ {L : List It} : ∀ (f : Nat) (i : Int), 1 ≤ DL f L i
 | 0, _ => by simp [DL]
 | f + 1, i => by
  simp only [DL]
  split
  · omega
  · have := aaQ (L := L) f (itA L i).f0
    omega
theorem jm {L : List It} {i : Nat} (h : fK L i = true) : iq L i = true := by
 simp only [fK, Bool.and_eq_true] at h; exact h.1.1
theorem CS {L : List It} (h : ∀ i, i < L.length → fK L i = true) : oH L = true := by
 simp only [oH, List.all_eq_true, List.mem_range]; exact h
theorem lU {L : List It} {i : Nat} (hi : i < L.length) (h : fK L i = false) : oH L = false := by
 rw [← Bool.not_eq_true]
 intro hh
 simp only [oH, List.all_eq_true, List.mem_range] at hh
 rw [hh i hi] at h; cases h
theorem bH {L : List It} {i : Nat} (h : i < L.length) : itA L (i : Int) = L[i] := by
 show aj L (i : Int) = _
 unfold aj
 rw [Int.toNat_natCast, List.getD_eq_getElem?_getD, List.getElem?_eq_getElem h]; rfl
theorem PE {L : List It} {i : Nat} (hi : i < L.length) (p : Int) (s : ByteArray) : oh L (i + 1) p s = (oh L i p s || (decide ((itA L i).f0 = p) && ((itA L i).f1.toList == s.toList))) := by
 unfold oh
 rw [List.take_succ_eq_append_getElem hi, List.any_append, bH hi]
 simp
def PG (D : DataW Unit) (L : List It) (i : Nat) : Prop := IsMap D ∧ ∀ (p : Int) (s : ByteArray) (kl : Lit), keyOf Tryz.prog 122 (.agg #[.int .i64 p, .string s]) = some kl → D.atKey kl (.lit (.bool false)) = .lit (.bool (oh L i p s))
theorem RP (L : List It) : PG (.map []) L 0 := ⟨isMap_empty, fun p s kl _ => by simp [oh, DataW.atKey]⟩
theorem PI {D : DataW Unit} {L : List It} {i : Nat} (h : PG D L i) (hi : i < L.length) {kl : Lit} (hk : keyOf Tryz.prog 122 (.agg #[.int .i64 (itA L i).f0, .string (itA L i).f1]) = some kl) : PG (D.put kl (.lit (.bool true))) L (i + 1) := by
 refine ⟨?_, fun p s kl' hk' => ?_⟩
 · obtain ⟨es, rfl⟩ := h.1
   exact ⟨_, rfl⟩
 · rw [PE hi]
   by_cases he : kl' = kl
   · subst he
     have := Gz.inj hk hk'
     injection this with h1
     have h2 := (Array.mk.injEq _ _).mp h1
     simp only [List.cons.injEq, Value.int.injEq, Value.string.injEq, true_and, and_true] at h2
     rw [atKey_put_same h.1 (Gz.key hk), ← h2.1, ← h2.2]
     simp
   · rw [atKey_put_other he, h.2 p s kl' hk']
     have hn : (decide ((itA L i).f0 = p) && ((itA L i).f1.toList == s.toList)) = false := by
      rw [← Bool.not_eq_true, Bool.and_eq_true, decide_eq_true_eq, beq_iff_eq]
      rintro ⟨h1, h2⟩
      rw [← h1, ← data_inj h2, hk] at hk'
      exact he (Option.some.inj hk').symm
     rw [hn, Bool.or_false]
theorem sW {W : World} {b n : Nat} {D : DataW Unit} {L : List It} {i : Nat} (HM : W.ownsMap Tryz.prog 122 (plainElem Tryz.prog 4) b n D) (HD : PG D L i) {p : Int} {s : ByteArray} {kl : Lit} (hk : keyOf Tryz.prog 122 (.agg #[.int .i64 p, .string s]) = some kl) :
    (Instr.lookup 120 (.map (some b)) (.agg #[.int .i64 p, .string s]) false).run Tryz.prog W = .ok (.bool (oh L i p s)) W := by
 obtain ⟨v, ps, hrun, hv⟩ := HM.lookup Gz Tryz.underlying120 (Tryz.zeroValue4 W) (plainElem_bool Tryz.underlying4 false) hk
 rw [HD.2 p s kl hk] at hv
 have : v = .bool (oh L i p s) := by
  unfold plainElem at hv
  rw [Tryz.underlying4] at hv
  cases v <;> simp at hv
  rw [hv.1]
 rw [hrun, this]
open Go.RowKit Go.Lib Go.Maps Go.Proofs.YthlflglkdaainaaGreatDoorW.aN Go.Proofs.YthlflglkdaainaaGreatDoorW.bI Go.Proofs.YthlflglkdaainaaGreatDoorW.cZ Go.Proofs.YthlflglkdaainaaGreatDoor.Prt
structure DepI (w : World) (L : List It) (b : Nat) (vd : Value) (i : Nat) (W : World) : Prop where
 below : Below w.heap.size w W
 row : ∃ ds : List Int, ds.length = L.length ∧ Kd.R (Kd.int .i64) 3 W w.heap.size (fun k => k ≠ b) vd ds ∧ ∀ j, j < i → ds.getD j 0 = dep L j
 map : ∃ D : DataW Unit, W.ownsMap Tryz.prog 122 (plainElem Tryz.prog 4) b i D ∧ PG D L i
 base : w.heap.size ≤ b
 oks : ∀ j, j < i → fK L j = true
theorem VK {ds : List Int} {L : List It} {i : Nat} (hl : i < ds.length) (h : ∀ j, j < i → ds.getD j 0 = dep L j) {v : Int} (hv : v = dep L i) : ∀ j, j < i + 1 → (ds.set i v).getD j 0 = dep L j := by
 intro j hj
 rw [List.getD_eq_getElem?_getD, List.getElem?_set]
 by_cases e : i = j
 · subst e; rw [if_pos rfl, if_pos hl, hv]; rfl
 · rw [if_neg e, ← List.getD_eq_getElem?_getD]; exact h j (by omega)
theorem wu {w : World} {p : Addr} {v : Value} {a : Addr} {u : Value} (h : w.cell? a = some u) (hne : a.block ≠ p.block) : (w.setCell p v).cell? a = some u := by
 rw [← h]
 simp only [World.cell?, Below.heap_setCell w p v a.block hne]
structure XI (w : World) (L : List It) (b g co i : Nat) (D : DataW Unit) (ds : List Int) (x : Nat) (W : World) : Prop where
 below : Below w.heap.size w W
 row : Kd.R (Kd.int .i64) 3 W w.heap.size (fun k => k ≠ b) (.slice (some ⟨g, 0, none⟩) L.length co) ds
 map : W.ownsMap Tryz.prog 122 (plainElem Tryz.prog 4) b i D
 x0 : W.cell? ⟨x, 0, none⟩ = some (.int .i64 (itA L i).f0)
 x1 : W.cell? ⟨x, 1, none⟩ = some (.string (itA L i).f1)
 gb : w.heap.size ≤ g
 ne : g ≠ x
 bx : w.heap.size ≤ x
theorem size_setCell (w : World) (p : Addr) (v : Value) : (w.setCell p v).heap.size = w.heap.size := by
 simp [World.setCell]
theorem RQ (L : List It) (A : Option Addr) (c : Nat) (w : World) (hC : Kd.C kIt w A L.length L) (hwf : WfL L) (hl : L.length ≤ 64) :
    Calls Tryz.prog 44 #[.slice A L.length c] w fun e w' => ∃ v, e = .returned (.tuple #[v, .bool (oH L)]) ∧ Below w.heap.size w w' := by
 have hu41 := Tryz.underlying53
 have hu59 := Tryz.underlying122
 have HC := ah.mk hC
 have HW := ah.mk hwf
 clear hC hwf
 go_enter Tryz.func44, Tryz.ntmps44
 go_wp2_with (first | ((with_reducible refine dA (N := 11) rfl ?_); refine Kd.rM (Kd.int .i64) w.heap.size 3 rfl (N := 11) rfl 76 _ _ rfl (L.length : Int) rfl rfl Tryz.underlying76 (.int .i64 0) 8 info3 rfl (by decide) (by omega) 0 (ok := fun _ => True) (okp := fun _ => True) rfl (fun _ hk => hk) trivial (by omega) (by omega) (Below.refl _ _) (Nat.le_refl _) ?_; intro vd w1 hrow hb1 hg1 hn1))
 have hmk : (Instr.makeMap 120 none).run Tryz.prog w1 = .ok (.map (some w1.heap.size)) (w1.alloc (.map #[] 0)) := run_makeMap _ _
 rw [hmk]
 clear hmk
 go_wp2
 have hsz1 : w.heap.size ≤ w1.heap.size := hb1.size
 have H0 : DepI w L w1.heap.size vd 0 (w1.alloc (.map #[] 0)) := {
  below := aI hb1 _
  row := ⟨List.replicate L.length 0, by simp, Kd.pq (Kd.dF (Kd.dR hrow) (fun k hk => by have := hk.2.2.1; omega)) _, fun j hj => absurd hj (by omega)⟩
  map := ⟨.map [], World.ownsMap_made _ _ _ _, RP L⟩
  base := hsz1
  oks := fun j hj => absurd hj (by omega) }
 have H1 := ah.mk H0
 have HS := ah.mk hsz1
 generalize w1.alloc (.map #[] 0) = W0 at H1 ⊢
 generalize w1.heap.size = b at H1 HS ⊢
 clear H0 hsz1 hb1 hg1 hn1 hrow
 go_loopg [15] L.length (fun gg v15 wr => ∃ i : Nat, i ≤ L.length ∧ L.length - i ≤ gg ∧ v15 = .int .i64 i ∧ ah (DepI w L b vd i wr))
 case atStart => exact ⟨0, Nat.zero_le _, by omega, rfl, H1⟩
 case round =>
  clear H1
  obtain ⟨i, hi, hg, rfl, HI⟩ := hrel
  by_cases hlt : i < L.length
  · have hltz : (i : Int) < (L.length : Int) := by omega
    obtain ⟨CU, ⟨ds, hds, HR, hdv⟩, ⟨D, HM, HD⟩, hbase, aef⟩ := HI.out
    have XJ := HW.out _ (List.getElem_mem hlt)
    rw [← bH hlt] at XJ
    obtain ⟨ad, A3, c3, hA, h0, h1, h2, h3, _, _⟩ := bC (Kd.aT HC.out CU) (i : Int) (by omega) hltz
    rw [Int.toNat_natCast] at h0 h1 h2 h3
    subst hA
    obtain ⟨g, co, eo, gb, gl, _⟩ := Kd.jf HR (by omega)
    rw [hds] at eo
    subst eo
    have hgb : g ≠ b := HR.1 g rfl
    obtain ⟨hc1, hf1⟩ := Kd.iD 0 HR (i : Int) (by omega) (by omega)
    rw [Int.toNat_natCast] at hc1 hf1
    have HP := Kd.CJ HR (i : Int) 1
    rw [Int.toNat_natCast] at HP
    have HF : ∀ w2, w2 = (wr.setCell ⟨g, i, none⟩ (.int .i64 1)).alloc (Obj.cells #[.int .i64 (itA L i).f0, .string (itA L i).f1, .bool (itA L i).f2, .slice A3 (itA L i).f3.length c3] 53) →
        XI w L b g co i D (ds.set i 1) wr.heap.size w2 := by
     rintro w2 rfl
     have hb3 := (lV (j := i) (v := .int .i64 1) CU gb)
     exact {
      below := aI hb3 _
      row := Kd.pq HP.1 _
      map := (HM.kept HP.2 (by simp; omega)).alloc _
      x0 := by
       have := kC (wr.setCell ⟨g, i, none⟩ (.int .i64 1)) #[.int .i64 (itA L i).f0, .string (itA L i).f1, .bool (itA L i).f2, .slice A3 (itA L i).f3.length c3] 53 (0, 0) 0 rfl
       rwa [size_setCell] at this
      x1 := by
       have := kC (wr.setCell ⟨g, i, none⟩ (.int .i64 1)) #[.int .i64 (itA L i).f0, .string (itA L i).f1, .bool (itA L i).f2, .slice A3 (itA L i).f3.length c3] 53 (0, 0) 1 rfl
       rwa [size_setCell] at this
      gb := gb
      ne := by omega
      bx := CU.size }
    obtain ⟨kl, hkl⟩ := XF (p := (itA L i).f0) (s := (itA L i).f1) XJ.1 XJ.2.1 XJ.2.2.1
    by_cases cA : (itA L i).f0 < -1
    · have hno : fK L i = false := by
        rw [← Bool.not_eq_true]; intro h
        have := jm h
        simp only [iq, Bool.and_eq_true, decide_eq_true_eq] at this
        omega
      have hbel := (HF _ rfl).below
      have hfin := lU hlt hno
      clear HP HF XJ hno hkl HM HD
      go_wp2
      go_ret2
      first | exact ⟨⟨_, rfl⟩, hbel⟩ | exact ⟨_, rfl, hbel⟩ | (rw [hfin]; first | exact ⟨⟨_, rfl⟩, hbel⟩ | exact ⟨_, rfl, hbel⟩) | (refine ⟨?_, hbel⟩; rw [hfin]; exact ⟨_, rfl⟩) | (refine ⟨_, ?_, hbel⟩; rw [hfin]; rfl)
    · have hA0 : decide ((itA L i).f0 < -1) = false := decide_eq_false cA
      by_cases cB : (i : Int) ≤ (itA L i).f0
      · have hno : fK L i = false := by
          rw [← Bool.not_eq_true]; intro h
          have := jm h
          simp only [iq, Bool.and_eq_true, decide_eq_true_eq] at this
          omega
        have hbel := (HF _ rfl).below
        have hfin := lU hlt hno
        clear HP HF XJ hno hkl HM HD
        go_wp2
        go_ret2
        first | exact ⟨⟨_, rfl⟩, hbel⟩ | exact ⟨_, rfl, hbel⟩ | (rw [hfin]; first | exact ⟨⟨_, rfl⟩, hbel⟩ | exact ⟨_, rfl, hbel⟩) | (refine ⟨?_, hbel⟩; rw [hfin]; exact ⟨_, rfl⟩) | (refine ⟨_, ?_, hbel⟩; rw [hfin]; rfl)
      · have hds2 : (ds.set i 1).length = L.length := by rw [List.length_set, hds]
        by_cases cC : (itA L i).f0 = -1
        · have hcell : ∀ {w2 : World}, XI w L b g co i D (ds.set i 1) wr.heap.size w2 → w2.cell? ⟨g, i, none⟩ = some (.int .i64 1) := fun M => by
            have := (Kd.iD 0 M.row (i : Int) (by omega) (by omega)).1
            rw [Int.toNat_natCast] at this
            rw [this, show fQ 0 (ds.set i 1) (i : Int) = 1 from by simp [fQ, List.getD_eq_getElem?_getD, hds, hlt]]
          have hkl0 := ah.mk hkl
          rw [cC] at hkl
          have hkl := ah.mk hkl
          have aeg : dep L i = 1 := pz cC
          have ahe : iq L i = true := by simp only [iq, cC]; simp; omega
          rw [show (aj L i).f0 = -1 from cC] at h0
          have hBC : decide ((i : Int) ≤ -1) = false := decide_eq_false (by omega)
          simp only [cC] at HF
          cases hdu : oh L i (-1) (itA L i).f1 with
          | true =>
           have hno : fK L i = false := by simp only [fK, cC, hdu]; simp
           have hfin := lU hlt hno
           clear hno
           go_wp2_with (first | ((with_reducible refine jZ (t := 3) (p := 22) rfl ?_); refine je (t := 3) (p := 22) (v := ?vo) (w1 := (wr.setCell ⟨g, i, none⟩ (.int .i64 1)).alloc (Obj.cells #[.int .i64 (-1), .string (itA L i).f1, .bool (itA L i).f2, .slice A3 (itA L i).f3.length c3] 53)) ?hg ?ho ?hn ?hr ?_; (case ho => rfl); (case hg => rfl); (case hn => rfl); (case hr => first | (go_simp; done) | (go_simp; rfl)); intro w2 hw2; have M2 := ah.mk (HF w2 hw2); clear hw2 HF; have x0 := M2.out.x0; have x1 := M2.out.x1; (try rw [cC] at x0); have hlk := sW (M2.out.map.alloc (Obj.cells #[.int .i64 (-1), .string (itA L i).f1] 122)) HD hkl.out; rw [hdu] at hlk; have hbel := aI M2.out.below (Obj.cells #[.int .i64 (-1), .string (itA L i).f1] 122); have hc2 := hcell M2.out))
           go_ret2
           first | exact ⟨⟨_, rfl⟩, hbel⟩ | exact ⟨_, rfl, hbel⟩ | (rw [hfin]; first | exact ⟨⟨_, rfl⟩, hbel⟩ | exact ⟨_, rfl, hbel⟩) | (refine ⟨?_, hbel⟩; rw [hfin]; exact ⟨_, rfl⟩) | (refine ⟨_, ?_, hbel⟩; rw [hfin]; rfl)
          | false =>
           have hok : fK L i = true := by simp only [fK, cC, hdu, ahe, aeg]; rfl
           have hset := VK (v := 1) (by omega : i < ds.length) hdv aeg.symm
           have hds3 := hds2
           have HOK := ah.mk hok; have HST := ah.mk hset; clear hok hset hdv
           go_wp2_with (first | ((with_reducible refine jZ (t := 3) (p := 22) rfl ?_); refine je (t := 3) (p := 22) (v := ?vo) (w1 := (wr.setCell ⟨g, i, none⟩ (.int .i64 1)).alloc (Obj.cells #[.int .i64 (-1), .string (itA L i).f1, .bool (itA L i).f2, .slice A3 (itA L i).f3.length c3] 53)) ?hg ?ho ?hn ?hr ?_; (case ho => rfl); (case hg => rfl); (case hn => rfl); (case hr => first | (go_simp; done) | (go_simp; rfl)); intro w2 hw2; have M2 := ah.mk (HF w2 hw2); clear hw2 HF; have x0 := M2.out.x0; have x1 := M2.out.x1; (try rw [cC] at x0); have hlk := sW (M2.out.map.alloc (Obj.cells #[.int .i64 (-1), .string (itA L i).f1] 122)) HD hkl.out; rw [hdu] at hlk; have hc2 := fZ (aI (Below.refl _ _) (Obj.cells #[.int .i64 (-1), .string (itA L i).f1] 122)) (hcell M2.out); have hown := ah.mk (M2.out.map.alloc (Obj.cells #[.int .i64 (-1), .string (itA L i).f1] 122))) | (at_mapUpdate; refine wpList_mapUpdate_own _ rfl _ _ _ 120 rfl 122 4 Gz Tryz.underlying120 _ b i D rfl hown.out (by simp only [maxLen]; omega) _ _ kl rfl rfl hkl.out (.lit (.bool true)) [] (plainElem_bool Tryz.underlying4 true) ?_; intro w4 hm4 hg4))
           have hok := HOK.out; have hset := HST.out
           go_roundg (L.length - (i + 1))
           case measure => omega
           case rel =>
            refine ⟨i + 1, by omega, by omega, by go_num, ⟨?_⟩⟩
            have hb4 := aI M2.out.below (Obj.cells #[.int .i64 (-1), .string (itA L i).f1] 122)
            exact {
             below := Below.grown hb4 hg4 hb4.size (fun k hk => by have := Option.some.inj hk; omega)
             row := ⟨ds.set i 1, hds3, Kd.nR (Kd.pq M2.out.row _) hg4 (fun k hk he => hk (Option.some.inj he)), hset⟩
             map := ⟨_, hm4, PI HD hlt hkl0.out⟩
             base := hbase
             oks := fun j hj => by
              by_cases e : j = i
              · subst e; exact hok
              · exact aef j (by omega) }
        · obtain ⟨q, hq⟩ : ∃ q : Nat, (itA L i).f0 = q := ⟨(itA L i).f0.toNat, by omega⟩
          have hqi : q < i := by omega
          have hkl0 := ah.mk hkl
          rw [hq] at hkl
          have hkl := ah.mk hkl
          rw [show (aj L i).f0 = (q : Int) from hq] at h0
          have hq0 : decide ((q : Int) < -1) = false := decide_eq_false (by omega)
          have hq1 : decide ((i : Int) ≤ (q : Int)) = false := decide_eq_false (by omega)
          have hq2 : ((q : Int) == -1) = false := by rw [beq_eq_false_iff_ne]; omega
          have hq3 : ¬ (q : Int) = -1 := by omega
          have hq4 : (q : Int) < (L.length : Int) := by omega
          have hq5 : (0 : Int) ≤ (q : Int) := by omega
          simp only [hq] at HF
          cases GH : (aj L (q : Int)).f2 with
          | false =>
           have hno : fK L i = false := by
            rw [← Bool.not_eq_true]; intro h
            have := jm h
            simp only [iq, Bool.and_eq_true, Bool.or_eq_true, decide_eq_true_eq] at this
            rw [hq] at this
            rcases this.2 with h7 | h7
            · omega
            · rw [show (itA L (q : Int)).f2 = false from GH] at h7; cases h7
           have hfin := lU hlt hno
           clear hno
           go_wp2_with (first | ((with_reducible refine jZ (t := 3) (p := 22) rfl ?_); refine je (t := 3) (p := 22) (v := ?vo) (w1 := (wr.setCell ⟨g, i, none⟩ (.int .i64 1)).alloc (Obj.cells #[.int .i64 (q : Int), .string (itA L i).f1, .bool (itA L i).f2, .slice A3 (itA L i).f3.length c3] 53)) ?hg ?ho ?hn ?hr ?_; (case ho => rfl); (case hg => rfl); (case hn => rfl); (case hr => first | (go_simp; done) | (go_simp; rfl)); intro w2 hw2; have M2 := ah.mk (HF w2 hw2); clear hw2 HF; have x0 := M2.out.x0; have x1 := M2.out.x1; rw [hq] at x0; obtain ⟨ad2, B3, d3, hA2, y0, y1, y2, y3, _, _⟩ := bC (Kd.aT HC.out M2.out.below) (q : Int) (by omega) (by omega); cases hA2; clear y0 y1 y3; rw [Int.toNat_natCast] at y2; rw [GH] at y2; have hbel := M2.out.below))
           go_ret2
           first | exact ⟨⟨_, rfl⟩, hbel⟩ | exact ⟨_, rfl, hbel⟩ | (rw [hfin]; first | exact ⟨⟨_, rfl⟩, hbel⟩ | exact ⟨_, rfl, hbel⟩) | (refine ⟨?_, hbel⟩; rw [hfin]; exact ⟨_, rfl⟩) | (refine ⟨_, ?_, hbel⟩; rw [hfin]; rfl)
          | true =>
           have ahe : iq L i = true := by
            simp only [iq, Bool.and_eq_true, Bool.or_eq_true, decide_eq_true_eq]
            rw [hq]
            exact ⟨⟨by omega, by omega⟩, .inr GH⟩
           have aeg : dep L i = dep L q + 1 := sV hq hqi (fun j hj => jm (aef j hj))
           have hd8 : dep L q ≤ 8 := by
            have := aef q hqi
            simp only [fK, Bool.and_eq_true, decide_eq_true_eq] at this
            exact this.1.2
           have hd1 : 1 ≤ dep L q := aaQ _ _
           have aeh := hdv q hqi
           have hset := VK (v := dep L q + 1) (by rw [List.length_set]; omega : i < (ds.set i 1).length) (fun j hj => by rw [List.getD_eq_getElem?_getD, List.getElem?_set_ne (by omega), ← List.getD_eq_getElem?_getD]; exact hdv j hj) aeg.symm
           have hds3 : ((ds.set i 1).set i (dep L q + 1)).length = L.length := by rw [List.length_set, hds2]
           generalize dep L q = dq at *
           have hcq : ∀ {w2 : World}, XI w L b g co i D (ds.set i 1) wr.heap.size w2 → w2.cell? ⟨g, q, none⟩ = some (.int .i64 dq) := fun M => by
            have := (Kd.iD 0 M.row (q : Int) (by omega) (by omega)).1
            rw [Int.toNat_natCast] at this
            rw [this, show fQ 0 (ds.set i 1) (q : Int) = dq from by simp only [fQ, Int.toNat_natCast]; rw [List.getD_eq_getElem?_getD, List.getElem?_set_ne (by omega), ← List.getD_eq_getElem?_getD]; exact aeh]
           have hcf : ∀ {w2 : World} {ds' : List Int}, XI w L b g co i D ds' wr.heap.size w2 → w2.cell? ⟨g, i, none⟩ = some (.int .i64 (fQ 0 ds' (i : Int))) ∧ w2.frozen? ⟨g, i, none⟩ = false := fun M => by
            have := Kd.iD 0 M.row (i : Int) (by omega) (by omega)
            rw [Int.toNat_natCast] at this; exact this
           have hrd : fQ 0 ((ds.set i 1).set i (dq + 1)) (i : Int) = dq + 1 := by simp [fQ, List.getD_eq_getElem?_getD, hds, hlt]
           have HG : ∀ w2 w3, XI w L b g co i D (ds.set i 1) wr.heap.size w2 → w3 = w2.setCell ⟨g, i, none⟩ (.int .i64 (dq + 1)) → XI w L b g co i D ((ds.set i 1).set i (dq + 1)) wr.heap.size w3 := by
            rintro w2 w3 M rfl
            have hp := Kd.CJ M.row (i : Int) (dq + 1)
            rw [Int.toNat_natCast] at hp
            exact {
             below := lV (j := i) (v := .int .i64 (dq + 1)) M.below gb
             row := hp.1
             map := M.map.kept hp.2 (by simp; omega)
             x0 := wu M.x0 (fun e => M.ne e.symm)
             x1 := wu M.x1 (fun e => M.ne e.symm)
             gb := gb
             ne := M.ne
             bx := M.bx }
           cases hdu : oh L i (q : Int) (itA L i).f1 with
           | true =>
            have hno : fK L i = false := by simp only [fK, hq, hdu]; simp
            have hfin := lU hlt hno
            clear hno hset hds3 hrd hdv aeh
            go_wp2_with (first | ((with_reducible refine jZ (t := 3) (p := 22) rfl ?_); refine je (t := 3) (p := 22) (v := ?vo) (w1 := (wr.setCell ⟨g, i, none⟩ (.int .i64 1)).alloc (Obj.cells #[.int .i64 (q : Int), .string (itA L i).f1, .bool (itA L i).f2, .slice A3 (itA L i).f3.length c3] 53)) ?hg ?ho ?hn ?hr ?_; (case ho => rfl); (case hg => rfl); (case hn => rfl); (case hr => first | (go_simp; done) | (go_simp; rfl)); intro w2 hw2; have M2 := ah.mk (HF w2 hw2); clear hw2 HF; have x0 := M2.out.x0; have x1 := M2.out.x1; rw [hq] at x0; obtain ⟨ad2, B3, d3, hA2, y0, y1, y2, y3, _, _⟩ := bC (Kd.aT HC.out M2.out.below) (q : Int) (by omega) (by omega); cases hA2; clear y0 y1 y3; rw [Int.toNat_natCast] at y2; rw [GH] at y2; have hc2 := hcq M2.out; obtain ⟨hc5, hf5⟩ := hcf M2.out; have M3 := ah.mk (HG _ _ M2.out rfl); clear HG; have hlk := sW (M3.out.map.alloc (Obj.cells #[.int .i64 (q : Int), .string (itA L i).f1] 122)) HD hkl.out; rw [hdu] at hlk; have hbel := aI M3.out.below (Obj.cells #[.int .i64 (q : Int), .string (itA L i).f1] 122)))
            go_ret2
            first | exact ⟨⟨_, rfl⟩, hbel⟩ | exact ⟨_, rfl, hbel⟩ | (rw [hfin]; first | exact ⟨⟨_, rfl⟩, hbel⟩ | exact ⟨_, rfl, hbel⟩) | (refine ⟨?_, hbel⟩; rw [hfin]; exact ⟨_, rfl⟩) | (refine ⟨_, ?_, hbel⟩; rw [hfin]; rfl)
           | false =>
            by_cases h9 : (8 : Int) < dq + 1
            · have hno : fK L i = false := by
                rw [← Bool.not_eq_true]; intro h
                simp only [fK, Bool.and_eq_true, decide_eq_true_eq] at h
                omega
              have hfin := lU hlt hno
              clear hno hset hds3 hdv aeh
              go_wp2_with (first | ((with_reducible refine jZ (t := 3) (p := 22) rfl ?_); refine je (t := 3) (p := 22) (v := ?vo) (w1 := (wr.setCell ⟨g, i, none⟩ (.int .i64 1)).alloc (Obj.cells #[.int .i64 (q : Int), .string (itA L i).f1, .bool (itA L i).f2, .slice A3 (itA L i).f3.length c3] 53)) ?hg ?ho ?hn ?hr ?_; (case ho => rfl); (case hg => rfl); (case hn => rfl); (case hr => first | (go_simp; done) | (go_simp; rfl)); intro w2 hw2; have M2 := ah.mk (HF w2 hw2); clear hw2 HF; have x0 := M2.out.x0; have x1 := M2.out.x1; rw [hq] at x0; obtain ⟨ad2, B3, d3, hA2, y0, y1, y2, y3, _, _⟩ := bC (Kd.aT HC.out M2.out.below) (q : Int) (by omega) (by omega); cases hA2; clear y0 y1 y3; rw [Int.toNat_natCast] at y2; rw [GH] at y2; have hc2 := hcq M2.out; obtain ⟨hc5, hf5⟩ := hcf M2.out; have M3 := ah.mk (HG _ _ M2.out rfl); clear HG; have hlk := sW (M3.out.map.alloc (Obj.cells #[.int .i64 (q : Int), .string (itA L i).f1] 122)) HD hkl.out; rw [hdu] at hlk; have hc6 := (hcf M3.out).1; rw [hrd] at hc6; have hc7 := fZ (aI (Below.refl _ _) (Obj.cells #[.int .i64 (q : Int), .string (itA L i).f1] 122)) hc6; have hbel := aI M3.out.below (Obj.cells #[.int .i64 (q : Int), .string (itA L i).f1] 122)))
              go_ret2
              first | exact ⟨⟨_, rfl⟩, hbel⟩ | exact ⟨_, rfl, hbel⟩ | (rw [hfin]; first | exact ⟨⟨_, rfl⟩, hbel⟩ | exact ⟨_, rfl, hbel⟩) | (refine ⟨?_, hbel⟩; rw [hfin]; exact ⟨_, rfl⟩) | (refine ⟨_, ?_, hbel⟩; rw [hfin]; rfl)
            · have hok : fK L i = true := by
                simp only [fK, Bool.and_eq_true, decide_eq_true_eq]
                rw [hq, hdu]
                exact ⟨⟨ahe, by omega⟩, rfl⟩
              have HOK := ah.mk hok; have HST := ah.mk hset; clear hok hset hdv aeh
              go_wp2_with (first | ((with_reducible refine jZ (t := 3) (p := 22) rfl ?_); refine je (t := 3) (p := 22) (v := ?vo) (w1 := (wr.setCell ⟨g, i, none⟩ (.int .i64 1)).alloc (Obj.cells #[.int .i64 (q : Int), .string (itA L i).f1, .bool (itA L i).f2, .slice A3 (itA L i).f3.length c3] 53)) ?hg ?ho ?hn ?hr ?_; (case ho => rfl); (case hg => rfl); (case hn => rfl); (case hr => first | (go_simp; done) | (go_simp; rfl)); intro w2 hw2; have M2 := ah.mk (HF w2 hw2); clear hw2 HF; have x0 := M2.out.x0; have x1 := M2.out.x1; rw [hq] at x0; obtain ⟨ad2, B3, d3, hA2, y0, y1, y2, y3, _, _⟩ := bC (Kd.aT HC.out M2.out.below) (q : Int) (by omega) (by omega); cases hA2; clear y0 y1 y3; rw [Int.toNat_natCast] at y2; rw [GH] at y2; have hc2 := hcq M2.out; obtain ⟨hc5, hf5⟩ := hcf M2.out; have M3 := ah.mk (HG _ _ M2.out rfl); clear HG; have hlk := sW (M3.out.map.alloc (Obj.cells #[.int .i64 (q : Int), .string (itA L i).f1] 122)) HD hkl.out; rw [hdu] at hlk; have hc6 := (hcf M3.out).1; rw [hrd] at hc6; have hc7 := fZ (aI (Below.refl _ _) (Obj.cells #[.int .i64 (q : Int), .string (itA L i).f1] 122)) hc6; have hbel := aI M3.out.below (Obj.cells #[.int .i64 (q : Int), .string (itA L i).f1] 122); have hown := ah.mk (M3.out.map.alloc (Obj.cells #[.int .i64 (q : Int), .string (itA L i).f1] 122))) | (at_mapUpdate; refine wpList_mapUpdate_own _ rfl _ _ _ 120 rfl 122 4 Gz Tryz.underlying120 _ b i D rfl hown.out (by simp only [maxLen]; omega) _ _ kl rfl rfl hkl.out (.lit (.bool true)) [] (plainElem_bool Tryz.underlying4 true) ?_; intro w4 hm4 hg4))
              have hok := HOK.out; have hset := HST.out
              go_roundg (L.length - (i + 1))
              case measure => omega
              case rel =>
               refine ⟨i + 1, by omega, by omega, by go_num, ⟨?_⟩⟩
               exact {
                below := Below.grown hbel hg4 hbel.size (fun k hk => by have := Option.some.inj hk; omega)
                row := ⟨_, hds3, Kd.nR (Kd.pq M3.out.row _) hg4 (fun k hk he => hk (Option.some.inj he)), hset⟩
                map := ⟨_, hm4, PI HD hlt hkl0.out⟩
                base := hbase
                oks := fun j hj => by
                 by_cases e : j = i
                 · subst e; exact hok
                 · exact aef j (by omega) }
  · have hltz : ¬ (i : Int) < (L.length : Int) := by omega
    go_wp2
    go_ret2
    have hfin := CS (fun j hj => HI.out.oks j (by omega))
    have hbel := HI.out.below
    first | exact ⟨⟨_, rfl⟩, hbel⟩ | exact ⟨_, rfl, hbel⟩ | (rw [hfin]; first | exact ⟨⟨_, rfl⟩, hbel⟩ | exact ⟨_, rfl, hbel⟩) | (refine ⟨?_, hbel⟩; rw [hfin]; exact ⟨_, rfl⟩) | (refine ⟨_, ?_, hbel⟩; rw [hfin]; rfl)
open Go.RowKit Go.Lib Go.Proofs.YthlflglkdaainaaGreatDoorW.aN Go.Proofs.YthlflglkdaainaaGreatDoorW.bI Go.Proofs.YthlflglkdaainaaGreatDoorW.cZ Go.Proofs.YthlflglkdaainaaGreatDoor.Prt
def checkN (L : List It) : Int := if 64 < L.length then 14 else if !(oH L) || L.any (fun x => !iC x) then 14 else if L.any (fun x => rO x.f1) then 15 else 0
theorem check_any (L : List It) (A : Option Addr) (c : Nat) (w : World) (hC : Kd.C kIt w A L.length L) (hwf : WfL L) :
    Calls Tryz.prog 18 #[.slice A L.length c] w fun e w' => e = .returned (.int .i64 (checkN L)) ∧ Below w.heap.size w w' := by
 have HC := ah.mk hC
 have e1 : ∀ args w, (callFunc 46 args).run Tryz.prog w = .ok (.enter 46 args) w := enters_of Tryz.func46 (by kernel_rfl) rfl
 have e2 : ∀ args w, (callFunc 48 args).run Tryz.prog w = .ok (.enter 48 args) w := enters_of Tryz.func48 (by kernel_rfl) rfl
 clear hC
 by_cases h64 : 64 < L.length
 · have hz : (64 : Int) < (L.length : Int) := by omega
   have hr : checkN L = 14 := by simp only [checkN]; rw [if_pos h64]
   go_enter Tryz.func18, Tryz.ntmps18
   go_wp2
   go_ret
   rw [hr]; exact ⟨rfl, Below.refl _ _⟩
 · have hz : ¬ (64 : Int) < (L.length : Int) := by omega
   have HD := fun W B => RQ L A c W (Kd.aT HC.out B) hwf (by omega)
   cases hd : oH L with
   | false =>
    have hr : checkN L = 14 := by simp only [checkN]; rw [if_neg h64, hd]; rfl
    go_enter Tryz.func18, Tryz.ntmps18
    go_wp2_with (go_at_call 44; refine (HD _ (Below.refl _ _)).mono ?_; rintro e w1 ⟨v, rfl, hb1⟩; rw [hd])
    go_ret
    rw [hr]; exact ⟨rfl, hb1⟩
   | true =>
    go_enter Tryz.func18, Tryz.ntmps18
    cases hp : L.any (fun x => !iC x) with
    | true =>
     have hr : checkN L = 14 := by simp only [checkN]; rw [if_neg h64, hd, hp]; rfl
     go_wp2_with (first | (go_at_call 44; refine (HD _ (Below.refl _ _)).mono ?_; rintro e w1 ⟨v, rfl, hb1⟩; rw [hd]) | (go_at_call 45; refine (sU _ _ _ e1 L A c _ (Kd.aT HC.out hb1) (aaP _)).mono ?_; rintro e w2 ⟨rfl, hb2⟩; rw [hp]))
     go_ret
     rw [hr]; exact ⟨rfl, dK hb1 hb2⟩
    | false =>
     have hr : checkN L = if L.any (fun x => rO x.f1) then 15 else 0 := by simp only [checkN]; rw [if_neg h64, hd, hp]; rfl
     cases hq : L.any (fun x => rO x.f1) with
     | true =>
      go_wp2_with (first | (go_at_call 44; refine (HD _ (Below.refl _ _)).mono ?_; rintro e w1 ⟨v, rfl, hb1⟩; rw [hd]) | (go_at_call 45; refine (sU _ _ _ e1 L A c _ (Kd.aT HC.out hb1) (aaP _)).mono ?_; rintro e w2 ⟨rfl, hb2⟩; rw [hp]; have hb3 := dK hb1 hb2; clear hb1 hb2) | (go_at_call 45; refine (sU _ _ _ e2 L A c _ (Kd.aT HC.out hb3) (afx _)).mono ?_; rintro e w4 ⟨rfl, hb4⟩; rw [hq]))
      go_ret
      rw [hr, hq]; exact ⟨rfl, dK hb3 hb4⟩
     | false =>
      go_wp2_with (first | (go_at_call 44; refine (HD _ (Below.refl _ _)).mono ?_; rintro e w1 ⟨v, rfl, hb1⟩; rw [hd]) | (go_at_call 45; refine (sU _ _ _ e1 L A c _ (Kd.aT HC.out hb1) (aaP _)).mono ?_; rintro e w2 ⟨rfl, hb2⟩; rw [hp]; have hb3 := dK hb1 hb2; clear hb1 hb2) | (go_at_call 45; refine (sU _ _ _ e2 L A c _ (Kd.aT HC.out hb3) (afx _)).mono ?_; rintro e w4 ⟨rfl, hb4⟩; rw [hq]))
      go_ret
      rw [hr, hq]; exact ⟨rfl, dK hb3 hb4⟩
theorem jL {x : Int} (h1 : -9223372036854775808 ≤ x) (h2 : x ≤ 9223372036854775807) : wrap64 x = x := by
 unfold wrap64; omega
theorem set_mid {α : Type} (p : List α) (a x : α) (t : List α) : (p ++ a :: t).set p.length x = p ++ x :: t := by
 rw [List.set_append_right _ _ (Nat.le_refl _), Nat.sub_self, List.set_cons_zero]
theorem PK {α : Type} (d : α) (p : List α) (a : α) (t : List α) : fQ d (p ++ a :: t) (p.length : Int) = a := by
 simp [fQ, List.getD_eq_getElem?_getD]
theorem ahf : ∀ (n : Nat) (m p s : List ByteArray), m.length ≤ n → p.length + m.length + s.length ≤ 8796093022208 →
    Ev (fun k => ay.l0 k (p ++ m ++ s) (p.length : Int) ((p.length : Int) + m.length - 1)) (p ++ m.reverse ++ s) := by
 intro n
 induction n with
 | zero =>
  intro m p s hm hb
  obtain rfl : m = [] := List.length_eq_zero_iff.1 (by omega)
  refine ⟨1, fun k hk => ?_⟩
  obtain ⟨k, rfl⟩ : ∃ q, k = q + 1 := ⟨k - 1, by omega⟩
  simp only [ay.l0]
  rw [if_neg (by simp; omega)]; rfl
 | succ n ih =>
  intro m p s hm hb
  match m, hm, hb with
  | [], hm, hb => exact ih [] p s (by simp) hb
  | [a], hm, hb =>
   refine ⟨1, fun k hk => ?_⟩
   obtain ⟨k, rfl⟩ : ∃ q, k = q + 1 := ⟨k - 1, by omega⟩
   simp only [ay.l0]
   rw [if_neg (by simp)]; rfl
  | a :: c :: m', hm, hb =>
   obtain ⟨m2, b, hmb⟩ : ∃ m2 b, c :: m' = m2 ++ [b] := by
    rcases List.eq_nil_or_concat (c :: m') with h | h
    · cases h
    · obtain ⟨l', b, h⟩ := h; exact ⟨l', b, by rw [h, List.concat_eq_append]⟩
   rw [hmb] at hm hb ⊢
   have hml : (a :: (m2 ++ [b])).length = m2.length + 2 := by simp
   rw [hml] at hm hb ⊢
   have h1 := ih m2 (p ++ [b]) ([a] ++ s) (by omega) (by simp; omega)
   obtain ⟨K, hK⟩ := h1
   refine ⟨K + 1, fun k hk => ?_⟩
   obtain ⟨k, rfl⟩ : ∃ q, k = q + 1 := ⟨k - 1, by omega⟩
   have e0 : p ++ a :: (m2 ++ [b]) ++ s = p ++ a :: (m2 ++ b :: s) := by simp
   have hlen : (p ++ a :: (m2 ++ b :: s)).length = p.length + m2.length + s.length + 2 := by simp; omega
   have r1 : fQ ByteArray.empty (p ++ a :: (m2 ++ b :: s)) ((p.length : Int) + ((m2.length + 2 : Nat) : Int) - 1) = b := by
    have := PK ByteArray.empty (p ++ a :: m2) b s
    rw [show (((p ++ a :: m2).length : Nat) : Int) = (p.length : Int) + ((m2.length + 2 : Nat) : Int) - 1 from by rw [List.length_append, List.length_cons]; omega] at this
    rw [show p ++ a :: (m2 ++ b :: s) = (p ++ a :: m2) ++ b :: s from by simp, this]
   have r2 : fQ ByteArray.empty (p ++ a :: (m2 ++ b :: s)) (p.length : Int) = a := PK _ _ _ _
   have s1 : ((p ++ a :: (m2 ++ b :: s)).set p.length b).set (p.length + m2.length + 1) a = (p ++ [b]) ++ m2 ++ ([a] ++ s) := by
    rw [set_mid]
    have := set_mid (p ++ b :: m2) b a s
    rw [List.length_append, List.length_cons] at this
    rw [show p ++ b :: (m2 ++ b :: s) = (p ++ b :: m2) ++ b :: s from by simp, show p.length + m2.length + 1 = p.length + (m2.length + 1) from by omega, this]
    simp
   rw [e0]
   simp only [ay.l0]
   rw [hlen, if_pos (by omega), if_pos (by omega), if_pos (by omega), if_pos (by omega), if_pos (by omega), r1, r2, Int.toNat_natCast, show ((p.length : Int) + ((m2.length + 2 : Nat) : Int) - 1).toNat = p.length + m2.length + 1 from by omega, s1]
   have h2 : ay.l0 k (p ++ [b] ++ m2 ++ ([a] ++ s)) (((p ++ [b]).length : Nat) : Int) ((((p ++ [b]).length : Nat) : Int) + m2.length - 1) = _ := hK k (by omega)
   rw [jL (by omega) (by omega), jL (by omega) (by omega)]
   rw [show (((p ++ [b]).length : Nat) : Int) = (p.length : Int) + 1 from by simp] at h2
   rw [show (p.length : Int) + ((m2.length + 2 : Nat) : Int) - 1 - 1 = (p.length : Int) + 1 + (m2.length : Int) - 1 from by omega, h2]
   simp
theorem aei (l : List ByteArray) (h : l.length ≤ 8796093022208) : Ev (fun k => ay.f k l) l.reverse := by
 have := ahf l.length l [] [] (Nat.le_refl _) (by simpa using h)
 unfold ay.f
 rw [jL (by omega) (by omega)]
 simpa using this
def upF : Nat → List It → Int → List ByteArray
 | 0, _, _ => []
 | f + 1, L, i => if i = -1 then [] else (itA L i).f1 :: upF f L (itA L i).f0
def bQ (L : List It) (i : Int) : List ByteArray := (upF (i + 1).toNat L i).reverse
theorem kS {L : List It} {i : Nat} (h : iq L i = true) : -1 ≤ (itA L i).f0 ∧ (itA L i).f0 < i := by
 simp only [iq, Bool.and_eq_true, decide_eq_true_eq] at h
 exact h.1
theorem ahg {L : List It} : ∀ (t : Nat) (i : Int) (n m : Nat), -1 ≤ i → (i + 1).toNat ≤ t → (i + 1).toNat ≤ n → (i + 1).toNat ≤ m → (∀ j : Nat, (j : Int) ≤ i → iq L j = true) → upF n L i = upF m L i := by
 intro t
 induction t with
 | zero =>
  intro i n m h1 h2 _ _ _
  obtain rfl : i = -1 := by omega
  cases n <;> cases m <;> simp [upF]
 | succ t ih =>
  intro i n m h1 h2 h3 h4 hp
  by_cases hi : i = -1
  · subst hi; cases n <;> cases m <;> simp [upF]
  · obtain ⟨q, rfl⟩ : ∃ q : Nat, i = q := ⟨i.toNat, by omega⟩
    obtain ⟨p1, p2⟩ := kS (hp q (by omega))
    obtain ⟨n, rfl⟩ : ∃ a, n = a + 1 := ⟨n - 1, by omega⟩
    obtain ⟨m, rfl⟩ : ∃ a, m = a + 1 := ⟨m - 1, by omega⟩
    simp only [upF]
    rw [if_neg hi, if_neg hi, ih _ n m p1 (by omega) (by omega) (by omega) (fun j hj => hp j (by omega))]
theorem Np {L : List It} {i : Nat} (hp : ∀ j : Nat, j ≤ i → iq L j = true) : upF ((i : Int) + 1).toNat L i = (itA L i).f1 :: upF ((itA L i).f0 + 1).toNat L (itA L i).f0 := by
 obtain ⟨p1, p2⟩ := kS (hp i (by omega))
 rw [show ((i : Int) + 1).toNat = i + 1 from by omega]
 simp only [upF]
 rw [if_neg (by omega), ahg _ (itA L (i : Int)).f0 i _ p1 (Nat.le_refl _) (by omega) (Nat.le_refl _) (fun j hj => hp j (by omega))]
theorem fM {L : List It} {i : Nat} (hp : ∀ j : Nat, j ≤ i → iq L j = true) : bQ L i = bQ L (itA L i).f0 ++ [(itA L i).f1] := by
 unfold bQ
 rw [Np hp, List.reverse_cons]
theorem qA (L : List It) : bQ L (-1) = [] := by simp [bQ, upF]
theorem aaR {L : List It} : ∀ (t : Nat) (i : Int) (acc : List ByteArray), -1 ≤ i → i < L.length → (i + 1).toNat ≤ t → acc.length + t ≤ 100 → (∀ j : Nat, (j : Int) ≤ i → iq L j = true) →
    Ev (fun k => eY.l0 k L i acc) (acc ++ upF (i + 1).toNat L i).reverse := by
 intro t
 induction t with
 | zero =>
  intro i acc h1 h2 h3 h4 hp
  obtain rfl : i = -1 := by omega
  obtain ⟨K, hK⟩ := aei acc (by omega)
  refine ⟨K + 1, fun k hk => ?_⟩
  obtain ⟨k, rfl⟩ : ∃ q, k = q + 1 := ⟨k - 1, by omega⟩
  have h5 : ay.f k acc = some acc.reverse := hK k (by omega)
  simp only [eY.l0, h5]
  simp [upF]
 | succ t ih =>
  intro i acc h1 h2 h3 h4 hp
  by_cases hi : i = -1
  · exact ih i acc h1 h2 (by omega) (by omega) hp
  · obtain ⟨q, rfl⟩ : ∃ q : Nat, i = q := ⟨i.toNat, by omega⟩
    obtain ⟨p1, p2⟩ := kS (hp q (by omega))
    obtain ⟨K, hK⟩ := ih (itA L (q : Int)).f0 (acc ++ [(itA L (q : Int)).f1]) p1 (by omega) (by omega) (by simp; omega) (fun j hj => hp j (by omega))
    refine ⟨K + 1, fun k hk => ?_⟩
    obtain ⟨k, rfl⟩ : ∃ q, k = q + 1 := ⟨k - 1, by omega⟩
    have h5 : eY.l0 k L (itA L (q : Int)).f0 (acc ++ [(itA L (q : Int)).f1]) = _ := hK k (by omega)
    simp only [eY.l0]
    rw [if_neg hi, if_pos (by omega), if_pos h2, if_pos (by omega)]
    rw [Np (fun j hj => hp j (by omega))]
    refine h5.trans ?_
    simp
theorem PL (L : List It) (hL : L.length ≤ 64) (hd : oH L = true) (i : Int) (hi : -1 ≤ i) (hi2 : i < L.length) (A : Option Addr) (c : Nat) (hc : L.length ≤ c) (w : World) (hC : Kd.C kIt w A L.length L) :
    Calls Tryz.prog 77 #[.slice A L.length c, .int .i64 i] w fun e w' => ∃ v, e = .returned v ∧ Kd.R Kd.string 9 w' w.heap.size (fun _ => True) v (bQ L i) ∧ Below w.heap.size w w' := by
 have hp : ∀ j : Nat, (j : Int) ≤ i → iq L j = true := fun j hj => by
  simp only [oH, List.all_eq_true, List.mem_range] at hd
  exact jm (hd j (by omega))
 obtain ⟨k, hk⟩ := (aaR (i + 1).toNat i [] hi hi2 (Nat.le_refl _) (by simp; omega) hp).rounds
 have := eY.calls k A c L i (bQ L i) w hC hc (by unfold eY.f; rw [hk]; rfl)
 exact this
def lH (L : List It) (i : Int) : List ByteArray := if i < 0 ∨ (L.length : Int) ≤ i ∨ checkN L = 14 then [] else bQ L i
theorem dB {L : List It} (h : checkN L ≠ 14) : L.length ≤ 64 ∧ oH L = true ∧ L.all iC = true := by
 unfold checkN at h
 by_cases h1 : 64 < L.length
 · rw [if_pos h1] at h; exact absurd rfl h
 · rw [if_neg h1] at h
   by_cases h2 : (!(oH L) || L.any (fun x => !iC x)) = true
   · rw [if_pos h2] at h; exact absurd rfl h
   · rw [Bool.or_eq_true, not_or] at h2
     refine ⟨by omega, by simpa using h2.1, ?_⟩
     have h3 := h2.2
     rw [List.all_eq_true]
     intro x hx
     rw [Bool.not_eq_true, List.any_eq_false] at h3
     simpa using h3 x hx
theorem aaS (L : List It) (i : Int) (A : Option Addr) (c : Nat) (hc : L.length ≤ c) (w : World) (hC : Kd.C kIt w A L.length L) (hwf : WfL L) :
    Calls Tryz.prog 41 #[.slice A L.length c, .int .i64 i] w fun e w' => ∃ v, e = .returned v ∧ Kd.R Kd.string 9 w' w.heap.size (fun _ => True) v (lH L i) ∧ Below w.heap.size w w' := by
 have HC := ah.mk hC
 have HK := fun W B => check_any L A c W (Kd.aT HC.out B) hwf
 have HN := fun W => Kd.mP Kd.string 9 W w.heap.size (fun _ => True)
 clear hC
 by_cases h1 : i < 0
 · have hr : lH L i = [] := by unfold lH; rw [if_pos (.inl h1)]
   rw [hr]
   go_enter Tryz.func41, Tryz.ntmps41
   go_wp2
   go_ret
   exact ⟨_, rfl, HN _, Below.refl _ _⟩
 · have h1b : decide (i < 0) = false := decide_eq_false h1
   by_cases h2 : (L.length : Int) ≤ i
   · have hr : lH L i = [] := by unfold lH; rw [if_pos (.inr (.inl h2))]
     rw [hr]
     go_enter Tryz.func41, Tryz.ntmps41
     go_wp2
     go_ret
     exact ⟨_, rfl, HN _, Below.refl _ _⟩
   · have h2b : decide ((L.length : Int) ≤ i) = false := decide_eq_false h2
     by_cases h3 : checkN L = 14
     · have hr : lH L i = [] := by unfold lH; rw [if_pos (.inr (.inr h3))]
       rw [hr]
       go_enter Tryz.func41, Tryz.ntmps41
       go_wp2_with (go_at_call 18; refine (HK _ (Below.refl _ _)).mono ?_; rintro e w1 ⟨rfl, hb1⟩; rw [h3])
       go_ret
       exact ⟨_, rfl, HN _, hb1⟩
     · have hr : lH L i = bQ L i := by unfold lH; rw [if_neg (by rintro (h | h | h) <;> omega)]
       rw [hr]
       obtain ⟨q1, q2, _⟩ := dB h3
       have h3b : (checkN L == 14) = false := by rw [beq_eq_false_iff_ne]; exact h3
       generalize checkN L = e at *
       go_enter Tryz.func41, Tryz.ntmps41
       go_wp2_with (first | (go_at_call 18; refine (HK _ (Below.refl _ _)).mono ?_; rintro e w1 ⟨rfl, hb1⟩) | (go_at_call 77; refine (PL L q1 q2 i (by omega) (by omega) A c hc _ (Kd.aT HC.out hb1)).mono ?_; rintro e w2 ⟨v, rfl, hv, hb2⟩))
       go_ret
       exact ⟨_, rfl, Kd.dY hv hb1.size, dK hb1 hb2⟩
section
variable {α : Type} {d : Kd α} {e e2 base g n cap : Nat} {ok : Nat → Prop} {W : World} {xs : List (List α)}
theorem ahh (h : (Kd.slice e2 d).R e W base ok (.slice (some ⟨g, 0, none⟩) n cap) xs) {x : List α} {v : Value} (hx : d.R e2 W base (fun k => ok k ∧ k ≠ g) v x) (i : Nat) :
    (Kd.slice e2 d).R e (W.setCell ⟨g, i, none⟩ v) base ok (.slice (some ⟨g, 0, none⟩) n cap) (xs.set i x) ∧ W.grownBy (W.setCell ⟨g, i, none⟩ v) (some g) := by
 obtain ⟨hn, _⟩ := Kd.bJ h
 obtain ⟨h0, inner, ho, hr⟩ := h
 have hl : inner.length = xs.length := by rw [hr.1]; show xs.length * 1 = _; omega
 subst hn
 have ho' : W.ownsRow base e 1 (.slice (some ⟨g, 0, none⟩) xs.length cap) xs.length (encs id inner) := by
  rw [show encs id inner = inner by simp [encs]]; exact ho
 obtain ⟨q1, q2⟩ := AU (enc := id) ho' (i : Int) v
 rw [Int.toNat_natCast] at q1 q2
 rw [show encs id (inner.set i v) = inner.set i v by simp [encs]] at q1
 refine ⟨⟨h0, inner.set i v, ?_, ?_, fun j p hj => ?_⟩, q2⟩
 · rw [List.length_set]; exact q1
 · rw [List.length_set, List.length_set, hr.1]
 · show (Kd.slice e2 d).M _ _ _ _ (List.take 1 (List.drop (j * 1) _))
   have hjl : j < (xs.set i x).length := (List.getElem?_eq_some_iff.1 hj).1
   rw [List.length_set] at hjl
   rw [Nat.mul_one]
   have e1 : List.take 1 (List.drop j (inner.set i v)) = [(inner.set i v)[j]'(by rw [List.length_set]; omega)] := by
    rw [List.drop_eq_getElem_cons (by rw [List.length_set]; omega)]; rfl
   rw [e1]
   by_cases hij : i = j
   · subst hij
     have hp : p = x := by
      rw [List.getElem?_set_self (by omega)] at hj; exact (Option.some.inj hj).symm
     subst hp
     refine ⟨v, by simp, ?_⟩
     have hx2 : d.R e2 W base (fun k => ok k ∧ some k ≠ (Value.slice (some ⟨g, 0, none⟩) xs.length cap).ownBlock) v p := Kd.dF hx (fun k hk => ⟨hk.1, fun e => hk.2 (Option.some.inj e)⟩)
     exact Kd.Gp (p := ⟨g, i, none⟩) hx2 (fun k hk => fun e => hk.2 (by show some k = some g; rw [e])) v
   · have hj2 : xs[j]? = some p := by rw [List.getElem?_set_ne hij] at hj; exact hj
     have hp := hr.2 j p hj2
     rw [show List.take (Kd.slice e2 d).sz (List.drop (j * (Kd.slice e2 d).sz) inner) = [inner[j]] by
      show List.take 1 (List.drop (j * 1) inner) = _
      rw [Nat.mul_one, List.drop_eq_getElem_cons (by omega)]; rfl] at hp
     rw [List.getElem_set_ne hij]
     exact Kd.aaw (p := ⟨g, i, none⟩) hp (fun k hk => fun e => hk.2 (by show some k = some g; rw [e])) v
theorem aej (h : (Kd.slice e2 d).R e W base ok (.slice (some ⟨g, 0, none⟩) n cap) xs) (i : Nat) (hi : i < n) : ∃ u, W.cell? ⟨g, i, none⟩ = some u ∧ W.frozen? ⟨g, i, none⟩ = false := by
 obtain ⟨hn, _⟩ := Kd.bJ h
 obtain ⟨h0, inner, ho, hr⟩ := h
 subst hn
 have ho' : W.ownsRow base e 1 (.slice (some ⟨g, 0, none⟩) xs.length cap) xs.length (encs id inner) := by
  rw [show encs id inner = inner by simp [encs]]; exact ho
 have := JA (d := Value.bool true) ho' (i : Int) (by omega) (by omega)
 rw [Int.toNat_natCast] at this
 exact ⟨_, this⟩
end
def bV {α : Type} (f : Nat → α) (z : α) (n i : Nat) : List α := (List.range n).map fun j => if j < i then f j else z
theorem pK {α : Type} (f : Nat → α) (z : α) (n : Nat) : bV f z n 0 = List.replicate n z := by
 apply List.ext_getElem
 · simp [bV]
 · intro j h1 h2; simp [bV]
theorem sZ {α : Type} (f : Nat → α) (z : α) (n i : Nat) : (bV f z n i).set i (f i) = bV f z n (i + 1) := by
 apply List.ext_getElem
 · simp [bV]
 · intro j h1 h2
   rw [List.getElem_set]
   simp only [bV, List.getElem_map, List.getElem_range]
   by_cases e : i = j
   · subst e; simp
   · rw [if_neg e]
     by_cases h : j < i
     · rw [if_pos h, if_pos (by omega)]
     · rw [if_neg h, if_neg (by omega)]
theorem PN {α : Type} (f : Nat → α) (z : α) (n : Nat) : bV f z n n = (List.range n).map f := by
 apply List.ext_getElem
 · simp [bV]
 · intro j h1 h2
   simp only [bV, List.getElem_map, List.getElem_range]
   rw [if_pos (by simpa [bV] using h1)]
theorem bK {α : Type} (f : Nat → α) (z : α) (n i : Nat) : (bV f z n i).length = n := by simp [bV]
def ltS (s t : ByteArray) : Bool := Op.bytesLess s.toList t.toList
def oI (s t : ByteArray) : Int := if ltS s t then -1 else if s.toList == t.toList then 0 else 1
def cmpL : List ByteArray → List ByteArray → Int
 | [], [] => 0
 | [], _ :: _ => -1
 | _ :: _, [] => 1
 | a :: l, b :: m => if oI a b = 0 then cmpL l m else oI a b
theorem ajb (t : TypeId) (a b : ByteArray) : binOp .gtr t (.string a) (.string b) = pure (.bool !(Op.bytesLess a.toList b.toList || a.toList == b.toList)) := by simp [binOp, Op.stringOp]
attribute [local go_sem] ajb
theorem Nq (s : ByteArray) (w : World) : Calls Tryz.prog 125 #[.string s] w fun e w' => e = .returned (.bool false) ∧ w' = w := by
 go_enter Tryz.func125, Tryz.ntmps125
 go_wp2
 go_ret
 exact ⟨rfl, rfl⟩
theorem PO (s t : ByteArray) (w : World) : Calls Tryz.prog 91 #[.string s, .string t] w fun e w' => e = .returned (.int .i64 (oI s t)) ∧ w' = w := by
 cases h1 : Op.bytesLess s.toList t.toList with
 | true =>
  have hr : oI s t = -1 := by simp only [oI, ltS, h1]; rfl
  go_enter Tryz.func91, Tryz.ntmps91
  go_wp2_with (go_at_call 125; refine (Nq _ _).mono ?_; rintro e w1 ⟨rfl, rfl⟩)
  go_ret
  rw [hr]; exact ⟨rfl, rfl⟩
 | false =>
  cases h2 : (s.toList == t.toList) with
  | true =>
   have hr : oI s t = 0 := by simp only [oI, ltS, h1, h2]; rfl
   go_enter Tryz.func91, Tryz.ntmps91
   go_wp2_with (go_at_call 125; refine (Nq _ _).mono ?_; rintro e w1 ⟨rfl, rfl⟩)
   go_ret
   rw [hr]; exact ⟨rfl, rfl⟩
  | false =>
   have hr : oI s t = 1 := by simp only [oI, ltS, h1, h2]; rfl
   go_enter Tryz.func91, Tryz.ntmps91
   go_wp2_with (go_at_call 125; refine (Nq _ _).mono ?_; rintro e w1 ⟨rfl, rfl⟩)
   go_ret
   rw [hr]; exact ⟨rfl, rfl⟩
theorem Bg {l : List ByteArray} {i : Nat} (h : i < l.length) : fQ ByteArray.empty l (i : Int) = l[i] := by
 simp [fQ, List.getD_eq_getElem?_getD, h]
theorem JE {a b : List ByteArray} {i : Nat} (h1 : i < a.length) (h2 : i < b.length) : cmpL (a.drop i) (b.drop i) = if oI a[i] b[i] = 0 then cmpL (a.drop (i + 1)) (b.drop (i + 1)) else oI a[i] b[i] := by
 rw [List.drop_eq_getElem_cons h1, List.drop_eq_getElem_cons h2, cmpL]
theorem aaT (a b : List ByteArray) (A B : Option Addr) (c d : Nat) (w : World) (hA : Kd.C Kd.string w A a.length a) (hB : Kd.C Kd.string w B b.length b) :
    Calls Tryz.prog 65 #[.slice A a.length c, .slice B b.length d] w fun e w' => e = .returned (.int .i64 (cmpL a b)) ∧ aY w w' := by
 have HA := ah.mk hA
 have HB := ah.mk hB
 have la := hA.2.1
 have lb := hB.2.1
 clear hA hB
 go_enter Tryz.func65, Tryz.ntmps65
 go_wp2
 go_loopg [11] a.length (fun gg v11 wr => ∃ i : Nat, i ≤ a.length ∧ a.length - i ≤ gg ∧ v11 = .int .i64 i ∧ ah (i ≤ b.length) ∧ ah (aY w wr) ∧ ah (cmpL a b = cmpL (a.drop i) (b.drop i)))
 case atStart => exact ⟨0, Nat.zero_le _, by omega, rfl, ⟨Nat.zero_le _⟩, ⟨aY.refl _⟩, ⟨rfl⟩⟩
 case round =>
  obtain ⟨i, hi, hg, rfl, HI, HD, HE⟩ := hrel
  by_cases hlt : i < a.length
  · have hltz : (i : Int) < (a.length : Int) := by omega
    obtain ⟨ad, rfl, h0⟩ := Kd.jv (Kd.aT HA.out HD.out.below) (i : Int) (by omega) hltz
    rw [Int.toNat_natCast, Bg hlt] at h0
    by_cases hbl : i < b.length
    · have hblz : ¬ (b.length : Int) ≤ (i : Int) := by omega
      have ajc : (i : Int) < (b.length : Int) := by omega
      obtain ⟨ad2, rfl, h1⟩ := Kd.jv (Kd.aT HB.out HD.out.below) (i : Int) (by omega) ajc
      rw [Int.toNat_natCast, Bg hbl] at h1
      have hE := HE.out
      rw [JE hlt hbl] at hE
      generalize hx : a[i] = x at *
      generalize hy : b[i] = y at *
      by_cases hz : oI x y = 0
      · rw [if_pos hz] at hE
        have HE2 := ah.mk hE
        clear hE HE hx hy
        go_wp2_with (go_at_call 91; refine (PO _ _ _).mono ?_; rintro e w1 ⟨rfl, rfl⟩; rw [hz])
        go_roundg (a.length - (i + 1))
        case measure => omega
        case rel => exact ⟨i + 1, by omega, by omega, by go_num, ⟨by omega⟩, HD, HE2⟩
      · rw [if_neg hz] at hE
        have HE2 := ah.mk hE
        have hz2 : (oI x y != 0) = true := by simpa using hz
        clear hE HE hx hy
        go_wp2_with (go_at_call 91; refine (PO _ _ _).mono ?_; rintro e w1 ⟨rfl, rfl⟩; rw [show (oI x y) = oI x y from rfl])
        go_ret
        first | exact ⟨rfl, HD.out⟩ | (rw [HE2.out]; exact ⟨rfl, HD.out⟩)
    · have hblz : (b.length : Int) ≤ (i : Int) := by omega
      have hib : i = b.length := by have := HI.out; omega
      have hr : cmpL a b = 1 := by
       rw [HE.out, List.drop_eq_getElem_cons hlt, List.drop_eq_nil_of_le (by omega : b.length ≤ i), cmpL]
      clear hib
      go_wp2
      go_ret
      first | exact ⟨rfl, HD.out⟩ | (rw [hr]; exact ⟨rfl, HD.out⟩)
  · have hltz : ¬ (i : Int) < (a.length : Int) := by omega
    have hia : i = a.length := by omega
    by_cases hbl : (a.length : Int) < (b.length : Int)
    · have hr : cmpL a b = -1 := by
        rw [HE.out, List.drop_eq_nil_of_le (by omega : a.length ≤ i), List.drop_eq_getElem_cons (by omega : i < b.length), cmpL]
      go_wp2
      go_ret
      first | exact ⟨rfl, HD.out⟩ | (rw [hr]; exact ⟨rfl, HD.out⟩)
    · have hr : cmpL a b = 0 := by
        have := HI.out
        rw [HE.out, List.drop_eq_nil_of_le (by omega : a.length ≤ i), List.drop_eq_nil_of_le (by omega : b.length ≤ i), cmpL]
      go_wp2
      go_ret
      first | exact ⟨rfl, HD.out⟩ | (rw [hr]; exact ⟨rfl, HD.out⟩)
abbrev kPs : Kd (List ByteArray) := Kd.slice 9 Kd.string
theorem aaU (a b : List ByteArray) (A B : Option Addr) (c d : Nat) (w : World) (hA : Kd.C Kd.string w A a.length a) (hB : Kd.C Kd.string w B b.length b) :
    Calls Tryz.prog 65 #[.slice A a.length c, .slice B b.length d] w fun e w' => e = .returned (.int .i64 (cmpL a b)) ∧ ∃ m, w' = w.drewN m :=
 (aaT a b A B c d w hA hB).mono fun _ _ h => ⟨h.1, h.2.out⟩
theorem aaV (Ps : List (List ByteArray)) (pb : Nat) (A : Option Addr) (c : Nat) (a b : Nat) (ha : a < Ps.length) (hb : b < Ps.length) (W : World)
    (hp : W.cell? ⟨pb, 0, none⟩ = some (.slice A Ps.length c)) (hC : Kd.C kPs W A Ps.length Ps) :
    Calls Tryz.prog 84 #[.int .i64 a, .int .i64 b, .pointer (some ⟨pb, 0, none⟩)] W fun e w' => e = .returned (.int .i64 (cmpL (Ps.getD a []) (Ps.getD b []))) ∧ aY W w' := by
 have h1 := Kd.Df hC ([] : List ByteArray) (a : Int) (by omega) (by omega)
 have h2 := Kd.Df hC ([] : List ByteArray) (b : Int) (by omega) (by omega)
 obtain ⟨ad, c1, rfl, _, hK1, hc1⟩ := h1
 obtain ⟨ad2, c2, e2, _, hK2, hc2⟩ := h2
 cases e2
 obtain ⟨A1, d1, rfl, l1, g1⟩ := hK1
 obtain ⟨A2, d2, rfl, l2, g2⟩ := hK2
 have x1 := hc1 0 _ rfl
 have x2 := hc2 0 _ rfl
 rw [Int.toNat_natCast] at x1 x2 g1 g2
 rw [show a * kPs.sz + 0 = a from by show a * 1 + 0 = a; omega] at x1
 rw [show b * kPs.sz + 0 = b from by show b * 1 + 0 = b; omega] at x2
 have hal : (a : Int) < (Ps.length : Int) := by omega
 have hbl : (b : Int) < (Ps.length : Int) := by omega
 have HG1 := ah.mk g1
 have HG2 := ah.mk g2
 clear hC hc1 hc2 g1 g2 l1 l2
 generalize Ps.getD a [] = p at *
 generalize Ps.getD b [] = q at *
 go_enter Tryz.func84, Tryz.ntmps84
 go_wp2
 go_quiet ((go_at_call 65; exact Calls.quiet_of (aaU p q A1 A2 d1 d2 _ (Kd.aT HG1.out (aY.below ⟨⟨_, rfl⟩⟩)) (Kd.aT HG2.out (aY.below ⟨⟨_, rfl⟩⟩)))))
 go_wp2
 go_ret
 exact ⟨rfl, ⟨⟨_, rfl⟩⟩⟩
open Go.RowKit
def XK : Go.Shelf.Ren := ⟨fun | 6 => 83 | 15 => 79 | 14 => 118 | 28 => 115 | 29 => 116 | 20 => 147 | 21 => 148 | 22 => 149 | 23 => 150 | 24 => 151 | 25 => 152 | 26 => 153 | 27 => 154 | 46 => 177 | 47 => 142 | 48 => 143 | 49 => 178 | 50 => 179 | 57 => 197 | n => n, fun | 22 => 76 | 24 => 3 | 25 => 125 | 3 => 3 | 39 => 119 | 0 => 0 | 53 => 134 | 55 => 154 | 4 => 4 | 46 => 146 | 45 => 145 | 50 => 150 | 5 => 5 | 9 => 9 | 66 => 181 | 70 => 185 | 76 => 204 | 77 => 205 | n => n, fun | n => n⟩
theorem afy : Go.Proofs.SlLaysF.n6 Tryz.prog XK := {
 mixed := by kernel_rfl
 f6 := ⟨"slices.SortFunc[[]int,int]", by decide, Tryz.func83.trans (congrArg some (by kernel_rfl))⟩
 f14 := ⟨"slices.pdqsortCmpFunc[int]", by decide, Tryz.func118.trans (congrArg some (by kernel_rfl))⟩
 f15 := Tryz.func79.trans (congrArg some (by kernel_rfl))
 f20 := ⟨"slices.insertionSortCmpFunc[int]", by decide, Tryz.func147.trans (congrArg some (by kernel_rfl))⟩
 f21 := ⟨"slices.heapSortCmpFunc[int]", by decide, Tryz.func148.trans (congrArg some (by kernel_rfl))⟩
 f22 := ⟨"slices.breakPatternsCmpFunc[int]", by decide, Tryz.func149.trans (congrArg some (by kernel_rfl))⟩
 f23 := ⟨"slices.choosePivotCmpFunc[int]", by decide, Tryz.func150.trans (congrArg some (by kernel_rfl))⟩
 f24 := ⟨"slices.reverseRangeCmpFunc[int]", by decide, Tryz.func151.trans (congrArg some (by kernel_rfl))⟩
 f25 := ⟨"slices.partialInsertionSortCmpFunc[int]", by decide, Tryz.func152.trans (congrArg some (by kernel_rfl))⟩
 f26 := ⟨"slices.partitionEqualCmpFunc[int]", by decide, Tryz.func153.trans (congrArg some (by kernel_rfl))⟩
 f27 := ⟨"slices.partitionCmpFunc[int]", by decide, Tryz.func154.trans (congrArg some (by kernel_rfl))⟩
 f28 := Tryz.func115.trans (congrArg some (by kernel_rfl))
 f29 := Tryz.func116.trans (congrArg some (by kernel_rfl))
 f46 := ⟨"slices.siftDownCmpFunc[int]", by decide, Tryz.func177.trans (congrArg some (by kernel_rfl))⟩
 f47 := Tryz.func142.trans (congrArg some (by kernel_rfl))
 f48 := Tryz.func143.trans (congrArg some (by kernel_rfl))
 f49 := ⟨"slices.medianAdjacentCmpFunc[int]", by decide, Tryz.func178.trans (congrArg some (by kernel_rfl))⟩
 f50 := ⟨"slices.medianCmpFunc[int]", by decide, Tryz.func179.trans (congrArg some (by kernel_rfl))⟩
 f57 := ⟨"slices.order2CmpFunc[int]", by decide, Tryz.func197.trans (congrArg some (by kernel_rfl))⟩
 t0 := Tryz.underlying0
 a0 := Tryz.isAgg0
 z0 := Tryz.sizeOf0
 v0 := Tryz.zeroValue0
 t3 := Tryz.underlying3
 a3 := Tryz.isAgg3
 z3 := Tryz.sizeOf3
 v3 := Tryz.zeroValue3
 t4 := Tryz.underlying4
 a4 := Tryz.isAgg4
 z4 := Tryz.sizeOf4
 v4 := Tryz.zeroValue4
 t5 := Tryz.underlying5
 a5 := Tryz.isAgg5
 z5 := Tryz.sizeOf5
 v5 := Tryz.zeroValue5
 t9 := Tryz.underlying9
 a9 := Tryz.isAgg9
 z9 := Tryz.sizeOf9
 v9 := Tryz.zeroValue9
 t22 := Tryz.underlying76
 a22 := Tryz.isAgg76
 z22 := Tryz.sizeOf76
 v22 := Tryz.zeroValue76
 a24 := Tryz.isAgg3
 z24 := Tryz.sizeOf3
 t25 := Tryz.underlying125
 a25 := Tryz.isAgg125
 z25 := Tryz.sizeOf125
 v25 := Tryz.zeroValue125
 t39 := Tryz.underlying119
 a39 := Tryz.isAgg119
 z39 := Tryz.sizeOf119
 v39 := Tryz.zeroValue119
 t45 := Tryz.underlying145
 a45 := Tryz.isAgg145
 z45 := Tryz.sizeOf145
 v45 := Tryz.zeroValue145
 t46 := Tryz.underlying146
 a46 := Tryz.isAgg146
 z46 := Tryz.sizeOf146
 v46 := Tryz.zeroValue146
 t50 := Tryz.underlying150
 a50 := Tryz.isAgg150
 z50 := Tryz.sizeOf150
 v50 := Tryz.zeroValue150
 t53 := Tryz.underlying134
 a53 := Tryz.isAgg134
 z53 := Tryz.sizeOf134
 v53 := Tryz.zeroValue134
 t55 := Tryz.underlying154
 a55 := Tryz.isAgg154
 z55 := Tryz.sizeOf154
 v55 := Tryz.zeroValue154
 t66 := Tryz.underlying181
 a66 := Tryz.isAgg181
 z66 := Tryz.sizeOf181
 v66 := Tryz.zeroValue181
 t70 := Tryz.underlying185
 a70 := Tryz.isAgg185
 z70 := Tryz.sizeOf185
 v70 := Tryz.zeroValue185
 t76 := Tryz.underlying204
 a76 := Tryz.isAgg204
 z76 := Tryz.sizeOf204
 v76 := Tryz.zeroValue204
 t77 := Tryz.underlying205
 a77 := Tryz.isAgg205
 z77 := Tryz.sizeOf205
 v77 := Tryz.zeroValue205 }
open Go.RowKit Go.Lib
theorem aaW : ∀ x : List UInt8, Op.bytesLess x x = false
 | [] => rfl
 | a :: x => by
  have ih := aaW x
  simp [Op.bytesLess, ih]
theorem aaX : ∀ x y : List UInt8, Op.bytesLess x y = false → x ≠ y → Op.bytesLess y x = true
 | [], [], _, h => absurd rfl h
 | [], b :: y, h, _ => by simp [Op.bytesLess] at h
 | a :: x, [], _, _ => by simp [Op.bytesLess]
 | a :: x, b :: y, h, hne => by
  simp only [Op.bytesLess, Bool.or_eq_false_iff, decide_eq_false_iff_not, Bool.and_eq_false_iff, beq_eq_false_iff_ne] at h
  simp only [Op.bytesLess, Bool.or_eq_true, decide_eq_true_eq, Bool.and_eq_true, beq_iff_eq]
  obtain ⟨h1, h2⟩ := h
  by_cases e : a = b
  · subst e
    right
    refine ⟨rfl, aaX x y ?_ (fun e => hne (by rw [e]))⟩
    rcases h2 with h2 | h2
    · exact absurd rfl h2
    · exact h2
  · left
    have h3 : ¬ a.toNat = b.toNat := fun h => e (UInt8.toNat_inj.1 h)
    rw [UInt8.lt_iff_toNat_lt] at h1 ⊢
    omega
theorem PS : ∀ x y z : List UInt8, Op.bytesLess x y = true → Op.bytesLess y z = true → Op.bytesLess x z = true
 | [], [], z, h, _ => by simp [Op.bytesLess] at h
 | [], b :: y, [], _, h => by simp [Op.bytesLess] at h
 | [], b :: y, c :: z, _, _ => by simp [Op.bytesLess]
 | a :: x, [], z, h, _ => by simp [Op.bytesLess] at h
 | a :: x, b :: y, [], _, h => by simp [Op.bytesLess] at h
 | a :: x, b :: y, c :: z, h1, h2 => by
  simp only [Op.bytesLess, Bool.or_eq_true, decide_eq_true_eq, Bool.and_eq_true, beq_iff_eq] at h1 h2 ⊢
  rcases h1 with h1 | ⟨rfl, h1⟩
  · rcases h2 with h2 | ⟨rfl, h2⟩
    · left; rw [UInt8.lt_iff_toNat_lt] at *; omega
    · left; exact h1
  · rcases h2 with h2 | ⟨rfl, h2⟩
    · left; exact h2
    · right; exact ⟨rfl, PS x y z h1 h2⟩
theorem str_inj {a b : ByteArray} (h : a.toList = b.toList) : a = b := by
 rw [toList_data, toList_data] at h
 exact ByteArray.ext (Array.toList_inj.1 h)
theorem kP {s t : ByteArray} : oI s t = 0 ↔ s = t := by
 unfold oI ltS
 constructor
 · intro h
   cases h1 : Op.bytesLess s.toList t.toList with
   | true => rw [h1] at h; simp at h
   | false =>
    rw [h1] at h
    by_cases h2 : s.toList = t.toList
    · exact str_inj h2
    · rw [show (s.toList == t.toList) = false from by simpa using h2] at h; simp at h
 · rintro rfl
   rw [aaW]; simp
theorem wz {s t : ByteArray} : oI s t < 0 ↔ Op.bytesLess s.toList t.toList = true := by
 unfold oI ltS
 cases h1 : Op.bytesLess s.toList t.toList with
 | true => simp
 | false =>
  by_cases h2 : s.toList = t.toList
  · rw [h2]; simp
  · rw [show (s.toList == t.toList) = false from by simpa using h2]; simp
theorem xO : ∀ a : List ByteArray, cmpL a a = 0
 | [] => rfl
 | x :: a => by rw [cmpL, if_pos (kP.2 rfl)]; exact xO a
theorem wB : ∀ a b : List ByteArray, ¬ cmpL a b < 0 → a ≠ b → cmpL b a < 0
 | [], [], _, h => absurd rfl h
 | [], _ :: _, h, _ => by simp [cmpL] at h
 | _ :: _, [], _, _ => by simp [cmpL]
 | x :: a, y :: b, h, hne => by
  rw [cmpL] at h ⊢
  by_cases e : oI x y = 0
  · rw [if_pos e] at h
    have exy := kP.1 e
    subst exy
    rw [if_pos e]
    exact wB a b h (fun e2 => hne (by rw [e2]))
  · rw [if_neg e] at h
    have hxy : x ≠ y := fun h => e (kP.2 h)
    rw [if_neg (fun h => hxy (kP.1 h).symm)]
    rw [wz] at h ⊢
    exact aaX _ _ (by simpa using h) (fun h2 => hxy (str_inj h2))
theorem qB : ∀ a b c : List ByteArray, cmpL a b < 0 → cmpL b c < 0 → cmpL a c < 0
 | [], [], _, h, _ => by simp [cmpL] at h
 | [], _ :: _, [], _, h => by simp [cmpL] at h
 | [], _ :: _, _ :: _, _, _ => by simp [cmpL]
 | _ :: _, [], _, h, _ => by simp [cmpL] at h
 | _ :: _, _ :: _, [], _, h => by simp [cmpL] at h
 | x :: a, y :: b, z :: c, h1, h2 => by
  rw [cmpL] at h1 h2 ⊢
  by_cases e1 : oI x y = 0
  · have := kP.1 e1
    subst this
    rw [if_pos e1] at h1
    by_cases e2 : oI x z = 0
    · rw [if_pos e2] at h2 ⊢; exact qB a b c h1 h2
    · rw [if_neg e2] at h2 ⊢; exact h2
  · rw [if_neg e1] at h1
    by_cases e2 : oI y z = 0
    · have := kP.1 e2
      subst this
      rw [if_neg e1]; exact h1
    · rw [if_neg e2] at h2
      have h3 := PS _ _ _ (wz.1 h1) (wz.1 h2)
      have h4 := wz.2 h3
      rw [if_neg (by omega)]; exact h4
open Go.RowKit Go.Lib Go.Sort Go.Shelf Go.Proofs.YthlflglkdaainaaGreatDoorW.aN Go.Proofs.YthlflglkdaainaaGreatDoorW.bI Go.Proofs.YthlflglkdaainaaGreatDoorW.cZ Go.Proofs.YthlflglkdaainaaGreatDoor.Prt
theorem rP {α : Type} [Inhabited α] (enc : α → Value) (W : World) (blk off n : Nat) (dk : Array α) (os : Array Obj) (k : Nat) (h1 : k ≠ blk) (h2 : k < W.heap.size) : (sortWorld enc W blk off n dk os).heap[k]? = W.heap[k]? := by
 unfold sortWorld
 rw [heap_grow_old _ _ (by rw [size_putRow]; exact h2)]
 unfold putRow mapBlock
 simp only [Array.getElem?_modify]
 rw [if_neg (fun e => h1 e.symm)]
 rfl
def wC {n : Nat} (x : Fin n) : Value := .int .i64 (x.val : Int)
def cfF (Ps : List (List ByteArray)) (x y : Fin Ps.length) : Int := cmpL (Ps.getD x.val []) (Ps.getD y.val [])
theorem XL (Ps : List (List ByteArray)) [Inhabited (Fin Ps.length)] (pb g : Nat) (A : Option Addr) (c base : Nat) (w : World) (hpb : pb ≠ g) (hpl : pb < w.heap.size)
    (hp : w.cell? ⟨pb, 0, none⟩ = some (.slice A Ps.length c)) (hR : Kd.R kPs 65 w base (fun k => k ≠ g) (.slice A Ps.length c) Ps) :
    CmpLays1 Tryz.prog 84 #[.pointer (some ⟨pb, 0, none⟩)] wC (cfF Ps) g 0 Ps.length w := by
 refine CmpReads.lays ?_
 intro m os dk hdk x y
 have hR2 : Kd.R kPs 65 (sortWorld wC w g 0 m dk os) base (fun k => k ≠ g) (.slice A Ps.length c) Ps := Kd.CB hR (fun k hk hl => rP _ _ _ _ _ _ _ _ hk hl)
 have hp2 : (sortWorld wC w g 0 m dk os).cell? ⟨pb, 0, none⟩ = some (.slice A Ps.length c) := by
  have h := rP (wC (n := Ps.length)) w g 0 m dk os pb hpb hpl
  simp only [World.cell?, h]
  exact hp
 exact (aaV Ps pb A c x.val y.val x.isLt y.isLt _ hp2 (Kd.bJ hR2).2.2).mono fun _ _ h => ⟨h.1, h.2.out⟩
theorem Nr (Ps : List (List ByteArray)) : SWO (ltOf (cfF Ps)) := by
 have hlt : ∀ x y, ltOf (cfF Ps) x y = decide (cmpL (Ps.getD x.val []) (Ps.getD y.val []) < 0) := fun x y => rfl
 refine ⟨fun x => ?_, fun x y z h1 h2 => ?_, fun x y z h1 h2 => ?_⟩
 · rw [hlt, xO]; rfl
 · rw [hlt, decide_eq_true_eq] at *; exact qB _ _ _ h1 h2
 · rw [hlt, decide_eq_false_iff_not] at *
   intro h3
   by_cases e : Ps.getD x.val [] = Ps.getD y.val []
   · rw [e] at h3; exact h2 h3
   · exact h2 (qB _ _ _ (wB _ _ h1 e) h3)
theorem ahi {Ps : List (List ByteArray)} (hinj : ∀ i j : Fin Ps.length, Ps.getD i.val [] = Ps.getD j.val [] → i = j) (x y : Fin Ps.length) (h1 : ltOf (cfF Ps) x y = false) (h2 : ltOf (cfF Ps) y x = false) : x = y := by
 have hlt : ∀ x y, ltOf (cfF Ps) x y = decide (cmpL (Ps.getD x.val []) (Ps.getD y.val []) < 0) := fun x y => rfl
 rw [hlt, decide_eq_false_iff_not] at h1 h2
 by_cases e : Ps.getD x.val [] = Ps.getD y.val []
 · exact hinj x y e
 · exact absurd (wB _ _ h1 e) h2
theorem XM (Ps : List (List ByteArray)) [Inhabited (Fin Ps.length)] (pb g cap : Nat) (A : Option Addr) (c base : Nat) (w : World) (d : Array (Fin Ps.length)) (hd : d.size = Ps.length) (hn : Ps.length ≤ 100000) (hpb : pb ≠ g) (hpl : pb < w.heap.size) (hg : g < w.heap.size)
    (hp : w.cell? ⟨pb, 0, none⟩ = some (.slice A Ps.length c)) (hR : Kd.R kPs 65 w base (fun k => k ≠ g) (.slice A Ps.length c) Ps)
    (hH : Holds wC w g 0 d) (hinj : ∀ i j : Fin Ps.length, Ps.getD i.val [] = Ps.getD j.val [] → i = j) :
    Calls Tryz.prog 83 #[.slice (some ⟨g, 0, none⟩) Ps.length cap, .func (.func 84) #[] #[.pointer (some ⟨pb, 0, none⟩)]] w fun e w' =>
     e = .returned (.tuple #[]) ∧ ∃ n os, w' = sortWorld wC w g 0 n (d.toList.mergeSort fun x y => !(ltOf (cfF Ps)) y x).toArray os := by
 have h := Any.slices_SortFunc_total afy wC (fun _ => rfl) (cfF Ps) (Nr Ps) 84 #[.pointer (some ⟨pb, 0, none⟩)] g 0 cap d w (enters_of Tryz.func84 (by kernel_rfl) rfl) (by rw [hd]; exact XL Ps pb g A c base w hpb hpl hp hR) hH hg (by omega) (ahi hinj)
 rw [hd] at h
 exact h
theorem Ns {L : List It} {i : Nat} (hp : ∀ j : Nat, j ≤ i → iq L j = true) : bQ L i ≠ [] := by
 rw [fM hp]; simp
theorem Nu {L : List It} {i j : Nat} (hij : i < j) (hj : j < L.length) (ho : fK L j = true) (h0 : (itA L i).f0 = (itA L j).f0) (h1 : (itA L i).f1 = (itA L j).f1) : False := by
 simp only [fK, Bool.and_eq_true, Bool.not_eq_true'] at ho
 have h2 := ho.2
 unfold oh at h2
 rw [List.any_eq_false] at h2
 have hm : L[i] ∈ L.take j := by
  rw [List.mem_take_iff_getElem]
  exact ⟨i, by omega, rfl⟩
 refine h2 _ hm ?_
 rw [← bH (by omega : i < L.length), h0, h1]; simp
theorem Bh {L : List It} (hd : oH L = true) : ∀ (t i j : Nat), i ≤ t → i < L.length → j < L.length → bQ L i = bQ L j → i = j := by
 simp only [oH, List.all_eq_true, List.mem_range] at hd
 have hp : ∀ i : Nat, i < L.length → ∀ j : Nat, j ≤ i → iq L j = true := fun i hi j hj => jm (hd j (by omega))
 intro t
 induction t with
 | zero =>
  intro i j hi h1 h2 h
  obtain rfl : i = 0 := by omega
  have p0 := kS (hp 0 h1 0 (Nat.le_refl _))
  have q0 := kS (hp j h2 j (Nat.le_refl _))
  rw [fM (hp 0 h1), fM (hp j h2)] at h
  obtain ⟨ha, hb⟩ := List.append_inj' h rfl
  have e1 : (itA L ((0 : Nat) : Int)).f1 = (itA L (j : Int)).f1 := by simpa using hb
  have e0 : (itA L ((0 : Nat) : Int)).f0 = -1 := by omega
  rw [e0, qA] at ha
  have e2 : (itA L (j : Int)).f0 = -1 := by
   by_cases c : (itA L (j : Int)).f0 = -1
   · exact c
   · obtain ⟨q, hq⟩ : ∃ q : Nat, (itA L (j : Int)).f0 = q := ⟨(itA L (j : Int)).f0.toNat, by omega⟩
     rw [hq] at ha
     exact absurd ha.symm (Ns (hp q (by omega)))
  by_cases e : (0 : Nat) = j
  · exact e
  · exact (Nu (by omega : 0 < j) h2 (hd j h2) (by rw [e0, e2]) e1).elim
 | succ t ih =>
  intro i j hi h1 h2 h
  have p0 := kS (hp i h1 i (Nat.le_refl _))
  have q0 := kS (hp j h2 j (Nat.le_refl _))
  have h' := h
  rw [fM (hp i h1), fM (hp j h2)] at h
  obtain ⟨ha, hb⟩ := List.append_inj' h rfl
  have e1 : (itA L (i : Int)).f1 = (itA L (j : Int)).f1 := by simpa using hb
  have e0 : (itA L (i : Int)).f0 = (itA L (j : Int)).f0 := by
   by_cases c : (itA L (i : Int)).f0 = -1
   · by_cases d : (itA L (j : Int)).f0 = -1
     · rw [c, d]
     · obtain ⟨q, hq⟩ : ∃ q : Nat, (itA L (j : Int)).f0 = q := ⟨(itA L (j : Int)).f0.toNat, by omega⟩
       rw [c, qA, hq] at ha
       exact absurd ha.symm (Ns (hp q (by omega)))
   · obtain ⟨p, hpp⟩ : ∃ p : Nat, (itA L (i : Int)).f0 = p := ⟨(itA L (i : Int)).f0.toNat, by omega⟩
     by_cases d : (itA L (j : Int)).f0 = -1
     · rw [d, qA, hpp] at ha
       exact absurd ha (Ns (hp p (by omega)))
     · obtain ⟨q, hq⟩ : ∃ q : Nat, (itA L (j : Int)).f0 = q := ⟨(itA L (j : Int)).f0.toNat, by omega⟩
       rw [hpp, hq] at ha
       rw [hpp, hq, ih p q (by omega) (by omega) (by omega) ha]
  rcases Nat.lt_trichotomy i j with hlt | heq | hgt
  · exact (Nu hlt h2 (hd j h2) e0 e1).elim
  · exact heq
  · exact (Nu hgt h1 (hd i h1) e0.symm e1.symm).elim
def PU (lt : Nat → Nat → Bool) (i : Nat) (o : List Nat) : List Nat := o.takeWhile (fun x => lt x i) ++ i :: o.dropWhile (fun x => lt x i)
def yh (lt : Nat → Nat → Bool) : Nat → List Nat
 | 0 => []
 | n + 1 => PU lt n (yh lt n)
theorem aaY (lt : Nat → Nat → Bool) (i : Nat) (o : List Nat) : (PU lt i o).Perm (i :: o) := by
 unfold PU
 refine List.perm_middle.trans ?_
 rw [List.takeWhile_append_dropWhile]
theorem tq (lt : Nat → Nat → Bool) : ∀ n, (yh lt n).Perm (List.range n)
 | 0 => List.Perm.refl _
 | n + 1 => by
  rw [List.range_succ, yh]
  refine (aaY lt n _).trans ?_
  refine ((tq lt n).cons n).trans ?_
  exact List.perm_append_comm (l₁ := [n]) (l₂ := List.range n)
theorem RU {lt : Nat → Nat → Bool} {i : Nat} {o : List Nat} (ht : ∀ a b c, lt a b = true → lt b c = true → lt a c = true) (hi : ∀ x ∈ o, lt x i = false → lt i x = true) (h : o.Pairwise fun a b => lt a b = true) : (PU lt i o).Pairwise fun a b => lt a b = true := by
 have hsplit := List.takeWhile_append_dropWhile (p := fun x => lt x i) (l := o)
 rw [← hsplit] at h
 obtain ⟨h1, h2, h3⟩ := List.pairwise_append.1 h
 have hlow : ∀ a ∈ o.takeWhile (fun x => lt x i), lt a i = true := fun a ha => by
  have := List.all_takeWhile (p := fun x => lt x i) (l := o)
  rw [List.all_eq_true] at this
  exact this a ha
 have hhigh : ∀ b ∈ o.dropWhile (fun x => lt x i), lt i b = true := by
  cases hd : o.dropWhile (fun x => lt x i) with
  | nil => intro b hb; cases hb
  | cons y l =>
   have hy : lt y i = false := by
    have hne : o.dropWhile (fun x => lt x i) ≠ [] := by rw [hd]; simp
    have := List.head_dropWhile_not (fun x => lt x i) hne
    simpa [hd] using this
   have hyo : y ∈ o := by rw [← hsplit, hd]; simp
   have hiy := hi y hyo hy
   rw [hd] at h2
   intro b hb
   rcases List.mem_cons.1 hb with rfl | hb
   · exact hiy
   · exact ht _ _ _ hiy ((List.pairwise_cons.1 h2).1 b hb)
 unfold PU
 refine List.pairwise_append.2 ⟨h1, List.pairwise_cons.2 ⟨hhigh, h2⟩, fun a ha b hb => ?_⟩
 rcases List.mem_cons.1 hb with rfl | hb
 · exact hlow a ha
 · exact h3 a ha b hb
theorem yV {lt : Nat → Nat → Bool} (ht : ∀ a b c, lt a b = true → lt b c = true → lt a c = true) : ∀ n, (∀ i j, i < n → j < n → i ≠ j → lt i j = false → lt j i = true) → (yh lt n).Pairwise fun a b => lt a b = true
 | 0, _ => List.Pairwise.nil
 | n + 1, h => by
  rw [yh]
  refine RU ht (fun x hx hl => ?_) (yV ht n (fun i j hi hj => h i j (by omega) (by omega)))
  have := (tq lt n).mem_iff.1 hx
  exact h x n (by have := List.mem_range.1 this; omega) (by omega) (by have := List.mem_range.1 this; omega) hl
theorem aek {lt : Nat → Nat → Bool} (hirr : ∀ a, lt a a = false) (ht : ∀ a b c, lt a b = true → lt b c = true → lt a c = true) {n : Nat} (h : ∀ i j, i < n → j < n → i ≠ j → lt i j = false → lt j i = true) {m : List Nat} (hp : m.Perm (List.range n)) (hs : m.Pairwise fun a b => lt a b = true) : m = yh lt n := by
 refine List.Perm.eq_of_pairwise (fun a b _ _ h1 h2 => ?_) hs (yV ht n h) (hp.trans (tq lt n).symm)
 have := ht _ _ _ h1 h2
 rw [hirr] at this; cases this
def ltP (L : List It) (i j : Nat) : Bool := decide (cmpL (bQ L i) (bQ L j) < 0)
theorem VL (L : List It) (a : Nat) : ltP L a a = false := by
 unfold ltP; rw [xO]; rfl
theorem CV (L : List It) (a b c : Nat) (h1 : ltP L a b = true) (h2 : ltP L b c = true) : ltP L a c = true := by
 unfold ltP at *
 rw [decide_eq_true_eq] at *
 exact qB _ _ _ h1 h2
theorem Nv {L : List It} (hd : oH L = true) (i j : Nat) (hi : i < L.length) (hj : j < L.length) (hne : i ≠ j) (h : ltP L i j = false) : ltP L j i = true := by
 unfold ltP at *
 rw [decide_eq_false_iff_not] at h
 rw [decide_eq_true_eq]
 exact wB _ _ h (fun e => hne (Bh hd i i j (Nat.le_refl _) hi hj e))
structure So1 (w : World) (L : List It) (pb : Nat) (Ap : Option Addr) (cp : Nat) (Ao : Option Addr) (co : Nat) (i : Nat) (wr : World) : Prop where
 below : Below w.heap.size w wr
 base : w.heap.size ≤ pb
 box : wr.heap[pb]? = some (.cells #[.slice Ap L.length cp] 87 (0, 0))
 ps : Kd.R kPs 65 wr w.heap.size (fun k => k ≠ pb ∧ some k ≠ (Value.slice Ao L.length co).ownBlock) (.slice Ap L.length cp) (bV (fun j => bQ L (j : Int)) [] L.length i)
 os : Kd.R (Kd.int .i64) 3 wr w.heap.size (fun k => k ≠ pb ∧ some k ≠ (Value.slice Ap L.length cp).ownBlock) (.slice Ao L.length co) (bV (fun j => (j : Int)) 0 L.length i)
section
variable {w wr w5 : World} {L : List It} {pb cp co i : Nat} {Ap Ao : Option Addr} {v5 : Value}
theorem RV (h : So1 w L pb Ap cp Ao co i wr) : pb < wr.heap.size := (Array.getElem?_eq_some_iff.1 h.box).1
theorem aaZ (h : So1 w L pb Ap cp Ao co i wr) (hb : Below wr.heap.size wr w5) : So1 w L pb Ap cp Ao co i w5 :=
 ⟨h.below.trans (hb.mono h.below.size), h.base, (hb.block pb (RV h)).trans h.box, Kd.dw h.ps hb, Kd.dw h.os hb⟩
theorem GI (h : So1 w L pb Ap cp Ao co i wr) (hi : 0 < L.length) : ∃ gp go, Ap = some ⟨gp, 0, none⟩ ∧ Ao = some ⟨go, 0, none⟩ ∧ gp ≠ go ∧ gp ≠ pb ∧ go ≠ pb ∧ w.heap.size ≤ gp ∧ w.heap.size ≤ go := by
 obtain ⟨gp, c1, e1, b1, l1, _⟩ := Kd.jf h.ps (by rw [bK]; omega)
 obtain ⟨go, c2, e2, b2, l2, _⟩ := Kd.jf h.os (by rw [bK]; omega)
 rw [bK] at e1 e2
 cases e1; cases e2
 have p1 := h.ps.1 gp rfl
 have p2 := h.os.1 go rfl
 refine ⟨gp, go, rfl, rfl, fun e => p1.2 (by subst e; rfl), p1.1, p2.1, b1, b2⟩
theorem GK (h : So1 w L pb Ap cp Ao co i wr) : wr.cell? ⟨pb, 0, none⟩ = some (.slice Ap L.length cp) := by
 simp [World.cell?, h.box]
theorem abb {gp go : Nat} (h : So1 w L pb (some ⟨gp, 0, none⟩) cp (some ⟨go, 0, none⟩) co i wr) (hb : Below wr.heap.size wr w5) (hv : Kd.R Kd.string 9 w5 wr.heap.size (fun _ => True) v5 (bQ L (i : Int))) (hi : i < L.length) :
    So1 w L pb (some ⟨gp, 0, none⟩) cp (some ⟨go, 0, none⟩) co (i + 1) ((w5.setCell ⟨gp, i, none⟩ v5).setCell ⟨go, i, none⟩ (.int .i64 (i : Int))) := by
 have h5 := aaZ h hb
 obtain ⟨_, _, e1, e2, n1, n2, n3, n4, n5⟩ := GI h (by omega)
 cases e1; cases e2
 obtain ⟨_, _, e1, _, l1, _⟩ := Kd.jf h.ps (by rw [bK]; omega)
 obtain ⟨_, _, e2, _, l2, _⟩ := Kd.jf h.os (by rw [bK]; omega)
 rw [bK] at e1 e2
 cases e1; cases e2
 have hpl := RV h
 have hx : Kd.R Kd.string 9 w5 w.heap.size (fun k => (k ≠ pb ∧ some k ≠ (Value.slice (some ⟨go, 0, none⟩) L.length co).ownBlock) ∧ k ≠ gp) v5 (bQ L (i : Int)) :=
  Kd.dY (Kd.dF (Kd.dR hv) (fun k hk => ⟨⟨by have := hk.2.1; omega, fun e => by have e : k = go := Option.some.inj e; have := hk.2.1; omega⟩, by have := hk.2.1; omega⟩)) h.below.size
 obtain ⟨r1, g1⟩ := ahh h5.ps hx i
 have o1 := Kd.CJ (W := w5.setCell ⟨gp, i, none⟩ v5) (Kd.Gp (p := ⟨gp, i, none⟩) h5.os (fun k hk => fun e => hk.2 (by show some k = some gp; rw [e])) v5) (i : Int) (i : Int)
 rw [Int.toNat_natCast] at o1
 rw [sZ (fun j => bQ L (j : Int))] at r1
 rw [sZ (fun j => (j : Int))] at o1
 exact {
  below := (h5.below.setCell (p := ⟨gp, i, none⟩) n4 v5).setCell (p := ⟨go, i, none⟩) n5 _
  base := h.base
  box := by
   rw [Below.heap_setCell _ _ _ _ (fun e => n3 e.symm), Below.heap_setCell _ _ _ _ (fun e => n2 e.symm)]
   exact h5.box
  ps := Kd.Gp (p := ⟨go, i, none⟩) r1 (fun k hk => fun e => hk.2 (by show some k = some go; rw [e])) _
  os := o1.1 }
theorem XO {gp go : Nat} (h : So1 w L pb (some ⟨gp, 0, none⟩) cp (some ⟨go, 0, none⟩) co i wr) (hi : i < L.length) : (∃ u, wr.cell? ⟨gp, i, none⟩ = some u ∧ wr.frozen? ⟨gp, i, none⟩ = false) ∧ ∃ u, wr.cell? ⟨go, i, none⟩ = some u ∧ wr.frozen? ⟨go, i, none⟩ = false := by
 refine ⟨aej h.ps i hi, ?_⟩
 have := Kd.iD 0 h.os (i : Int) (by omega) (by omega)
 rw [Int.toNat_natCast] at this
 exact ⟨_, this⟩
end
def dD (L : List It) : List (List ByteArray) := (List.range L.length).map fun j : Nat => bQ L (j : Int)
def uJ (L : List It) : List Int := (yh (ltP L) L.length).map fun k : Nat => (k : Int)
theorem RX {n : Nat} [Inhabited (Fin n)] (cur : Array Value) (ts : List (Fin n)) (h : ts.length ≤ cur.size) : (putCells wC 0 ts.toArray cur).toList.take ts.length = ts.map wC := by
 apply List.ext_getElem?
 intro j
 by_cases hj : j < ts.length
 · rw [List.getElem?_take_of_lt hj, Array.getElem?_toList]
   simp [putCells, hj, show j < cur.size by omega]
 · rw [List.getElem?_take_eq_none (by omega), List.getElem?_eq_none (by simp; omega)]
theorem PV {n : Nat} [Inhabited (Fin n)] {W : World} {base g cap m : Nat} {e : TypeId} {os : Array Obj} {cur : Array Value} {ts : List (Fin n)} (hl : ts.length = n) (hbase : base ≤ g) (hb : W.heap[g]? = some (.cells cur e (0, 0)))
    (h1 : n ≤ cap) (h2 : cap ≤ maxLen) (h3 : cur.size = cap * 1) :
    (sortWorld wC W g 0 m ts.toArray os).ownsRow base e 1 (.slice (some ⟨g, 0, none⟩) n cap) n (ts.map wC) := by
 have hg : g < W.heap.size := (Array.getElem?_eq_some_iff.1 hb).1
 have hh : (sortWorld wC W g 0 m ts.toArray os).heap[g]? = some (.cells (putCells wC 0 ts.toArray cur) e (0, 0)) := by
  unfold sortWorld
  rw [heap_grow_old _ _ (by simpa using hg)]
  simp [putRow, mapBlock, Sort.ahead, Array.getElem?_modify, hb, onCells]
 refine ⟨by simp [hl], .inr ⟨g, cap, _, rfl, hbase, hh, h1, h2, by simp [putCells, h3], ?_⟩⟩
 rw [Nat.mul_one]
 have := RX cur ts (by omega)
 rw [hl] at this
 exact this
theorem IJ {n : Nat} [Inhabited (Fin n)] {W : World} {g m : Nat} {os : Array Obj} (d : Array (Fin n)) : W.grownBy (sortWorld wC W g 0 m d os) (some g) := by
 refine ⟨rfl, rfl, rfl, by simp [sortWorld], fun k hk hne => ?_⟩
 exact rP _ _ _ _ _ _ _ _ (fun e => hne (by rw [e])) hk
theorem XP {w wr : World} {L : List It} {pb cp co : Nat} {Ap Ao : Option Addr} (h : So1 w L pb Ap cp Ao co L.length wr) (hd : oH L = true) (hn : L.length ≤ 64) :
    Calls Tryz.prog 83 #[.slice Ao L.length co, .func (.func 84) #[] #[.pointer (some ⟨pb, 0, none⟩)]] wr fun e w' =>
     e = .returned (.tuple #[]) ∧ Below w.heap.size w w' ∧ Kd.R (Kd.int .i64) 3 w' w.heap.size (fun _ => True) (.slice Ao L.length co) (uJ L) := by
 by_cases h0 : L.length = 0
 · obtain rfl : L = [] := List.length_eq_zero_iff.1 h0
   refine (AnyF.slices_SortFunc_none { afy with } Ao co _ wr).mono ?_
   rintro e w' ⟨rfl, rfl⟩
   exact ⟨rfl, h.below, Kd.dF h.os (fun _ _ => trivial)⟩
 · obtain ⟨gp, go, rfl, rfl, n1, n2, n3, n4, n5⟩ := GI h (by omega)
   have hps : bV (fun j => bQ L (j : Int)) [] L.length L.length = dD L := PN _ _ _
   have hos : bV (fun j => (j : Int)) 0 L.length L.length = (List.range L.length).map fun j : Nat => (j : Int) := PN _ _ _
   have HP := h.ps
   have HO := h.os
   rw [hps] at HP
   rw [hos] at HO
   have hlen : (dD L).length = L.length := by simp [dD]
   have hget : ∀ i : Nat, i < L.length → (dD L).getD i [] = bQ L (i : Int) := fun i hi => by
    simp [dD, List.getD_eq_getElem?_getD, hi]
   haveI : Inhabited (Fin (dD L).length) := ⟨⟨0, by omega⟩⟩
   obtain ⟨g2, c2, e2, b2, l2, cells, hcells⟩ := Kd.jf HO (by simp; omega)
   rw [show ((List.range L.length).map fun j : Nat => (j : Int)).length = L.length by simp] at e2
   cases e2
   have hlist : (List.finRange (dD L).length).length = (dD L).length := List.length_finRange
   have hH : Holds wC wr go 0 (List.finRange (dD L).length).toArray := by
    intro j hj
    have hj2 : j < (dD L).length := by simpa using hj
    have := Kd.iD 0 h.os (j : Int) (by omega) (by omega)
    rw [Int.toNat_natCast, hos] at this
    rw [Nat.zero_add]
    refine ⟨?_, this.2⟩
    rw [this.1]
    have e1 : (List.finRange (dD L).length).toArray[j]! = ⟨j, hj2⟩ := by
     rw [getElem!_pos _ j hj]; simp
    rw [e1]
    show some (Value.int .i64 _) = some (Value.int .i64 (j : Int))
    congr 2
    simp [fQ, List.getD_eq_getElem?_getD, hlen ▸ hj2]
   have hinj : ∀ i j : Fin (dD L).length, (dD L).getD i.val [] = (dD L).getD j.val [] → i = j := fun i j e => by
    have hi := i.isLt; have hj := j.isLt
    rw [hget _ (by omega), hget _ (by omega)] at e
    exact Fin.ext (Bh hd _ i.val j.val (Nat.le_refl _) (by omega) (by omega) e)
   have HC0 : Kd.R kPs 65 wr w.heap.size (fun k => k ≠ go) (.slice (some ⟨gp, 0, none⟩) (dD L).length cp) (dD L) := by
    rw [hlen]
    exact Kd.dF HP (fun k hk => fun e => hk.2 (by rw [e]; rfl))
   have hS := XM (dD L) pb go co (some ⟨gp, 0, none⟩) cp w.heap.size wr (List.finRange (dD L).length).toArray (by simp) (by omega) (fun e => n3 e.symm) (RV h) l2 (by rw [hlen]; exact GK h) HC0 hH hinj
   rw [show Value.slice (some ⟨go, 0, none⟩) L.length co = Value.slice (some ⟨go, 0, none⟩) (dD L).length co by rw [hlen]]
   refine hS.mono ?_
   rintro e w' ⟨rfl, m, os, rfl⟩
   generalize hts : (List.finRange (dD L).length).toArray.toList.mergeSort (fun x y => !(ltOf (cfF (dD L))) y x) = ts
   have hperm : ts.Perm (List.finRange (dD L).length) := by
    rw [← hts]; exact List.mergeSort_perm _ _
   have htl : ts.length = (dD L).length := by rw [hperm.length_eq, hlist]
   have hlt : ∀ x y, ltOf (cfF (dD L)) x y = ltP L x.val y.val := fun x y => by
    have hx := x.isLt; have hy := y.isLt
    show decide (cmpL ((dD L).getD x.val []) ((dD L).getD y.val []) < 0) = _
    rw [hget _ (by omega), hget _ (by omega)]; rfl
   have hpw : ts.Pairwise fun x y => (!(ltOf (cfF (dD L))) y x) = true := by
    rw [← hts]
    refine List.pairwise_mergeSort (fun a b c h1 h2 => ?_) (fun a b => ?_) _
    · rw [Bool.not_eq_true'] at *
      exact (Nr (dD L)).ntrans c b a h2 h1
    · cases h1 : ltOf (cfF (dD L)) b a with
      | false => rfl
      | true =>
       cases h2 : ltOf (cfF (dD L)) a b with
       | false => rfl
       | true =>
        have := (Nr (dD L)).trans _ _ _ h1 h2
        rw [(Nr (dD L)).irrefl] at this
        cases this
   have hval : ts.map (·.val) = yh (ltP L) L.length := by
    refine aek (VL L) (CV L) (fun i j => Nv hd i j) ?_ ?_
    · have := hperm.map (·.val)
      have e2 : (List.finRange (dD L).length).map (·.val) = List.range L.length := by
       rw [← hlen]
       apply List.ext_getElem
       · simp
       · intro j h1 h2; simp
      rw [e2] at this
      exact this
    · rw [List.pairwise_map]
      have hnd : ts.Nodup := hperm.nodup_iff.2 (List.nodup_finRange _)
      refine (List.Pairwise.and hpw hnd).imp ?_
      rintro x y ⟨h1, h2⟩
      rw [Bool.not_eq_true', hlt] at h1
      have hx := x.isLt; have hy := y.isLt
      exact Nv hd y.val x.val (by omega) (by omega) (fun e => h2 (Fin.ext e.symm)) h1
   have hrow : (sortWorld wC wr go 0 m ts.toArray os).ownsRow w.heap.size 3 1 (.slice (some ⟨go, 0, none⟩) (dD L).length co) (uJ L).length (encs (Value.int .i64) (uJ L)) := by
    have hcap : ∃ cur, wr.heap[go]? = some (.cells cur 3 (0, 0)) ∧ L.length ≤ co ∧ co ≤ maxLen ∧ cur.size = co * 1 := by
     obtain ⟨_, inner, ho, _⟩ := h.os
     rcases ho.2 with ⟨e9, _⟩ | ⟨g9, cap9, cur9, e9, _, hh, q1, q2, q3, _⟩
     · cases e9
     · rw [bK] at q1; try rw [bK] at e9
       cases e9
       exact ⟨cur9, hh, q1, q2, q3⟩
    obtain ⟨cur, hh, q1, q2, q3⟩ := hcap
    have h1 := PV (m := m) (os := os) htl n5 hh (by rw [hlen]; exact q1) q2 q3
    have e1 : ts.map wC = encs (Value.int .i64) (uJ L) := by
     unfold uJ encs
     rw [← hval, List.map_map, List.map_map]
     rfl
    have e2 : (uJ L).length = (dD L).length := by
     unfold uJ
     rw [← hval, List.length_map, List.length_map, htl]
    rw [← e1, e2]
    exact h1
   refine ⟨rfl, Below.grown h.below (IJ ts.toArray) h.below.size (fun k hk => by have : go = k := Option.some.inj hk; omega), Kd.sO hrow (fun _ _ => trivial)⟩
section
variable {P : Program} {ops : Array Oper} {rest : List Oper} {o : Oper} {a : Act} {Q : Exit → Act → World → Prop} {α : Type}
theorem ael (d : Kd α) {w0 W : World} (base e : Nat) (hgd : o.guard = none) {N : Tmp} (_hd : o.dst = some N) (t : TypeId) (x y : Operand) (ho : o.op = .makeSlice t x y) (n : Nat) (hx : a.eval x = .int .i64 0) (hy : a.eval y = .int .i64 n)
    (ht : P.underlying t = some (.slice e)) (z : Value) (bytes : Nat) (hinfo : (P.info? e).map (fun i => (i.zero, i.size, i.bytes)) = some (some z, d.sz, bytes)) (hb0 : 0 < bytes)
    {ok : Nat → Prop} (hfresh : ok W.heap.size) (hl : n * bytes ≤ 281474976710656) (HB : Below base w0 W) (hbase : base ≤ W.heap.size)
    (h : ∀ v1 w1, d.R e w1 base ok v1 [] → Below base w0 w1 → W.grownBy w1 none → (∃ b, v1.ownBlock = some b ∧ W.heap.size ≤ b) → wpList P ops Q rest (a.put o.dst v1) w1) : wpList P ops Q (o :: rest) a W := by
 obtain ⟨i0, hi, hzz⟩ := Option.map_eq_some_iff.1 hinfo
 simp only [Prod.mk.injEq] at hzz
 obtain ⟨hz0, hz1, hz2⟩ := hzz
 have hm : n ≤ 281474976710656 := Nat.le_trans (Nat.le_mul_of_pos_right _ hb0) hl
 have hr := run_make (P := P) (w := W) t e i0 z ht hi hz0 .i64 .i64 0 (n : Int) (by omega) (by omega)
  (by
   have h3 : ((i0.bytes * n : Nat) : Int) ≤ 281474976710656 := by rw [hz2, Nat.mul_comm]; omega
   rwa [Int.natCast_mul] at h3) (by omega)
 simp only [Int.toNat_natCast] at hr
 rw [hz1] at hr
 have hrun : (execOp a.eval o).run P W = .ok (.value (.slice (some ⟨W.heap.size, 0, none⟩) 0 n)) (W.alloc (.cells (madeCells z.cells (n * d.sz)) e)) := by
  simp [execOp, ho, hx, hy, hr]
 have hown : (W.alloc (.cells (madeCells z.cells (n * d.sz)) e)).ownsRow base e d.sz (.slice (some ⟨W.heap.size, 0, none⟩) 0 n) ([] : List α).length [] := by
  refine ⟨by rw [List.length_nil, List.length_nil, Nat.zero_mul], .inr ⟨W.heap.size, n, madeCells z.cells (n * d.sz), rfl, hbase, Na W _, Nat.zero_le _, by show n ≤ 9223372036854775807; omega, size_madeCells _ _, by rw [List.length_nil, Nat.zero_mul, List.take_zero]⟩⟩
 have hR : d.R e (W.alloc (.cells (madeCells z.cells (n * d.sz)) e)) base ok (.slice (some ⟨W.heap.size, 0, none⟩) 0 n) [] := by
  refine ⟨fun k hk => ?_, [], hown, kY.none _ _⟩
  have : W.heap.size = k := Option.some.inj hk
  subst this
  exact hfresh
 exact Kd.xH hgd hrun (h _ _ hR (HB.alloc hbase _) (World.grownBy_alloc W _ none) ⟨W.heap.size, rfl, Nat.le_refl _⟩)
end
section
variable {α : Type} {d : Kd α} {e base g n cap : Nat} {ok : Nat → Prop} {W : World} {xs : List α}
theorem r_at (h : d.R e W base ok (.slice (some ⟨g, 0, none⟩) n cap) xs) (j : Nat) (hj : j < xs.length) :
    ∃ cs, d.M W base (fun k => ok k ∧ k ≠ g) xs[j] cs ∧ ∀ i u, cs[i]? = some u → W.cell? ⟨g, j * d.sz + i, none⟩ = some u ∧ W.frozen? ⟨g, j * d.sz + i, none⟩ = false := by
 obtain ⟨hn, _⟩ := Kd.bJ h
 obtain ⟨h0, inner, ho, hr⟩ := h
 subst hn
 have hM := hr.2 j _ (List.getElem?_eq_getElem hj)
 refine ⟨_, d.iy (fun k hk => ⟨hk.1, fun e => hk.2 (by rw [e]; rfl)⟩) hM, fun i u hu => ?_⟩
 rcases ho.2 with ⟨e1, _⟩ | ⟨g2, cap2, cur, e1, _, hh, _, _, _, ht⟩
 · cases e1
 · cases e1
   rw [List.getElem?_take] at hu
   by_cases hi : i < d.sz
   · rw [if_pos hi, List.getElem?_drop] at hu
     have hlt : j * d.sz + i < inner.length := (List.getElem?_eq_some_iff.1 hu).1
     rw [hr.1] at hlt
     rw [← ht, List.getElem?_take, if_pos hlt, Array.getElem?_toList] at hu
     constructor
     · simp only [World.cell?, hh]
       simpa using hu
     · simp [World.frozen?, hh]
   · rw [if_neg hi] at hu; cases hu
end
section
variable {L : List It}
abbrev oL (L : List It) : List Nat := yh (ltP L) L.length
theorem Eu (L : List It) : (oL L).Perm (List.range L.length) := tq _ _
theorem uK (L : List It) : (oL L).length = L.length := by rw [(Eu L).length_eq, List.length_range]
theorem PW (L : List It) : (oL L).Nodup := (Eu L).nodup_iff.2 List.nodup_range
theorem yX {p : Nat} : p ∈ oL L ↔ p < L.length := by rw [(Eu L).mem_iff, List.mem_range]
theorem tu (L : List It) : (uJ L).length = L.length := by rw [uJ, List.length_map]; exact uK L
theorem RY {k : Nat} (hk : k < L.length) : ∃ q : Nat, q < L.length ∧ rd (uJ L) (k : Int) = (q : Int) ∧ (oL L)[k]? = some q ∧ (oL L).idxOf q = k := by
 have hk2 : k < (oL L).length := by rw [uK]; exact hk
 refine ⟨(oL L)[k], yX.1 (List.getElem_mem hk2), ?_, List.getElem?_eq_getElem hk2, ?_⟩
 · have h3 : (uJ L)[k]? = some (((oL L)[k] : Nat) : Int) := by
     unfold uJ
     rw [List.getElem?_map, List.getElem?_eq_getElem hk2]; rfl
   show (uJ L).getD (k : Int).toNat 0 = _
   rw [Int.toNat_natCast, List.getD_eq_getElem?_getD, h3]; rfl
 · exact (PW L).idxOf_getElem k hk2
theorem GL {p : Nat} (hp : p < L.length) : (oL L).idxOf p < L.length := by
 have := List.idxOf_lt_length_iff.2 (yX.2 hp)
 rwa [uK] at this
theorem abd {p k : Nat} (hp : p < L.length) (h : (oL L).idxOf p = k) : (oL L)[k]? = some p := by
 have h2 := List.idxOf_lt_length_iff.2 (yX.2 hp)
 subst h
 rw [List.getElem?_eq_getElem h2, List.getElem_idxOf]
def PX (L : List It) (p : Int) : Int := ((oL L).idxOf p.toNat : Int)
def itS (L : List It) (j : Nat) : It := ⟨if (itA L j).f0 = -1 then -1 else PX L (itA L j).f0, (itA L j).f1, (itA L j).f2, (itA L j).f3⟩
def sortL (L : List It) : List It := (oL L).map (itS L)
theorem mD (L : List It) : (sortL L).length = L.length := by rw [sortL, List.length_map]; exact uK L
structure So2 (w : World) (L : List It) (Ao : Option Addr) (co : Nat) (Aa : Option Addr) (ca k : Nat) (wr : World) : Prop where
 below : Below w.heap.size w wr
 os : Kd.R (Kd.int .i64) 3 wr w.heap.size (fun b => some b ≠ (Value.slice Aa L.length ca).ownBlock) (.slice Ao L.length co) (uJ L)
 ats : ∃ al : List Int, al.length = L.length ∧ Kd.R (Kd.int .i64) 3 wr w.heap.size (fun b => some b ≠ (Value.slice Ao L.length co).ownBlock) (.slice Aa L.length ca) al ∧ ∀ p : Nat, p < L.length → (oL L).idxOf p < k → rd al p = ((oL L).idxOf p : Int)
variable {w wr : World} {Ao Aa : Option Addr} {co ca k : Nat}
theorem JF {w6 w7 : World} (hb7 : Below w.heap.size w w7) (ho : Kd.R (Kd.int .i64) 3 w6 w.heap.size (fun _ => True) (.slice Ao L.length co) (uJ L))
    (hg7 : w6.grownBy w7 none) (hra : Kd.R (Kd.int .i64) 3 w7 w.heap.size (fun _ => True) (.slice Aa L.length ca) (List.replicate L.length 0)) (hn7 : ∃ b, (Value.slice Aa L.length ca).ownBlock = some b ∧ w6.heap.size ≤ b) : So2 w L Ao co Aa ca 0 w7 := by
 obtain ⟨b, hb, hle⟩ := hn7
 have hne : ∀ k, (Value.slice Ao L.length co).ownBlock = some k → k < w6.heap.size := Kd.Ip ho
 refine ⟨hb7, ?_, List.replicate L.length 0, List.length_replicate, ?_, fun p _ h => absurd h (Nat.not_lt_zero _)⟩
 · exact Kd.nR (Kd.dF (Kd.dR ho) (fun k hk => by rw [hb]; intro e; have e := Option.some.inj e; have := hk.2.2.1; omega)) hg7 (fun _ _ => nofun)
 · refine Kd.sO (Kd.vZ hra) (fun k hk => ?_)
   rw [hb] at hk
   cases hk
   intro e
   have := hne _ e.symm
   omega
theorem JG (h : So2 w L Ao co Aa ca k wr) (hk : k < L.length) : ∃ (ga go q : Nat), Aa = some ⟨ga, 0, none⟩ ∧ Ao = some ⟨go, 0, none⟩ ∧ q < L.length ∧ (oL L)[k]? = some q ∧ wr.cell? ⟨go, k, none⟩ = some (.int .i64 (q : Int)) ∧ (∃ u, wr.cell? ⟨ga, q, none⟩ = some u) ∧ wr.frozen? ⟨ga, q, none⟩ = false ∧
    ∀ w2, w2 = wr.setCell ⟨ga, q, none⟩ (.int .i64 (k : Int)) → So2 w L Ao co Aa ca (k + 1) w2 := by
 obtain ⟨al, hal, hra, hv⟩ := h.ats
 obtain ⟨ga, c1, e1, b1, l1, _⟩ := Kd.jf hra (by omega)
 obtain ⟨go, c2, e2, b2, l2, _⟩ := Kd.jf h.os (by rw [tu]; omega)
 rw [hal] at e1
 rw [tu] at e2
 cases e1; cases e2
 obtain ⟨q, hq, hrd, hoq, hix⟩ := RY hk
 have hne : ga ≠ go := fun e => hra.1 ga rfl (by rw [e]; rfl)
 have x1 := (Kd.iD 0 h.os (k : Int) (by omega) (by omega)).1
 have x2 := Kd.iD 0 hra (q : Int) (by omega) (by omega)
 rw [Int.toNat_natCast] at x1 x2
 rw [show fQ 0 (uJ L) (k : Int) = (q : Int) from hrd] at x1
 refine ⟨ga, go, q, rfl, rfl, hq, hoq, x1, ⟨_, x2.1⟩, x2.2, ?_⟩
 rintro w2 rfl
 have hp := Kd.CJ hra (q : Int) (k : Int)
 rw [Int.toNat_natCast] at hp
 refine ⟨h.below.setCell (p := ⟨ga, q, none⟩) b1 _, Kd.Gp (p := ⟨ga, q, none⟩) h.os (fun k hk => fun e => hk (by show some k = some ga; rw [e])) _, _, ?_, hp.1, ?_⟩
 · rw [List.length_set, hal]
 · intro p hpl hpk
   show (al.set q (k : Int)).getD (p : Int).toNat 0 = _
   rw [Int.toNat_natCast, List.getD_eq_getElem?_getD]
   by_cases e : p = q
   · subst e
     rw [List.getElem?_set_self (by omega), hix]; rfl
   · rw [List.getElem?_set_ne (fun h => e h.symm), ← List.getD_eq_getElem?_getD]
     have hne2 : (oL L).idxOf p ≠ k := fun h2 => by
      have := abd hpl h2
      rw [hoq] at this
      exact e (Option.some.inj this).symm
     have := hv p hpl (by omega)
     rw [← this]; rfl
structure So3 (w : World) (L : List It) (Ao : Option Addr) (co : Nat) (Aa : Option Addr) (ca : Nat) (Al : Option Addr) (cl : Nat) (v : Value) (k : Nat) (wr : World) : Prop where
 below : Below w.heap.size w wr
 os : Kd.R (Kd.int .i64) 3 wr w.heap.size (fun b => True ∧ some b ≠ v.ownBlock) (.slice Ao L.length co) (uJ L)
 ats : ∃ al : List Int, al.length = L.length ∧ Kd.R (Kd.int .i64) 3 wr w.heap.size (fun b => True ∧ some b ≠ v.ownBlock) (.slice Aa L.length ca) al ∧ ∀ p : Nat, p < L.length → rd al p = ((oL L).idxOf p : Int)
 all : Kd.R kIt 53 wr w.heap.size (fun b => True ∧ some b ≠ v.ownBlock) (.slice Al L.length cl) L
 out : Kd.R kIt 53 wr w.heap.size (fun _ => True) v ((sortL L).take k)
variable {Al : Option Addr} {cl : Nat} {v : Value}
theorem XQ {wr2 w8 w9 : World} (h2 : So2 w L Ao co Aa ca L.length wr2) (hb8 : Below wr2.heap.size wr2 w8) (hall : Kd.R kIt 53 w8 wr2.heap.size (fun _ => True) (.slice Al L.length cl) L)
    (hb9 : Below w.heap.size w w9) (hg9 : w8.grownBy w9 none) (hout : Kd.R kIt 53 w9 w.heap.size (fun _ => True) v []) (hn9 : ∃ b, v.ownBlock = some b ∧ w8.heap.size ≤ b) : So3 w L Ao co Aa ca Al cl v 0 w9 := by
 obtain ⟨b, hb, hle⟩ := hn9
 have hcl : ∀ {k : Nat} {W : World}, k < W.heap.size → W.heap.size ≤ w8.heap.size → some k ≠ v.ownBlock := fun h1 h2 e => by
  rw [hb] at e; have e := Option.some.inj e; omega
 obtain ⟨al, hal, hra, hv⟩ := h2.ats
 have o8 := Kd.dF (Kd.dR (Kd.dw h2.os hb8)) (ok' := fun b => True ∧ some b ≠ v.ownBlock) (fun k hk => ⟨trivial, hcl hk.2.2.1 (Nat.le_refl _)⟩)
 have a8 := Kd.dF (Kd.dR (Kd.dw hra hb8)) (ok' := fun b => True ∧ some b ≠ v.ownBlock) (fun k hk => ⟨trivial, hcl hk.2.2.1 (Nat.le_refl _)⟩)
 have l8 := Kd.dF (Kd.dR (Kd.dY hall h2.below.size)) (ok' := fun b => True ∧ some b ≠ v.ownBlock) (fun k hk => ⟨trivial, hcl hk.2.2.1 (Nat.le_refl _)⟩)
 exact ⟨hb9, Kd.nR o8 hg9 (fun _ _ => nofun), ⟨al, hal, Kd.nR a8 hg9 (fun _ _ => nofun), fun p hp => hv p hp (GL hp)⟩, Kd.nR l8 hg9 (fun _ _ => nofun), hout⟩
theorem wE {w1 : World} (h : So3 w L Ao co Aa ca Al cl v k wr) (hb : Below wr.heap.size wr w1) : So3 w L Ao co Aa ca Al cl v k w1 := by
 obtain ⟨al, hal, hra, hv⟩ := h.ats
 exact ⟨h.below.trans (hb.mono h.below.size), Kd.dw h.os hb, ⟨al, hal, Kd.dw hra hb, hv⟩, Kd.dw h.all hb, Kd.dw h.out hb⟩
theorem XR (h : So3 w L Ao co Aa ca Al cl v k wr) (hk : k < L.length) : ∃ (go gl q : Nat) (A3 : Option Addr) (c3 : Nat), Ao = some ⟨go, 0, none⟩ ∧ Al = some ⟨gl, 0, none⟩ ∧ q < L.length ∧ (oL L)[k]? = some q ∧ wr.cell? ⟨go, k, none⟩ = some (.int .i64 (q : Int)) ∧
    wr.cell? ⟨gl, q * 4, none⟩ = some (.int .i64 (itA L q).f0) ∧ wr.cell? ⟨gl, q * 4 + 1, none⟩ = some (.string (itA L q).f1) ∧ wr.cell? ⟨gl, q * 4 + 2, none⟩ = some (.bool (itA L q).f2) ∧ wr.cell? ⟨gl, q * 4 + 3, none⟩ = some (.slice A3 (itA L q).f3.length c3) ∧
    (Kd.int .u8).R 5 wr w.heap.size (fun b => True ∧ some b ≠ v.ownBlock) (.slice A3 (itA L q).f3.length c3) (itA L q).f3 := by
 obtain ⟨go, c2, e2, b2, l2, _⟩ := Kd.jf h.os (by rw [tu]; omega)
 obtain ⟨gl, c1, e1, b1, l1, _⟩ := Kd.jf h.all (by omega)
 rw [tu] at e2
 cases e1; cases e2
 obtain ⟨q, hq, hrd, hoq, hix⟩ := RY hk
 have x1 := (Kd.iD 0 h.os (k : Int) (by omega) (by omega)).1
 rw [Int.toNat_natCast, show fQ 0 (uJ L) (k : Int) = (q : Int) from hrd] at x1
 obtain ⟨cs, hM, hc⟩ := r_at h.all q hq
 rw [show L[q] = itA L q by rw [bH hq]] at hM
 obtain ⟨v3, rfl, hv3⟩ := BK hM
 obtain ⟨A3, c3, rfl⟩ := Kd.bW hv3
 refine ⟨go, gl, q, A3, c3, rfl, rfl, hq, hoq, x1, (hc 0 _ rfl).1, (hc 1 _ rfl).1, (hc 2 _ rfl).1, (hc 3 _ rfl).1, Kd.dF hv3 (fun _ hk => hk.1)⟩
theorem ahj (h : So3 w L Ao co Aa ca Al cl v k wr) {p : Nat} (hp : p < L.length) : ∃ ga, Aa = some ⟨ga, 0, none⟩ ∧ wr.cell? ⟨ga, p, none⟩ = some (.int .i64 ((oL L).idxOf p : Int)) := by
 obtain ⟨al, hal, hra, hv⟩ := h.ats
 obtain ⟨ga, c1, e1, b1, l1, _⟩ := Kd.jf hra (by omega)
 rw [hal] at e1
 cases e1
 have x1 := (Kd.iD 0 hra (p : Int) (by omega) (by omega)).1
 rw [Int.toNat_natCast, show fQ 0 al (p : Int) = _ from hv p hp] at x1
 exact ⟨ga, rfl, x1⟩
theorem PY {W w1 : World} {v1 : Value} {q : Nat} (h : So3 w L Ao co Aa ca Al cl v k W) (hq : (oL L)[k]? = some q) (hr : Kd.R kIt 53 w1 w.heap.size (fun _ => True) v1 ((sortL L).take k ++ [itS L q])) (hb : Below w.heap.size w w1) (hg : W.grownBy w1 v.ownBlock)
    (hat : v1.ownBlock = v.ownBlock ∨ ∃ b, v1.ownBlock = some b ∧ W.heap.size ≤ b) : So3 w L Ao co Aa ca Al cl v1 (k + 1) w1 := by
 obtain ⟨al, hal, hra, hv⟩ := h.ats
 refine ⟨hb, Kd.Ed h.os hg hat, ⟨al, hal, Kd.Ed hra hg hat, hv⟩, Kd.Ed h.all hg hat, ?_⟩
 have e : (sortL L).take (k + 1) = (sortL L).take k ++ [itS L q] := by
  rw [List.take_add_one]
  unfold sortL
  rw [List.getElem?_map, hq]; rfl
 rw [e]
 exact hr
end
theorem xP {α : Type} {g : Nat → Option α} {f : Nat → Option α} {r : α} (h : ∀ k, g (k + 1) = f k) (hf : Ev f r) : Ev g r := by
 obtain ⟨K, hK⟩ := hf
 refine ⟨K + 1, fun k hk => ?_⟩
 obtain ⟨k, rfl⟩ : ∃ q, k = q + 1 := ⟨k - 1, by omega⟩
 rw [h]; exact hK k (by omega)
theorem aem {L : List It} : ∀ (t i : Nat) (n : Int), i ≤ t → i < L.length → 0 ≤ n → n + i ≤ 1000 → (∀ j : Nat, j ≤ i → iq L j = true) →
    Ev (fun k => aW.l0 k L i n) (n + dep L i - 1) := by
 intro t
 induction t with
 | zero =>
  intro i n h1 h2 h3 h4 hp
  obtain rfl : i = 0 := by omega
  obtain ⟨p1, p2⟩ := kS (hp 0 (Nat.le_refl _))
  have he : (itA L ((0 : Nat) : Int)).f0 = -1 := by omega
  rw [pz he]
  refine ⟨1, fun k hk => ?_⟩
  obtain ⟨k, rfl⟩ : ∃ q, k = q + 1 := ⟨k - 1, by omega⟩
  simp only [aW.l0]
  rw [if_pos (by omega), if_pos (by omega), if_neg (by show ¬ (itA L ((0 : Nat) : Int)).f0 ≥ 0; omega)]
  congr 1; omega
 | succ t ih =>
  intro i n h1 h2 h3 h4 hp
  obtain ⟨p1, p2⟩ := kS (hp i (Nat.le_refl _))
  by_cases he : (itA L (i : Int)).f0 = -1
  · rw [pz he]
    refine ⟨1, fun k hk => ?_⟩
    obtain ⟨k, rfl⟩ : ∃ q, k = q + 1 := ⟨k - 1, by omega⟩
    simp only [aW.l0]
    rw [if_pos (by omega), if_pos (by omega), if_neg (by show ¬ (itA L (i : Int)).f0 ≥ 0; omega)]
    congr 1; omega
  · obtain ⟨q, hq⟩ : ∃ q : Nat, (itA L (i : Int)).f0 = q := ⟨(itA L (i : Int)).f0.toNat, by omega⟩
    rw [sV hq (by omega) (fun j hj => hp j (by omega))]
    have h5 := ih q (n + 1) (by omega) (by omega) (by omega) (by omega) (fun j hj => hp j (by omega))
    refine xP (fun k => ?_) (by rw [show n + (dep L q + 1) - 1 = n + 1 + dep L q - 1 from by omega]; exact h5)
    simp only [aW.l0]
    rw [if_pos (by omega), if_pos (by omega), if_pos (by show (itA L (i : Int)).f0 ≥ 0; omega), jL (by omega) (by omega), show (aj L (i : Int)).f0 = (q : Int) from hq]
theorem PZ (s : ByteArray) : s.toList.length = s.size := by
 rw [toList_data]; exact Array.length_toList
theorem ahk {s : ByteArray} {i : Nat} (h : i < s.data.toList.length) : bt s (i : Int) = ((s.data.toList[i]'h).toNat : Int) := by
 have h2 : i < s.size := by rw [Array.length_toList] at h; exact h
 unfold bt
 rw [dif_pos (show (i : Int).toNat < s.size from h2)]
 rfl
theorem Nw {c : UInt8} : ∀ l : List UInt8, Lib.indexByte l c < 0 ↔ c ∉ l
 | [] => by simp [Lib.indexByte]
 | b :: l => by
  have ih := Nw (c := c) l
  have hge := Lib.indexByte_ge l c
  unfold Lib.indexByte
  by_cases h : b = c
  · subst h; simp
  · have h1 : (b == c) = false := by simpa using h
    rw [h1]
    by_cases h2 : Lib.indexByte l c = -1
    · rw [h2] at ih ⊢
      simp at ih ⊢
      exact ⟨fun e => h e.symm, ih⟩
    · have h3 : (Lib.indexByte l c == -1) = false := by simpa using h2
      rw [h3]
      have h4 : ¬ Lib.indexByte l c < 0 := by omega
      rw [ih] at h4
      have h5 : c ∈ l := Classical.not_not.1 h4
      simp only [Bool.false_eq_true, if_false]
      constructor
      · intro h6; omega
      · intro h6; exact absurd (List.mem_cons_of_mem _ h5) h6
def nmB (s : ByteArray) : Bool := decide (0 ∉ s.data.toList) && decide (47 ∉ s.data.toList) && decide (1 ≤ s.size) && decide (s.size ≤ 64)
theorem aen (s : ByteArray) (hs : s.size ≤ 100000) : ∀ (t i : Nat), s.size - i ≤ t → i ≤ s.size → (∀ j (h : j < s.data.toList.length), j < i → s.data.toList[j] ≠ 0 ∧ s.data.toList[j] ≠ 47) → Ev (fun k => aX.l0 k s i) (nmB s) := by
 have hsz : s.data.toList.length = s.size := Array.length_toList
 intro t
 induction t with
 | zero =>
  intro i h1 h2 h3
  obtain rfl : i = s.size := by omega
  have n0 : (0 : UInt8) ∉ s.data.toList := fun h => by
   obtain ⟨j, hj, e⟩ := List.mem_iff_getElem.1 h
   exact (h3 j hj (by omega)).1 e
  have n1 : (47 : UInt8) ∉ s.data.toList := fun h => by
   obtain ⟨j, hj, e⟩ := List.mem_iff_getElem.1 h
   exact (h3 j hj (by omega)).2 e
  refine ⟨1, fun k hk => ?_⟩
  obtain ⟨k, rfl⟩ : ∃ q, k = q + 1 := ⟨k - 1, by omega⟩
  simp only [aX.l0]
  rw [if_neg (by omega)]
  have e : nmB s = (decide (1 ≤ s.size) && decide (s.size ≤ 64)) := by
   simp only [nmB]
   rw [decide_eq_true n0, decide_eq_true n1]; rfl
  rw [e]
  by_cases h : (s.size : Int) ≥ 1
  · rw [if_pos h, decide_eq_true (by omega : 1 ≤ s.size), Bool.true_and]
    congr 1
    exact decide_eq_decide.2 (by omega)
  · rw [if_neg h, decide_eq_false (by omega : ¬ 1 ≤ s.size), Bool.false_and]
 | succ t ih =>
  intro i h1 h2 h3
  by_cases hi : i = s.size
  · exact ih i (by omega) h2 h3
  · have hlt : i < s.data.toList.length := by omega
    have hb := ahk hlt
    by_cases c0 : s.data.toList[i] = 0
    · refine ⟨1, fun k hk => ?_⟩
      obtain ⟨k, rfl⟩ : ∃ q, k = q + 1 := ⟨k - 1, by omega⟩
      simp only [aX.l0]
      rw [if_pos (by omega), if_pos (by omega), hb, c0, if_pos (by decide)]
      have : (0 : UInt8) ∈ s.data.toList := c0 ▸ List.getElem_mem hlt
      simp only [nmB]
      rw [decide_eq_false (by simpa using this)]; rfl
    · by_cases c1 : s.data.toList[i] = 47
      · refine ⟨1, fun k hk => ?_⟩
        obtain ⟨k, rfl⟩ : ∃ q, k = q + 1 := ⟨k - 1, by omega⟩
        simp only [aX.l0]
        rw [if_pos (by omega), if_pos (by omega), hb, c1, if_neg (by decide), if_pos (by decide)]
        have : (47 : UInt8) ∈ s.data.toList := c1 ▸ List.getElem_mem hlt
        simp only [nmB]
        rw [decide_eq_false (p := 47 ∉ s.data.toList) (by simpa using this)]; simp
      · refine xP (fun k => ?_) (ih (i + 1) (by omega) (by omega) (fun j hj hji => ?_))
        · simp only [aX.l0]
          have z0 : ¬ (((s.data.toList[i]).toNat : Int) = 0) := by
           intro h
           have h' : (s.data.toList[i]).toNat = 0 := by omega
           exact c0 (UInt8.toNat_inj.1 h')
          have z1 : ¬ (((s.data.toList[i]).toNat : Int) = 47) := by
           intro h
           have h' : (s.data.toList[i]).toNat = 47 := by omega
           exact c1 (UInt8.toNat_inj.1 h')
          rw [if_pos (by omega), if_pos (by omega), hb, if_neg z0, if_neg z1, jL (by omega) (by omega)]
          rfl
        · by_cases e : j = i
          · subst e; exact ⟨c0, c1⟩
          · exact h3 j hj (by omega)
theorem aeo (s : ByteArray) (hs : s.size ≤ 100000) : Ev (fun k => aX.f k s) (nmB s) :=
 aen s hs s.size 0 (by omega) (by omega) (fun j _ hj => absurd hj (by omega))
theorem abe (s : ByteArray) : nameB s = (nmB s && decide (s.size ≤ 48)) := by
 have h1 := Nw (c := 0) s.data.toList
 have h2 := Nw (c := 47) s.data.toList
 have h3 : (s.toList == []) = decide (s.size = 0) := by
  rw [Bool.eq_iff_iff, beq_iff_eq, decide_eq_true_eq, ← PZ, List.length_eq_zero_iff]
 rw [Bool.eq_iff_iff]
 simp only [nameB, nmB, h3, Bool.and_eq_true, decide_eq_true_eq, Bool.not_eq_true', decide_eq_false_iff_not, h1, h2]
 generalize s.size = n
 constructor
 · rintro ⟨⟨⟨a, b⟩, c⟩, d⟩; exact ⟨⟨⟨⟨c, d⟩, by omega⟩, by omega⟩, b⟩
 · rintro ⟨⟨⟨⟨c, d⟩, e⟩, f⟩, b⟩; exact ⟨⟨⟨by omega, b⟩, c⟩, d⟩
theorem abf {L : List It} {m i : Nat} (h : m ≤ i) {p : Int} {s : ByteArray} (hd : oh L m p s = true) : oh L i p s = true := by
 unfold oh at hd ⊢
 rw [List.any_eq_true] at hd ⊢
 obtain ⟨x, hx, hp⟩ := hd
 refine ⟨x, ?_, hp⟩
 have : L.take m = (L.take i).take m := by rw [List.take_take, Nat.min_eq_left h]
 rw [this] at hx
 exact List.mem_of_mem_take hx
theorem ahl {L : List It} {i : Nat} (hi : i < L.length) (hL : L.length ≤ 64) (p : Int) (s : ByteArray) (b : Bool) (ds : List Int) : ∀ (t m : Nat), i - m ≤ t → m ≤ i → oh L m p s = false →
    Ev (fun k => ak.l0 k L i m p s b ds) (!oh L i p s) := by
 intro t
 induction t with
 | zero =>
  intro m h1 h2 h3
  obtain rfl : m = i := by omega
  refine ⟨1, fun k hk => ?_⟩
  obtain ⟨k, rfl⟩ : ∃ q, k = q + 1 := ⟨k - 1, by omega⟩
  simp only [ak.l0]
  rw [if_neg (by omega), h3]; rfl
 | succ t ih =>
  intro m h1 h2 h3
  by_cases hm : m = i
  · exact ih m (by omega) h2 h3
  · have hst := PE (L := L) (i := m) (by omega) p s
    rw [h3, Bool.false_or] at hst
    by_cases c : (itA L (m : Int)).f0 = p ∧ (itA L (m : Int)).f1.toList = s.toList
    · have hd : oh L i p s = true := abf (m := m + 1) (by omega) (by rw [hst, decide_eq_true c.1, c.2]; simp)
      refine ⟨1, fun k hk => ?_⟩
      obtain ⟨k, rfl⟩ : ∃ q, k = q + 1 := ⟨k - 1, by omega⟩
      simp only [ak.l0]
      rw [if_pos (by omega), if_pos (by omega), if_pos (by omega), if_pos c.1, if_pos c.2, hd]; rfl
    · have hd : oh L (m + 1) p s = false := by
        rw [hst, ← Bool.not_eq_true, Bool.and_eq_true, decide_eq_true_eq, beq_iff_eq]; exact c
      refine xP (fun k => ?_) (ih (m + 1) (by omega) (by omega) hd)
      simp only [ak.l0]
      rw [if_pos (by omega), if_pos (by omega), if_pos (by omega), jL (by omega) (by omega)]
      by_cases c1 : (itA L (m : Int)).f0 = p
      · rw [if_pos c1, if_neg (fun c2 => c ⟨c1, c2⟩)]; rfl
      · rw [if_neg c1]; rfl
theorem abg {L : List It} {i : Nat} (hi : i < L.length) (hL : L.length ≤ 64) (b : Bool) (p : Int) (s : ByteArray) (d : Bool) (ds : List Int) : Ev (fun k => ak.j1 k L i b p s d ds) (!b && !oh L i p s) := by
 cases b with
 | true =>
  refine ⟨1, fun k hk => ?_⟩
  obtain ⟨k, rfl⟩ : ∃ q, k = q + 1 := ⟨k - 1, by omega⟩
  simp only [ak.j1]; rfl
 | false =>
  refine xP (fun k => ?_) (ahl hi hL p s d ds i 0 (by omega) (by omega) (by simp [oh]))
  simp only [ak.j1]; rfl
theorem ahm {L : List It} {i : Nat} (hi : i < L.length) (hL : L.length ≤ 64) (hp : ∀ j : Nat, j ≤ i → iq L j = true) (b : Bool) (p : Int) (s : ByteArray) (d : Bool) (ds : List Int) (hs : s.size ≤ 100000) :
    Ev (fun k => ak.j0 k L i b p s d ds) (!b && (nmB s && decide (s.size ≤ 48) && (decide (ds.length = 0) || (!d && decide (ds.length ≤ 8192))) && decide (dep L i ≤ 8) && !oh L i p s)) := by
 cases b with
 | true =>
  refine ⟨1, fun k hk => ?_⟩
  obtain ⟨k, rfl⟩ : ∃ q, k = q + 1 := ⟨k - 1, by omega⟩
  simp only [ak.j0]; rfl
 | false =>
  obtain ⟨K1, hK1⟩ := aeo s hs
  obtain ⟨K2, hK2⟩ := aem (L := L) i i 1 (Nat.le_refl _) hi (by omega) (by omega) hp
  obtain ⟨K3, hK3⟩ := abg hi hL true p s d ds
  obtain ⟨K4, hK4⟩ := abg hi hL (decide (dep L i > 8)) p s d ds
  refine ⟨K1 + K2 + K3 + K4 + 1, fun k hk => ?_⟩
  obtain ⟨k, rfl⟩ : ∃ q, k = q + 1 := ⟨k - 1, by omega⟩
  have e1 : aX.f k s = some (nmB s) := hK1 k (by omega)
  have e2 : aW.f k L i = some (dep L i) := by
   have : aW.l0 k L i 1 = some (1 + dep L i - 1) := hK2 k (by omega)
   unfold aW.f
   rw [this]; congr 1; omega
  have e3 : ak.j1 k L i true p s d ds = some false := by
   have : ak.j1 k L i true p s d ds = _ := hK3 k (by omega)
   rw [this]; rfl
  have e4 : ak.j1 k L i (decide (dep L i > 8)) p s d ds = some (!decide (dep L i > 8) && !oh L i p s) := hK4 k (by omega)
  simp only [ak.j0, e1, e2, Option.bind_some, e3, e4]
  have hg : (!decide (dep L i > 8)) = decide (dep L i ≤ 8) := by
   rw [Bool.eq_iff_iff]; simp
  rw [hg]
  cases nmB s with
  | false => rfl
  | true =>
   rw [if_neg (by decide), if_pos rfl]
   by_cases c1 : (s.size : Int) > 48
   · rw [if_pos c1, decide_eq_false (by omega : ¬ s.size ≤ 48)]; rfl
   · rw [if_neg c1, decide_eq_true (by omega : s.size ≤ 48)]
     cases d with
     | true =>
      rw [if_pos rfl]
      by_cases c2 : (ds.length : Int) > 0
      · rw [if_pos c2, decide_eq_false (by omega : ¬ ds.length = 0)]; rfl
      · rw [if_neg c2, if_neg (by omega), decide_eq_true (by omega : ds.length = 0)]; simp
     | false =>
      rw [if_neg (by decide)]
      by_cases c2 : (ds.length : Int) > 8192
      · rw [if_pos c2, decide_eq_false (by omega : ¬ ds.length = 0), decide_eq_false (by omega : ¬ ds.length ≤ 8192)]; rfl
      · rw [if_neg c2, decide_eq_true (by omega : ds.length ≤ 8192)]; simp
theorem Ny (L : List It) (i : Nat) (p : Int) (s : ByteArray) (d : Bool) (ds : List Int) : Ev (fun k => ak.j0 k L i true p s d ds) false := by
 refine ⟨1, fun k hk => ?_⟩
 obtain ⟨k, rfl⟩ : ∃ q, k = q + 1 := ⟨k - 1, by omega⟩
 simp only [ak.j0]; rfl
theorem ahn {L : List It} {i : Nat} (hi : i < L.length) (hL : L.length ≤ 64) (hp : ∀ j : Nat, j < i → iq L j = true) (hs : (itA L i).f1.size ≤ 100000) :
    Ev (fun k => ak.f k L i) (fK L i && iC (itA L i)) := by
 have bad : iq L i = false → fK L i = false := fun h => by simp only [fK, h]; rfl
 have good : iq L i = true → Ev (fun k => ak.j0 k L i false (itA L i).f0 (itA L i).f1 (itA L i).f2 (itA L i).f3) (fK L i && iC (itA L i)) := fun h => by
  have h1 := ahm hi hL (fun j hj => by
   by_cases e : j = i
   · subst e; exact h
   · exact hp j (by omega)) false (itA L i).f0 (itA L i).f1 (itA L i).f2 (itA L i).f3 hs
  rw [show (fK L i && iC (itA L i)) = (!false && (nmB (itA L i).f1 && decide ((itA L i).f1.size ≤ 48) && (decide ((itA L i).f3.length = 0) || (!(itA L i).f2 && decide ((itA L i).f3.length ≤ 8192))) && decide (dep L i ≤ 8) && !oh L i (itA L i).f0 (itA L i).f1)) from by
   simp only [fK, iC, abe, h]
   generalize nmB (itA L i).f1 = b1
   generalize decide ((itA L i).f1.size ≤ 48) = b2
   generalize (decide ((itA L i).f3.length = 0) || (!(itA L i).f2 && decide ((itA L i).f3.length ≤ 8192))) = b3
   generalize decide (dep L i ≤ 8) = b4
   generalize oh L i (itA L i).f0 (itA L i).f1 = b5
   cases b1 <;> cases b2 <;> cases b3 <;> cases b4 <;> cases b5 <;> rfl]
  exact h1
 have iz : (0 : Int) ≤ (i : Int) := by omega
 have il : (i : Int) < (L.length : Int) := by omega
 by_cases c1 : (itA L i).f0 < -1
 · have hb : iq L i = false := by
     rw [← Bool.not_eq_true]; intro h; have := kS h; omega
   rw [bad hb, Bool.false_and]
   refine Ev.congr (fun k => ?_) (Ny L i (itA L i).f0 (itA L i).f1 (itA L i).f2 (itA L i).f3)
   unfold ak.f
   rw [if_pos iz, if_pos il, if_pos c1]
 · by_cases c2 : (itA L i).f0 ≥ i
   · have hb : iq L i = false := by
       rw [← Bool.not_eq_true]; intro h; have := kS h; omega
     rw [bad hb, Bool.false_and]
     refine Ev.congr (fun k => ?_) (Ny L i (itA L i).f0 (itA L i).f1 (itA L i).f2 (itA L i).f3)
     unfold ak.f
     rw [if_pos iz, if_pos il, if_neg c1, if_pos c2]
   · by_cases c3 : (itA L i).f0 ≥ 0
     · cases hd : (itA L (itA L i).f0).f2 with
       | false =>
        have hb : iq L i = false := by
         simp only [iq]
         rw [show (itA L (itA L (i : Int)).f0).f2 = false from hd, decide_eq_false (by omega : ¬ (itA L (i : Int)).f0 = -1)]; simp
        rw [bad hb, Bool.false_and]
        refine Ev.congr (fun k => ?_) (Ny L i (itA L i).f0 (itA L i).f1 (itA L i).f2 (itA L i).f3)
        unfold ak.f
        rw [if_pos iz, if_pos il, if_neg c1, if_neg c2, if_pos c3, if_pos c3, if_pos (by show (itA L (i : Int)).f0 < _; omega), show (aj L (aj L (i : Int)).f0).f2 = false from hd]; rfl
       | true =>
        have hb : iq L i = true := by
         simp only [iq]
         rw [show (itA L (itA L (i : Int)).f0).f2 = true from hd, decide_eq_true (by omega), decide_eq_true (by omega)]; simp
        refine Ev.congr (fun k => ?_) (good hb)
        unfold ak.f
        rw [if_pos iz, if_pos il, if_neg c1, if_neg c2, if_pos c3, if_pos c3, if_pos (by show (itA L (i : Int)).f0 < _; omega), show (aj L (aj L (i : Int)).f0).f2 = true from hd]; rfl
     · have hb : iq L i = true := by
         simp only [iq]
         rw [decide_eq_true (by omega), decide_eq_true (by omega), decide_eq_true (by omega)]; rfl
       refine Ev.congr (fun k => ?_) (good hb)
       unfold ak.f
       rw [if_pos iz, if_pos il, if_neg c1, if_neg c2, if_neg c3]
theorem ajd (s : ByteArray) : bY.f s = some (rO s) := by
 unfold bY.f rO
 by_cases h : s.toList = ([46, 103, 101, 115, 115, 111] : List UInt8)
 · rw [if_pos h, h]; rfl
 · rw [if_neg h, show (s.toList == ([46, 103, 101, 115, 115, 111] : List UInt8)) = false from by simpa using h]; rfl
theorem aho {L : List It} (hL : L.length ≤ 64) (hs : ∀ x ∈ L, x.f1.size ≤ 100000) : ∀ (t i : Nat), L.length - i ≤ t → i ≤ L.length → (∀ j, j < i → (fK L j && iC (itA L j)) = true) →
    Ev (fun k => aC.l0 k L ((L.take i).any fun x => rO x.f1) i) (checkN L) := by
 have fin : ∀ b : Bool, (L.any fun x => rO x.f1) = b → (∀ j, j < L.length → (fK L j && iC (itA L j)) = true) → checkN L = if b = true then 15 else 0 := fun b hb h => by
  have h1 : oH L = true := CS fun j hj => (Bool.and_eq_true_iff.1 (h j hj)).1
  have h2 : L.any (fun x => !iC x) = false := by
   rw [List.any_eq_false]
   intro x hx
   obtain ⟨j, hj, rfl⟩ := List.mem_iff_getElem.1 hx
   have := (Bool.and_eq_true_iff.1 (h j hj)).2
   rw [bH hj] at this
   rw [this]; simp
  unfold checkN
  rw [if_neg (by omega), h1, h2, hb]; rfl
 intro t
 induction t with
 | zero =>
  intro i h1 h2 h3
  obtain rfl : i = L.length := by omega
  rw [List.take_length]
  refine ⟨1, fun k hk => ?_⟩
  obtain ⟨k, rfl⟩ : ∃ q, k = q + 1 := ⟨k - 1, by omega⟩
  simp only [aC.l0]
  rw [if_neg (by omega), fin _ rfl h3]
  by_cases h : (L.any fun x => rO x.f1) = true
  · rw [if_pos h, if_pos h]
  · rw [if_neg h, if_neg h]
 | succ t ih =>
  intro i h1 h2 h3
  by_cases hi : i = L.length
  · exact ih i (by omega) h2 h3
  · have hlt : i < L.length := by omega
    have ho := ahn hlt hL (fun j hj => jm (Bool.and_eq_true_iff.1 (h3 j hj)).1) (by rw [bH hlt]; exact hs _ (List.getElem_mem hlt))
    obtain ⟨K, hK⟩ := ho
    cases hb : (fK L i && iC (itA L i)) with
    | false =>
     have hc : checkN L = 14 := by
      unfold checkN
      rw [if_neg (by omega)]
      rw [if_pos]
      rw [Bool.and_eq_false_iff] at hb
      rcases hb with hb | hb
      · rw [lU hlt hb]; rfl
      · rw [Bool.or_eq_true]; right
        rw [List.any_eq_true]
        refine ⟨L[i], List.getElem_mem hlt, ?_⟩
        rw [← bH hlt, hb]; rfl
     refine ⟨K + 1, fun k hk => ?_⟩
     obtain ⟨k, rfl⟩ : ∃ q, k = q + 1 := ⟨k - 1, by omega⟩
     have e : ak.f k L i = some false := by rw [← hb]; exact hK k (by omega)
     simp only [aC.l0, e, Option.bind_some]
     rw [if_pos (by omega), if_neg (by decide), hc]
    | true =>
     obtain ⟨K2, hK2⟩ := ih (i + 1) (by omega) (by omega) (fun j hj => by
      by_cases e : j = i
      · subst e; exact hb
      · exact h3 j (by omega))
     refine ⟨K + K2 + 1, fun k hk => ?_⟩
     obtain ⟨k, rfl⟩ : ∃ q, k = q + 1 := ⟨k - 1, by omega⟩
     have e : ak.f k L i = some true := by rw [← hb]; exact hK k (by omega)
     have e2 : aC.l0 k L ((L.take (i + 1)).any fun x => rO x.f1) ((i + 1 : Nat) : Int) = some (checkN L) := hK2 k (by omega)
     rw [List.take_succ_eq_append_getElem hlt, List.any_append] at e2
     simp only [aC.l0, e, Option.bind_some, ajd]
     rw [if_pos (by omega), if_pos trivial, if_pos (by omega : (0:Int) ≤ (i:Int)), jL (by omega) (by omega), show (aj L (i : Int)) = L[i] from bH hlt, show (i : Int) + 1 = ((i + 1 : Nat) : Int) from by omega]
     cases hr : (L.take i).any fun x => rO x.f1 with
     | true =>
      rw [hr] at e2
      rw [if_pos rfl, ← e2]; rfl
     | false =>
      rw [hr] at e2
      rw [if_neg (by decide), ← e2]
      simp
theorem Qa (L : List It) (hs : ∀ x ∈ L, x.f1.size ≤ 100000) : Ev (fun k => aC.f k L) (checkN L) := by
 unfold aC.f
 by_cases h : (L.length : Int) > 64
 · rw [show checkN L = 14 from by unfold checkN; rw [if_pos (by omega)]]
   refine ⟨0, fun k _ => ?_⟩
   show (if (L.length : Int) > 64 then some 14 else _) = _
   rw [if_pos h]
 · refine Ev.congr (fun k => ?_) (aho (L := L) (by omega) hs L.length 0 (by omega) (by omega) (fun j hj => absurd hj (by omega)))
   rw [if_neg h]; rfl
theorem abh {L : List It} : ∀ (t : Nat) (i : Int) (acc : List ByteArray), -1 ≤ i → i < L.length → (i + 1).toNat ≤ t → acc.length + t ≤ 1000 → (∀ j : Nat, (j : Int) ≤ i → iq L j = true) →
    Ev (fun k => aH.l0 k L i acc) ((upF (i + 1).toNat L i).reverse ++ acc) := by
 intro t
 induction t with
 | zero =>
  intro i acc h1 h2 h3 h4 hp
  obtain rfl : i = -1 := by omega
  refine ⟨1, fun k hk => ?_⟩
  obtain ⟨k, rfl⟩ : ∃ q, k = q + 1 := ⟨k - 1, by omega⟩
  simp only [aH.l0]
  simp [upF]
 | succ t ih =>
  intro i acc h1 h2 h3 h4 hp
  by_cases hi : i = -1
  · exact ih i acc h1 h2 (by omega) (by omega) hp
  · obtain ⟨q, rfl⟩ : ∃ q : Nat, i = q := ⟨i.toNat, by omega⟩
    obtain ⟨p1, p2⟩ := kS (hp q (by omega))
    have h5 := ih (itA L (q : Int)).f0 ([(itA L (q : Int)).f1] ++ acc) p1 (by omega) (by omega) (by simp; omega) (fun j hj => hp j (by omega))
    rw [Np (fun j hj => hp j (by omega)), List.reverse_cons, List.append_assoc]
    refine xP (fun k => ?_) h5
    simp only [aH.l0, Option.bind_some]
    rw [if_pos (by omega), if_pos (by omega), if_pos h2, if_pos (by simp; omega)]
theorem aep (L : List It) (hs : ∀ x ∈ L, x.f1.size ≤ 100000) (i : Int) : Ev (fun k => aH.f k L i) (lH L i) := by
 have hj : Ev (fun k => aH.j0 k L i true) [] := by
  refine ⟨1, fun k hk => ?_⟩
  obtain ⟨k, rfl⟩ : ∃ q, k = q + 1 := ⟨k - 1, by omega⟩
  simp only [aH.j0]; rfl
 unfold aH.f
 by_cases h1 : i < 0
 · rw [show lH L i = [] from by unfold lH; rw [if_pos (.inl h1)]]
   refine Ev.congr (fun k => ?_) hj
   rw [if_pos h1]
 · by_cases h2 : i ≥ (L.length : Int)
   · rw [show lH L i = [] from by unfold lH; rw [if_pos (.inr (.inl h2))]]
     refine Ev.congr (fun k => ?_) hj
     rw [if_neg h1, if_pos h2]
   · obtain ⟨K, hK⟩ := Qa L hs
     by_cases h3 : checkN L = 14
     · rw [show lH L i = [] from by unfold lH; rw [if_pos (.inr (.inr h3))]]
       obtain ⟨K2, hK2⟩ := hj
       refine ⟨K + K2, fun k hk => ?_⟩
       have e : aC.f k L = some (checkN L) := hK k (by omega)
       have e2 : aH.j0 k L i true = some [] := hK2 k (by omega)
       show (if i < 0 then _ else if i ≥ (L.length : Int) then _ else (aC.f k L).bind _) = _
       rw [if_neg h1, if_neg h2, e, Option.bind_some, h3]
       exact e2
     · rw [show lH L i = bQ L i from by unfold lH; rw [if_neg (by rintro (h | h | h) <;> omega)]]
       obtain ⟨q1, q2, _⟩ := dB h3
       have hp : ∀ j : Nat, (j : Int) ≤ i → iq L j = true := fun j hj => by
        simp only [oH, List.all_eq_true, List.mem_range] at q2
        exact jm (q2 j (by omega))
       obtain ⟨K2, hK2⟩ := abh (L := L) (i + 1).toNat i [] (by omega) (by omega) (Nat.le_refl _) (by simp; omega) hp
       refine ⟨K + K2 + 1, fun k hk => ?_⟩
       obtain ⟨k, rfl⟩ : ∃ q, k = q + 1 := ⟨k - 1, by omega⟩
       have e : aC.f (k + 1) L = some (checkN L) := hK (k + 1) (by omega)
       have e2 : aH.l0 k L i [] = some ((upF (i + 1).toNat L i).reverse ++ []) := hK2 k (by omega)
       show (if i < 0 then _ else if i ≥ (L.length : Int) then _ else (aC.f (k + 1) L).bind _) = _
       rw [if_neg h1, if_neg h2, e, Option.bind_some, show (checkN L == 14) = false from by simpa using h3]
       simp only [aH.j0]
       rw [if_neg (by decide), e2, List.append_nil]; rfl
theorem amU (a b : List ByteArray) (hl : a.length = b.length) (hb : a.length ≤ 100000) : ∀ (t i : Nat), a.length - i ≤ t → i ≤ a.length → a.take i = b.take i → Ev (fun k => Ad.l0 k a b i) (decide (a = b)) := by
 intro t
 induction t with
 | zero =>
  intro i h1 h2 h3
  obtain rfl : i = a.length := by omega
  rw [List.take_length, hl, List.take_length] at h3
  refine ⟨1, fun k hk => ?_⟩
  obtain ⟨k, rfl⟩ : ∃ q, k = q + 1 := ⟨k - 1, by omega⟩
  simp only [Ad.l0]
  rw [if_neg (by omega), decide_eq_true h3]
 | succ t ih =>
  intro i h1 h2 h3
  by_cases hi : i = a.length
  · exact ih i (by omega) h2 h3
  · have ha : i < a.length := by omega
    have hb2 : i < b.length := by omega
    have ea : fQ ByteArray.empty a (i : Int) = a[i] := by simp [fQ, List.getD_eq_getElem?_getD, ha]
    have eb : fQ ByteArray.empty b (i : Int) = b[i] := by simp [fQ, List.getD_eq_getElem?_getD, hb2]
    by_cases c : a[i].toList = b[i].toList
    · have e := data_inj c
      refine xP (fun k => ?_) (ih (i + 1) (by omega) (by omega) (by rw [List.take_succ_eq_append_getElem ha, List.take_succ_eq_append_getElem hb2, h3, e]))
      simp only [Ad.l0]
      rw [if_pos (by omega), if_pos (by omega), if_pos (by omega), ea, eb, if_pos c, jL (by omega) (by omega)]; rfl
    · refine ⟨1, fun k hk => ?_⟩
      obtain ⟨k, rfl⟩ : ∃ q, k = q + 1 := ⟨k - 1, by omega⟩
      simp only [Ad.l0]
      rw [if_pos (by omega), if_pos (by omega), if_pos (by omega), ea, eb, if_neg c, decide_eq_false]
      intro h; subst h; exact c rfl
theorem ajz (a b : List ByteArray) (hb : a.length ≤ 100000) : Ev (fun k => Ad.f k a b) (decide (a = b)) := by
 unfold Ad.f
 by_cases h : (a.length : Int) = (b.length : Int)
 · refine Ev.congr (fun k => ?_) (amU a b (by omega) hb a.length 0 (by omega) (by omega) rfl)
   rw [if_pos h]; rfl
 · refine ⟨0, fun k _ => ?_⟩
   show (if (a.length : Int) = (b.length : Int) then _ else some false) = _
   rw [if_neg h, decide_eq_false]
   intro e; subst e; exact h rfl
theorem aer (a b : List ByteArray) (ha : a.length ≤ 100000) : ∀ (t i : Nat), a.length - i ≤ t → i ≤ a.length → i ≤ b.length → cmpL a b = cmpL (a.drop i) (b.drop i) →
    Ev (fun k => aJ.l0 k a b i) (decide (cmpL a b < 0)) := by
 have stop : ∀ i : Nat, ¬ (i < a.length ∧ i < b.length) → i ≤ a.length → i ≤ b.length → cmpL a b = cmpL (a.drop i) (b.drop i) → Ev (fun k => aJ.l0 k a b i) (decide (cmpL a b < 0)) := by
  intro i h1 h2 h3 h4
  have e : decide ((a.length : Int) < (b.length : Int)) = decide (cmpL a b < 0) := by
   rw [h4]
   by_cases c1 : i < a.length
   · have c2 : i = b.length := by omega
     rw [List.drop_eq_getElem_cons c1, List.drop_eq_nil_of_le (by omega : b.length ≤ i), cmpL]
     exact decide_eq_decide.2 (by omega)
   · rw [List.drop_eq_nil_of_le (by omega : a.length ≤ i)]
     by_cases c2 : i < b.length
     · rw [List.drop_eq_getElem_cons c2, cmpL]
       exact decide_eq_decide.2 (by omega)
     · rw [List.drop_eq_nil_of_le (by omega : b.length ≤ i), cmpL]
       exact decide_eq_decide.2 (by omega)
  refine ⟨2, fun k hk => ?_⟩
  obtain ⟨k, rfl⟩ : ∃ q, k = q + 1 + 1 := ⟨k - 2, by omega⟩
  simp only [aJ.l0, aJ.j1]
  by_cases c1 : i < a.length
  · rw [if_pos (by omega), decide_eq_false (by omega : ¬ (i : Int) < (b.length : Int)), if_neg (by decide), e]
  · rw [if_neg (by omega), if_neg (by simp), e]
 intro t
 induction t with
 | zero =>
  intro i h1 h2 h3 h4
  exact stop i (by omega) h2 h3 h4
 | succ t ih =>
  intro i h1 h2 h3 h4
  by_cases c : i < a.length ∧ i < b.length
  · obtain ⟨c1, c2⟩ := c
    have hs := JE c1 c2
    have ea := Bg c1
    have eb := Bg c2
    by_cases e : a[i].toList = b[i].toList
    · have e0 : oI a[i] b[i] = 0 := kP.2 (str_inj e)
      rw [if_pos e0] at hs
      obtain ⟨K, hK⟩ := ih (i + 1) (by omega) (by omega) (by omega) (h4.trans hs)
      refine ⟨K + 2, fun k hk => ?_⟩
      obtain ⟨k, rfl⟩ : ∃ q, k = q + 1 + 1 := ⟨k - 2, by omega⟩
      have h5 : aJ.l0 k a b ((i + 1 : Nat) : Int) = _ := hK k (by omega)
      simp only [aJ.l0, aJ.j1]
      rw [if_pos (by omega), decide_eq_true (by omega : (i : Int) < (b.length : Int)), if_pos rfl, if_pos (by omega), if_pos (by omega), if_pos (by omega), ea, eb, if_pos e, jL (by omega) (by omega)]
      exact h5
    · have e0 : ¬ oI a[i] b[i] = 0 := fun h => e (by rw [kP.1 h])
      rw [if_neg e0] at hs
      refine ⟨2, fun k hk => ?_⟩
      obtain ⟨k, rfl⟩ : ∃ q, k = q + 1 + 1 := ⟨k - 2, by omega⟩
      simp only [aJ.l0, aJ.j1]
      rw [if_pos (by omega), decide_eq_true (by omega : (i : Int) < (b.length : Int)), if_pos rfl, if_pos (by omega), if_pos (by omega), if_pos (by omega), ea, eb, if_neg e, h4, hs]
      congr 1
      rw [Bool.eq_iff_iff, decide_eq_true_eq]
      exact wz.symm
  · exact stop i c h2 h3 h4
theorem aes (a b : List ByteArray) (ha : a.length ≤ 100000) : Ev (fun k => aJ.f k a b) (decide (cmpL a b < 0)) := by
 unfold aJ.f
 exact aer a b ha a.length 0 (by omega) (by omega) (by omega) rfl
theorem clone_any (xs : List Int) (A : Option Addr) (c : Nat) (w : World) (hC : (Kd.int .u8).C w A xs.length xs) (hl : xs.length ≤ 100000) :
    Calls Tryz.prog 66 #[.slice A xs.length c] w fun e w' => ∃ v, e = .returned v ∧ (Kd.int .u8).R 5 w' w.heap.size (fun _ => True) v xs ∧ Below w.heap.size w w' := by
 have q22 : ∀ (w : World) (a : Option Addr) (n c n' c' : Nat), (binOp .eql 46 (.slice a n c) (.slice none n' c')).run Tryz.prog w = .ok (.bool a.isNone) w := fun w a n c n' c' => Lib.run_eql_slice_nil w _ _ a n c n' c' Tryz.underlying46
 have u22 : ∀ w, Sem.run Tryz.prog (underlying 46) w = .ok (TypeDesc.slice 5) w := run_underlying Tryz.underlying46
 cases A with
 | none =>
  have h0 : xs = [] := by
   rcases xs with _ | ⟨x, xs⟩
   · rfl
   · obtain ⟨ad, h, _⟩ := hC.2.2 (by simp)
     cases h
  subst h0
  have HN := fun W => Kd.mP (Kd.int .u8) 5 W w.heap.size (fun _ => True)
  go_enter Tryz.func66, Tryz.ntmps66
  go_wp2
  go_ret
  exact ⟨_, rfl, HN _, Below.refl _ _⟩
 | some ad =>
  have hsrc : ah (∀ j u, (xs.map (Value.int .u8))[j]? = some u → w.cell? (ad.add j) = some u) := ⟨fun j u hj => by
   obtain ⟨x, hx, rfl⟩ := Option.map_eq_some_iff.1 (by rw [List.getElem?_map] at hj; exact hj)
   have hlt : j < xs.length := (List.getElem?_eq_some_iff.1 hx).1
   obtain ⟨ad', e, hc⟩ := hC.2.2 (by omega)
   cases e
   obtain ⟨cs, _, rfl, h2⟩ := hc j x hx
   have := h2 0 _ rfl
   rwa [show j * (Kd.int .u8).sz + 0 = j from by show j * 1 + 0 = j; omega] at this⟩
  have hinfo := info5
  obtain ⟨i0, hi, hz⟩ := Option.map_eq_some_iff.1 hinfo
  simp only [Prod.mk.injEq] at hz
  clear hC hinfo
  go_enter Tryz.func66, Tryz.ntmps66
  go_wp2_with (at_builtin; refine wpList_append_own _ rfl _ _ 46 rfl w.heap.size 5 i0 (.int .u8 0) 1 1 Tryz.underlying46 hi hz.1 hz.2.1 hz.2.2 rfl (by omega) _ _ _ rfl (World.ownsRow_made w #[] 0 (Nat.le_refl _) (Nat.zero_le _) (by simp)) ad xs.length c (xs.map (Value.int .u8)) rfl ?qc1 ?qc2 ?qc3 ?qc4 ?qc5 ?qc6 ?_)
  case qc1 => simp
  case qc2 =>
   intro j u hj
   exact Lib.cell?_alloc_some _ (hsrc.out j u hj)
  case qc3 => intro u hu; obtain ⟨x, _, rfl⟩ := List.mem_map.1 hu; rfl
  case qc4 => simp only [maxLen]; omega
  case qc5 => omega
  case qc6 => simp
  intro v' w1 hown hgrow hnil
  go_wp2
  go_ret
  have hown1 : w1.ownsRow w.heap.size 5 1 v' xs.length (xs.map (Value.int .u8)) := by simpa using hown
  refine ⟨v', rfl, ⟨fun _ _ => trivial, xs.map (Value.int .u8), hown1, by rw [List.length_map]; exact (Nat.mul_one _).symm, fun j p hj => ?_⟩, ?_⟩
  · show (List.take 1 _) = [Value.int .u8 p]
    have hlt : j < xs.length := (List.getElem?_eq_some_iff.1 hj).1
    rw [show j * (Kd.int .u8).sz = j from Nat.mul_one j, List.drop_eq_getElem_cons (by simpa using hlt)]
    obtain ⟨_, rfl⟩ := List.getElem?_eq_some_iff.1 hj
    simp
  · exact ((Below.refl _ w).alloc (Nat.le_refl _) _).grown hgrow (by simp) (by intro k hk; simp [Value.ownBlock] at hk; omega)
theorem RZ (w : World) (dT sT ty elem : TypeId) (k g dLen dCap : Nat) (a : Addr) (sLen sCap : Nat) (cur : Array Value) (t : TypeId) (cs : List Value)
    (hu : Tryz.prog.underlying dT = some (.slice elem)) (hs : (Tryz.prog.info? elem).map (·.size) = some k)
    (hg : w.heap[g]? = some (.cells cur t (0, 0))) (hn : cs.length = Nat.min sLen dLen * k)
    (hsrc : ∀ j v, cs[j]? = some v → w.cell? (a.add j) = some v) (hfit : cs.length ≤ cur.size) (h1 : ∀ v ∈ cs, v.oneCell' = true) :
    (Builtin.copy_ #[dT, sT] ty #[.slice (some ⟨g, 0, none⟩) dLen dCap, .slice (some a) sLen sCap]).run Tryz.prog w =
     .ok (goInt (Nat.min sLen dLen)) (w.setRow g (cs ++ cur.toList.drop cs.length).toArray) := by
 have hl := run_loadCells_list (P := Tryz.prog) w a cs hsrc
 have hst := run_storeCells_at Tryz.prog g 0 t cs 0 cur w hg (by simpa using hfit) h1
 cases hq : Tryz.prog.info? elem with
 | none => simp [hq] at hs
 | some i =>
  have hi : i.size = k := by simpa [hq] using hs
  simp [Builtin.copy_, run_underlying hu, Builtin.lenOf, Builtin.firstCells, sizeOf, typeInfo, hq, hi, ← hn, hl, hst]
theorem aeu (w : World) (o : Obj) {g : Nat} {x : Obj} (h : w.heap[g]? = some x) : (w.alloc o).heap[g]? = some x := by
 have hlt : g < w.heap.size := (Array.getElem?_eq_some_iff.1 h).1
 show (w.heap.push o)[g]? = _
 rw [Array.getElem?_push, if_neg (by omega)]; exact h
theorem Si (w : World) (dT sT ty elem : TypeId) (k : Nat) (a : Option Addr) (dCap : Nat) (b : Option Addr) (sCap : Nat) (hu : Tryz.prog.underlying dT = some (.slice elem)) (hs : (Tryz.prog.info? elem).map (·.size) = some k) :
    (Builtin.copy_ #[dT, sT] ty #[.slice a 0 dCap, .slice b 0 sCap]).run Tryz.prog w = .ok (goInt 0) w := by
 cases hq : Tryz.prog.info? elem with
 | none => simp [hq] at hs
 | some i =>
  cases a <;> cases b <;> simp [Builtin.copy_, run_underlying hu, Builtin.lenOf, Builtin.firstCells, sizeOf, typeInfo, hq, storeCells, loadCells, loadCellsFrom]
theorem aje {α : Type} (F : Nat → List α) (h : ∀ j, (F j).length = 4) : ∀ n, ((List.range n).flatMap F).length = n * 4 ∧ ∀ j, j < n → ∀ k, k < 4 → ((List.range n).flatMap F)[j * 4 + k]? = (F j)[k]? := by
 intro n
 induction n with
 | zero => exact ⟨rfl, fun j hj => absurd hj (by omega)⟩
 | succ n ih =>
  rw [List.range_succ, List.flatMap_append]
  have e : List.flatMap F [n] = F n := by simp
  rw [e]
  refine ⟨by rw [List.length_append, ih.1, h]; omega, fun j hj k hk => ?_⟩
  by_cases hjn : j = n
  · subst hjn
    rw [List.getElem?_append_right (by rw [ih.1]; omega), ih.1]
    congr 1; omega
  · rw [List.getElem?_append_left (by rw [ih.1]; omega)]
    exact ih.2 j (by omega) k hk
structure CpI (w : World) (L : List It) (g cap i : Nat) (W : World) : Prop where
 below : Below w.heap.size w W
 gb : w.heap.size ≤ g
 row : ∃ (cur : Array Value) (V : Nat → Value), W.heap[g]? = some (.cells cur 53 (0, 0)) ∧ cur.size = cap * 4 ∧ L.length ≤ cap ∧ cap ≤ maxLen ∧
  (∀ j, j < L.length → cur[j * 4]? = some (.int .i64 (itA L j).f0) ∧ cur[j * 4 + 1]? = some (.string (itA L j).f1) ∧ cur[j * 4 + 2]? = some (.bool (itA L j).f2) ∧ cur[j * 4 + 3]? = some (V j)) ∧
  (∀ j, j < i → j < L.length → (Kd.int .u8).R 5 W w.heap.size (fun k => k ≠ g) (V j) (itA L j).f3) ∧
  (∀ j, i ≤ j → j < L.length → ∃ A c, V j = .slice A (itA L j).f3.length c ∧ (itA L j).f3.length ≤ c ∧ (Kd.int .u8).C w A (itA L j).f3.length (itA L j).f3)
theorem ahp {w : World} {L : List It} {g cap : Nat} {W : World} (h : CpI w L g cap L.length W) : Kd.R kIt 53 W w.heap.size (fun _ => True) (.slice (some ⟨g, 0, none⟩) L.length cap) L := by
 obtain ⟨cur, V, hg, hs, hl, hm, hc, hR, _⟩ := h.row
 have hs' : cur.toList.length = cap * 4 := by rw [← hs]; simp
 refine ⟨fun _ _ => trivial, cur.toList.take (L.length * 4), ⟨?_, .inr ⟨g, cap, cur, rfl, h.gb, hg, hl, hm, hs, rfl⟩⟩, ?_, fun j p hj => ?_⟩
 · rw [List.length_take, hs']
   show min (L.length * 4) (cap * 4) = L.length * 4
   omega
 · rw [List.length_take, hs']
   show min (L.length * 4) (cap * 4) = L.length * 4
   omega
 · have hjl : j < L.length := (List.getElem?_eq_some_iff.1 hj).1
   have hp : p = itA L j := by
    rw [bH hjl]
    exact (List.getElem?_eq_some_iff.1 hj).2.symm
   subst hp
   obtain ⟨c0, c1, c2, c3⟩ := hc j hjl
   have e : (List.take kIt.sz (List.drop (j * kIt.sz) (cur.toList.take (L.length * 4)))) = [.int .i64 (itA L j).f0, .string (itA L j).f1, .bool (itA L j).f2, V j] := by
    show List.take 4 (List.drop (j * 4) _) = _
    apply List.ext_getElem?
    intro k
    rw [List.getElem?_take]
    by_cases hk : k < 4
    · rw [if_pos hk, List.getElem?_drop, List.getElem?_take, if_pos (by omega), Array.getElem?_toList]
      match k, hk with
      | 0, _ => exact c0
      | 1, _ => exact c1
      | 2, _ => exact c2
      | 3, _ => exact c3
    · rw [if_neg hk, List.getElem?_eq_none (by simp; omega)]
   rw [e]
   refine tN _ _ _ _ (Kd.dF (hR j hjl hjl) (fun k hk => ⟨trivial, ?_⟩))
   show some k ≠ some g
   exact fun e => hk (Option.some.inj e)
theorem abj (L : List It) (A : Option Addr) (c : Nat) (w : World) (hC : Kd.C kIt w A L.length L) (hl : L.length ≤ 100000) (hd : ∀ x ∈ L, x.f3.length ≤ 100000) :
    Calls Tryz.prog 32 #[.slice A L.length c] w fun e w' => ∃ v, e = .returned v ∧ Kd.R kIt 53 w' w.heap.size (fun _ => True) v L ∧ Below w.heap.size w w' := by
 have hu41 := Tryz.underlying53
 have HC := ah.mk hC
 clear hC
 go_enter Tryz.func32, Tryz.ntmps32
 go_wp2_with (first | ((with_reducible refine dA (N := 8) rfl ?_); refine Kd.rM kIt w.heap.size 53 rfl (N := 8) rfl 22 _ _ rfl (L.length : Int) rfl rfl Tryz.underlying22 (.agg #[(.int .i64 0), (.string ⟨#[]⟩), (.bool false), (.slice none 0 0)]) 56 uX rfl (by decide) (by omega) zIt (ok := fun _ => True) (okp := fun _ => True) ?hz (fun _ hk => hk) trivial (by omega) (by omega) (Below.refl _ _) (Nat.le_refl _) ?_; (case hz => exact tN _ _ _ _ (Kd.mP _ _ _ _ _)); intro vd w1 hrow hb1 hg1 hn1))
 obtain ⟨_, inner, hown, _⟩ := id hrow
 by_cases h0 : L.length = 0
 · obtain rfl : L = [] := List.length_eq_zero_iff.1 h0
   obtain ⟨Ao, co, eo⟩ := Kd.bW hrow
   simp only [List.length_nil, List.replicate, Int.ofNat_zero, Int.toNat_zero] at eo hrow
   subst eo
   have hrun := Si w1 22 22 3 53 4 Ao co A c Tryz.underlying22 (by kernel_rfl)
   simp only [List.length_nil]
   have HRow := ah.mk hrow
   have HB1 := ah.mk hb1
   clear hrow hown hb1 hg1 hn1
   rw [hrun]
   go_wp2
   refine wp_loop_rounds 1 ?_
   rw [rounds_succ]
   go_wp2
   go_ret
   exact ⟨_, rfl, HRow.out, HB1.out⟩
 · rcases hown.2 with ⟨_, h9⟩ | ⟨g, cap, cur, rfl, hgb, hheap, hnc, hcm, hcs, _⟩
   · rw [List.length_replicate] at h9; omega
   have hnc' : L.length ≤ cap := by simpa using hnc
   have hcs' : cur.size = cap * 4 := hcs
   have hcl : cur.toList.length = cap * 4 := by rw [← hcs']; simp
   obtain ⟨ad, rfl, hrd⟩ := HC.out.2.2 (by omega)
   have each : ∀ j, j < L.length → ∃ x : Option Addr × Nat, (itA L j).f3.length ≤ x.2 ∧ (Kd.int .u8).C w x.1 (itA L j).f3.length (itA L j).f3 ∧ ∀ k u, [Value.int .i64 (itA L j).f0, .string (itA L j).f1, .bool (itA L j).f2, .slice x.1 (itA L j).f3.length x.2][k]? = some u → w.cell? (ad.add (j * 4 + k)) = some u := by
    intro j hj
    obtain ⟨cs, _, hK, hcell⟩ := hrd j (itA L j) (by rw [bH hj]; exact List.getElem?_eq_getElem hj)
    obtain ⟨A3, c3, rfl, l3, g3⟩ := Oc hK
    exact ⟨(A3, c3), l3, g3, hcell⟩
   obtain ⟨AC, hAC⟩ := Go.Deep.choose_lt each
   obtain ⟨F, hF⟩ : ∃ F : Nat → List Value, F = fun j : Nat => [Value.int .i64 (itA L j).f0, .string (itA L j).f1, .bool (itA L j).f2, .slice (AC j).1 (itA L j).f3.length (AC j).2] := ⟨_, rfl⟩
   obtain ⟨f1, f2⟩ := aje F (fun j => by rw [hF]; rfl) L.length
   have hone : ∀ v ∈ (List.range L.length).flatMap F, v.oneCell' = true := by
    intro v hv
    obtain ⟨j, _, hv⟩ := List.mem_flatMap.1 hv
    rw [hF] at hv
    simp only [List.mem_cons, List.not_mem_nil, or_false] at hv
    rcases hv with rfl | rfl | rfl | rfl <;> rfl
   generalize hcsrc : (List.range L.length).flatMap F = IK at f1 f2 hone
   have hsrc : ∀ m v, IK[m]? = some v → w1.cell? (ad.add m) = some v := by
    intro m v hm
    have hml : m < L.length * 4 := by rw [← f1]; exact (List.getElem?_eq_some_iff.1 hm).1
    have h2 := f2 (m / 4) (by omega) (m % 4) (by omega)
    rw [show m / 4 * 4 + m % 4 = m from by omega, hm, hF] at h2
    have h3 := (hAC (m / 4) (by omega)).2.2 (m % 4) v h2.symm
    rw [show m / 4 * 4 + m % 4 = m from by omega] at h3
    exact fZ hb1 h3
   have hrun := RZ w1 22 22 3 53 4 g L.length cap ad L.length c cur 53 IK Tryz.underlying22 (by kernel_rfl) hheap (by rw [f1]; simp) hsrc (by rw [f1, hcs']; omega) hone
   rw [show L.length.min L.length = L.length from Nat.min_self _] at hrun
   have ajf : (List.replicate (L.length : Int).toNat zIt).length = L.length := by simp
   have H0 : CpI w L g cap 0 (w1.setRow g (IK ++ cur.toList.drop IK.length).toArray) := {
    below := below_setRow hb1 hgb _
    gb := hgb
    row := ⟨(IK ++ cur.toList.drop IK.length).toArray, fun j => .slice (AC j).1 (itA L j).f3.length (AC j).2, setRow_heap w1 g _ _ _ _ hheap, by simp [f1, hcs']; omega, hnc', hcm, fun j hj => by
        have e : ∀ k, k < 4 → ((IK ++ cur.toList.drop IK.length).toArray)[j * 4 + k]? = (F j)[k]? := fun k hk => by
         rw [List.getElem?_toArray, List.getElem?_append_left (by rw [f1]; omega)]
         exact f2 j hj k hk
        have e0 := e 0 (by omega); have e1 := e 1 (by omega); have e2 := e 2 (by omega); have e3 := e 3 (by omega)
        rw [hF] at e0 e1 e2 e3
        exact ⟨e0, e1, e2, e3⟩, fun j hj => absurd hj (by omega), fun j _ hj => ⟨_, _, rfl, (hAC j hj).1, (hAC j hj).2.1⟩⟩ }
   have H1 := ah.mk H0
   simp only [ajf]
   generalize (w1.setRow g (IK ++ cur.toList.drop IK.length).toArray) = W0 at hrun H1
   rw [hrun]
   clear H0 hrun hsrc hone f1 f2 hAC each hrd hrow hown hheap hb1 hg1 hn1
   go_wp2
   go_loopg [14] L.length (fun gg v14 wr => ∃ i : Nat, i ≤ L.length ∧ L.length - i ≤ gg ∧ v14 = .int .i64 i ∧ ah (CpI w L g cap i wr))
   case atStart => exact ⟨0, Nat.zero_le _, by omega, rfl, H1⟩
   case round =>
    clear H1
    obtain ⟨i, hi, hg, rfl, HI⟩ := hrel
    by_cases hlt : i < L.length
    · have hltz : (i : Int) < (L.length : Int) := by omega
      obtain ⟨hbel, _, cu, V, hgr, hcu, hcap1, hcap2, hcells, hown, hold⟩ := HI.out
      obtain ⟨A3, c3, hV, hl3, hC3⟩ := hold i (Nat.le_refl _) hlt
      obtain ⟨x0, x1, x2, x3⟩ := hcells i hlt
      rw [hV] at x3
      have hat : ∀ k v, cu[i * 4 + k]? = some v → wr.cell? ⟨g, i * 4 + k, none⟩ = some v := fun k v h => by
       simp only [World.cell?, hgr]; exact h
      have y0 := hat 0 _ x0
      have y1 := hat 1 _ x1
      have y2 := hat 2 _ x2
      have y3 := hat 3 _ x3
      rw [Nat.add_zero] at y0
      have hglt : g < wr.heap.size := (Array.getElem?_eq_some_iff.1 hgr).1
      have hd3 : (itA L i).f3.length ≤ 100000 := by
       rw [bH hlt]; exact hd _ (List.getElem_mem hlt)
      go_wp2_with (first | (go_at_call 66; refine (clone_any _ A3 c3 _ (Kd.aT hC3 (aI hbel _)) hd3).mono ?_; rintro e w3 ⟨v, rfl, hv, hb3⟩; obtain ⟨Ao, co, eo⟩ := Kd.bW hv; subst eo; have hg3 := (hb3.block g (by rw [show (wr.alloc _).heap.size = wr.heap.size + 1 from Array.size_push ..]; omega)).trans (aeu wr _ hgr); have z3 : w3.cell? ⟨g, i * 4 + 3, none⟩ = some (.slice A3 (itA L i).f3.length c3) := (by simp only [World.cell?, hg3]; exact x3); have zf : w3.frozen? ⟨g, i * 4 + 3, none⟩ = false := (by simp [World.frozen?, hg3])))
      have hb4 := dK (aI hbel _) hb3
      go_roundg (L.length - (i + 1))
      case measure => omega
      case rel =>
       refine ⟨i + 1, by omega, by omega, by go_num, ⟨?_⟩⟩
       have hgw := HI.out.gb
       have hsz1 : (wr.alloc (Obj.cells #[.int .i64 (itA L i).f0, .string (itA L i).f1, .bool (itA L i).f2, .slice A3 (itA L i).f3.length c3] 53)).heap.size = wr.heap.size + 1 := Array.size_push ..
       obtain ⟨v, hve⟩ : ∃ v, v = Value.slice Ao (itA L i).f3.length co := ⟨_, rfl⟩
       rw [← hve] at hv ⊢
       have hnew : (w3.setCell ⟨g, i * 4 + 3, none⟩ v).heap[g]? = some (.cells (cu.setIfInBounds (i * 4 + 3) v) 53 (0, 0)) := by
        rw [setCell_eq_setRow w3 g (i * 4 + 3) cu 53 (0, 0) v hg3]
        exact setRow_heap w3 g _ _ _ _ hg3
       have hother : ∀ k, k ≠ g → (w3.setCell ⟨g, i * 4 + 3, none⟩ v).heap[k]? = w3.heap[k]? := fun k hk => Below.heap_setCell w3 _ v k hk
       refine { below := lV hb4 hgw, gb := hgw, row := ⟨cu.setIfInBounds (i * 4 + 3) v, fun j => if j = i then v else V j, hnew, by simpa using hcu, hcap1, hcap2, fun j hj => ?_, fun j hj hjl => ?_, fun j hj hjl => ?_⟩ }
       · obtain ⟨q0, q1, q2, q3⟩ := hcells j hj
         have hcsz : i * 4 + 3 < cu.size := by rw [hcu]; omega
         have hs : ∀ m, (cu.setIfInBounds (i * 4 + 3) v)[m]? = if i * 4 + 3 = m then some v else cu[m]? := fun m => by
          rw [Array.getElem?_setIfInBounds]
          by_cases e : i * 4 + 3 = m
          · rw [if_pos e, if_pos e, if_pos hcsz]
          · rw [if_neg e, if_neg e]
         refine ⟨by rw [hs, if_neg (by omega)]; exact q0, by rw [hs, if_neg (by omega)]; exact q1, by rw [hs, if_neg (by omega)]; exact q2, ?_⟩
         rw [hs]
         show _ = some (if j = i then v else V j)
         by_cases e : j = i
         · subst e; rw [if_pos rfl, if_pos rfl]
         · rw [if_neg (by omega), if_neg e]; exact q3
       · show (Kd.int .u8).R _ _ _ _ (if j = i then v else V j) _
         by_cases e : j = i
         · subst e
           rw [if_pos rfl]
           exact Kd.yT (Kd.dY (Kd.dF (Kd.dR hv) (fun k hk => by have := hk.2.1; rw [hsz1] at this; omega)) (by rw [hsz1]; have := hbel.size; omega)) hother
         · rw [if_neg e]
           refine Kd.yT ?_ hother
           exact Kd.dw (hown j (by omega) hjl) (dK (aI (Below.refl _ _) _) hb3)
       · show ∃ A c, (if j = i then v else V j) = _ ∧ _
         rw [if_neg (by omega)]; exact hold j (by omega) hjl
    · have hltz : ¬ (i : Int) < (L.length : Int) := by omega
      obtain rfl : i = L.length := by omega
      go_wp2
      go_ret
      exact ⟨_, rfl, ahp HI.out, HI.out.below⟩
theorem tH {x : It} (h : iC x = true) : x.f3.length ≤ 8192 := by
 rcases ((nJ x).1 h).2 with h | h
 · rw [h]; decide
 · omega
theorem ahq : (Tryz.prog.info? 65).map (fun i => (i.zero, i.size, i.bytes)) = some (some (.slice none 0 0), 1, 24) := by kernel_rfl
theorem VN : (Tryz.prog.info? 3).map (fun i => (i.zero, i.size, i.bytes)) = some (some (.int .i64 0), 1, 8) := by kernel_rfl
theorem abk (L : List It) (A : Option Addr) (c : Nat) (hc : L.length ≤ c) (w : World) (hC : Kd.C kIt w A L.length L) (hwf : WfL L) (h14 : checkN L ≠ 14) :
    Calls Tryz.prog 51 #[.slice A L.length c] w fun e w' => ∃ v, e = .returned (.tuple #[v, .int .i64 0]) ∧ Kd.R kIt 53 w' w.heap.size (fun _ => True) v (sortL L) ∧ Below w.heap.size w w' := by
 have hu41 := Tryz.underlying53
 have HC := ah.mk hC
 have HK := fun W B => check_any L A c W (Kd.aT HC.out B) hwf
 obtain ⟨q1, q2, q3⟩ := dB h14
 have ahr : (checkN L == 14) = false := by rw [beq_eq_false_iff_ne]; exact h14
 clear hC
 generalize checkN L = e0 at *
 go_enter Tryz.func51, Tryz.ntmps51
 go_wp2_with (first | (go_at_call 18; refine (HK _ (Below.refl _ _)).mono ?_; rintro e w1 ⟨rfl, hb1⟩) | ((with_reducible refine dA (N := 20) rfl ?_); refine Kd.rM kPs w.heap.size 65 rfl (N := 20) rfl 87 _ _ rfl (L.length : Int) rfl rfl Tryz.underlying87 (.slice none 0 0) 24 ahq rfl (by decide) (by omega) [] (ok := fun _ => True) (okp := fun _ => True) ?hz (fun _ hk => hk) trivial (by omega) (by omega) hb1 hb1.size ?_; (case hz => exact ⟨_, rfl, Kd.mP _ _ _ _ _⟩); intro vp w2 hrp hb2 hg2 hn2; rw [Int.toNat_natCast] at hrp; obtain ⟨Ap, cp, ep⟩ := Kd.bW hrp; rw [List.length_replicate] at ep; subst ep; clear hg2 hn2) | ((with_reducible refine dA (N := 23) rfl ?_); refine Kd.rM (Kd.int .i64) w.heap.size 3 rfl (N := 23) rfl 76 _ _ rfl (L.length : Int) rfl rfl Tryz.underlying76 (.int .i64 0) 8 VN rfl (by decide) (by omega) 0 (ok := fun _ => True) (okp := fun _ => True) rfl (fun _ hk => hk) trivial (by omega) (by omega) (aI hb2 _) (aI hb2 _).size ?_; intro vo w3 hro hb3 hg3 hn3; rw [Int.toNat_natCast] at hro; obtain ⟨Ao, co, eo⟩ := Kd.bW hro; rw [List.length_replicate] at eo; subst eo))
 have hb2s := hb2.size
 clear hwf HK h14 ahr hb2 hb1
 have HS1 : So1 w L w2.heap.size Ap cp Ao co 0 w3 := by
  obtain ⟨bo, hbo, hlo⟩ := hn3
  rw [World.size_alloc] at hlo
  refine ⟨hb3, hb2s, ?_, ?_, ?_⟩
  · rw [hg3.block _ (by rw [World.size_alloc]; omega) nofun]
    exact Na _ _
  · rw [pK]
    exact Kd.nR (Kd.dF (Kd.dR (Kd.pq (Kd.dF (Kd.dR hrp) (fun k hk => hk.2.2.1)) (.cells #[.slice Ap L.length cp] 87))) (fun k hk => ⟨by have := hk.1; omega, by rw [hbo]; intro e; have e := Option.some.inj e; have := hk.1; omega⟩)) hg3 (fun _ _ => nofun)
  · rw [pK]
    refine Kd.sO (Kd.vZ hro) (fun k hk => ?_)
    rw [hbo] at hk
    cases hk
    exact ⟨by omega, fun e => by have := Kd.Ip hrp _ e.symm; omega⟩
 clear hb3 hrp hro hg3 hn3 hb2s
 have HS := ah.mk HS1
 clear HS1
 generalize w2.heap.size = pb at *
 go_loopg [26] L.length (fun gg v26 wr => ∃ i : Nat, i ≤ L.length ∧ L.length - i ≤ gg ∧ v26 = .int .i64 i ∧ ah (So1 w L pb Ap cp Ao co i wr))
 case atStart => exact ⟨0, Nat.zero_le _, by omega, rfl, HS⟩
 case round =>
  clear HS
  obtain ⟨i, hi, hg, rfl, HI⟩ := hrel
  by_cases hlt : i < L.length
  · have hltz : (i : Int) < (L.length : Int) := by omega
    obtain ⟨gp, go, rfl, rfl, n1, n2, n3, n4, n5⟩ := GI HI.out (by omega)
    go_wp2
    have hbx := GK HI.out
    have HI0 := HI.out
    go_region_with (go_at_call 77; refine (PL L q1 q2 (i : Int) (by omega) hltz A c hc _ (Kd.aT HC.out (HI0.below.trans (by first | exact Below.refl _ _ | exact Below.drew (Below.refl _ _))))).mono ?_; rintro e w5 ⟨v5, rfl, hv5, hb5⟩; replace hb5 : Below wr.heap.size wr w5 := (by first | exact hb5 | exact (Below.drew (Below.refl _ _)).trans hb5); have h5 := aaZ HI0 hb5; have hbx5 := GK h5; obtain ⟨⟨u1, c1, f1⟩, u2, c2, f2⟩ := XO h5 hlt; obtain ⟨Av, cv, rfl⟩ := Kd.bW hv5)
    all_goals (go_wp2; go_roundg (L.length - (i + 1)); (case measure => omega); (case rel => exact ⟨i + 1, by omega, by omega, by go_num, ⟨abb HI0 hb5 hv5 hlt⟩⟩))
  · obtain rfl : i = L.length := by omega
    have hfin := XP HI.out q2 q1
    clear HI
    go_wp2_with (first | (go_at_call 83; refine hfin.mono ?_; rintro e w6 ⟨rfl, hb6, ho6⟩) | ((with_reducible refine dA (N := 45) rfl ?_); refine Kd.rM (Kd.int .i64) w.heap.size 3 rfl (N := 45) rfl 76 _ _ rfl (L.length : Int) rfl rfl Tryz.underlying76 (.int .i64 0) 8 VN rfl (by decide) (by omega) 0 (ok := fun _ => True) (okp := fun _ => True) rfl (fun _ hk => hk) trivial (by omega) (by omega) hb6 hb6.size ?_; intro va w7 hra hb7 hg7 hn7; rw [Int.toNat_natCast] at hra; obtain ⟨Aa, ca, ea⟩ := Kd.bW hra; rw [List.length_replicate] at ea; subst ea))
    have HT := ah.mk (JF hb7 ho6 hg7 hra hn7)
    clear hb7 ho6 hg7 hra hn7 hb6 hfin
    go_loopg [48] L.length (fun gg v48 wr => ∃ k : Nat, k ≤ L.length ∧ L.length - k ≤ gg ∧ v48 = .int .i64 k ∧ ah (So2 w L Ao co Aa ca k wr))
    case atStart => exact ⟨0, Nat.zero_le _, by omega, rfl, HT⟩
    case round =>
     clear HT hi hg hlt
     obtain ⟨k, hk, hg, rfl, HI⟩ := hrel
     by_cases hlt : k < L.length
     · obtain ⟨ga, go, q, rfl, rfl, hq, hoq, x1, ⟨u, x2⟩, x3, HN⟩ := JG HI.out hlt
       have hkz : (k : Int) < (L.length : Int) := by omega
       have hqz : (q : Int) < (L.length : Int) := by omega
       have HN := ah.mk HN
       clear HI hoq
       go_wp2
       go_roundg (L.length - (k + 1))
       case measure => omega
       case rel => exact ⟨k + 1, by omega, by omega, by go_num, ⟨HN.out _ rfl⟩⟩
     · obtain rfl : k = L.length := by omega
       have HW2 := HI.out
       have hd3 : ∀ x ∈ L, x.f3.length ≤ 100000 := fun x hx => by
        have := List.all_eq_true.1 q3 x hx
        have := tH this
        omega
       clear HI
       go_wp2_with (first | (go_at_call 32; refine (abj L A c _ (Kd.aT HC.out HW2.below) (by omega) hd3).mono ?_; rintro e w8 ⟨v8, rfl, hall, hb8⟩; obtain ⟨Al, cl, rfl⟩ := Kd.bW hall; have ahs := HW2.below.trans (hb8.mono HW2.below.size)) | ((with_reducible refine dA (N := 62) rfl ?_); refine ael kIt w.heap.size 53 rfl (N := 62) rfl 22 _ _ rfl L.length rfl rfl Tryz.underlying22 (.agg #[(.int .i64 0), (.string ⟨#[]⟩), (.bool false), (.slice none 0 0)]) 56 uX (by omega) (ok := fun _ => True) trivial (by omega) ahs ahs.size ?_; intro vx w9 hout hb9 hg9 hn9; obtain ⟨Ax, cx, ex⟩ := Kd.bW hout; rw [List.length_nil] at ex; subst ex))
       have HT := ah.mk (XQ HW2 hb8 hall hb9 hg9 hout hn9)
       clear hb9 hall hg9 hout hn9 ahs hb8 HW2 hd3 hg hlt hk
       generalize (.slice Ax 0 cx : Value) = vx at HT ⊢
       go_loopg [11, 65] L.length (fun gg v11 v65 wr => ∃ k : Nat, k ≤ L.length ∧ L.length - k ≤ gg ∧ v65 = .int .i64 k ∧ ah (So3 w L Ao co Aa ca Al cl v11 k wr))
       case atStart => exact ⟨0, Nat.zero_le _, by omega, rfl, HT⟩
       case round =>
        clear HT
        obtain ⟨k, hk, hg, rfl, HI⟩ := hrel
        by_cases hlt : k < L.length
        · have H3 := HI.out
          obtain ⟨go, gl, q, A3, c3, rfl, rfl, hq, hoq, x1, y0, y1, y2, y3, hd⟩ := XR H3 hlt
          have hkz : (k : Int) < (L.length : Int) := by omega
          have hqz : (q : Int) < (L.length : Int) := by omega
          have HD := ah.mk hd
          have H3 := ah.mk H3
          clear HI hd
          by_cases h1 : (itA L q).f0 = -1
          · rw [h1] at y0
            have hit : (⟨-1, (itA L q).f1, (itA L q).f2, (itA L q).f3⟩ : It) = itS L q := by unfold itS; rw [if_pos h1]
            have CU := aI (Below.refl wr.heap.size wr) (Obj.cells #[.int .i64 (-1), .string (itA L q).f1, .bool (itA L q).f2, .slice A3 (itA L q).f3.length c3] 53)
            go_wp2_with (first | ((with_reducible refine dH (b := .append) (xs := #[.tmp 82, .tmp 84]) rfl ?_); at_builtin; refine Kd.nX kIt (w0 := w) (W := wr.alloc (Obj.cells #[.int .i64 (-1), .string (itA L q).f1, .bool (itA L q).f2, .slice A3 (itA L q).f3.length c3] 53)) w.heap.size rfl (.tmp 82) (.tmp 84) 22 53 (.agg #[(.int .i64 0), (.string ⟨#[]⟩), (.bool false), (.slice none 0 0)]) 56 rfl Tryz.underlying22 uX rfl (by decide) (by omega) u11 ((sortL L).take k) (itS L q) [.int .i64 (-1), .string (itA L q).f1, .bool (itA L q).f2, .slice A3 (itA L q).f3.length c3] (fun _ => True) (fun b => True ∧ some b ≠ u11.ownBlock) rfl ?hx ?hp (fun _ h => h) (fun _ _ => trivial) ?HO ?HB ?hbase ?hl ?_; (case hx => (rw [World.size_alloc]; rfl)); (case hp => (rw [← hit]; exact tN _ _ _ ⟨_, (itA L q).f1, (itA L q).f2, (itA L q).f3⟩ (Kd.pq HD.out _))); (case HO => exact (wE H3.out CU).out); (case HB => exact (wE H3.out CU).below); (case hbase => exact (wE H3.out CU).below.size); (case hl => (rw [List.length_take]; omega)); intro v12 w12 ho12 hb12 hg12 hat12))
            go_roundg (L.length - (k + 1))
            case measure => omega
            case rel => exact ⟨k + 1, by omega, by omega, by go_num, ⟨PY (wE H3.out CU) hoq ho12 hb12 hg12 hat12⟩⟩
          · obtain ⟨p, hp, hpl⟩ : ∃ p : Nat, (itA L q).f0 = p ∧ p < L.length := by
              have hpar : iq L q = true := by
               have hd2 := q2
               simp only [oH, List.all_eq_true, List.mem_range] at hd2
               exact jm (hd2 q hq)
              have := kS hpar
              exact ⟨(itA L q).f0.toNat, by omega, by omega⟩
            obtain ⟨ga, rfl, x2⟩ := ahj H3.out hpl
            have x2b : (wr.alloc (Obj.cells #[.int .i64 (p : Int), .string (itA L q).f1, .bool (itA L q).f2, .slice A3 (itA L q).f3.length c3] 53)).cell? ⟨ga, p, none⟩ = some (.int .i64 ((oL L).idxOf p : Int)) := (aI (Below.refl wr.heap.size wr) _).cell (World.block_lt_of_cell? wr _ x2) ▸ x2
            have hpz : (p : Int) < (L.length : Int) := by omega
            have hpm : ((p : Int) == -1) = false := by rw [beq_eq_false_iff_ne]; omega
            have hit : (⟨((oL L).idxOf p : Int), (itA L q).f1, (itA L q).f2, (itA L q).f3⟩ : It) = itS L q := by unfold itS PX; rw [if_neg h1, hp, Int.toNat_natCast]
            rw [hp] at y0
            have CU := aI (Below.refl wr.heap.size wr) (Obj.cells #[.int .i64 ((oL L).idxOf p : Int), .string (itA L q).f1, .bool (itA L q).f2, .slice A3 (itA L q).f3.length c3] 53)
            go_wp2_with (first | ((with_reducible refine dH (b := .append) (xs := #[.tmp 82, .tmp 84]) rfl ?_); at_builtin; refine Kd.nX kIt (w0 := w) (W := wr.alloc (Obj.cells #[.int .i64 ((oL L).idxOf p : Int), .string (itA L q).f1, .bool (itA L q).f2, .slice A3 (itA L q).f3.length c3] 53)) w.heap.size rfl (.tmp 82) (.tmp 84) 22 53 (.agg #[(.int .i64 0), (.string ⟨#[]⟩), (.bool false), (.slice none 0 0)]) 56 rfl Tryz.underlying22 uX rfl (by decide) (by omega) u11 ((sortL L).take k) (itS L q) [.int .i64 ((oL L).idxOf p : Int), .string (itA L q).f1, .bool (itA L q).f2, .slice A3 (itA L q).f3.length c3] (fun _ => True) (fun b => True ∧ some b ≠ u11.ownBlock) rfl ?hx ?hp (fun _ h => h) (fun _ _ => trivial) ?HO ?HB ?hbase ?hl ?_; (case hx => (rw [World.size_alloc]; rfl)); (case hp => (rw [← hit]; exact tN _ _ _ ⟨_, (itA L q).f1, (itA L q).f2, (itA L q).f3⟩ (Kd.pq HD.out _))); (case HO => exact (wE H3.out CU).out); (case HB => exact (wE H3.out CU).below); (case hbase => exact (wE H3.out CU).below.size); (case hl => (rw [List.length_take]; omega)); intro v12 w12 ho12 hb12 hg12 hat12))
            go_roundg (L.length - (k + 1))
            case measure => omega
            case rel => exact ⟨k + 1, by omega, by omega, by go_num, ⟨PY (wE H3.out CU) hoq ho12 hb12 hg12 hat12⟩⟩
        · obtain rfl : k = L.length := by omega
          have H3 := HI.out
          have hb := H3.below
          have hout := H3.out
          rw [List.take_of_length_le (by rw [mD]; exact Nat.le_refl _)] at hout
          go_wp2
          go_ret2
          exact ⟨_, rfl, hout, hb⟩
def GN (L : List It) : List It := if checkN L = 14 then [] else sortL L
def GR (L : List It) : Int := if checkN L = 14 then 14 else 0
theorem abl (L : List It) (A : Option Addr) (c : Nat) (hc : L.length ≤ c) (w : World) (hC : Kd.C kIt w A L.length L) (hwf : WfL L) :
    Calls Tryz.prog 51 #[.slice A L.length c] w fun e w' => ∃ v, e = .returned (.tuple #[v, .int .i64 (GR L)]) ∧ Kd.R kIt 53 w' w.heap.size (fun _ => True) v (GN L) ∧ Below w.heap.size w w' := by
 by_cases h14 : checkN L = 14
 · unfold GR GN
   rw [if_pos h14, if_pos h14]
   have HN := fun W => Kd.mP kIt 53 W w.heap.size (fun _ => True)
   have HC := ah.mk hC
   have HK := fun W B => check_any L A c W (Kd.aT HC.out B) hwf
   rw [h14] at HK
   clear hC
   go_enter Tryz.func51, Tryz.ntmps51
   go_wp2_with (first | (go_at_call 18; refine (HK _ (Below.refl _ _)).mono ?_; rintro e w1 ⟨rfl, hb1⟩))
   go_ret2
   exact ⟨_, rfl, HN _, hb1⟩
 · unfold GR GN
   rw [if_neg h14, if_neg h14]
   exact abk L A c hc w hC hwf h14
theorem aew (L : List It) : ∀ (n : Nat) (i : Int), (upF n L i).length ≤ n := by
 intro n
 induction n with
 | zero => intro i; simp [upF]
 | succ n ih =>
  intro i
  unfold upF
  split
  · simp
  · rw [List.length_cons]; have := ih (itA L i).f0; omega
theorem abm (L : List It) (i : Nat) : (bQ L (i : Int)).length ≤ i + 1 := by
 unfold bQ
 rw [List.length_reverse]
 have := aew L ((i : Int) + 1).toNat i
 omega
theorem Qb {L : List It} (h14 : checkN L ≠ 14) {x : Nat} (hx : x < L.length) : lH L (x : Int) = bQ L (x : Int) := by
 unfold lH
 rw [if_neg (by rintro (h | h | h) <;> omega)]
def iw (o : List Nat) : List Int := o.map fun k : Nat => (k : Int)
theorem pO (o : List Nat) : (iw o).length = o.length := by simp [iw]
theorem Qc {o : List Nat} {j : Nat} (h : j < o.length) : rd (iw o) (j : Int) = ((o[j] : Nat) : Int) := by
 show (iw o).getD (j : Int).toNat 0 = _
 rw [Int.toNat_natCast, iw, List.getD_eq_getElem?_getD, List.getElem?_map, List.getElem?_eq_getElem h]; rfl
theorem Bj {p : Nat → Bool} : ∀ (o : List Nat) (j : Nat), j ≤ o.length → (∀ x ∈ o.take j, p x = true) → (∀ h : j < o.length, p o[j] = false) → o.takeWhile p = o.take j ∧ o.dropWhile p = o.drop j
 | [], j, h, _, _ => by simp
 | x :: o, 0, _, _, h2 => by
  have := h2 (by simp)
  simp only [List.getElem_cons_zero] at this
  simp [this]
 | x :: o, j + 1, h, h1, h2 => by
  have hx : p x = true := h1 x (by simp)
  obtain ⟨e1, e2⟩ := Bj o j (by simpa using h) (fun y hy => h1 y (by simp [hy])) (fun hj => by have := h2 (by simpa using hj); simpa using this)
  constructor
  · rw [List.takeWhile_cons, hx, if_pos rfl, e1]; rfl
  · rw [List.dropWhile_cons, hx, if_pos rfl, e2]; rfl
theorem Ew {L : List It} (h14 : checkN L ≠ 14) {q : Nat} (hq : q < L.length) : -1 ≤ (itA L q).f0 ∧ (itA L q).f0 < q := by
 obtain ⟨_, q2, _⟩ := dB h14
 simp only [oH, List.all_eq_true, List.mem_range] at q2
 exact kS (jm (q2 q hq))
theorem aex {L : List It} (h14 : checkN L ≠ 14) {q : Nat} (hq : q < L.length) : (itA L q).f3.length ≤ 8192 := by
 obtain ⟨_, _, q3⟩ := dB h14
 rw [bH hq]
 exact tH (List.all_eq_true.1 q3 _ (List.getElem_mem hq))
def rQ (xs : List Int) : Prop := ∀ b ∈ xs, 0 ≤ b ∧ b ≤ 255
theorem Qd {α : Type} {g : Nat → Option α} {f : Nat → Option α} {r : α} (h : ∀ k, g (k + 1) = f k) (hf : Ev f r) : Ev g r := by
 obtain ⟨K, hK⟩ := hf
 refine ⟨K + 1, fun k hk => ?_⟩
 obtain ⟨k, rfl⟩ : ∃ q, k = q + 1 := ⟨k - 1, by omega⟩
 rw [h]; exact hK k (by omega)
theorem amE (a b : List ByteArray) (hb : a.length ≤ 100000) (A B : Option Addr) (c d : Nat) (hc : a.length ≤ c) (hd : b.length ≤ d) (w : World) (hA : Kd.C Kd.string w A a.length a) (hB : Kd.C Kd.string w B b.length b) :
    Calls Tryz.prog 52 #[.slice A a.length c, .slice B b.length d] w fun e w' => e = .returned (.bool (decide (a = b))) ∧ aY w w' := by
 obtain ⟨k, hk⟩ := (ajz a b hb).rounds
 exact Ad.calls k A c a B d b _ w hA hc hB hd hk
theorem uM (L : List It) (hs : ∀ x ∈ L, x.f1.size ≤ 100000) (A : Option Addr) (c : Nat) (hc : L.length ≤ c) (w : World) (hC : Kd.C kIt w A L.length L) :
    Calls Tryz.prog 58 #[.slice A L.length c] w fun e w' => e = .returned (.int .i64 (checkN L)) ∧ Below w.heap.size w w' := by
 obtain ⟨k, hk⟩ := (Qa L hs).rounds
 exact aC.calls k A c L _ w hC hc hk
theorem XT (L : List It) (hs : ∀ x ∈ L, x.f1.size ≤ 100000) (i : Int) (A : Option Addr) (c : Nat) (hc : L.length ≤ c) (w : World) (hC : Kd.C kIt w A L.length L) :
    Calls Tryz.prog 55 #[.slice A L.length c, .int .i64 i] w fun e w' => ∃ v, e = .returned v ∧ Kd.R Kd.string 9 w' w.heap.size (fun _ => True) v (lH L i) ∧ Below w.heap.size w w' := by
 obtain ⟨k, hk⟩ := (aep L hs i).rounds
 exact aH.calls k A c L i _ w hC hc hk
theorem JI : ∀ (a : List ByteArray) (x : ByteArray), cmpL a (a ++ [x]) < 0
 | [], x => by simp [cmpL]
 | y :: a, x => by
  rw [List.cons_append, cmpL, if_pos (kP.2 rfl)]
  exact JI a x
theorem abt {L : List It} (h1 : L.length ≤ 64) (h2 : oH L = true) (h3 : L.all iC = true) : checkN L ≠ 14 := by
 unfold checkN
 rw [if_neg (by omega), if_neg]
 · split <;> decide
 · rw [h2]
   have : (L.any fun x => !iC x) = false := by
    rw [List.any_eq_false]
    intro x hx
    simpa using List.all_eq_true.1 h3 x hx
   rw [this]; decide
section
variable {L : List It} (h14 : checkN L ≠ 14)
def oN (L : List It) (k : Nat) : Nat := (oL L).getD k 0
theorem yY {k : Nat} (hk : k < L.length) : (oL L)[k]? = some (oN L k) := by
 have : k < (oL L).length := by rw [uK]; exact hk
 rw [oN, List.getD_eq_getElem?_getD, List.getElem?_eq_getElem this]; rfl
theorem uU {k : Nat} (hk : k < L.length) : oN L k < L.length := yX.1 (List.mem_of_getElem? (yY hk))
theorem aht {j k : Nat} (hj : j < L.length) (hk : k < L.length) (h : oN L j = oN L k) : j = k := by
 have h1 := yY hj; have h2 := yY hk
 rw [h] at h1
 exact (List.getElem?_inj (by rw [uK]; exact hj) (PW L)).1 (h1.trans h2.symm)
theorem NG {p : Nat} (hp : p < L.length) : oN L ((oL L).idxOf p) = p := by
 have := abd hp rfl
 rw [yY (GL hp)] at this
 exact Option.some.inj this
theorem wF {k : Nat} (hk : k < L.length) : itA (sortL L) (k : Int) = itS L (oN L k) := by
 rw [bH (by rw [mD]; exact hk)]
 have h1 : (sortL L)[k]? = some (itS L (oN L k)) := by
  unfold sortL
  rw [List.getElem?_map, yY hk]; rfl
 exact (List.getElem?_eq_some_iff.1 h1).2
include h14
theorem pR {i : Nat} (hi : i < L.length) : ∀ j : Nat, j ≤ i → iq L j = true := by
 obtain ⟨_, q2, _⟩ := dB h14
 simp only [oH, List.all_eq_true, List.mem_range] at q2
 exact fun j hj => jm (q2 j (by omega))
theorem JJ : (oL L).Pairwise fun a b => ltP L a b = true := by
 obtain ⟨_, q2, _⟩ := dB h14
 exact yV (CV L) L.length (fun i j hi hj => Nv q2 i j hi hj)
theorem aey {a b : Nat} (hab : a < b) (hb : b < L.length) : ltP L (oN L a) (oN L b) = true := by
 have h := List.pairwise_iff_getElem.1 (JJ h14) a b (by rw [uK]; omega) (by rw [uK]; exact hb) hab
 have e1 := (List.getElem?_eq_some_iff.1 (yY (show a < L.length by omega))).2
 have e2 := (List.getElem?_eq_some_iff.1 (yY hb)).2
 rw [e1, e2] at h
 exact h
theorem Sm {k p : Nat} (hk : k < L.length) (hp : (itA L (oN L k)).f0 = p) : (oL L).idxOf p < k := by
 have hq := uU hk
 obtain ⟨p1, p2⟩ := Ew h14 hq
 have hpl : p < L.length := by omega
 have hlt : ltP L p (oN L k) = true := by
  unfold ltP
  rw [fM (pR h14 hq), hp, decide_eq_true_eq]
  exact JI _ _
 apply Decidable.byContradiction
 intro hn
 rcases Nat.lt_or_eq_of_le (Nat.le_of_not_lt hn) with h | h
 · have := aey h14 h (GL hpl)
   rw [NG hpl] at this
   have := CV L _ _ _ this hlt
   rw [VL] at this; cases this
 · have : oN L k = p := by rw [h]; exact NG hpl
   rw [hp] at p2
   omega
theorem NH {k : Nat} (hk : k < L.length) : (itA L (oN L k)).f0 = -1 ∧ (itA (sortL L) k).f0 = -1 ∨ ∃ p : Nat, (itA L (oN L k)).f0 = p ∧ p < L.length ∧ (itA (sortL L) k).f0 = ((oL L).idxOf p : Int) ∧ (oL L).idxOf p < k := by
 obtain ⟨p1, p2⟩ := Ew h14 (uU hk)
 have hq := uU hk
 rw [wF hk]
 by_cases h : (itA L (oN L k)).f0 = -1
 · refine .inl ⟨h, ?_⟩
   unfold itS; rw [if_pos h]
 · obtain ⟨p, hp⟩ : ∃ p : Nat, (itA L (oN L k)).f0 = p := ⟨(itA L (oN L k)).f0.toNat, by omega⟩
   refine .inr ⟨p, hp, by omega, ?_, Sm h14 hk hp⟩
   unfold itS PX
   rw [if_neg h, hp, Int.toNat_natCast]
theorem GV {k : Nat} (hk : k < L.length) : iq (sortL L) k = true := by
 have hpl := pR h14 (uU hk) (oN L k) (Nat.le_refl _)
 simp only [iq, Bool.and_eq_true, Bool.or_eq_true, decide_eq_true_eq] at hpl ⊢
 rcases NH h14 hk with ⟨a, b⟩ | ⟨p, a, b, c, d⟩
 · rw [b]
   exact ⟨⟨by omega, by omega⟩, .inl rfl⟩
 · rw [c]
   refine ⟨⟨by omega, by omega⟩, .inr ?_⟩
   rw [wF (GL b), NG b]
   show (itA L p).f2 = true
   rcases hpl.2 with h | h
   · omega
   · rw [a] at h; exact h
theorem tJ {i : Nat} (hi : i < L.length) : ∀ j : Nat, j ≤ i → iq (sortL L) j = true := fun j hj => GV h14 (by omega)
theorem CW : ∀ (t k : Nat), k ≤ t → k < L.length → bQ (sortL L) k = bQ L (oN L k) ∧ dep (sortL L) k = dep L (oN L k) := by
 intro t
 induction t with
 | zero =>
  intro k h1 hk
  obtain rfl : k = 0 := by omega
  rcases NH h14 hk with ⟨a, b⟩ | ⟨p, a, b, c, d⟩
  · rw [fM (tJ h14 hk), fM (pR h14 (uU hk)), a, b, qA, qA, pz a, pz b, wF hk]
    exact ⟨rfl, rfl⟩
  · omega
 | succ t ih =>
  intro k h1 hk
  rcases NH h14 hk with ⟨a, b⟩ | ⟨p, a, b, c, d⟩
  · rw [fM (tJ h14 hk), fM (pR h14 (uU hk)), a, b, qA, qA, pz a, pz b, wF hk]
    exact ⟨rfl, rfl⟩
  · obtain ⟨i1, i2⟩ := ih ((oL L).idxOf p) (by omega) (by omega)
    rw [NG b] at i1 i2
    have hlt := (Ew h14 (uU hk)).2
    rw [fM (tJ h14 hk), fM (pR h14 (uU hk)), a, c, i1, sV c d (fun j hj => GV h14 (by omega)), i2, sV a (by omega) (fun j hj => pR h14 (uU hk) j (by omega)), wF hk]
    exact ⟨rfl, rfl⟩
theorem Sr : checkN (sortL L) ≠ 14 := by
 obtain ⟨q1, q2, q3⟩ := dB h14
 refine abt (by rw [mD]; exact q1) ?_ ?_
 · simp only [oH, List.all_eq_true, List.mem_range] at q2 ⊢
   intro k hk
   rw [mD] at hk
   have ho := q2 _ (uU hk)
   simp only [fK, Bool.and_eq_true, decide_eq_true_eq, Bool.not_eq_true'] at ho ⊢
   refine ⟨⟨GV h14 hk, ?_⟩, ?_⟩
   · rw [(CW h14 k k (Nat.le_refl _) hk).2]; exact ho.1.2
   · unfold oh
     rw [List.any_eq_false]
     intro x hx hc
     obtain ⟨j, hj, hx⟩ := List.getElem_of_mem hx
     rw [List.length_take, mD] at hj
     rw [List.getElem_take] at hx
     have hjl : j < L.length := by omega
     rw [Bool.and_eq_true, decide_eq_true_eq, beq_iff_eq] at hc
     have hxj : x = itA (sortL L) j := by rw [bH (by rw [mD]; exact hjl)]; exact hx.symm
     rw [hxj] at hc
     have hp : bQ (sortL L) j = bQ (sortL L) k := by
      rw [fM (tJ h14 hjl), fM (tJ h14 hk), hc.1, str_inj hc.2]
     rw [(CW h14 j j (Nat.le_refl _) hjl).1, (CW h14 k k (Nat.le_refl _) hk).1] at hp
     have := Bh (dB h14).2.1 _ _ _ (Nat.le_refl _) (uU hjl) (uU hk) hp
     have := aht hjl hk this
     omega
 · rw [List.all_eq_true] at q3 ⊢
   intro x hx
   obtain ⟨q, hq, rfl⟩ := List.mem_map.1 hx
   have hql := yX.1 hq
   have := q3 _ (List.getElem_mem hql)
   rw [← bH hql] at this
   exact this
end
theorem IL {α : Type} (l : List α) (i s k : Nat) (u : α) (hk : k < s) : ((l.set (i * s + k) u).drop (i * s)).take s = ((l.drop (i * s)).take s).set k u := by
 apply List.ext_getElem?
 intro q
 rw [List.getElem?_take, List.getElem?_set, List.getElem?_take, List.getElem?_drop, List.getElem?_drop, List.getElem?_set, List.length_take, List.length_drop]
 by_cases hq : q < s
 · rw [if_pos hq, if_pos hq]
   by_cases e : k = q
   · subst e
     rw [if_pos rfl, if_pos rfl]
     by_cases h : i * s + k < l.length
     · rw [if_pos h, if_pos (by omega)]
     · rw [if_neg h, if_neg (by omega)]
   · rw [if_neg (by omega), if_neg e]
 · rw [if_neg hq, if_neg (by omega), if_neg hq]
theorem IQ {α : Type} (l : List α) (i j s k : Nat) (u : α) (hk : k < s) (hij : i ≠ j) : ((l.set (i * s + k) u).drop (j * s)).take s = (l.drop (j * s)).take s := by
 apply List.ext_getElem?
 intro q
 rw [List.getElem?_take, List.getElem?_take, List.getElem?_drop, List.getElem?_drop]
 by_cases hq : q < s
 · rw [if_pos hq, if_pos hq, List.getElem?_set_ne]
   intro h
   rcases Nat.lt_or_gt_of_ne hij with h1 | h1
   · have := Nat.mul_le_mul_right s (show i + 1 ≤ j from h1)
     rw [Nat.succ_mul] at this
     omega
   · have := Nat.mul_le_mul_right s (show j + 1 ≤ i from h1)
     rw [Nat.succ_mul] at this
     omega
 · rw [if_neg hq, if_neg hq]
section
variable {α : Type} {d : Kd α} {e base g n cap : Nat} {ok : Nat → Prop} {W : World} {xs : List α}
theorem ahu (h : d.R e W base ok (.slice (some ⟨g, 0, none⟩) n cap) xs) (j k : Nat) (hj : j < xs.length) (hk : k < d.sz) (u : Value) {x' : α}
    (hM : ∀ cs, d.M W base (fun b => ok b ∧ b ≠ g) xs[j] cs → d.M W base (fun b => ok b ∧ b ≠ g) x' (cs.set k u)) :
    d.R e (W.setCell ⟨g, j * d.sz + k, none⟩ u) base ok (.slice (some ⟨g, 0, none⟩) n cap) (xs.set j x') ∧ W.grownBy (W.setCell ⟨g, j * d.sz + k, none⟩ u) (some g) := by
 obtain ⟨hn, _⟩ := Kd.bJ h
 obtain ⟨h0, inner, ho, hr⟩ := h
 subst hn
 have hs := ho.stored (j * d.sz + k) u
 refine ⟨⟨h0, inner.set (j * d.sz + k) u, ?_, ?_, fun q p hq => ?_⟩, ?_⟩
 · rw [List.length_set]; exact hs.1
 · rw [List.length_set, List.length_set, hr.1]
 · have hql : q < xs.length := by have := (List.getElem?_eq_some_iff.1 hq).1; rwa [List.length_set] at this
   by_cases e1 : j = q
   · subst e1
     have hp : p = x' := by
      rw [List.getElem?_set_self hj] at hq; exact (Option.some.inj hq).symm
     subst hp
     rw [IL _ _ _ _ _ hk]
     have h1 := hr.2 j _ (List.getElem?_eq_getElem hj)
     have h2 := hM _ (d.iy (fun b hb => ⟨hb.1, fun e => hb.2 (by rw [e]; rfl)⟩) h1)
     refine Kd.aaw (p := ⟨g, j * d.sz + k, none⟩) (d.iy (fun b hb => ⟨hb.1, fun e => hb.2 (Option.some.inj e)⟩) h2) (fun b hb => fun e => hb.2 (by show some b = some g; rw [e])) u
   · rw [IQ _ _ _ _ _ _ hk e1]
     rw [List.getElem?_set_ne e1] at hq
     exact Kd.aaw (p := ⟨g, j * d.sz + k, none⟩) (hr.2 q p hq) (fun b hb => fun e => hb.2 (by show some b = some g; rw [e])) u
 · exact hs.2
end
end Go.Proofs.YthlflglkdaainaaGreatDoor.Tr
