import Derived.Deep.Slices
import Derived.Lib.SmallJoins
import Derived.ChangeSlices
import Derived.Lib.SlBytesConst
import Derived.Lib.IndexLaws
import Derived.Shelf.Small.Strs
import Derived.Maps.OwnSet
import Derived.DeepKeys4
import Derived.Test.YthlflglkdaainaaGreatDoorChecked
import Derived.Ground.SlsfProg
import Derived.Shelf.SlSortCmp.NoneTotal
import Derived.Shelf.SlicesE.Clone
import Derived.Laws.CopyRow
import Derived.Laws.CopyOwn
import Derived.Deep.RegionHeld3
import Derived.Test.YthlflglkdaainaaGreatDoorPT
/- Texts of this seat: TIt, TThree, TRight, TCont, TDep, TDepW, TCheck, TPath, TRs, TCmp, TClos, TLayS, TOrd, TSortF, TInj, TSrt, TSo, TMk, TRef, TRef2, TRef3, TLess, TClone, TCopy, TSort, TEq, TEqF, TSame, TRSort, TREq, TLight, TAw14, TCon, TOrdr, TRk. -/
set_option maxRecDepth 100000
set_option maxHeartbeats 8000000
namespace Go.Proofs.YthlflglkdaainaaGreatDoor.Tr
open Go.RowKit Go.Lib Go.Joins Go.ChangeShapes Go.Deep Go.Proofs.YthlflglkdaainaaGreatDoorW.PrintWords Go.Proofs.YthlflglkdaainaaGreatDoor.Prt
abbrev It := S53
abbrev kIt : Kd It := k53
abbrev zIt : It := z53
abbrev itA (L : List It) (i : Int) : It := rd_T53 L i
def WfIt (x : It) : Prop := -9223372036854775808 ≤ x.f0 ∧ x.f0 ≤ 9223372036854775807 ∧ x.f1.size ≤ maxLen ∧ (∀ b ∈ x.f3, 0 ≤ b ∧ b ≤ 255) ∧ x.f3.length ≤ maxLen
def WfL (L : List It) : Prop := ∀ x ∈ L, WfIt x
theorem open_bytesC {H : Type} {enc : TypeId × Value → H} {w : World} {base : Nat} {spare held : _} {fuel : Nat} {cs : List Value} {x : DataW H × List MemPlace}
    (h : DataW.trod enc Tryz.prog w base spare held fuel 46 cs = some x) :
    ∃ A c xs, cs = [.slice A xs.length c] ∧ xs.length ≤ c ∧ (Kd.int .u8).C w A xs.length xs ∧ (∀ b ∈ xs, 0 ≤ b ∧ b ≤ 255) ∧ xs.length ≤ maxLen := by
 rcases open_ints Tryz.underlying46 Tryz.underlying5 (by kernel_rfl) h with ⟨hcs, _⟩ | ⟨a, l, c, zs, hcs, _, hl, hm, hz, _, hcell, hwz⟩
 · exact ⟨none, 0, [], hcs, Nat.le_refl _, ⟨rfl, by simp, fun hn => absurd hn (by simp)⟩, by simp, by simp⟩
 · have hlz : l ≤ zs.length := by rw [hz]; split <;> omega
   have hlt : (zs.take l).length = l := by rw [List.length_take]; omega
   refine ⟨some a, c, zs.take l, by rw [hlt]; exact hcs, by omega, ⟨rfl, by rw [hlt]; simp only [maxLen] at hm; omega, fun _ => ⟨a, rfl, fun j p hj => ⟨[.int .u8 p], rfl, rfl, fun i u hu => ?_⟩⟩⟩, ?_, by omega⟩
   · have hjl : j < l := by have := (List.getElem?_eq_some_iff.1 hj).1; omega
     match i, hu with
     | 0, hu =>
      cases hu
      have h1 := hcell j (by omega)
      show w.cell? (a.add (j * 1 + 0)) = _
      rw [Nat.mul_one, Nat.add_zero, h1]
      rw [List.getElem?_take_of_lt hjl] at hj
      rw [List.getD_eq_getElem?_getD, hj]; rfl
     | i + 1, hu => simp at hu
   · intro b hb
     have h1 := hwz b (List.mem_of_mem_take hb)
     simp [Lit.wf, IntKind.min, IntKind.max, IntKind.signed, IntKind.bits] at h1
     constructor <;> omega
theorem open_items {H : Type} {enc : TypeId × Value → H} {w : World} {base : Nat} {spare held : _} {fuel : Nat} {cs : List Value} {x : DataW H × List MemPlace}
    (h : DataW.trod enc Tryz.prog w base spare held fuel 22 cs = some x) :
    ∃ A c L, cs = [.slice A L.length c] ∧ L.length ≤ c ∧ Kd.C kIt w A L.length L ∧ WfL L ∧ L.length ≤ maxLen := by
 rcases open_slice Tryz.underlying22 h with ⟨hcs, _⟩ | ⟨a, len, cap, m, n, D, Pl, hcs, hb, hl, hm, hmm, _, hx⟩
 · exact ⟨none, 0, [], hcs, Nat.le_refl _, ⟨rfl, by simp, fun hn => absurd hn (by simp)⟩, by simp [WfL], by simp⟩
 · have hlm : len ≤ m := by rw [hmm]; split <;> omega
   have hc4 : Tryz.prog.cellsOf 53 = 4 := by kernel_rfl
   have each : ∀ i, i < len → ∃ s : It, ∃ c : List Value, c.length = 4 ∧ kIt.K w s c ∧ (∀ j u, c[j]? = some u → w.cell? (a.add (i * 4 + j)) = some u) ∧ WfIt s := by
    intro i hi
    obtain ⟨cs', h1, h2⟩ := hx i (by omega)
    rw [hc4] at h1
    obtain ⟨_, hlen, hcell⟩ := World.cells?_some h1
    obtain ⟨y0, y1, y2, y3, k, _, _, t0, t1, t2, t3⟩ := trod_struct4 Tryz.underlying53 h2
    match cs', hlen with
    | [c0, c1, c2, c3], _ =>
     obtain ⟨p, e0, _, wf0⟩ := DataW.trod_int Tryz.underlying3 t0
     obtain ⟨s, e1, _, wf1⟩ := DataW.trod_string Tryz.underlying9 t1
     obtain ⟨b, e2, _⟩ := DataW.trod_bool Tryz.underlying4 t2
     obtain ⟨A3, cc, xs, e3, l3, g3, wf3, wl3⟩ := open_bytesC t3
     have d0 : c0 = .int .i64 p := by
      have : [c0] = [Value.int .i64 p] := e0
      exact (List.cons.inj this).1
     have d1 : c1 = .string s := by
      have : [c1] = [Value.string s] := e1
      exact (List.cons.inj this).1
     have d2 : c2 = .bool b := by
      have : [c2] = [Value.bool b] := e2
      exact (List.cons.inj this).1
     have d3 : c3 = .slice A3 xs.length cc := by
      have : [c3] = [Value.slice A3 xs.length cc] := e3
      exact (List.cons.inj this).1
     subst d0; subst d1; subst d2; subst d3
     refine ⟨⟨p, s, b, xs⟩, _, rfl, k53_mk w ⟨p, s, b, xs⟩ l3 g3, fun j u hu => ?_, ?_⟩
     · have hj : j < 4 := by have := (List.getElem?_eq_some_iff.1 hu).1; simpa using this
       have h5 := hcell j hj
       rw [hu] at h5
       rw [← h5]
       rw [Addr.add_add]
     · simp [Lit.wf, IntKind.min, IntKind.max, IntKind.signed, IntKind.bits] at wf0
       exact ⟨by show _ ≤ p; omega, by show p ≤ _; omega, wf1, wf3, wl3⟩
   haveI : Inhabited It := ⟨zIt⟩
   obtain ⟨f, hf⟩ := choose_lt each
   have hlf : ((List.range len).map f).length = len := by simp
   refine ⟨some a, cap, (List.range len).map f, by rw [hlf]; exact hcs, by omega, ⟨rfl, by rw [hlf]; simp only [maxLen] at hm; omega, fun _ => ⟨a, rfl, fun j p hj => ?_⟩⟩, ?_, by omega⟩
   · rw [List.getElem?_map] at hj
     obtain ⟨i, hi, rfl⟩ := Option.map_eq_some_iff.1 hj
     obtain ⟨hjl, rfl⟩ := List.getElem?_eq_some_iff.1 hi
     have hjl' : j < len := by simpa using hjl
     rw [List.getElem_range]
     obtain ⟨c, q1, q2, q3, _⟩ := hf j hjl'
     exact ⟨c, q1, q2, q3⟩
   · intro y hy
     obtain ⟨i, hi, rfl⟩ := List.mem_map.1 hy
     exact (hf i (List.mem_range.1 hi)).choose_spec.2.2.2
end Go.Proofs.YthlflglkdaainaaGreatDoor.Tr
namespace Go.Proofs.YthlflglkdaainaaGreatDoor.Tr
open Go.RowKit Go.Lib Go.Proofs.YthlflglkdaainaaGreatDoorW.PrintWords Go.Proofs.YthlflglkdaainaaGreatDoor.Prt
theorem add_at0 (b k : Nat) : Addr.add ⟨b, 0, none⟩ k = ⟨b, k, none⟩ := by simp [Addr.add]; intro h; exact h.symm
theorem cell_alloc_new (w : World) (cs : Array Value) (e : TypeId) (fr : Nat × Nat) (i : Nat) {v : Value} (h : cs[i]? = some v) : (w.alloc (.cells cs e fr)).cell? ⟨w.heap.size, i, none⟩ = some v := by
 have : (w.alloc (.cells cs e fr)).heap[w.heap.size]? = some (.cells cs e fr) := by
  show (w.heap.push (.cells cs e fr))[w.heap.size]? = _
  simp
 simp only [World.cell?, this]
 exact h
def cellsIt (x : It) (A : Option Addr) (c : Nat) : Array Value := #[.int .i64 x.f0, .string x.f1, .bool x.f2, .slice A x.f3.length c]
def nameB (s : ByteArray) : Bool := !(s.toList == []) && decide (s.size ≤ 48) && decide (Lib.indexByte s.data.toList 0 < 0) && decide (Lib.indexByte s.data.toList 47 < 0)
def rightB (x : It) : Bool := nameB x.f1 && (decide (x.f3.length = 0) || (!x.f2 && decide (x.f3.length ≤ 8192)))
theorem rightB_iff (x : It) : rightB x = true ↔ ((¬ x.f1.toList = [] ∧ (x.f1.size : Int) ≤ 48) ∧ Lib.indexByte x.f1.data.toList 0 < 0 ∧ Lib.indexByte x.f1.data.toList 47 < 0) ∧ (x.f3 = [] ∨ (x.f2 = false ∧ (x.f3.length : Int) ≤ 8192)) := by
 have hl : x.f3.length = 0 ↔ x.f3 = [] := List.length_eq_zero_iff
 unfold rightB nameB
 generalize x.f1.size = n
 generalize x.f1.toList = t
 grind
def lIdx_ren : Go.Shelf.Ren := ⟨fun | 137 => 82 | 217 => 117 | 266 => 146 | n => n, fun | 9 => 9 | 5 => 5 | 3 => 3 | n => n, fun | n => n⟩
theorem lIdx : Go.Proofs.Lays.n137 Tryz.prog lIdx_ren := {
 mixed := by kernel_rfl
 f137 := Tryz.func82.trans (congrArg some (by kernel_rfl))
 f217 := Tryz.func117.trans (congrArg some (by kernel_rfl))
 f266 := Tryz.func146.trans (congrArg some (by kernel_rfl))
 t3 := Tryz.underlying3
 a3 := Tryz.isAgg3
 z3 := Tryz.sizeOf3
 v3 := Tryz.zeroValue3
 t5 := Tryz.underlying5
 a5 := Tryz.isAgg5
 z5 := Tryz.sizeOf5
 v5 := Tryz.zeroValue5
 t9 := Tryz.underlying9
 a9 := Tryz.isAgg9
 z9 := Tryz.sizeOf9
 v9 := Tryz.zeroValue9 }
theorem idxb_any (s : ByteArray) (c : Int) (w : World) : Calls Tryz.prog 82 #[.string s, .int .u8 c] w fun e w' => e = .returned (.int .i64 (Lib.indexByte s.data.toList c.toNat.toUInt8)) ∧ w' = w :=
 Any.strings_IndexByte lIdx s c w
theorem right_any (x : It) (A : Option Addr) (c : Nat) (w : World) :
    Calls Tryz.prog 47 #[.agg (cellsIt x A c)] w fun e w' => e = .returned (.bool (rightB x)) ∧ Below w.heap.size w w' := by
 have hu41 := Tryz.underlying53
 unfold cellsIt
 go_enter Tryz.func47, Tryz.ntmps47
 go_wp2_with (go_at_call 82; refine (idxb_any _ _ _).mono ?_; rintro e w1 ⟨rfl, rfl⟩)
 all_goals (go_ret; refine ⟨?_, below_alloc (Below.refl _ _) _⟩)
 all_goals (refine congrArg (fun b => Ending.returned (Value.bool b)) ?_)
 all_goals (clear hu41)
 all_goals (have hl : x.f3.length = 0 ↔ x.f3 = [] := List.length_eq_zero_iff; rw [Bool.eq_iff_iff, rightB_iff]; grind)
def resB (s : ByteArray) : Bool := s.toList == ([46, 103, 101, 115, 115, 111] : List UInt8) || s.toList == ([46, 103, 101, 115, 115, 111, 126] : List UInt8)
theorem res_any (s : ByteArray) (w : World) : Calls Tryz.prog 49 #[.string s] w fun e w' => e = .returned (.bool (resB s)) ∧ Below w.heap.size w w' := by
 go_enter Tryz.func49, Tryz.ntmps49
 go_wp2
 all_goals (go_ret; refine ⟨?_, Below.refl _ _⟩)
 all_goals (refine congrArg (fun b => Ending.returned (Value.bool b)) ?_)
 all_goals (unfold resB; generalize s.toList = t at *; grind)
def PredIt (g : Nat) (lb : Array Value) (p : It → Bool) (w : World) : Prop :=
 ∀ (W : World) (x : It) (A : Option Addr) (c : Nat), Below w.heap.size w W → Calls Tryz.prog g (#[.agg (cellsIt x A c)] ++ lb) W fun e w' => e = .returned (.bool (p x)) ∧ Below w.heap.size w w'
theorem idxF_any (p : It → Bool) (g : Nat) (lb : Array Value) (eg : ∀ args w, (callFunc g args).run Tryz.prog w = .ok (.enter g args) w) (L : List It) (A : Option Addr) (c : Nat) (w : World)
    (hC : Kd.C kIt w A L.length L) (hp : PredIt g lb p w) :
    Calls Tryz.prog 73 #[.slice A L.length c, .func (.func g) #[] lb] w fun e w' => ∃ r : Int, e = .returned (.int .i64 r) ∧ decide (0 ≤ r) = L.any p ∧ Below w.heap.size w w' := by
 have hu41 := Tryz.underlying53
 have HC := Aside0.mk hC
 have HP := Aside0.mk hp
 have hlen := hC.2.1
 clear hC hp
 go_enter Tryz.func73, Tryz.ntmps73
 go_wp2
 go_loopg [5, 8] L.length (fun gg _ s8 wr => ∃ kk : Nat, kk ≤ L.length ∧ L.length - kk ≤ gg ∧ s8 = .int .i64 kk ∧ Aside0 (Below w.heap.size w wr) ∧ Aside0 (∀ x ∈ L.take kk, p x = false))
 case atStart => exact ⟨0, Nat.zero_le _, by omega, rfl, ⟨Below.refl _ w⟩, ⟨fun x hx => by simp at hx⟩⟩
 case round =>
  obtain ⟨kk, hkk, hg, rfl, BW, F⟩ := hrel
  by_cases hlt : kk < L.length
  · have hltz : (kk : Int) < (L.length : Int) := by omega
    obtain ⟨ad, A3, c3, rfl, h0, h1, h2, h3, _, _⟩ := at_T53 (Kd.C_below HC.out BW.out) (kk : Int) (by omega) hltz
    have hx : rd_T53 L (kk : Int) = L[kk] := by
     unfold rd_T53
     rw [Int.toNat_natCast, List.getD_eq_getElem?_getD, List.getElem?_eq_getElem hlt]; rfl
    rw [hx] at h0 h1 h2 h3
    have hcall := HP.out wr L[kk] A3 c3 BW.out
    have F2 : ∀ q, p L[kk] = q → q = false → Aside0 (∀ x ∈ L.take (kk + 1), p x = false) := fun q h1 h2 => ⟨fun x hx => by
     rw [List.take_succ_eq_append_getElem hlt] at hx
     rcases List.mem_append.1 hx with hx | hx
     · exact F.out x hx
     · rw [List.mem_singleton.1 hx, h1, h2]⟩
    have T2 : p L[kk] = true → L.any p = true := fun h => List.any_eq_true.2 ⟨_, List.getElem_mem hlt, h⟩
    clear hx
    rw [Int.toNat_natCast] at h0 h1 h2 h3
    unfold cellsIt at hcall
    generalize L[kk] = y at *
    cases hq : p y with
    | true =>
     rw [hq] at hcall
     go_wp2_with (go_at_fn g; refine hcall.mono ?_; rintro e w' ⟨rfl, hb'⟩)
     go_ret
     exact ⟨_, rfl, by rw [T2 hq]; simp, hb'⟩
    | false =>
     rw [hq] at hcall
     go_wp2_with (go_at_fn g; refine hcall.mono ?_; rintro e w' ⟨rfl, hb'⟩)
     go_roundg (L.length - (kk + 1))
     case measure => omega
     case rel => exact ⟨kk + 1, by omega, by omega, by go_num, ⟨hb'⟩, F2 _ hq rfl⟩
  · have hltz : ¬ (kk : Int) < (L.length : Int) := by omega
    have : kk = L.length := by omega
    subst this
    go_wp2
    go_ret
    refine ⟨_, rfl, ?_, BW.out⟩
    have h := F.out
    rw [List.take_length] at h
    symm
    rw [show decide ((0:Int) ≤ -1) = false from rfl, List.any_eq_false]
    exact fun x hx => by rw [h x hx]; simp
theorem contF_any (p : It → Bool) (g : Nat) (lb : Array Value) (eg : ∀ args w, (callFunc g args).run Tryz.prog w = .ok (.enter g args) w) (L : List It) (A : Option Addr) (c : Nat) (w : World)
    (hC : Kd.C kIt w A L.length L) (hp : PredIt g lb p w) :
    Calls Tryz.prog 45 #[.slice A L.length c, .func (.func g) #[] lb] w fun e w' => e = .returned (.bool (L.any p)) ∧ Below w.heap.size w w' := by
 go_enter Tryz.func45, Tryz.ntmps45
 go_wp2_with (go_at_call 73; refine (idxF_any p g lb eg L A c _ hC hp).mono ?_; rintro e w1 ⟨r, rfl, hr, hb⟩)
 go_ret
 exact ⟨rfl, hb⟩
theorem pred1 (w : World) : PredIt 46 #[] (fun x => !rightB x) w := by
 intro W x A c hb
 have hu41 := Tryz.underlying53
 unfold cellsIt
 go_enter Tryz.func46, Tryz.ntmps46
 go_wp2_with (go_at_call 47; refine (right_any x A c _).mono ?_; rintro e w1 ⟨rfl, hb1⟩)
 go_ret
 exact ⟨rfl, below_then hb hb.size (below_step (below_alloc (Below.refl _ _) _) hb1)⟩
theorem pred2 (w : World) : PredIt 48 #[] (fun x => resB x.f1) w := by
 intro W x A c hb
 have hu41 := Tryz.underlying53
 unfold cellsIt
 go_enter Tryz.func48, Tryz.ntmps48
 go_wp2_with (go_at_call 49; refine (res_any _ _).mono ?_; rintro e w1 ⟨rfl, hb1⟩)
 go_ret
 exact ⟨rfl, below_then hb hb.size (below_step (below_alloc (Below.refl _ _) _) hb1)⟩
end Go.Proofs.YthlflglkdaainaaGreatDoor.Tr
namespace Go.Proofs.YthlflglkdaainaaGreatDoor.Tr
open Go.RowKit Go.Lib Go.Maps Go.Proofs.YthlflglkdaainaaGreatDoorW.PrintWords Go.Proofs.YthlflglkdaainaaGreatDoor.Prt
theorem laidOut : laidOutB Tryz.prog = true := by kernel_rfl
theorem placeK : Keyed Tryz.prog 122 := Keyed.of_law (deep_law_laid laidOut (m := 3) (by decide) (of_decide_eq_true (by kernel_rfl)) (by kernel_rfl) (by kernel_rfl))
theorem place_key {p : Int} {s : ByteArray} (h1 : -9223372036854775808 ≤ p) (h2 : p ≤ 9223372036854775807) (hs : s.size ≤ maxLen) : ∃ kl, keyOf Tryz.prog 122 (.agg #[.int .i64 p, .string s]) = some kl := by
 have hw : (Lit.int .i64 p).wf = true := by
  simp [Lit.wf, IntKind.min, IntKind.max, IntKind.signed, IntKind.bits]; omega
 have hu := Tryz.underlying122
 have c1 : Tryz.prog.cellsOf 3 = 1 := by kernel_rfl
 have c2 : Tryz.prog.cellsOf 9 = 1 := by kernel_rfl
 have c3 : Tryz.prog.cellsOf 122 = 2 := by kernel_rfl
 have hk : Tryz.prog.keyType 122 = true := by kernel_rfl
 obtain ⟨m, hz⟩ : ∃ m, Tryz.prog.types.size = m + 1 := ⟨Tryz.prog.types.size - 1, by kernel_rfl⟩
 unfold keyOf
 rw [hu, hk]
 simp only [Bool.true_and, Value.formed, hu]
 rw [hz]
 simp [Program.keyLits, hu, c1, c2, c3, Value.cells, Tryz.underlying3, Tryz.underlying9, hw, hs]
theorem data_inj {a b : ByteArray} (h : a.toList = b.toList) : a = b := by
 rw [toList_data, toList_data] at h
 exact ByteArray.ext (Array.toList_inj.1 h)
def depF : Nat → List It → Int → Int
 | 0, _, _ => 1
 | f + 1, L, i => if (itA L i).f0 = -1 then 1 else depF f L (itA L i).f0 + 1
def dep (L : List It) (i : Nat) : Int := depF (i + 1) L i
def parB (L : List It) (i : Nat) : Bool := decide (-1 ≤ (itA L i).f0) && decide ((itA L i).f0 < i) && (decide ((itA L i).f0 = -1) || (itA L (itA L i).f0).f2)
def dupB (L : List It) (i : Nat) (p : Int) (s : ByteArray) : Bool := (L.take i).any fun x => decide (x.f0 = p) && (x.f1.toList == s.toList)
def okAtB (L : List It) (i : Nat) : Bool := parB L i && decide (dep L i ≤ 8) && !dupB L i (itA L i).f0 (itA L i).f1
def depB (L : List It) : Bool := (List.range L.length).all (okAtB L)
theorem depF_more {L : List It} : ∀ (i : Nat), (∀ j, j ≤ i → parB L j = true) → ∀ f, i + 1 ≤ f → depF f L i = depF (i + 1) L i := by
 intro i
 induction i using Nat.strongRecOn with
 | _ i ih =>
  intro h f hf
  obtain ⟨f, rfl⟩ : ∃ g, f = g + 1 := ⟨f - 1, by omega⟩
  have hp := h i (Nat.le_refl _)
  simp only [parB, Bool.and_eq_true, decide_eq_true_eq] at hp
  obtain ⟨⟨h1, h2⟩, _⟩ := hp
  simp only [depF]
  by_cases h0 : (itA L i).f0 = -1
  · rw [if_pos h0, if_pos h0]
  · rw [if_neg h0, if_neg h0]
    obtain ⟨q, hq⟩ : ∃ q : Nat, (itA L i).f0 = q := ⟨(itA L i).f0.toNat, by omega⟩
    rw [hq] at h2 ⊢
    rw [ih q (by omega) (fun j hj => h j (by omega)) f (by omega), ih q (by omega) (fun j hj => h j (by omega)) i (by omega)]
theorem dep_one {L : List It} {i : Nat} (h : (itA L i).f0 = -1) : dep L i = 1 := by
 simp only [dep, depF]; rw [if_pos h]
theorem dep_step {L : List It} {i q : Nat} (hq : (itA L i).f0 = q) (hlt : q < i) (h : ∀ j, j < i → parB L j = true) : dep L i = dep L q + 1 := by
 simp only [dep]
 rw [show depF (i + 1) L i = depF i L (itA L i).f0 + 1 from by rw [depF]; rw [if_neg (by omega)], hq]
 rw [depF_more q (fun j hj => h j (by omega)) i (by omega)]
theorem dep_lo {L : List It} : ∀ (f : Nat) (i : Int), 1 ≤ depF f L i
 | 0, _ => by simp [depF]
 | f + 1, i => by
  simp only [depF]
  split
  · omega
  · have := dep_lo (L := L) f (itA L i).f0
    omega
theorem okAt_par {L : List It} {i : Nat} (h : okAtB L i = true) : parB L i = true := by
 simp only [okAtB, Bool.and_eq_true] at h; exact h.1.1
theorem depB_true {L : List It} (h : ∀ i, i < L.length → okAtB L i = true) : depB L = true := by
 simp only [depB, List.all_eq_true, List.mem_range]; exact h
theorem depB_false {L : List It} {i : Nat} (hi : i < L.length) (h : okAtB L i = false) : depB L = false := by
 rw [← Bool.not_eq_true]
 intro hh
 simp only [depB, List.all_eq_true, List.mem_range] at hh
 rw [hh i hi] at h; cases h
theorem itA_get {L : List It} {i : Nat} (h : i < L.length) : itA L (i : Int) = L[i] := by
 show rd_T53 L (i : Int) = _
 unfold rd_T53
 rw [Int.toNat_natCast, List.getD_eq_getElem?_getD, List.getElem?_eq_getElem h]; rfl
theorem dup_step {L : List It} {i : Nat} (hi : i < L.length) (p : Int) (s : ByteArray) : dupB L (i + 1) p s = (dupB L i p s || (decide ((itA L i).f0 = p) && ((itA L i).f1.toList == s.toList))) := by
 unfold dupB
 rw [List.take_succ_eq_append_getElem hi, List.any_append, itA_get hi]
 simp
def SeenP (D : DataW Unit) (L : List It) (i : Nat) : Prop := IsMap D ∧ ∀ (p : Int) (s : ByteArray) (kl : Lit), keyOf Tryz.prog 122 (.agg #[.int .i64 p, .string s]) = some kl → D.atKey kl (.lit (.bool false)) = .lit (.bool (dupB L i p s))
theorem seen_empty (L : List It) : SeenP (.map []) L 0 := ⟨isMap_empty, fun p s kl _ => by simp [dupB, DataW.atKey]⟩
theorem seen_put {D : DataW Unit} {L : List It} {i : Nat} (h : SeenP D L i) (hi : i < L.length) {kl : Lit} (hk : keyOf Tryz.prog 122 (.agg #[.int .i64 (itA L i).f0, .string (itA L i).f1]) = some kl) : SeenP (D.put kl (.lit (.bool true))) L (i + 1) := by
 refine ⟨?_, fun p s kl' hk' => ?_⟩
 · obtain ⟨es, rfl⟩ := h.1
   exact ⟨_, rfl⟩
 · rw [dup_step hi]
   by_cases he : kl' = kl
   · subst he
     have := placeK.inj hk hk'
     injection this with h1
     have h2 := (Array.mk.injEq _ _).mp h1
     simp only [List.cons.injEq, Value.int.injEq, Value.string.injEq, true_and, and_true] at h2
     rw [atKey_put_same h.1 (placeK.key hk), ← h2.1, ← h2.2]
     simp
   · rw [atKey_put_other he, h.2 p s kl' hk']
     have hn : (decide ((itA L i).f0 = p) && ((itA L i).f1.toList == s.toList)) = false := by
      rw [← Bool.not_eq_true, Bool.and_eq_true, decide_eq_true_eq, beq_iff_eq]
      rintro ⟨h1, h2⟩
      rw [← h1, ← data_inj h2, hk] at hk'
      exact he (Option.some.inj hk').symm
     rw [hn, Bool.or_false]
theorem seen_look {W : World} {b n : Nat} {D : DataW Unit} {L : List It} {i : Nat} (HM : W.ownsMap Tryz.prog 122 (plainElem Tryz.prog 4) b n D) (HD : SeenP D L i) {p : Int} {s : ByteArray} {kl : Lit} (hk : keyOf Tryz.prog 122 (.agg #[.int .i64 p, .string s]) = some kl) :
    (Instr.lookup 120 (.map (some b)) (.agg #[.int .i64 p, .string s]) false).run Tryz.prog W = .ok (.bool (dupB L i p s)) W := by
 obtain ⟨v, ps, hrun, hv⟩ := HM.lookup placeK Tryz.underlying120 (Tryz.zeroValue4 W) (plainElem_bool Tryz.underlying4 false) hk
 rw [HD.2 p s kl hk] at hv
 have : v = .bool (dupB L i p s) := by
  unfold plainElem at hv
  rw [Tryz.underlying4] at hv
  cases v <;> simp at hv
  rw [hv.1]
 rw [hrun, this]
end Go.Proofs.YthlflglkdaainaaGreatDoor.Tr
namespace Go.Proofs.YthlflglkdaainaaGreatDoor.Tr
open Go.RowKit Go.Lib Go.Maps Go.Proofs.YthlflglkdaainaaGreatDoorW.PrintWords Go.Proofs.YthlflglkdaainaaGreatDoorW.PrintLast Go.Proofs.YthlflglkdaainaaGreatDoorW.PrintMore Go.Proofs.YthlflglkdaainaaGreatDoor.Prt
structure DepI (w : World) (L : List It) (b : Nat) (vd : Value) (i : Nat) (W : World) : Prop where
 below : Below w.heap.size w W
 row : ∃ ds : List Int, ds.length = L.length ∧ Kd.R (Kd.int .i64) 3 W w.heap.size (fun k => k ≠ b) vd ds ∧ ∀ j, j < i → ds.getD j 0 = dep L j
 map : ∃ D : DataW Unit, W.ownsMap Tryz.prog 122 (plainElem Tryz.prog 4) b i D ∧ SeenP D L i
 base : w.heap.size ≤ b
 oks : ∀ j, j < i → okAtB L j = true
theorem set_dep {ds : List Int} {L : List It} {i : Nat} (hl : i < ds.length) (h : ∀ j, j < i → ds.getD j 0 = dep L j) {v : Int} (hv : v = dep L i) : ∀ j, j < i + 1 → (ds.set i v).getD j 0 = dep L j := by
 intro j hj
 rw [List.getD_eq_getElem?_getD, List.getElem?_set]
 by_cases e : i = j
 · subst e; rw [if_pos rfl, if_pos hl, hv]; rfl
 · rw [if_neg e, ← List.getD_eq_getElem?_getD]; exact h j (by omega)
theorem cell_set_ne {w : World} {p : Addr} {v : Value} {a : Addr} {u : Value} (h : w.cell? a = some u) (hne : a.block ≠ p.block) : (w.setCell p v).cell? a = some u := by
 rw [← h]
 simp only [World.cell?, Below.heap_setCell w p v a.block hne]
structure MidI (w : World) (L : List It) (b g co i : Nat) (D : DataW Unit) (ds : List Int) (x : Nat) (W : World) : Prop where
 below : Below w.heap.size w W
 row : Kd.R (Kd.int .i64) 3 W w.heap.size (fun k => k ≠ b) (.slice (some ⟨g, 0, none⟩) L.length co) ds
 map : W.ownsMap Tryz.prog 122 (plainElem Tryz.prog 4) b i D
 x0 : W.cell? ⟨x, 0, none⟩ = some (.int .i64 (itA L i).f0)
 x1 : W.cell? ⟨x, 1, none⟩ = some (.string (itA L i).f1)
 gb : w.heap.size ≤ g
 ne : g ≠ x
 bx : w.heap.size ≤ x
theorem size_setCell (w : World) (p : Addr) (v : Value) : (w.setCell p v).heap.size = w.heap.size := by
 simp [World.setCell]
theorem depths_any (L : List It) (A : Option Addr) (c : Nat) (w : World) (hC : Kd.C kIt w A L.length L) (hwf : WfL L) (hl : L.length ≤ 64) :
    Calls Tryz.prog 44 #[.slice A L.length c] w fun e w' => ∃ v, e = .returned (.tuple #[v, .bool (depB L)]) ∧ Below w.heap.size w w' := by
 have hu41 := Tryz.underlying53
 have hu59 := Tryz.underlying122
 have HC := Aside0.mk hC
 have HW := Aside0.mk hwf
 clear hC hwf
 go_enter Tryz.func44, Tryz.ntmps44
 go_wp2_with (first | ((with_reducible refine gate_dst (N := 11) rfl ?_); refine Kd.R_make (Kd.int .i64) w.heap.size 3 rfl (N := 11) rfl 76 _ _ rfl (L.length : Int) rfl rfl Tryz.underlying76 (.int .i64 0) 8 info3 rfl (by decide) (by omega) 0 (ok := fun _ => True) (okp := fun _ => True) rfl (fun _ hk => hk) trivial (by omega) (by omega) (Below.refl _ _) (Nat.le_refl _) ?_; intro vd w1 hrow hb1 hg1 hn1))
 have hmk : (Instr.makeMap 120 none).run Tryz.prog w1 = .ok (.map (some w1.heap.size)) (w1.alloc (.map #[] 0)) := run_makeMap _ _
 rw [hmk]
 clear hmk
 go_wp2
 have hsz1 : w.heap.size ≤ w1.heap.size := hb1.size
 have H0 : DepI w L w1.heap.size vd 0 (w1.alloc (.map #[] 0)) := {
  below := below_alloc hb1 _
  row := ⟨List.replicate L.length 0, by simp, Kd.R_alloc (Kd.R_mono (Kd.R_bound hrow) (fun k hk => by have := hk.2.2.1; omega)) _, fun j hj => absurd hj (by omega)⟩
  map := ⟨.map [], World.ownsMap_made _ _ _ _, seen_empty L⟩
  base := hsz1
  oks := fun j hj => absurd hj (by omega) }
 have H1 := Aside0.mk H0
 have HS := Aside0.mk hsz1
 generalize w1.alloc (.map #[] 0) = W0 at H1 ⊢
 generalize w1.heap.size = b at H1 HS ⊢
 clear H0 hsz1 hb1 hg1 hn1 hrow
 go_loopg [15] L.length (fun gg v15 wr => ∃ i : Nat, i ≤ L.length ∧ L.length - i ≤ gg ∧ v15 = .int .i64 i ∧ Aside0 (DepI w L b vd i wr))
 case atStart => exact ⟨0, Nat.zero_le _, by omega, rfl, H1⟩
 case round =>
  clear H1
  obtain ⟨i, hi, hg, rfl, HI⟩ := hrel
  by_cases hlt : i < L.length
  · have hltz : (i : Int) < (L.length : Int) := by omega
    obtain ⟨HBel, ⟨ds, hds, HR, hdv⟩, ⟨D, HM, HD⟩, hbase, hoks⟩ := HI.out
    have hwfi := HW.out _ (List.getElem_mem hlt)
    rw [← itA_get hlt] at hwfi
    obtain ⟨ad, A3, c3, hA, h0, h1, h2, h3, _, _⟩ := at_T53 (Kd.C_below HC.out HBel) (i : Int) (by omega) hltz
    rw [Int.toNat_natCast] at h0 h1 h2 h3
    subst hA
    obtain ⟨g, co, eo, gb, gl, _⟩ := Kd.R_form HR (by omega)
    rw [hds] at eo
    subst eo
    have hgb : g ≠ b := HR.1 g rfl
    obtain ⟨hc1, hf1⟩ := Kd.R_celln 0 HR (i : Int) (by omega) (by omega)
    rw [Int.toNat_natCast] at hc1 hf1
    have HP := Kd.R_putg HR (i : Int) 1
    rw [Int.toNat_natCast] at HP
    have HF : ∀ w2, w2 = (wr.setCell ⟨g, i, none⟩ (.int .i64 1)).alloc (Obj.cells #[.int .i64 (itA L i).f0, .string (itA L i).f1, .bool (itA L i).f2, .slice A3 (itA L i).f3.length c3] 53) →
        MidI w L b g co i D (ds.set i 1) wr.heap.size w2 := by
     rintro w2 rfl
     have hb3 := (below_set (j := i) (v := .int .i64 1) HBel gb)
     exact {
      below := below_alloc hb3 _
      row := Kd.R_alloc HP.1 _
      map := (HM.kept HP.2 (by simp; omega)).alloc _
      x0 := by
       have := cell_alloc_new (wr.setCell ⟨g, i, none⟩ (.int .i64 1)) #[.int .i64 (itA L i).f0, .string (itA L i).f1, .bool (itA L i).f2, .slice A3 (itA L i).f3.length c3] 53 (0, 0) 0 rfl
       rwa [size_setCell] at this
      x1 := by
       have := cell_alloc_new (wr.setCell ⟨g, i, none⟩ (.int .i64 1)) #[.int .i64 (itA L i).f0, .string (itA L i).f1, .bool (itA L i).f2, .slice A3 (itA L i).f3.length c3] 53 (0, 0) 1 rfl
       rwa [size_setCell] at this
      gb := gb
      ne := by omega
      bx := HBel.size }
    obtain ⟨kl, hkl⟩ := place_key (p := (itA L i).f0) (s := (itA L i).f1) hwfi.1 hwfi.2.1 hwfi.2.2.1
    by_cases cA : (itA L i).f0 < -1
    · have hno : okAtB L i = false := by
        rw [← Bool.not_eq_true]; intro h
        have := okAt_par h
        simp only [parB, Bool.and_eq_true, decide_eq_true_eq] at this
        omega
      have hbel := (HF _ rfl).below
      have hfin := depB_false hlt hno
      clear HP HF hwfi hno hkl HM HD
      go_wp2
      go_ret2
      first | exact ⟨⟨_, rfl⟩, hbel⟩ | exact ⟨_, rfl, hbel⟩ | (rw [hfin]; first | exact ⟨⟨_, rfl⟩, hbel⟩ | exact ⟨_, rfl, hbel⟩) | (refine ⟨?_, hbel⟩; rw [hfin]; exact ⟨_, rfl⟩) | (refine ⟨_, ?_, hbel⟩; rw [hfin]; rfl)
    · have hA0 : decide ((itA L i).f0 < -1) = false := decide_eq_false cA
      by_cases cB : (i : Int) ≤ (itA L i).f0
      · have hno : okAtB L i = false := by
          rw [← Bool.not_eq_true]; intro h
          have := okAt_par h
          simp only [parB, Bool.and_eq_true, decide_eq_true_eq] at this
          omega
        have hbel := (HF _ rfl).below
        have hfin := depB_false hlt hno
        clear HP HF hwfi hno hkl HM HD
        go_wp2
        go_ret2
        first | exact ⟨⟨_, rfl⟩, hbel⟩ | exact ⟨_, rfl, hbel⟩ | (rw [hfin]; first | exact ⟨⟨_, rfl⟩, hbel⟩ | exact ⟨_, rfl, hbel⟩) | (refine ⟨?_, hbel⟩; rw [hfin]; exact ⟨_, rfl⟩) | (refine ⟨_, ?_, hbel⟩; rw [hfin]; rfl)
      · have hds2 : (ds.set i 1).length = L.length := by rw [List.length_set, hds]
        by_cases cC : (itA L i).f0 = -1
        · have hcell : ∀ {w2 : World}, MidI w L b g co i D (ds.set i 1) wr.heap.size w2 → w2.cell? ⟨g, i, none⟩ = some (.int .i64 1) := fun M => by
            have := (Kd.R_celln 0 M.row (i : Int) (by omega) (by omega)).1
            rw [Int.toNat_natCast] at this
            rw [this, show rdOf 0 (ds.set i 1) (i : Int) = 1 from by simp [rdOf, List.getD_eq_getElem?_getD, hds, hlt]]
          have hkl0 := Aside0.mk hkl
          rw [cC] at hkl
          have hkl := Aside0.mk hkl
          have hdep : dep L i = 1 := dep_one cC
          have HPar : parB L i = true := by simp only [parB, cC]; simp; omega
          rw [show (rd_T53 L i).f0 = -1 from cC] at h0
          have hBC : decide ((i : Int) ≤ -1) = false := decide_eq_false (by omega)
          simp only [cC] at HF
          cases hdu : dupB L i (-1) (itA L i).f1 with
          | true =>
           have hno : okAtB L i = false := by simp only [okAtB, cC, hdu]; simp
           have hfin := depB_false hlt hno
           clear hno
           go_wp2_with (first | ((with_reducible refine gate_store (t := 3) (p := 22) rfl ?_); refine store_event (t := 3) (p := 22) (v := ?vo) (w1 := (wr.setCell ⟨g, i, none⟩ (.int .i64 1)).alloc (Obj.cells #[.int .i64 (-1), .string (itA L i).f1, .bool (itA L i).f2, .slice A3 (itA L i).f3.length c3] 53)) ?hg ?ho ?hn ?hr ?_; (case ho => rfl); (case hg => rfl); (case hn => rfl); (case hr => first | (go_simp; done) | (go_simp; rfl)); intro w2 hw2; have M2 := Aside0.mk (HF w2 hw2); clear hw2 HF; have x0 := M2.out.x0; have x1 := M2.out.x1; (try rw [cC] at x0); have hlk := seen_look (M2.out.map.alloc (Obj.cells #[.int .i64 (-1), .string (itA L i).f1] 122)) HD hkl.out; rw [hdu] at hlk; have hbel := below_alloc M2.out.below (Obj.cells #[.int .i64 (-1), .string (itA L i).f1] 122); have hc2 := hcell M2.out))
           go_ret2
           first | exact ⟨⟨_, rfl⟩, hbel⟩ | exact ⟨_, rfl, hbel⟩ | (rw [hfin]; first | exact ⟨⟨_, rfl⟩, hbel⟩ | exact ⟨_, rfl, hbel⟩) | (refine ⟨?_, hbel⟩; rw [hfin]; exact ⟨_, rfl⟩) | (refine ⟨_, ?_, hbel⟩; rw [hfin]; rfl)
          | false =>
           have hok : okAtB L i = true := by simp only [okAtB, cC, hdu, HPar, hdep]; rfl
           have hset := set_dep (v := 1) (by omega : i < ds.length) hdv hdep.symm
           have hds3 := hds2
           have HOK := Aside0.mk hok; have HST := Aside0.mk hset; clear hok hset hdv
           go_wp2_with (first | ((with_reducible refine gate_store (t := 3) (p := 22) rfl ?_); refine store_event (t := 3) (p := 22) (v := ?vo) (w1 := (wr.setCell ⟨g, i, none⟩ (.int .i64 1)).alloc (Obj.cells #[.int .i64 (-1), .string (itA L i).f1, .bool (itA L i).f2, .slice A3 (itA L i).f3.length c3] 53)) ?hg ?ho ?hn ?hr ?_; (case ho => rfl); (case hg => rfl); (case hn => rfl); (case hr => first | (go_simp; done) | (go_simp; rfl)); intro w2 hw2; have M2 := Aside0.mk (HF w2 hw2); clear hw2 HF; have x0 := M2.out.x0; have x1 := M2.out.x1; (try rw [cC] at x0); have hlk := seen_look (M2.out.map.alloc (Obj.cells #[.int .i64 (-1), .string (itA L i).f1] 122)) HD hkl.out; rw [hdu] at hlk; have hc2 := pw_cell_below (below_alloc (Below.refl _ _) (Obj.cells #[.int .i64 (-1), .string (itA L i).f1] 122)) (hcell M2.out); have hown := Aside0.mk (M2.out.map.alloc (Obj.cells #[.int .i64 (-1), .string (itA L i).f1] 122))) | (at_mapUpdate; refine wpList_mapUpdate_own _ rfl _ _ _ 120 rfl 122 4 placeK Tryz.underlying120 _ b i D rfl hown.out (by simp only [maxLen]; omega) _ _ kl rfl rfl hkl.out (.lit (.bool true)) [] (plainElem_bool Tryz.underlying4 true) ?_; intro w4 hm4 hg4))
           have hok := HOK.out; have hset := HST.out
           go_roundg (L.length - (i + 1))
           case measure => omega
           case rel =>
            refine ⟨i + 1, by omega, by omega, by go_num, ⟨?_⟩⟩
            have hb4 := below_alloc M2.out.below (Obj.cells #[.int .i64 (-1), .string (itA L i).f1] 122)
            exact {
             below := Below.grown hb4 hg4 hb4.size (fun k hk => by have := Option.some.inj hk; omega)
             row := ⟨ds.set i 1, hds3, Kd.R_grown (Kd.R_alloc M2.out.row _) hg4 (fun k hk he => hk (Option.some.inj he)), hset⟩
             map := ⟨_, hm4, seen_put HD hlt hkl0.out⟩
             base := hbase
             oks := fun j hj => by
              by_cases e : j = i
              · subst e; exact hok
              · exact hoks j (by omega) }
        · obtain ⟨q, hq⟩ : ∃ q : Nat, (itA L i).f0 = q := ⟨(itA L i).f0.toNat, by omega⟩
          have hqi : q < i := by omega
          have hkl0 := Aside0.mk hkl
          rw [hq] at hkl
          have hkl := Aside0.mk hkl
          rw [show (rd_T53 L i).f0 = (q : Int) from hq] at h0
          have hq0 : decide ((q : Int) < -1) = false := decide_eq_false (by omega)
          have hq1 : decide ((i : Int) ≤ (q : Int)) = false := decide_eq_false (by omega)
          have hq2 : ((q : Int) == -1) = false := by rw [beq_eq_false_iff_ne]; omega
          have hq3 : ¬ (q : Int) = -1 := by omega
          have hq4 : (q : Int) < (L.length : Int) := by omega
          have hq5 : (0 : Int) ≤ (q : Int) := by omega
          simp only [hq] at HF
          cases hdir : (rd_T53 L (q : Int)).f2 with
          | false =>
           have hno : okAtB L i = false := by
            rw [← Bool.not_eq_true]; intro h
            have := okAt_par h
            simp only [parB, Bool.and_eq_true, Bool.or_eq_true, decide_eq_true_eq] at this
            rw [hq] at this
            rcases this.2 with h7 | h7
            · omega
            · rw [show (itA L (q : Int)).f2 = false from hdir] at h7; cases h7
           have hfin := depB_false hlt hno
           clear hno
           go_wp2_with (first | ((with_reducible refine gate_store (t := 3) (p := 22) rfl ?_); refine store_event (t := 3) (p := 22) (v := ?vo) (w1 := (wr.setCell ⟨g, i, none⟩ (.int .i64 1)).alloc (Obj.cells #[.int .i64 (q : Int), .string (itA L i).f1, .bool (itA L i).f2, .slice A3 (itA L i).f3.length c3] 53)) ?hg ?ho ?hn ?hr ?_; (case ho => rfl); (case hg => rfl); (case hn => rfl); (case hr => first | (go_simp; done) | (go_simp; rfl)); intro w2 hw2; have M2 := Aside0.mk (HF w2 hw2); clear hw2 HF; have x0 := M2.out.x0; have x1 := M2.out.x1; rw [hq] at x0; obtain ⟨ad2, B3, d3, hA2, y0, y1, y2, y3, _, _⟩ := at_T53 (Kd.C_below HC.out M2.out.below) (q : Int) (by omega) (by omega); cases hA2; clear y0 y1 y3; rw [Int.toNat_natCast] at y2; rw [hdir] at y2; have hbel := M2.out.below))
           go_ret2
           first | exact ⟨⟨_, rfl⟩, hbel⟩ | exact ⟨_, rfl, hbel⟩ | (rw [hfin]; first | exact ⟨⟨_, rfl⟩, hbel⟩ | exact ⟨_, rfl, hbel⟩) | (refine ⟨?_, hbel⟩; rw [hfin]; exact ⟨_, rfl⟩) | (refine ⟨_, ?_, hbel⟩; rw [hfin]; rfl)
          | true =>
           have HPar : parB L i = true := by
            simp only [parB, Bool.and_eq_true, Bool.or_eq_true, decide_eq_true_eq]
            rw [hq]
            exact ⟨⟨by omega, by omega⟩, .inr hdir⟩
           have hdep : dep L i = dep L q + 1 := dep_step hq hqi (fun j hj => okAt_par (hoks j hj))
           have hd8 : dep L q ≤ 8 := by
            have := hoks q hqi
            simp only [okAtB, Bool.and_eq_true, decide_eq_true_eq] at this
            exact this.1.2
           have hd1 : 1 ≤ dep L q := dep_lo _ _
           have hdvq := hdv q hqi
           have hset := set_dep (v := dep L q + 1) (by rw [List.length_set]; omega : i < (ds.set i 1).length) (fun j hj => by rw [List.getD_eq_getElem?_getD, List.getElem?_set_ne (by omega), ← List.getD_eq_getElem?_getD]; exact hdv j hj) hdep.symm
           have hds3 : ((ds.set i 1).set i (dep L q + 1)).length = L.length := by rw [List.length_set, hds2]
           generalize dep L q = dq at *
           have hcq : ∀ {w2 : World}, MidI w L b g co i D (ds.set i 1) wr.heap.size w2 → w2.cell? ⟨g, q, none⟩ = some (.int .i64 dq) := fun M => by
            have := (Kd.R_celln 0 M.row (q : Int) (by omega) (by omega)).1
            rw [Int.toNat_natCast] at this
            rw [this, show rdOf 0 (ds.set i 1) (q : Int) = dq from by simp only [rdOf, Int.toNat_natCast]; rw [List.getD_eq_getElem?_getD, List.getElem?_set_ne (by omega), ← List.getD_eq_getElem?_getD]; exact hdvq]
           have hcf : ∀ {w2 : World} {ds' : List Int}, MidI w L b g co i D ds' wr.heap.size w2 → w2.cell? ⟨g, i, none⟩ = some (.int .i64 (rdOf 0 ds' (i : Int))) ∧ w2.frozen? ⟨g, i, none⟩ = false := fun M => by
            have := Kd.R_celln 0 M.row (i : Int) (by omega) (by omega)
            rw [Int.toNat_natCast] at this; exact this
           have hrd : rdOf 0 ((ds.set i 1).set i (dq + 1)) (i : Int) = dq + 1 := by simp [rdOf, List.getD_eq_getElem?_getD, hds, hlt]
           have HG : ∀ w2 w3, MidI w L b g co i D (ds.set i 1) wr.heap.size w2 → w3 = w2.setCell ⟨g, i, none⟩ (.int .i64 (dq + 1)) → MidI w L b g co i D ((ds.set i 1).set i (dq + 1)) wr.heap.size w3 := by
            rintro w2 w3 M rfl
            have hp := Kd.R_putg M.row (i : Int) (dq + 1)
            rw [Int.toNat_natCast] at hp
            exact {
             below := below_set (j := i) (v := .int .i64 (dq + 1)) M.below gb
             row := hp.1
             map := M.map.kept hp.2 (by simp; omega)
             x0 := cell_set_ne M.x0 (fun e => M.ne e.symm)
             x1 := cell_set_ne M.x1 (fun e => M.ne e.symm)
             gb := gb
             ne := M.ne
             bx := M.bx }
           cases hdu : dupB L i (q : Int) (itA L i).f1 with
           | true =>
            have hno : okAtB L i = false := by simp only [okAtB, hq, hdu]; simp
            have hfin := depB_false hlt hno
            clear hno hset hds3 hrd hdv hdvq
            go_wp2_with (first | ((with_reducible refine gate_store (t := 3) (p := 22) rfl ?_); refine store_event (t := 3) (p := 22) (v := ?vo) (w1 := (wr.setCell ⟨g, i, none⟩ (.int .i64 1)).alloc (Obj.cells #[.int .i64 (q : Int), .string (itA L i).f1, .bool (itA L i).f2, .slice A3 (itA L i).f3.length c3] 53)) ?hg ?ho ?hn ?hr ?_; (case ho => rfl); (case hg => rfl); (case hn => rfl); (case hr => first | (go_simp; done) | (go_simp; rfl)); intro w2 hw2; have M2 := Aside0.mk (HF w2 hw2); clear hw2 HF; have x0 := M2.out.x0; have x1 := M2.out.x1; rw [hq] at x0; obtain ⟨ad2, B3, d3, hA2, y0, y1, y2, y3, _, _⟩ := at_T53 (Kd.C_below HC.out M2.out.below) (q : Int) (by omega) (by omega); cases hA2; clear y0 y1 y3; rw [Int.toNat_natCast] at y2; rw [hdir] at y2; have hc2 := hcq M2.out; obtain ⟨hc5, hf5⟩ := hcf M2.out; have M3 := Aside0.mk (HG _ _ M2.out rfl); clear HG; have hlk := seen_look (M3.out.map.alloc (Obj.cells #[.int .i64 (q : Int), .string (itA L i).f1] 122)) HD hkl.out; rw [hdu] at hlk; have hbel := below_alloc M3.out.below (Obj.cells #[.int .i64 (q : Int), .string (itA L i).f1] 122)))
            go_ret2
            first | exact ⟨⟨_, rfl⟩, hbel⟩ | exact ⟨_, rfl, hbel⟩ | (rw [hfin]; first | exact ⟨⟨_, rfl⟩, hbel⟩ | exact ⟨_, rfl, hbel⟩) | (refine ⟨?_, hbel⟩; rw [hfin]; exact ⟨_, rfl⟩) | (refine ⟨_, ?_, hbel⟩; rw [hfin]; rfl)
           | false =>
            by_cases h9 : (8 : Int) < dq + 1
            · have hno : okAtB L i = false := by
                rw [← Bool.not_eq_true]; intro h
                simp only [okAtB, Bool.and_eq_true, decide_eq_true_eq] at h
                omega
              have hfin := depB_false hlt hno
              clear hno hset hds3 hdv hdvq
              go_wp2_with (first | ((with_reducible refine gate_store (t := 3) (p := 22) rfl ?_); refine store_event (t := 3) (p := 22) (v := ?vo) (w1 := (wr.setCell ⟨g, i, none⟩ (.int .i64 1)).alloc (Obj.cells #[.int .i64 (q : Int), .string (itA L i).f1, .bool (itA L i).f2, .slice A3 (itA L i).f3.length c3] 53)) ?hg ?ho ?hn ?hr ?_; (case ho => rfl); (case hg => rfl); (case hn => rfl); (case hr => first | (go_simp; done) | (go_simp; rfl)); intro w2 hw2; have M2 := Aside0.mk (HF w2 hw2); clear hw2 HF; have x0 := M2.out.x0; have x1 := M2.out.x1; rw [hq] at x0; obtain ⟨ad2, B3, d3, hA2, y0, y1, y2, y3, _, _⟩ := at_T53 (Kd.C_below HC.out M2.out.below) (q : Int) (by omega) (by omega); cases hA2; clear y0 y1 y3; rw [Int.toNat_natCast] at y2; rw [hdir] at y2; have hc2 := hcq M2.out; obtain ⟨hc5, hf5⟩ := hcf M2.out; have M3 := Aside0.mk (HG _ _ M2.out rfl); clear HG; have hlk := seen_look (M3.out.map.alloc (Obj.cells #[.int .i64 (q : Int), .string (itA L i).f1] 122)) HD hkl.out; rw [hdu] at hlk; have hc6 := (hcf M3.out).1; rw [hrd] at hc6; have hc7 := pw_cell_below (below_alloc (Below.refl _ _) (Obj.cells #[.int .i64 (q : Int), .string (itA L i).f1] 122)) hc6; have hbel := below_alloc M3.out.below (Obj.cells #[.int .i64 (q : Int), .string (itA L i).f1] 122)))
              go_ret2
              first | exact ⟨⟨_, rfl⟩, hbel⟩ | exact ⟨_, rfl, hbel⟩ | (rw [hfin]; first | exact ⟨⟨_, rfl⟩, hbel⟩ | exact ⟨_, rfl, hbel⟩) | (refine ⟨?_, hbel⟩; rw [hfin]; exact ⟨_, rfl⟩) | (refine ⟨_, ?_, hbel⟩; rw [hfin]; rfl)
            · have hok : okAtB L i = true := by
                simp only [okAtB, Bool.and_eq_true, decide_eq_true_eq]
                rw [hq, hdu]
                exact ⟨⟨HPar, by omega⟩, rfl⟩
              have HOK := Aside0.mk hok; have HST := Aside0.mk hset; clear hok hset hdv hdvq
              go_wp2_with (first | ((with_reducible refine gate_store (t := 3) (p := 22) rfl ?_); refine store_event (t := 3) (p := 22) (v := ?vo) (w1 := (wr.setCell ⟨g, i, none⟩ (.int .i64 1)).alloc (Obj.cells #[.int .i64 (q : Int), .string (itA L i).f1, .bool (itA L i).f2, .slice A3 (itA L i).f3.length c3] 53)) ?hg ?ho ?hn ?hr ?_; (case ho => rfl); (case hg => rfl); (case hn => rfl); (case hr => first | (go_simp; done) | (go_simp; rfl)); intro w2 hw2; have M2 := Aside0.mk (HF w2 hw2); clear hw2 HF; have x0 := M2.out.x0; have x1 := M2.out.x1; rw [hq] at x0; obtain ⟨ad2, B3, d3, hA2, y0, y1, y2, y3, _, _⟩ := at_T53 (Kd.C_below HC.out M2.out.below) (q : Int) (by omega) (by omega); cases hA2; clear y0 y1 y3; rw [Int.toNat_natCast] at y2; rw [hdir] at y2; have hc2 := hcq M2.out; obtain ⟨hc5, hf5⟩ := hcf M2.out; have M3 := Aside0.mk (HG _ _ M2.out rfl); clear HG; have hlk := seen_look (M3.out.map.alloc (Obj.cells #[.int .i64 (q : Int), .string (itA L i).f1] 122)) HD hkl.out; rw [hdu] at hlk; have hc6 := (hcf M3.out).1; rw [hrd] at hc6; have hc7 := pw_cell_below (below_alloc (Below.refl _ _) (Obj.cells #[.int .i64 (q : Int), .string (itA L i).f1] 122)) hc6; have hbel := below_alloc M3.out.below (Obj.cells #[.int .i64 (q : Int), .string (itA L i).f1] 122); have hown := Aside0.mk (M3.out.map.alloc (Obj.cells #[.int .i64 (q : Int), .string (itA L i).f1] 122))) | (at_mapUpdate; refine wpList_mapUpdate_own _ rfl _ _ _ 120 rfl 122 4 placeK Tryz.underlying120 _ b i D rfl hown.out (by simp only [maxLen]; omega) _ _ kl rfl rfl hkl.out (.lit (.bool true)) [] (plainElem_bool Tryz.underlying4 true) ?_; intro w4 hm4 hg4))
              have hok := HOK.out; have hset := HST.out
              go_roundg (L.length - (i + 1))
              case measure => omega
              case rel =>
               refine ⟨i + 1, by omega, by omega, by go_num, ⟨?_⟩⟩
               exact {
                below := Below.grown hbel hg4 hbel.size (fun k hk => by have := Option.some.inj hk; omega)
                row := ⟨_, hds3, Kd.R_grown (Kd.R_alloc M3.out.row _) hg4 (fun k hk he => hk (Option.some.inj he)), hset⟩
                map := ⟨_, hm4, seen_put HD hlt hkl0.out⟩
                base := hbase
                oks := fun j hj => by
                 by_cases e : j = i
                 · subst e; exact hok
                 · exact hoks j (by omega) }
  · have hltz : ¬ (i : Int) < (L.length : Int) := by omega
    go_wp2
    go_ret2
    have hfin := depB_true (fun j hj => HI.out.oks j (by omega))
    have hbel := HI.out.below
    first | exact ⟨⟨_, rfl⟩, hbel⟩ | exact ⟨_, rfl, hbel⟩ | (rw [hfin]; first | exact ⟨⟨_, rfl⟩, hbel⟩ | exact ⟨_, rfl, hbel⟩) | (refine ⟨?_, hbel⟩; rw [hfin]; exact ⟨_, rfl⟩) | (refine ⟨_, ?_, hbel⟩; rw [hfin]; rfl)
end Go.Proofs.YthlflglkdaainaaGreatDoor.Tr
namespace Go.Proofs.YthlflglkdaainaaGreatDoor.Tr
open Go.RowKit Go.Lib Go.Proofs.YthlflglkdaainaaGreatDoorW.PrintWords Go.Proofs.YthlflglkdaainaaGreatDoorW.PrintLast Go.Proofs.YthlflglkdaainaaGreatDoorW.PrintMore Go.Proofs.YthlflglkdaainaaGreatDoor.Prt
def checkN (L : List It) : Int := if 64 < L.length then 14 else if !(depB L) || L.any (fun x => !rightB x) then 14 else if L.any (fun x => resB x.f1) then 15 else 0
theorem check_any (L : List It) (A : Option Addr) (c : Nat) (w : World) (hC : Kd.C kIt w A L.length L) (hwf : WfL L) :
    Calls Tryz.prog 18 #[.slice A L.length c] w fun e w' => e = .returned (.int .i64 (checkN L)) ∧ Below w.heap.size w w' := by
 have HC := Aside0.mk hC
 have e1 : ∀ args w, (callFunc 46 args).run Tryz.prog w = .ok (.enter 46 args) w := enters_of Tryz.func46 (by kernel_rfl) rfl
 have e2 : ∀ args w, (callFunc 48 args).run Tryz.prog w = .ok (.enter 48 args) w := enters_of Tryz.func48 (by kernel_rfl) rfl
 clear hC
 by_cases h64 : 64 < L.length
 · have hz : (64 : Int) < (L.length : Int) := by omega
   have hr : checkN L = 14 := by simp only [checkN]; rw [if_pos h64]
   go_enter Tryz.func18, Tryz.ntmps18
   go_wp2
   go_ret
   rw [hr]; exact ⟨rfl, Below.refl _ _⟩
 · have hz : ¬ (64 : Int) < (L.length : Int) := by omega
   have HD := fun W B => depths_any L A c W (Kd.C_below HC.out B) hwf (by omega)
   cases hd : depB L with
   | false =>
    have hr : checkN L = 14 := by simp only [checkN]; rw [if_neg h64, hd]; rfl
    go_enter Tryz.func18, Tryz.ntmps18
    go_wp2_with (go_at_call 44; refine (HD _ (Below.refl _ _)).mono ?_; rintro e w1 ⟨v, rfl, hb1⟩; rw [hd])
    go_ret
    rw [hr]; exact ⟨rfl, hb1⟩
   | true =>
    go_enter Tryz.func18, Tryz.ntmps18
    cases hp : L.any (fun x => !rightB x) with
    | true =>
     have hr : checkN L = 14 := by simp only [checkN]; rw [if_neg h64, hd, hp]; rfl
     go_wp2_with (first | (go_at_call 44; refine (HD _ (Below.refl _ _)).mono ?_; rintro e w1 ⟨v, rfl, hb1⟩; rw [hd]) | (go_at_call 45; refine (contF_any _ _ _ e1 L A c _ (Kd.C_below HC.out hb1) (pred1 _)).mono ?_; rintro e w2 ⟨rfl, hb2⟩; rw [hp]))
     go_ret
     rw [hr]; exact ⟨rfl, below_step hb1 hb2⟩
    | false =>
     have hr : checkN L = if L.any (fun x => resB x.f1) then 15 else 0 := by simp only [checkN]; rw [if_neg h64, hd, hp]; rfl
     cases hq : L.any (fun x => resB x.f1) with
     | true =>
      go_wp2_with (first | (go_at_call 44; refine (HD _ (Below.refl _ _)).mono ?_; rintro e w1 ⟨v, rfl, hb1⟩; rw [hd]) | (go_at_call 45; refine (contF_any _ _ _ e1 L A c _ (Kd.C_below HC.out hb1) (pred1 _)).mono ?_; rintro e w2 ⟨rfl, hb2⟩; rw [hp]; have hb3 := below_step hb1 hb2; clear hb1 hb2) | (go_at_call 45; refine (contF_any _ _ _ e2 L A c _ (Kd.C_below HC.out hb3) (pred2 _)).mono ?_; rintro e w4 ⟨rfl, hb4⟩; rw [hq]))
      go_ret
      rw [hr, hq]; exact ⟨rfl, below_step hb3 hb4⟩
     | false =>
      go_wp2_with (first | (go_at_call 44; refine (HD _ (Below.refl _ _)).mono ?_; rintro e w1 ⟨v, rfl, hb1⟩; rw [hd]) | (go_at_call 45; refine (contF_any _ _ _ e1 L A c _ (Kd.C_below HC.out hb1) (pred1 _)).mono ?_; rintro e w2 ⟨rfl, hb2⟩; rw [hp]; have hb3 := below_step hb1 hb2; clear hb1 hb2) | (go_at_call 45; refine (contF_any _ _ _ e2 L A c _ (Kd.C_below HC.out hb3) (pred2 _)).mono ?_; rintro e w4 ⟨rfl, hb4⟩; rw [hq]))
      go_ret
      rw [hr, hq]; exact ⟨rfl, below_step hb3 hb4⟩
theorem wrap_id {x : Int} (h1 : -9223372036854775808 ≤ x) (h2 : x ≤ 9223372036854775807) : wrap64 x = x := by
 unfold wrap64; omega
theorem set_mid {α : Type} (p : List α) (a x : α) (t : List α) : (p ++ a :: t).set p.length x = p ++ x :: t := by
 rw [List.set_append_right _ _ (Nat.le_refl _), Nat.sub_self, List.set_cons_zero]
theorem rdOf_mid {α : Type} (d : α) (p : List α) (a : α) (t : List α) : rdOf d (p ++ a :: t) (p.length : Int) = a := by
 simp [rdOf, List.getD_eq_getElem?_getD]
theorem rev_ev : ∀ (n : Nat) (m p s : List ByteArray), m.length ≤ n → p.length + m.length + s.length ≤ 8796093022208 →
    Ev (fun k => slices_Reverse_string_string.l0 k (p ++ m ++ s) (p.length : Int) ((p.length : Int) + m.length - 1)) (p ++ m.reverse ++ s) := by
 intro n
 induction n with
 | zero =>
  intro m p s hm hb
  obtain rfl : m = [] := List.length_eq_zero_iff.1 (by omega)
  refine ⟨1, fun k hk => ?_⟩
  obtain ⟨k, rfl⟩ : ∃ q, k = q + 1 := ⟨k - 1, by omega⟩
  simp only [slices_Reverse_string_string.l0]
  rw [if_neg (by simp; omega)]; rfl
 | succ n ih =>
  intro m p s hm hb
  match m, hm, hb with
  | [], hm, hb => exact ih [] p s (by simp) hb
  | [a], hm, hb =>
   refine ⟨1, fun k hk => ?_⟩
   obtain ⟨k, rfl⟩ : ∃ q, k = q + 1 := ⟨k - 1, by omega⟩
   simp only [slices_Reverse_string_string.l0]
   rw [if_neg (by simp)]; rfl
  | a :: c :: m', hm, hb =>
   obtain ⟨m2, b, hmb⟩ : ∃ m2 b, c :: m' = m2 ++ [b] := by
    rcases List.eq_nil_or_concat (c :: m') with h | h
    · cases h
    · obtain ⟨l', b, h⟩ := h; exact ⟨l', b, by rw [h, List.concat_eq_append]⟩
   rw [hmb] at hm hb ⊢
   have hml : (a :: (m2 ++ [b])).length = m2.length + 2 := by simp
   rw [hml] at hm hb ⊢
   have h1 := ih m2 (p ++ [b]) ([a] ++ s) (by omega) (by simp; omega)
   obtain ⟨K, hK⟩ := h1
   refine ⟨K + 1, fun k hk => ?_⟩
   obtain ⟨k, rfl⟩ : ∃ q, k = q + 1 := ⟨k - 1, by omega⟩
   have e0 : p ++ a :: (m2 ++ [b]) ++ s = p ++ a :: (m2 ++ b :: s) := by simp
   have hlen : (p ++ a :: (m2 ++ b :: s)).length = p.length + m2.length + s.length + 2 := by simp; omega
   have r1 : rdOf ByteArray.empty (p ++ a :: (m2 ++ b :: s)) ((p.length : Int) + ((m2.length + 2 : Nat) : Int) - 1) = b := by
    have := rdOf_mid ByteArray.empty (p ++ a :: m2) b s
    rw [show (((p ++ a :: m2).length : Nat) : Int) = (p.length : Int) + ((m2.length + 2 : Nat) : Int) - 1 from by rw [List.length_append, List.length_cons]; omega] at this
    rw [show p ++ a :: (m2 ++ b :: s) = (p ++ a :: m2) ++ b :: s from by simp, this]
   have r2 : rdOf ByteArray.empty (p ++ a :: (m2 ++ b :: s)) (p.length : Int) = a := rdOf_mid _ _ _ _
   have s1 : ((p ++ a :: (m2 ++ b :: s)).set p.length b).set (p.length + m2.length + 1) a = (p ++ [b]) ++ m2 ++ ([a] ++ s) := by
    rw [set_mid]
    have := set_mid (p ++ b :: m2) b a s
    rw [List.length_append, List.length_cons] at this
    rw [show p ++ b :: (m2 ++ b :: s) = (p ++ b :: m2) ++ b :: s from by simp, show p.length + m2.length + 1 = p.length + (m2.length + 1) from by omega, this]
    simp
   rw [e0]
   simp only [slices_Reverse_string_string.l0]
   rw [hlen, if_pos (by omega), if_pos (by omega), if_pos (by omega), if_pos (by omega), if_pos (by omega), r1, r2, Int.toNat_natCast, show ((p.length : Int) + ((m2.length + 2 : Nat) : Int) - 1).toNat = p.length + m2.length + 1 from by omega, s1]
   have h2 : slices_Reverse_string_string.l0 k (p ++ [b] ++ m2 ++ ([a] ++ s)) (((p ++ [b]).length : Nat) : Int) ((((p ++ [b]).length : Nat) : Int) + m2.length - 1) = _ := hK k (by omega)
   rw [wrap_id (by omega) (by omega), wrap_id (by omega) (by omega)]
   rw [show (((p ++ [b]).length : Nat) : Int) = (p.length : Int) + 1 from by simp] at h2
   rw [show (p.length : Int) + ((m2.length + 2 : Nat) : Int) - 1 - 1 = (p.length : Int) + 1 + (m2.length : Int) - 1 from by omega, h2]
   simp
theorem rev_all (l : List ByteArray) (h : l.length ≤ 8796093022208) : Ev (fun k => slices_Reverse_string_string.f k l) l.reverse := by
 have := rev_ev l.length l [] [] (Nat.le_refl _) (by simpa using h)
 unfold slices_Reverse_string_string.f
 rw [wrap_id (by omega) (by omega)]
 simpa using this
def upF : Nat → List It → Int → List ByteArray
 | 0, _, _ => []
 | f + 1, L, i => if i = -1 then [] else (itA L i).f1 :: upF f L (itA L i).f0
def pathN (L : List It) (i : Int) : List ByteArray := (upF (i + 1).toNat L i).reverse
theorem par_ok {L : List It} {i : Nat} (h : parB L i = true) : -1 ≤ (itA L i).f0 ∧ (itA L i).f0 < i := by
 simp only [parB, Bool.and_eq_true, decide_eq_true_eq] at h
 exact h.1
theorem up_any {L : List It} : ∀ (t : Nat) (i : Int) (n m : Nat), -1 ≤ i → (i + 1).toNat ≤ t → (i + 1).toNat ≤ n → (i + 1).toNat ≤ m → (∀ j : Nat, (j : Int) ≤ i → parB L j = true) → upF n L i = upF m L i := by
 intro t
 induction t with
 | zero =>
  intro i n m h1 h2 _ _ _
  obtain rfl : i = -1 := by omega
  cases n <;> cases m <;> simp [upF]
 | succ t ih =>
  intro i n m h1 h2 h3 h4 hp
  by_cases hi : i = -1
  · subst hi; cases n <;> cases m <;> simp [upF]
  · obtain ⟨q, rfl⟩ : ∃ q : Nat, i = q := ⟨i.toNat, by omega⟩
    obtain ⟨p1, p2⟩ := par_ok (hp q (by omega))
    obtain ⟨n, rfl⟩ : ∃ a, n = a + 1 := ⟨n - 1, by omega⟩
    obtain ⟨m, rfl⟩ : ∃ a, m = a + 1 := ⟨m - 1, by omega⟩
    simp only [upF]
    rw [if_neg hi, if_neg hi, ih _ n m p1 (by omega) (by omega) (by omega) (fun j hj => hp j (by omega))]
theorem up_step {L : List It} {i : Nat} (hp : ∀ j : Nat, j ≤ i → parB L j = true) : upF ((i : Int) + 1).toNat L i = (itA L i).f1 :: upF ((itA L i).f0 + 1).toNat L (itA L i).f0 := by
 obtain ⟨p1, p2⟩ := par_ok (hp i (by omega))
 rw [show ((i : Int) + 1).toNat = i + 1 from by omega]
 simp only [upF]
 rw [if_neg (by omega), up_any _ (itA L (i : Int)).f0 i _ p1 (Nat.le_refl _) (by omega) (Nat.le_refl _) (fun j hj => hp j (by omega))]
theorem path_step {L : List It} {i : Nat} (hp : ∀ j : Nat, j ≤ i → parB L j = true) : pathN L i = pathN L (itA L i).f0 ++ [(itA L i).f1] := by
 unfold pathN
 rw [up_step hp, List.reverse_cons]
theorem path_top (L : List It) : pathN L (-1) = [] := by simp [pathN, upF]
theorem tpath_ev {L : List It} : ∀ (t : Nat) (i : Int) (acc : List ByteArray), -1 ≤ i → i < L.length → (i + 1).toNat ≤ t → acc.length + t ≤ 100 → (∀ j : Nat, (j : Int) ≤ i → parB L j = true) →
    Ev (fun k => tree_path.l0 k L i acc) (acc ++ upF (i + 1).toNat L i).reverse := by
 intro t
 induction t with
 | zero =>
  intro i acc h1 h2 h3 h4 hp
  obtain rfl : i = -1 := by omega
  obtain ⟨K, hK⟩ := rev_all acc (by omega)
  refine ⟨K + 1, fun k hk => ?_⟩
  obtain ⟨k, rfl⟩ : ∃ q, k = q + 1 := ⟨k - 1, by omega⟩
  have h5 : slices_Reverse_string_string.f k acc = some acc.reverse := hK k (by omega)
  simp only [tree_path.l0, h5]
  simp [upF]
 | succ t ih =>
  intro i acc h1 h2 h3 h4 hp
  by_cases hi : i = -1
  · exact ih i acc h1 h2 (by omega) (by omega) hp
  · obtain ⟨q, rfl⟩ : ∃ q : Nat, i = q := ⟨i.toNat, by omega⟩
    obtain ⟨p1, p2⟩ := par_ok (hp q (by omega))
    obtain ⟨K, hK⟩ := ih (itA L (q : Int)).f0 (acc ++ [(itA L (q : Int)).f1]) p1 (by omega) (by omega) (by simp; omega) (fun j hj => hp j (by omega))
    refine ⟨K + 1, fun k hk => ?_⟩
    obtain ⟨k, rfl⟩ : ∃ q, k = q + 1 := ⟨k - 1, by omega⟩
    have h5 : tree_path.l0 k L (itA L (q : Int)).f0 (acc ++ [(itA L (q : Int)).f1]) = _ := hK k (by omega)
    simp only [tree_path.l0]
    rw [if_neg hi, if_pos (by omega), if_pos h2, if_pos (by omega)]
    rw [up_step (fun j hj => hp j (by omega))]
    refine h5.trans ?_
    simp
theorem path_any (L : List It) (hL : L.length ≤ 64) (hd : depB L = true) (i : Int) (hi : -1 ≤ i) (hi2 : i < L.length) (A : Option Addr) (c : Nat) (hc : L.length ≤ c) (w : World) (hC : Kd.C kIt w A L.length L) :
    Calls Tryz.prog 77 #[.slice A L.length c, .int .i64 i] w fun e w' => ∃ v, e = .returned v ∧ Kd.R Kd.string 9 w' w.heap.size (fun _ => True) v (pathN L i) ∧ Below w.heap.size w w' := by
 have hp : ∀ j : Nat, (j : Int) ≤ i → parB L j = true := fun j hj => by
  simp only [depB, List.all_eq_true, List.mem_range] at hd
  exact okAt_par (hd j (by omega))
 obtain ⟨k, hk⟩ := (tpath_ev (i + 1).toNat i [] hi hi2 (Nat.le_refl _) (by simp; omega) hp).rounds
 have := tree_path.calls k A c L i (pathN L i) w hC hc (by unfold tree_path.f; rw [hk]; rfl)
 exact this
def tPath (L : List It) (i : Int) : List ByteArray := if i < 0 ∨ (L.length : Int) ≤ i ∨ checkN L = 14 then [] else pathN L i
theorem check_ok {L : List It} (h : checkN L ≠ 14) : L.length ≤ 64 ∧ depB L = true ∧ L.all rightB = true := by
 unfold checkN at h
 by_cases h1 : 64 < L.length
 · rw [if_pos h1] at h; exact absurd rfl h
 · rw [if_neg h1] at h
   by_cases h2 : (!(depB L) || L.any (fun x => !rightB x)) = true
   · rw [if_pos h2] at h; exact absurd rfl h
   · rw [Bool.or_eq_true, not_or] at h2
     refine ⟨by omega, by simpa using h2.1, ?_⟩
     have h3 := h2.2
     rw [List.all_eq_true]
     intro x hx
     rw [Bool.not_eq_true, List.any_eq_false] at h3
     simpa using h3 x hx
theorem Path_any (L : List It) (i : Int) (A : Option Addr) (c : Nat) (hc : L.length ≤ c) (w : World) (hC : Kd.C kIt w A L.length L) (hwf : WfL L) :
    Calls Tryz.prog 41 #[.slice A L.length c, .int .i64 i] w fun e w' => ∃ v, e = .returned v ∧ Kd.R Kd.string 9 w' w.heap.size (fun _ => True) v (tPath L i) ∧ Below w.heap.size w w' := by
 have HC := Aside0.mk hC
 have HK := fun W B => check_any L A c W (Kd.C_below HC.out B) hwf
 have HN := fun W => Kd.R_nil Kd.string 9 W w.heap.size (fun _ => True)
 clear hC
 by_cases h1 : i < 0
 · have hr : tPath L i = [] := by unfold tPath; rw [if_pos (.inl h1)]
   rw [hr]
   go_enter Tryz.func41, Tryz.ntmps41
   go_wp2
   go_ret
   exact ⟨_, rfl, HN _, Below.refl _ _⟩
 · have h1b : decide (i < 0) = false := decide_eq_false h1
   by_cases h2 : (L.length : Int) ≤ i
   · have hr : tPath L i = [] := by unfold tPath; rw [if_pos (.inr (.inl h2))]
     rw [hr]
     go_enter Tryz.func41, Tryz.ntmps41
     go_wp2
     go_ret
     exact ⟨_, rfl, HN _, Below.refl _ _⟩
   · have h2b : decide ((L.length : Int) ≤ i) = false := decide_eq_false h2
     by_cases h3 : checkN L = 14
     · have hr : tPath L i = [] := by unfold tPath; rw [if_pos (.inr (.inr h3))]
       rw [hr]
       go_enter Tryz.func41, Tryz.ntmps41
       go_wp2_with (go_at_call 18; refine (HK _ (Below.refl _ _)).mono ?_; rintro e w1 ⟨rfl, hb1⟩; rw [h3])
       go_ret
       exact ⟨_, rfl, HN _, hb1⟩
     · have hr : tPath L i = pathN L i := by unfold tPath; rw [if_neg (by rintro (h | h | h) <;> omega)]
       rw [hr]
       obtain ⟨q1, q2, _⟩ := check_ok h3
       have h3b : (checkN L == 14) = false := by rw [beq_eq_false_iff_ne]; exact h3
       generalize checkN L = e at *
       go_enter Tryz.func41, Tryz.ntmps41
       go_wp2_with (first | (go_at_call 18; refine (HK _ (Below.refl _ _)).mono ?_; rintro e w1 ⟨rfl, hb1⟩) | (go_at_call 77; refine (path_any L q1 q2 i (by omega) (by omega) A c hc _ (Kd.C_below HC.out hb1)).mono ?_; rintro e w2 ⟨v, rfl, hv, hb2⟩))
       go_ret
       exact ⟨_, rfl, Kd.R_lower hv hb1.size, below_step hb1 hb2⟩
section
variable {α : Type} {d : Kd α} {e e2 base g n cap : Nat} {ok : Nat → Prop} {W : World} {xs : List (List α)}
theorem rs_put (h : (Kd.slice e2 d).R e W base ok (.slice (some ⟨g, 0, none⟩) n cap) xs) {x : List α} {v : Value} (hx : d.R e2 W base (fun k => ok k ∧ k ≠ g) v x) (i : Nat) :
    (Kd.slice e2 d).R e (W.setCell ⟨g, i, none⟩ v) base ok (.slice (some ⟨g, 0, none⟩) n cap) (xs.set i x) ∧ W.grownBy (W.setCell ⟨g, i, none⟩ v) (some g) := by
 obtain ⟨hn, _⟩ := Kd.R_reads' h
 obtain ⟨h0, inner, ho, hr⟩ := h
 have hl : inner.length = xs.length := by rw [hr.1]; show xs.length * 1 = _; omega
 subst hn
 have ho' : W.ownsRow base e 1 (.slice (some ⟨g, 0, none⟩) xs.length cap) xs.length (encs id inner) := by
  rw [show encs id inner = inner by simp [encs]]; exact ho
 obtain ⟨q1, q2⟩ := own_store_of (enc := id) ho' (i : Int) v
 rw [Int.toNat_natCast] at q1 q2
 rw [show encs id (inner.set i v) = inner.set i v by simp [encs]] at q1
 refine ⟨⟨h0, inner.set i v, ?_, ?_, fun j p hj => ?_⟩, q2⟩
 · rw [List.length_set]; exact q1
 · rw [List.length_set, List.length_set, hr.1]
 · show (Kd.slice e2 d).M _ _ _ _ (List.take 1 (List.drop (j * 1) _))
   have hjl : j < (xs.set i x).length := (List.getElem?_eq_some_iff.1 hj).1
   rw [List.length_set] at hjl
   rw [Nat.mul_one]
   have e1 : List.take 1 (List.drop j (inner.set i v)) = [(inner.set i v)[j]'(by rw [List.length_set]; omega)] := by
    rw [List.drop_eq_getElem_cons (by rw [List.length_set]; omega)]; rfl
   rw [e1]
   by_cases hij : i = j
   · subst hij
     have hp : p = x := by
      rw [List.getElem?_set_self (by omega)] at hj; exact (Option.some.inj hj).symm
     subst hp
     refine ⟨v, by simp, ?_⟩
     have hx2 : d.R e2 W base (fun k => ok k ∧ some k ≠ (Value.slice (some ⟨g, 0, none⟩) xs.length cap).ownBlock) v p := Kd.R_mono hx (fun k hk => ⟨hk.1, fun e => hk.2 (Option.some.inj e)⟩)
     exact Kd.R_far (p := ⟨g, i, none⟩) hx2 (fun k hk => fun e => hk.2 (by show some k = some g; rw [e])) v
   · have hj2 : xs[j]? = some p := by rw [List.getElem?_set_ne hij] at hj; exact hj
     have hp := hr.2 j p hj2
     rw [show List.take (Kd.slice e2 d).sz (List.drop (j * (Kd.slice e2 d).sz) inner) = [inner[j]] by
      show List.take 1 (List.drop (j * 1) inner) = _
      rw [Nat.mul_one, List.drop_eq_getElem_cons (by omega)]; rfl] at hp
     rw [List.getElem_set_ne hij]
     exact Kd.M_far (p := ⟨g, i, none⟩) hp (fun k hk => fun e => hk.2 (by show some k = some g; rw [e])) v
theorem rs_cell (h : (Kd.slice e2 d).R e W base ok (.slice (some ⟨g, 0, none⟩) n cap) xs) (i : Nat) (hi : i < n) : ∃ u, W.cell? ⟨g, i, none⟩ = some u ∧ W.frozen? ⟨g, i, none⟩ = false := by
 obtain ⟨hn, _⟩ := Kd.R_reads' h
 obtain ⟨h0, inner, ho, hr⟩ := h
 subst hn
 have ho' : W.ownsRow base e 1 (.slice (some ⟨g, 0, none⟩) xs.length cap) xs.length (encs id inner) := by
  rw [show encs id inner = inner by simp [encs]]; exact ho
 have := own_at_of (d := Value.bool true) ho' (i : Int) (by omega) (by omega)
 rw [Int.toNat_natCast] at this
 exact ⟨_, this⟩
end
def fillTo {α : Type} (f : Nat → α) (z : α) (n i : Nat) : List α := (List.range n).map fun j => if j < i then f j else z
theorem fill_zero {α : Type} (f : Nat → α) (z : α) (n : Nat) : fillTo f z n 0 = List.replicate n z := by
 apply List.ext_getElem
 · simp [fillTo]
 · intro j h1 h2; simp [fillTo]
theorem fill_set {α : Type} (f : Nat → α) (z : α) (n i : Nat) : (fillTo f z n i).set i (f i) = fillTo f z n (i + 1) := by
 apply List.ext_getElem
 · simp [fillTo]
 · intro j h1 h2
   rw [List.getElem_set]
   simp only [fillTo, List.getElem_map, List.getElem_range]
   by_cases e : i = j
   · subst e; simp
   · rw [if_neg e]
     by_cases h : j < i
     · rw [if_pos h, if_pos (by omega)]
     · rw [if_neg h, if_neg (by omega)]
theorem fill_all {α : Type} (f : Nat → α) (z : α) (n : Nat) : fillTo f z n n = (List.range n).map f := by
 apply List.ext_getElem
 · simp [fillTo]
 · intro j h1 h2
   simp only [fillTo, List.getElem_map, List.getElem_range]
   rw [if_pos (by simpa [fillTo] using h1)]
theorem fill_length {α : Type} (f : Nat → α) (z : α) (n i : Nat) : (fillTo f z n i).length = n := by simp [fillTo]
def ltS (s t : ByteArray) : Bool := Op.bytesLess s.toList t.toList
def cmpS (s t : ByteArray) : Int := if ltS s t then -1 else if s.toList == t.toList then 0 else 1
def cmpL : List ByteArray → List ByteArray → Int
 | [], [] => 0
 | [], _ :: _ => -1
 | _ :: _, [] => 1
 | a :: l, b :: m => if cmpS a b = 0 then cmpL l m else cmpS a b
theorem gtr_s (t : TypeId) (a b : ByteArray) : binOp .gtr t (.string a) (.string b) = pure (.bool !(Op.bytesLess a.toList b.toList || a.toList == b.toList)) := by simp [binOp, Op.stringOp]
attribute [local go_sem] gtr_s
theorem nan_any (s : ByteArray) (w : World) : Calls Tryz.prog 125 #[.string s] w fun e w' => e = .returned (.bool false) ∧ w' = w := by
 go_enter Tryz.func125, Tryz.ntmps125
 go_wp2
 go_ret
 exact ⟨rfl, rfl⟩
theorem cmpc_any (s t : ByteArray) (w : World) : Calls Tryz.prog 91 #[.string s, .string t] w fun e w' => e = .returned (.int .i64 (cmpS s t)) ∧ w' = w := by
 cases h1 : Op.bytesLess s.toList t.toList with
 | true =>
  have hr : cmpS s t = -1 := by simp only [cmpS, ltS, h1]; rfl
  go_enter Tryz.func91, Tryz.ntmps91
  go_wp2_with (go_at_call 125; refine (nan_any _ _).mono ?_; rintro e w1 ⟨rfl, rfl⟩)
  go_ret
  rw [hr]; exact ⟨rfl, rfl⟩
 | false =>
  cases h2 : (s.toList == t.toList) with
  | true =>
   have hr : cmpS s t = 0 := by simp only [cmpS, ltS, h1, h2]; rfl
   go_enter Tryz.func91, Tryz.ntmps91
   go_wp2_with (go_at_call 125; refine (nan_any _ _).mono ?_; rintro e w1 ⟨rfl, rfl⟩)
   go_ret
   rw [hr]; exact ⟨rfl, rfl⟩
  | false =>
   have hr : cmpS s t = 1 := by simp only [cmpS, ltS, h1, h2]; rfl
   go_enter Tryz.func91, Tryz.ntmps91
   go_wp2_with (go_at_call 125; refine (nan_any _ _).mono ?_; rintro e w1 ⟨rfl, rfl⟩)
   go_ret
   rw [hr]; exact ⟨rfl, rfl⟩
theorem rdOf_get {l : List ByteArray} {i : Nat} (h : i < l.length) : rdOf ByteArray.empty l (i : Int) = l[i] := by
 simp [rdOf, List.getD_eq_getElem?_getD, h]
theorem cmpL_drop {a b : List ByteArray} {i : Nat} (h1 : i < a.length) (h2 : i < b.length) : cmpL (a.drop i) (b.drop i) = if cmpS a[i] b[i] = 0 then cmpL (a.drop (i + 1)) (b.drop (i + 1)) else cmpS a[i] b[i] := by
 rw [List.drop_eq_getElem_cons h1, List.drop_eq_getElem_cons h2, cmpL]
theorem cmpl_any (a b : List ByteArray) (A B : Option Addr) (c d : Nat) (w : World) (hA : Kd.C Kd.string w A a.length a) (hB : Kd.C Kd.string w B b.length b) :
    Calls Tryz.prog 65 #[.slice A a.length c, .slice B b.length d] w fun e w' => e = .returned (.int .i64 (cmpL a b)) ∧ Drawn0 w w' := by
 have HA := Aside0.mk hA
 have HB := Aside0.mk hB
 have la := hA.2.1
 have lb := hB.2.1
 clear hA hB
 go_enter Tryz.func65, Tryz.ntmps65
 go_wp2
 go_loopg [11] a.length (fun gg v11 wr => ∃ i : Nat, i ≤ a.length ∧ a.length - i ≤ gg ∧ v11 = .int .i64 i ∧ Aside0 (i ≤ b.length) ∧ Aside0 (Drawn0 w wr) ∧ Aside0 (cmpL a b = cmpL (a.drop i) (b.drop i)))
 case atStart => exact ⟨0, Nat.zero_le _, by omega, rfl, ⟨Nat.zero_le _⟩, ⟨Drawn0.refl _⟩, ⟨rfl⟩⟩
 case round =>
  obtain ⟨i, hi, hg, rfl, HI, HD, HE⟩ := hrel
  by_cases hlt : i < a.length
  · have hltz : (i : Int) < (a.length : Int) := by omega
    obtain ⟨ad, rfl, h0⟩ := Kd.at_string (Kd.C_below HA.out HD.out.below) (i : Int) (by omega) hltz
    rw [Int.toNat_natCast, rdOf_get hlt] at h0
    by_cases hbl : i < b.length
    · have hblz : ¬ (b.length : Int) ≤ (i : Int) := by omega
      have hblz2 : (i : Int) < (b.length : Int) := by omega
      obtain ⟨ad2, rfl, h1⟩ := Kd.at_string (Kd.C_below HB.out HD.out.below) (i : Int) (by omega) hblz2
      rw [Int.toNat_natCast, rdOf_get hbl] at h1
      have hE := HE.out
      rw [cmpL_drop hlt hbl] at hE
      generalize hx : a[i] = x at *
      generalize hy : b[i] = y at *
      by_cases hz : cmpS x y = 0
      · rw [if_pos hz] at hE
        have HE2 := Aside0.mk hE
        clear hE HE hx hy
        go_wp2_with (go_at_call 91; refine (cmpc_any _ _ _).mono ?_; rintro e w1 ⟨rfl, rfl⟩; rw [hz])
        go_roundg (a.length - (i + 1))
        case measure => omega
        case rel => exact ⟨i + 1, by omega, by omega, by go_num, ⟨by omega⟩, HD, HE2⟩
      · rw [if_neg hz] at hE
        have HE2 := Aside0.mk hE
        have hz2 : (cmpS x y != 0) = true := by simpa using hz
        clear hE HE hx hy
        go_wp2_with (go_at_call 91; refine (cmpc_any _ _ _).mono ?_; rintro e w1 ⟨rfl, rfl⟩; rw [show (cmpS x y) = cmpS x y from rfl])
        go_ret
        first | exact ⟨rfl, HD.out⟩ | (rw [HE2.out]; exact ⟨rfl, HD.out⟩)
    · have hblz : (b.length : Int) ≤ (i : Int) := by omega
      have hib : i = b.length := by have := HI.out; omega
      have hr : cmpL a b = 1 := by
       rw [HE.out, List.drop_eq_getElem_cons hlt, List.drop_eq_nil_of_le (by omega : b.length ≤ i), cmpL]
      clear hib
      go_wp2
      go_ret
      first | exact ⟨rfl, HD.out⟩ | (rw [hr]; exact ⟨rfl, HD.out⟩)
  · have hltz : ¬ (i : Int) < (a.length : Int) := by omega
    have hia : i = a.length := by omega
    by_cases hbl : (a.length : Int) < (b.length : Int)
    · have hr : cmpL a b = -1 := by
        rw [HE.out, List.drop_eq_nil_of_le (by omega : a.length ≤ i), List.drop_eq_getElem_cons (by omega : i < b.length), cmpL]
      go_wp2
      go_ret
      first | exact ⟨rfl, HD.out⟩ | (rw [hr]; exact ⟨rfl, HD.out⟩)
    · have hr : cmpL a b = 0 := by
        have := HI.out
        rw [HE.out, List.drop_eq_nil_of_le (by omega : a.length ≤ i), List.drop_eq_nil_of_le (by omega : b.length ≤ i), cmpL]
      go_wp2
      go_ret
      first | exact ⟨rfl, HD.out⟩ | (rw [hr]; exact ⟨rfl, HD.out⟩)
abbrev kPs : Kd (List ByteArray) := Kd.slice 9 Kd.string
theorem cmpl_q (a b : List ByteArray) (A B : Option Addr) (c d : Nat) (w : World) (hA : Kd.C Kd.string w A a.length a) (hB : Kd.C Kd.string w B b.length b) :
    Calls Tryz.prog 65 #[.slice A a.length c, .slice B b.length d] w fun e w' => e = .returned (.int .i64 (cmpL a b)) ∧ ∃ m, w' = w.drewN m :=
 (cmpl_any a b A B c d w hA hB).mono fun _ _ h => ⟨h.1, h.2.out⟩
theorem clos_any (Ps : List (List ByteArray)) (pb : Nat) (A : Option Addr) (c : Nat) (a b : Nat) (ha : a < Ps.length) (hb : b < Ps.length) (W : World)
    (hp : W.cell? ⟨pb, 0, none⟩ = some (.slice A Ps.length c)) (hC : Kd.C kPs W A Ps.length Ps) :
    Calls Tryz.prog 84 #[.int .i64 a, .int .i64 b, .pointer (some ⟨pb, 0, none⟩)] W fun e w' => e = .returned (.int .i64 (cmpL (Ps.getD a []) (Ps.getD b []))) ∧ Drawn0 W w' := by
 have h1 := Kd.C_get hC ([] : List ByteArray) (a : Int) (by omega) (by omega)
 have h2 := Kd.C_get hC ([] : List ByteArray) (b : Int) (by omega) (by omega)
 obtain ⟨ad, c1, rfl, _, hK1, hc1⟩ := h1
 obtain ⟨ad2, c2, e2, _, hK2, hc2⟩ := h2
 cases e2
 obtain ⟨A1, d1, rfl, l1, g1⟩ := hK1
 obtain ⟨A2, d2, rfl, l2, g2⟩ := hK2
 have x1 := hc1 0 _ rfl
 have x2 := hc2 0 _ rfl
 rw [Int.toNat_natCast] at x1 x2 g1 g2
 rw [show a * kPs.sz + 0 = a from by show a * 1 + 0 = a; omega] at x1
 rw [show b * kPs.sz + 0 = b from by show b * 1 + 0 = b; omega] at x2
 have hal : (a : Int) < (Ps.length : Int) := by omega
 have hbl : (b : Int) < (Ps.length : Int) := by omega
 have HG1 := Aside0.mk g1
 have HG2 := Aside0.mk g2
 clear hC hc1 hc2 g1 g2 l1 l2
 generalize Ps.getD a [] = p at *
 generalize Ps.getD b [] = q at *
 go_enter Tryz.func84, Tryz.ntmps84
 go_wp2
 go_quiet ((go_at_call 65; exact Calls.quiet_of (cmpl_q p q A1 A2 d1 d2 _ (Kd.C_below HG1.out (Drawn0.below ⟨⟨_, rfl⟩⟩)) (Kd.C_below HG2.out (Drawn0.below ⟨⟨_, rfl⟩⟩)))))
 go_wp2
 go_ret
 exact ⟨rfl, ⟨⟨_, rfl⟩⟩⟩
end Go.Proofs.YthlflglkdaainaaGreatDoor.Tr
namespace Go.Proofs.YthlflglkdaainaaGreatDoor.Tr
open Go.RowKit
def lSort_ren : Go.Shelf.Ren := ⟨fun | 6 => 83 | 15 => 79 | 14 => 118 | 28 => 115 | 29 => 116 | 20 => 147 | 21 => 148 | 22 => 149 | 23 => 150 | 24 => 151 | 25 => 152 | 26 => 153 | 27 => 154 | 46 => 177 | 47 => 142 | 48 => 143 | 49 => 178 | 50 => 179 | 57 => 197 | n => n, fun | 22 => 76 | 24 => 3 | 25 => 125 | 3 => 3 | 39 => 119 | 0 => 0 | 53 => 134 | 55 => 154 | 4 => 4 | 46 => 146 | 45 => 145 | 50 => 150 | 5 => 5 | 9 => 9 | 66 => 181 | 70 => 185 | 76 => 204 | 77 => 205 | n => n, fun | n => n⟩
theorem lSort : Go.Proofs.SlLaysF.n6 Tryz.prog lSort_ren := {
 mixed := by kernel_rfl
 f6 := ⟨"slices.SortFunc[[]int,int]", by decide, Tryz.func83.trans (congrArg some (by kernel_rfl))⟩
 f14 := ⟨"slices.pdqsortCmpFunc[int]", by decide, Tryz.func118.trans (congrArg some (by kernel_rfl))⟩
 f15 := Tryz.func79.trans (congrArg some (by kernel_rfl))
 f20 := ⟨"slices.insertionSortCmpFunc[int]", by decide, Tryz.func147.trans (congrArg some (by kernel_rfl))⟩
 f21 := ⟨"slices.heapSortCmpFunc[int]", by decide, Tryz.func148.trans (congrArg some (by kernel_rfl))⟩
 f22 := ⟨"slices.breakPatternsCmpFunc[int]", by decide, Tryz.func149.trans (congrArg some (by kernel_rfl))⟩
 f23 := ⟨"slices.choosePivotCmpFunc[int]", by decide, Tryz.func150.trans (congrArg some (by kernel_rfl))⟩
 f24 := ⟨"slices.reverseRangeCmpFunc[int]", by decide, Tryz.func151.trans (congrArg some (by kernel_rfl))⟩
 f25 := ⟨"slices.partialInsertionSortCmpFunc[int]", by decide, Tryz.func152.trans (congrArg some (by kernel_rfl))⟩
 f26 := ⟨"slices.partitionEqualCmpFunc[int]", by decide, Tryz.func153.trans (congrArg some (by kernel_rfl))⟩
 f27 := ⟨"slices.partitionCmpFunc[int]", by decide, Tryz.func154.trans (congrArg some (by kernel_rfl))⟩
 f28 := Tryz.func115.trans (congrArg some (by kernel_rfl))
 f29 := Tryz.func116.trans (congrArg some (by kernel_rfl))
 f46 := ⟨"slices.siftDownCmpFunc[int]", by decide, Tryz.func177.trans (congrArg some (by kernel_rfl))⟩
 f47 := Tryz.func142.trans (congrArg some (by kernel_rfl))
 f48 := Tryz.func143.trans (congrArg some (by kernel_rfl))
 f49 := ⟨"slices.medianAdjacentCmpFunc[int]", by decide, Tryz.func178.trans (congrArg some (by kernel_rfl))⟩
 f50 := ⟨"slices.medianCmpFunc[int]", by decide, Tryz.func179.trans (congrArg some (by kernel_rfl))⟩
 f57 := ⟨"slices.order2CmpFunc[int]", by decide, Tryz.func197.trans (congrArg some (by kernel_rfl))⟩
 t0 := Tryz.underlying0
 a0 := Tryz.isAgg0
 z0 := Tryz.sizeOf0
 v0 := Tryz.zeroValue0
 t3 := Tryz.underlying3
 a3 := Tryz.isAgg3
 z3 := Tryz.sizeOf3
 v3 := Tryz.zeroValue3
 t4 := Tryz.underlying4
 a4 := Tryz.isAgg4
 z4 := Tryz.sizeOf4
 v4 := Tryz.zeroValue4
 t5 := Tryz.underlying5
 a5 := Tryz.isAgg5
 z5 := Tryz.sizeOf5
 v5 := Tryz.zeroValue5
 t9 := Tryz.underlying9
 a9 := Tryz.isAgg9
 z9 := Tryz.sizeOf9
 v9 := Tryz.zeroValue9
 t22 := Tryz.underlying76
 a22 := Tryz.isAgg76
 z22 := Tryz.sizeOf76
 v22 := Tryz.zeroValue76
 a24 := Tryz.isAgg3
 z24 := Tryz.sizeOf3
 t25 := Tryz.underlying125
 a25 := Tryz.isAgg125
 z25 := Tryz.sizeOf125
 v25 := Tryz.zeroValue125
 t39 := Tryz.underlying119
 a39 := Tryz.isAgg119
 z39 := Tryz.sizeOf119
 v39 := Tryz.zeroValue119
 t45 := Tryz.underlying145
 a45 := Tryz.isAgg145
 z45 := Tryz.sizeOf145
 v45 := Tryz.zeroValue145
 t46 := Tryz.underlying146
 a46 := Tryz.isAgg146
 z46 := Tryz.sizeOf146
 v46 := Tryz.zeroValue146
 t50 := Tryz.underlying150
 a50 := Tryz.isAgg150
 z50 := Tryz.sizeOf150
 v50 := Tryz.zeroValue150
 t53 := Tryz.underlying134
 a53 := Tryz.isAgg134
 z53 := Tryz.sizeOf134
 v53 := Tryz.zeroValue134
 t55 := Tryz.underlying154
 a55 := Tryz.isAgg154
 z55 := Tryz.sizeOf154
 v55 := Tryz.zeroValue154
 t66 := Tryz.underlying181
 a66 := Tryz.isAgg181
 z66 := Tryz.sizeOf181
 v66 := Tryz.zeroValue181
 t70 := Tryz.underlying185
 a70 := Tryz.isAgg185
 z70 := Tryz.sizeOf185
 v70 := Tryz.zeroValue185
 t76 := Tryz.underlying204
 a76 := Tryz.isAgg204
 z76 := Tryz.sizeOf204
 v76 := Tryz.zeroValue204
 t77 := Tryz.underlying205
 a77 := Tryz.isAgg205
 z77 := Tryz.sizeOf205
 v77 := Tryz.zeroValue205 }
end Go.Proofs.YthlflglkdaainaaGreatDoor.Tr
namespace Go.Proofs.YthlflglkdaainaaGreatDoor.Tr
open Go.RowKit Go.Lib
theorem bl_irr : ∀ x : List UInt8, Op.bytesLess x x = false
 | [] => rfl
 | a :: x => by
  have ih := bl_irr x
  simp [Op.bytesLess, ih]
theorem bl_tri : ∀ x y : List UInt8, Op.bytesLess x y = false → x ≠ y → Op.bytesLess y x = true
 | [], [], _, h => absurd rfl h
 | [], b :: y, h, _ => by simp [Op.bytesLess] at h
 | a :: x, [], _, _ => by simp [Op.bytesLess]
 | a :: x, b :: y, h, hne => by
  simp only [Op.bytesLess, Bool.or_eq_false_iff, decide_eq_false_iff_not, Bool.and_eq_false_iff, beq_eq_false_iff_ne] at h
  simp only [Op.bytesLess, Bool.or_eq_true, decide_eq_true_eq, Bool.and_eq_true, beq_iff_eq]
  obtain ⟨h1, h2⟩ := h
  by_cases e : a = b
  · subst e
    right
    refine ⟨rfl, bl_tri x y ?_ (fun e => hne (by rw [e]))⟩
    rcases h2 with h2 | h2
    · exact absurd rfl h2
    · exact h2
  · left
    have h3 : ¬ a.toNat = b.toNat := fun h => e (UInt8.toNat_inj.1 h)
    rw [UInt8.lt_iff_toNat_lt] at h1 ⊢
    omega
theorem bl_trans : ∀ x y z : List UInt8, Op.bytesLess x y = true → Op.bytesLess y z = true → Op.bytesLess x z = true
 | [], [], z, h, _ => by simp [Op.bytesLess] at h
 | [], b :: y, [], _, h => by simp [Op.bytesLess] at h
 | [], b :: y, c :: z, _, _ => by simp [Op.bytesLess]
 | a :: x, [], z, h, _ => by simp [Op.bytesLess] at h
 | a :: x, b :: y, [], _, h => by simp [Op.bytesLess] at h
 | a :: x, b :: y, c :: z, h1, h2 => by
  simp only [Op.bytesLess, Bool.or_eq_true, decide_eq_true_eq, Bool.and_eq_true, beq_iff_eq] at h1 h2 ⊢
  rcases h1 with h1 | ⟨rfl, h1⟩
  · rcases h2 with h2 | ⟨rfl, h2⟩
    · left; rw [UInt8.lt_iff_toNat_lt] at *; omega
    · left; exact h1
  · rcases h2 with h2 | ⟨rfl, h2⟩
    · left; exact h2
    · right; exact ⟨rfl, bl_trans x y z h1 h2⟩
theorem str_inj {a b : ByteArray} (h : a.toList = b.toList) : a = b := by
 rw [toList_data, toList_data] at h
 exact ByteArray.ext (Array.toList_inj.1 h)
theorem cmpS_zero {s t : ByteArray} : cmpS s t = 0 ↔ s = t := by
 unfold cmpS ltS
 constructor
 · intro h
   cases h1 : Op.bytesLess s.toList t.toList with
   | true => rw [h1] at h; simp at h
   | false =>
    rw [h1] at h
    by_cases h2 : s.toList = t.toList
    · exact str_inj h2
    · rw [show (s.toList == t.toList) = false from by simpa using h2] at h; simp at h
 · rintro rfl
   rw [bl_irr]; simp
theorem cmpS_neg {s t : ByteArray} : cmpS s t < 0 ↔ Op.bytesLess s.toList t.toList = true := by
 unfold cmpS ltS
 cases h1 : Op.bytesLess s.toList t.toList with
 | true => simp
 | false =>
  by_cases h2 : s.toList = t.toList
  · rw [h2]; simp
  · rw [show (s.toList == t.toList) = false from by simpa using h2]; simp
theorem cmpL_refl : ∀ a : List ByteArray, cmpL a a = 0
 | [] => rfl
 | x :: a => by rw [cmpL, if_pos (cmpS_zero.2 rfl)]; exact cmpL_refl a
theorem cmpL_tri : ∀ a b : List ByteArray, ¬ cmpL a b < 0 → a ≠ b → cmpL b a < 0
 | [], [], _, h => absurd rfl h
 | [], _ :: _, h, _ => by simp [cmpL] at h
 | _ :: _, [], _, _ => by simp [cmpL]
 | x :: a, y :: b, h, hne => by
  rw [cmpL] at h ⊢
  by_cases e : cmpS x y = 0
  · rw [if_pos e] at h
    have exy := cmpS_zero.1 e
    subst exy
    rw [if_pos e]
    exact cmpL_tri a b h (fun e2 => hne (by rw [e2]))
  · rw [if_neg e] at h
    have hxy : x ≠ y := fun h => e (cmpS_zero.2 h)
    rw [if_neg (fun h => hxy (cmpS_zero.1 h).symm)]
    rw [cmpS_neg] at h ⊢
    exact bl_tri _ _ (by simpa using h) (fun h2 => hxy (str_inj h2))
theorem cmpL_trans : ∀ a b c : List ByteArray, cmpL a b < 0 → cmpL b c < 0 → cmpL a c < 0
 | [], [], _, h, _ => by simp [cmpL] at h
 | [], _ :: _, [], _, h => by simp [cmpL] at h
 | [], _ :: _, _ :: _, _, _ => by simp [cmpL]
 | _ :: _, [], _, h, _ => by simp [cmpL] at h
 | _ :: _, _ :: _, [], _, h => by simp [cmpL] at h
 | x :: a, y :: b, z :: c, h1, h2 => by
  rw [cmpL] at h1 h2 ⊢
  by_cases e1 : cmpS x y = 0
  · have := cmpS_zero.1 e1
    subst this
    rw [if_pos e1] at h1
    by_cases e2 : cmpS x z = 0
    · rw [if_pos e2] at h2 ⊢; exact cmpL_trans a b c h1 h2
    · rw [if_neg e2] at h2 ⊢; exact h2
  · rw [if_neg e1] at h1
    by_cases e2 : cmpS y z = 0
    · have := cmpS_zero.1 e2
      subst this
      rw [if_neg e1]; exact h1
    · rw [if_neg e2] at h2
      have h3 := bl_trans _ _ _ (cmpS_neg.1 h1) (cmpS_neg.1 h2)
      have h4 := cmpS_neg.2 h3
      rw [if_neg (by omega)]; exact h4
end Go.Proofs.YthlflglkdaainaaGreatDoor.Tr
namespace Go.Proofs.YthlflglkdaainaaGreatDoor.Tr
open Go.RowKit Go.Lib Go.Sort Go.Shelf Go.Proofs.YthlflglkdaainaaGreatDoorW.PrintWords Go.Proofs.YthlflglkdaainaaGreatDoorW.PrintLast Go.Proofs.YthlflglkdaainaaGreatDoorW.PrintMore Go.Proofs.YthlflglkdaainaaGreatDoor.Prt
theorem heap_sw_other {α : Type} [Inhabited α] (enc : α → Value) (W : World) (blk off n : Nat) (dk : Array α) (os : Array Obj) (k : Nat) (h1 : k ≠ blk) (h2 : k < W.heap.size) : (sortWorld enc W blk off n dk os).heap[k]? = W.heap[k]? := by
 unfold sortWorld
 rw [heap_grow_old _ _ (by rw [size_putRow]; exact h2)]
 unfold putRow mapBlock
 simp only [Array.getElem?_modify]
 rw [if_neg (fun e => h1 e.symm)]
 rfl
def encF {n : Nat} (x : Fin n) : Value := .int .i64 (x.val : Int)
def cfF (Ps : List (List ByteArray)) (x y : Fin Ps.length) : Int := cmpL (Ps.getD x.val []) (Ps.getD y.val [])
theorem clos_lays (Ps : List (List ByteArray)) [Inhabited (Fin Ps.length)] (pb g : Nat) (A : Option Addr) (c base : Nat) (w : World) (hpb : pb ≠ g) (hpl : pb < w.heap.size)
    (hp : w.cell? ⟨pb, 0, none⟩ = some (.slice A Ps.length c)) (hR : Kd.R kPs 65 w base (fun k => k ≠ g) (.slice A Ps.length c) Ps) :
    CmpLays1 Tryz.prog 84 #[.pointer (some ⟨pb, 0, none⟩)] encF (cfF Ps) g 0 Ps.length w := by
 refine CmpReads.lays ?_
 intro m os dk hdk x y
 have hR2 : Kd.R kPs 65 (sortWorld encF w g 0 m dk os) base (fun k => k ≠ g) (.slice A Ps.length c) Ps := Kd.R_step hR (fun k hk hl => heap_sw_other _ _ _ _ _ _ _ _ hk hl)
 have hp2 : (sortWorld encF w g 0 m dk os).cell? ⟨pb, 0, none⟩ = some (.slice A Ps.length c) := by
  have h := heap_sw_other (encF (n := Ps.length)) w g 0 m dk os pb hpb hpl
  simp only [World.cell?, h]
  exact hp
 exact (clos_any Ps pb A c x.val y.val x.isLt y.isLt _ hp2 (Kd.R_reads' hR2).2.2).mono fun _ _ h => ⟨h.1, h.2.out⟩
theorem cf_swo (Ps : List (List ByteArray)) : SWO (ltOf (cfF Ps)) := by
 have hlt : ∀ x y, ltOf (cfF Ps) x y = decide (cmpL (Ps.getD x.val []) (Ps.getD y.val []) < 0) := fun x y => rfl
 refine ⟨fun x => ?_, fun x y z h1 h2 => ?_, fun x y z h1 h2 => ?_⟩
 · rw [hlt, cmpL_refl]; rfl
 · rw [hlt, decide_eq_true_eq] at *; exact cmpL_trans _ _ _ h1 h2
 · rw [hlt, decide_eq_false_iff_not] at *
   intro h3
   by_cases e : Ps.getD x.val [] = Ps.getD y.val []
   · rw [e] at h3; exact h2 h3
   · exact h2 (cmpL_trans _ _ _ (cmpL_tri _ _ h1 e) h3)
theorem cf_tot {Ps : List (List ByteArray)} (hinj : ∀ i j : Fin Ps.length, Ps.getD i.val [] = Ps.getD j.val [] → i = j) (x y : Fin Ps.length) (h1 : ltOf (cfF Ps) x y = false) (h2 : ltOf (cfF Ps) y x = false) : x = y := by
 have hlt : ∀ x y, ltOf (cfF Ps) x y = decide (cmpL (Ps.getD x.val []) (Ps.getD y.val []) < 0) := fun x y => rfl
 rw [hlt, decide_eq_false_iff_not] at h1 h2
 by_cases e : Ps.getD x.val [] = Ps.getD y.val []
 · exact hinj x y e
 · exact absurd (cmpL_tri _ _ h1 e) h2
theorem sortf_any (Ps : List (List ByteArray)) [Inhabited (Fin Ps.length)] (pb g cap : Nat) (A : Option Addr) (c base : Nat) (w : World) (d : Array (Fin Ps.length)) (hd : d.size = Ps.length) (hn : Ps.length ≤ 100000) (hpb : pb ≠ g) (hpl : pb < w.heap.size) (hg : g < w.heap.size)
    (hp : w.cell? ⟨pb, 0, none⟩ = some (.slice A Ps.length c)) (hR : Kd.R kPs 65 w base (fun k => k ≠ g) (.slice A Ps.length c) Ps)
    (hH : Holds encF w g 0 d) (hinj : ∀ i j : Fin Ps.length, Ps.getD i.val [] = Ps.getD j.val [] → i = j) :
    Calls Tryz.prog 83 #[.slice (some ⟨g, 0, none⟩) Ps.length cap, .func (.func 84) #[] #[.pointer (some ⟨pb, 0, none⟩)]] w fun e w' =>
     e = .returned (.tuple #[]) ∧ ∃ n os, w' = sortWorld encF w g 0 n (d.toList.mergeSort fun x y => !(ltOf (cfF Ps)) y x).toArray os := by
 have h := Any.slices_SortFunc_total lSort encF (fun _ => rfl) (cfF Ps) (cf_swo Ps) 84 #[.pointer (some ⟨pb, 0, none⟩)] g 0 cap d w (enters_of Tryz.func84 (by kernel_rfl) rfl) (by rw [hd]; exact clos_lays Ps pb g A c base w hpb hpl hp hR) hH hg (by omega) (cf_tot hinj)
 rw [hd] at h
 exact h
end Go.Proofs.YthlflglkdaainaaGreatDoor.Tr
namespace Go.Proofs.YthlflglkdaainaaGreatDoor.Tr
open Go.RowKit Go.Lib
theorem path_ne {L : List It} {i : Nat} (hp : ∀ j : Nat, j ≤ i → parB L j = true) : pathN L i ≠ [] := by
 rw [path_step hp]; simp
theorem no_dup {L : List It} {i j : Nat} (hij : i < j) (hj : j < L.length) (ho : okAtB L j = true) (h0 : (itA L i).f0 = (itA L j).f0) (h1 : (itA L i).f1 = (itA L j).f1) : False := by
 simp only [okAtB, Bool.and_eq_true, Bool.not_eq_true'] at ho
 have h2 := ho.2
 unfold dupB at h2
 rw [List.any_eq_false] at h2
 have hm : L[i] ∈ L.take j := by
  rw [List.mem_take_iff_getElem]
  exact ⟨i, by omega, rfl⟩
 refine h2 _ hm ?_
 rw [← itA_get (by omega : i < L.length), h0, h1]; simp
theorem path_inj {L : List It} (hd : depB L = true) : ∀ (t i j : Nat), i ≤ t → i < L.length → j < L.length → pathN L i = pathN L j → i = j := by
 simp only [depB, List.all_eq_true, List.mem_range] at hd
 have hp : ∀ i : Nat, i < L.length → ∀ j : Nat, j ≤ i → parB L j = true := fun i hi j hj => okAt_par (hd j (by omega))
 intro t
 induction t with
 | zero =>
  intro i j hi h1 h2 h
  obtain rfl : i = 0 := by omega
  have p0 := par_ok (hp 0 h1 0 (Nat.le_refl _))
  have q0 := par_ok (hp j h2 j (Nat.le_refl _))
  rw [path_step (hp 0 h1), path_step (hp j h2)] at h
  obtain ⟨ha, hb⟩ := List.append_inj' h rfl
  have e1 : (itA L ((0 : Nat) : Int)).f1 = (itA L (j : Int)).f1 := by simpa using hb
  have e0 : (itA L ((0 : Nat) : Int)).f0 = -1 := by omega
  rw [e0, path_top] at ha
  have e2 : (itA L (j : Int)).f0 = -1 := by
   by_cases c : (itA L (j : Int)).f0 = -1
   · exact c
   · obtain ⟨q, hq⟩ : ∃ q : Nat, (itA L (j : Int)).f0 = q := ⟨(itA L (j : Int)).f0.toNat, by omega⟩
     rw [hq] at ha
     exact absurd ha.symm (path_ne (hp q (by omega)))
  by_cases e : (0 : Nat) = j
  · exact e
  · exact (no_dup (by omega : 0 < j) h2 (hd j h2) (by rw [e0, e2]) e1).elim
 | succ t ih =>
  intro i j hi h1 h2 h
  have p0 := par_ok (hp i h1 i (Nat.le_refl _))
  have q0 := par_ok (hp j h2 j (Nat.le_refl _))
  have h' := h
  rw [path_step (hp i h1), path_step (hp j h2)] at h
  obtain ⟨ha, hb⟩ := List.append_inj' h rfl
  have e1 : (itA L (i : Int)).f1 = (itA L (j : Int)).f1 := by simpa using hb
  have e0 : (itA L (i : Int)).f0 = (itA L (j : Int)).f0 := by
   by_cases c : (itA L (i : Int)).f0 = -1
   · by_cases d : (itA L (j : Int)).f0 = -1
     · rw [c, d]
     · obtain ⟨q, hq⟩ : ∃ q : Nat, (itA L (j : Int)).f0 = q := ⟨(itA L (j : Int)).f0.toNat, by omega⟩
       rw [c, path_top, hq] at ha
       exact absurd ha.symm (path_ne (hp q (by omega)))
   · obtain ⟨p, hpp⟩ : ∃ p : Nat, (itA L (i : Int)).f0 = p := ⟨(itA L (i : Int)).f0.toNat, by omega⟩
     by_cases d : (itA L (j : Int)).f0 = -1
     · rw [d, path_top, hpp] at ha
       exact absurd ha (path_ne (hp p (by omega)))
     · obtain ⟨q, hq⟩ : ∃ q : Nat, (itA L (j : Int)).f0 = q := ⟨(itA L (j : Int)).f0.toNat, by omega⟩
       rw [hpp, hq] at ha
       rw [hpp, hq, ih p q (by omega) (by omega) (by omega) ha]
  rcases Nat.lt_trichotomy i j with hlt | heq | hgt
  · exact (no_dup hlt h2 (hd j h2) e0 e1).elim
  · exact heq
  · exact (no_dup hgt h1 (hd i h1) e0.symm e1.symm).elim
def insO (lt : Nat → Nat → Bool) (i : Nat) (o : List Nat) : List Nat := o.takeWhile (fun x => lt x i) ++ i :: o.dropWhile (fun x => lt x i)
def ordR (lt : Nat → Nat → Bool) : Nat → List Nat
 | 0 => []
 | n + 1 => insO lt n (ordR lt n)
theorem ins_perm (lt : Nat → Nat → Bool) (i : Nat) (o : List Nat) : (insO lt i o).Perm (i :: o) := by
 unfold insO
 refine List.perm_middle.trans ?_
 rw [List.takeWhile_append_dropWhile]
theorem ord_perm (lt : Nat → Nat → Bool) : ∀ n, (ordR lt n).Perm (List.range n)
 | 0 => List.Perm.refl _
 | n + 1 => by
  rw [List.range_succ, ordR]
  refine (ins_perm lt n _).trans ?_
  refine ((ord_perm lt n).cons n).trans ?_
  exact List.perm_append_comm (l₁ := [n]) (l₂ := List.range n)
theorem ins_sorted {lt : Nat → Nat → Bool} {i : Nat} {o : List Nat} (ht : ∀ a b c, lt a b = true → lt b c = true → lt a c = true) (hi : ∀ x ∈ o, lt x i = false → lt i x = true) (h : o.Pairwise fun a b => lt a b = true) : (insO lt i o).Pairwise fun a b => lt a b = true := by
 have hsplit := List.takeWhile_append_dropWhile (p := fun x => lt x i) (l := o)
 rw [← hsplit] at h
 obtain ⟨h1, h2, h3⟩ := List.pairwise_append.1 h
 have hlow : ∀ a ∈ o.takeWhile (fun x => lt x i), lt a i = true := fun a ha => by
  have := List.all_takeWhile (p := fun x => lt x i) (l := o)
  rw [List.all_eq_true] at this
  exact this a ha
 have hhigh : ∀ b ∈ o.dropWhile (fun x => lt x i), lt i b = true := by
  cases hd : o.dropWhile (fun x => lt x i) with
  | nil => intro b hb; cases hb
  | cons y l =>
   have hy : lt y i = false := by
    have hne : o.dropWhile (fun x => lt x i) ≠ [] := by rw [hd]; simp
    have := List.head_dropWhile_not (fun x => lt x i) hne
    simpa [hd] using this
   have hyo : y ∈ o := by rw [← hsplit, hd]; simp
   have hiy := hi y hyo hy
   rw [hd] at h2
   intro b hb
   rcases List.mem_cons.1 hb with rfl | hb
   · exact hiy
   · exact ht _ _ _ hiy ((List.pairwise_cons.1 h2).1 b hb)
 unfold insO
 refine List.pairwise_append.2 ⟨h1, List.pairwise_cons.2 ⟨hhigh, h2⟩, fun a ha b hb => ?_⟩
 rcases List.mem_cons.1 hb with rfl | hb
 · exact hlow a ha
 · exact h3 a ha b hb
theorem ord_sorted {lt : Nat → Nat → Bool} (ht : ∀ a b c, lt a b = true → lt b c = true → lt a c = true) : ∀ n, (∀ i j, i < n → j < n → i ≠ j → lt i j = false → lt j i = true) → (ordR lt n).Pairwise fun a b => lt a b = true
 | 0, _ => List.Pairwise.nil
 | n + 1, h => by
  rw [ordR]
  refine ins_sorted ht (fun x hx hl => ?_) (ord_sorted ht n (fun i j hi hj => h i j (by omega) (by omega)))
  have := (ord_perm lt n).mem_iff.1 hx
  exact h x n (by have := List.mem_range.1 this; omega) (by omega) (by have := List.mem_range.1 this; omega) hl
theorem ord_one {lt : Nat → Nat → Bool} (hirr : ∀ a, lt a a = false) (ht : ∀ a b c, lt a b = true → lt b c = true → lt a c = true) {n : Nat} (h : ∀ i j, i < n → j < n → i ≠ j → lt i j = false → lt j i = true) {m : List Nat} (hp : m.Perm (List.range n)) (hs : m.Pairwise fun a b => lt a b = true) : m = ordR lt n := by
 refine List.Perm.eq_of_pairwise (fun a b _ _ h1 h2 => ?_) hs (ord_sorted ht n h) (hp.trans (ord_perm lt n).symm)
 have := ht _ _ _ h1 h2
 rw [hirr] at this; cases this
def ltP (L : List It) (i j : Nat) : Bool := decide (cmpL (pathN L i) (pathN L j) < 0)
theorem ltP_irr (L : List It) (a : Nat) : ltP L a a = false := by
 unfold ltP; rw [cmpL_refl]; rfl
theorem ltP_trans (L : List It) (a b c : Nat) (h1 : ltP L a b = true) (h2 : ltP L b c = true) : ltP L a c = true := by
 unfold ltP at *
 rw [decide_eq_true_eq] at *
 exact cmpL_trans _ _ _ h1 h2
theorem ltP_tri {L : List It} (hd : depB L = true) (i j : Nat) (hi : i < L.length) (hj : j < L.length) (hne : i ≠ j) (h : ltP L i j = false) : ltP L j i = true := by
 unfold ltP at *
 rw [decide_eq_false_iff_not] at h
 rw [decide_eq_true_eq]
 exact cmpL_tri _ _ h (fun e => hne (path_inj hd i i j (Nat.le_refl _) hi hj e))
end Go.Proofs.YthlflglkdaainaaGreatDoor.Tr
namespace Go.Proofs.YthlflglkdaainaaGreatDoor.Tr
open Go.RowKit Go.Lib Go.Sort Go.Shelf Go.Proofs.YthlflglkdaainaaGreatDoorW.PrintWords Go.Proofs.YthlflglkdaainaaGreatDoorW.PrintLast Go.Proofs.YthlflglkdaainaaGreatDoorW.PrintMore Go.Proofs.YthlflglkdaainaaGreatDoor.Prt
structure So1 (w : World) (L : List It) (pb : Nat) (Ap : Option Addr) (cp : Nat) (Ao : Option Addr) (co : Nat) (i : Nat) (wr : World) : Prop where
 below : Below w.heap.size w wr
 base : w.heap.size ≤ pb
 box : wr.heap[pb]? = some (.cells #[.slice Ap L.length cp] 87 (0, 0))
 ps : Kd.R kPs 65 wr w.heap.size (fun k => k ≠ pb ∧ some k ≠ (Value.slice Ao L.length co).ownBlock) (.slice Ap L.length cp) (fillTo (fun j => pathN L (j : Int)) [] L.length i)
 os : Kd.R (Kd.int .i64) 3 wr w.heap.size (fun k => k ≠ pb ∧ some k ≠ (Value.slice Ap L.length cp).ownBlock) (.slice Ao L.length co) (fillTo (fun j => (j : Int)) 0 L.length i)
section
variable {w wr w5 : World} {L : List It} {pb cp co i : Nat} {Ap Ao : Option Addr} {v5 : Value}
theorem box_lt (h : So1 w L pb Ap cp Ao co i wr) : pb < wr.heap.size := (Array.getElem?_eq_some_iff.1 h.box).1
theorem so1_on (h : So1 w L pb Ap cp Ao co i wr) (hb : Below wr.heap.size wr w5) : So1 w L pb Ap cp Ao co i w5 :=
 ⟨h.below.trans (hb.mono h.below.size), h.base, (hb.block pb (box_lt h)).trans h.box, Kd.R_below h.ps hb, Kd.R_below h.os hb⟩
theorem so1_form (h : So1 w L pb Ap cp Ao co i wr) (hi : 0 < L.length) : ∃ gp go, Ap = some ⟨gp, 0, none⟩ ∧ Ao = some ⟨go, 0, none⟩ ∧ gp ≠ go ∧ gp ≠ pb ∧ go ≠ pb ∧ w.heap.size ≤ gp ∧ w.heap.size ≤ go := by
 obtain ⟨gp, c1, e1, b1, l1, _⟩ := Kd.R_form h.ps (by rw [fill_length]; omega)
 obtain ⟨go, c2, e2, b2, l2, _⟩ := Kd.R_form h.os (by rw [fill_length]; omega)
 rw [fill_length] at e1 e2
 cases e1; cases e2
 have p1 := h.ps.1 gp rfl
 have p2 := h.os.1 go rfl
 refine ⟨gp, go, rfl, rfl, fun e => p1.2 (by subst e; rfl), p1.1, p2.1, b1, b2⟩
theorem box_cell (h : So1 w L pb Ap cp Ao co i wr) : wr.cell? ⟨pb, 0, none⟩ = some (.slice Ap L.length cp) := by
 simp [World.cell?, h.box]
theorem so1_step {gp go : Nat} (h : So1 w L pb (some ⟨gp, 0, none⟩) cp (some ⟨go, 0, none⟩) co i wr) (hb : Below wr.heap.size wr w5) (hv : Kd.R Kd.string 9 w5 wr.heap.size (fun _ => True) v5 (pathN L (i : Int))) (hi : i < L.length) :
    So1 w L pb (some ⟨gp, 0, none⟩) cp (some ⟨go, 0, none⟩) co (i + 1) ((w5.setCell ⟨gp, i, none⟩ v5).setCell ⟨go, i, none⟩ (.int .i64 (i : Int))) := by
 have h5 := so1_on h hb
 obtain ⟨_, _, e1, e2, n1, n2, n3, n4, n5⟩ := so1_form h (by omega)
 cases e1; cases e2
 obtain ⟨_, _, e1, _, l1, _⟩ := Kd.R_form h.ps (by rw [fill_length]; omega)
 obtain ⟨_, _, e2, _, l2, _⟩ := Kd.R_form h.os (by rw [fill_length]; omega)
 rw [fill_length] at e1 e2
 cases e1; cases e2
 have hpl := box_lt h
 have hx : Kd.R Kd.string 9 w5 w.heap.size (fun k => (k ≠ pb ∧ some k ≠ (Value.slice (some ⟨go, 0, none⟩) L.length co).ownBlock) ∧ k ≠ gp) v5 (pathN L (i : Int)) :=
  Kd.R_lower (Kd.R_mono (Kd.R_bound hv) (fun k hk => ⟨⟨by have := hk.2.1; omega, fun e => by have e : k = go := Option.some.inj e; have := hk.2.1; omega⟩, by have := hk.2.1; omega⟩)) h.below.size
 obtain ⟨r1, g1⟩ := rs_put h5.ps hx i
 have o1 := Kd.R_putg (W := w5.setCell ⟨gp, i, none⟩ v5) (Kd.R_far (p := ⟨gp, i, none⟩) h5.os (fun k hk => fun e => hk.2 (by show some k = some gp; rw [e])) v5) (i : Int) (i : Int)
 rw [Int.toNat_natCast] at o1
 rw [fill_set (fun j => pathN L (j : Int))] at r1
 rw [fill_set (fun j => (j : Int))] at o1
 exact {
  below := (h5.below.setCell (p := ⟨gp, i, none⟩) n4 v5).setCell (p := ⟨go, i, none⟩) n5 _
  base := h.base
  box := by
   rw [Below.heap_setCell _ _ _ _ (fun e => n3 e.symm), Below.heap_setCell _ _ _ _ (fun e => n2 e.symm)]
   exact h5.box
  ps := Kd.R_far (p := ⟨go, i, none⟩) r1 (fun k hk => fun e => hk.2 (by show some k = some go; rw [e])) _
  os := o1.1 }
theorem so1_cells {gp go : Nat} (h : So1 w L pb (some ⟨gp, 0, none⟩) cp (some ⟨go, 0, none⟩) co i wr) (hi : i < L.length) : (∃ u, wr.cell? ⟨gp, i, none⟩ = some u ∧ wr.frozen? ⟨gp, i, none⟩ = false) ∧ ∃ u, wr.cell? ⟨go, i, none⟩ = some u ∧ wr.frozen? ⟨go, i, none⟩ = false := by
 refine ⟨rs_cell h.ps i hi, ?_⟩
 have := Kd.R_celln 0 h.os (i : Int) (by omega) (by omega)
 rw [Int.toNat_natCast] at this
 exact ⟨_, this⟩
end
def pathsL (L : List It) : List (List ByteArray) := (List.range L.length).map fun j : Nat => pathN L (j : Int)
def ordI (L : List It) : List Int := (ordR (ltP L) L.length).map fun k : Nat => (k : Int)
theorem take_cells {n : Nat} [Inhabited (Fin n)] (cur : Array Value) (ts : List (Fin n)) (h : ts.length ≤ cur.size) : (putCells encF 0 ts.toArray cur).toList.take ts.length = ts.map encF := by
 apply List.ext_getElem?
 intro j
 by_cases hj : j < ts.length
 · rw [List.getElem?_take_of_lt hj, Array.getElem?_toList]
   simp [putCells, hj, show j < cur.size by omega]
 · rw [List.getElem?_take_eq_none (by omega), List.getElem?_eq_none (by simp; omega)]
theorem own_sortedF {n : Nat} [Inhabited (Fin n)] {W : World} {base g cap m : Nat} {e : TypeId} {os : Array Obj} {cur : Array Value} {ts : List (Fin n)} (hl : ts.length = n) (hbase : base ≤ g) (hb : W.heap[g]? = some (.cells cur e (0, 0)))
    (h1 : n ≤ cap) (h2 : cap ≤ maxLen) (h3 : cur.size = cap * 1) :
    (sortWorld encF W g 0 m ts.toArray os).ownsRow base e 1 (.slice (some ⟨g, 0, none⟩) n cap) n (ts.map encF) := by
 have hg : g < W.heap.size := (Array.getElem?_eq_some_iff.1 hb).1
 have hh : (sortWorld encF W g 0 m ts.toArray os).heap[g]? = some (.cells (putCells encF 0 ts.toArray cur) e (0, 0)) := by
  unfold sortWorld
  rw [heap_grow_old _ _ (by simpa using hg)]
  simp [putRow, mapBlock, Sort.ahead, Array.getElem?_modify, hb, onCells]
 refine ⟨by simp [hl], .inr ⟨g, cap, _, rfl, hbase, hh, h1, h2, by simp [putCells, h3], ?_⟩⟩
 rw [Nat.mul_one]
 have := take_cells cur ts (by omega)
 rw [hl] at this
 exact this
theorem grown_sortedF {n : Nat} [Inhabited (Fin n)] {W : World} {g m : Nat} {os : Array Obj} (d : Array (Fin n)) : W.grownBy (sortWorld encF W g 0 m d os) (some g) := by
 refine ⟨rfl, rfl, rfl, by simp [sortWorld], fun k hk hne => ?_⟩
 exact heap_sw_other _ _ _ _ _ _ _ _ (fun e => hne (by rw [e])) hk
theorem sort_step {w wr : World} {L : List It} {pb cp co : Nat} {Ap Ao : Option Addr} (h : So1 w L pb Ap cp Ao co L.length wr) (hd : depB L = true) (hn : L.length ≤ 64) :
    Calls Tryz.prog 83 #[.slice Ao L.length co, .func (.func 84) #[] #[.pointer (some ⟨pb, 0, none⟩)]] wr fun e w' =>
     e = .returned (.tuple #[]) ∧ Below w.heap.size w w' ∧ Kd.R (Kd.int .i64) 3 w' w.heap.size (fun _ => True) (.slice Ao L.length co) (ordI L) := by
 by_cases h0 : L.length = 0
 · obtain rfl : L = [] := List.length_eq_zero_iff.1 h0
   refine (AnyF.slices_SortFunc_none { lSort with } Ao co _ wr).mono ?_
   rintro e w' ⟨rfl, rfl⟩
   exact ⟨rfl, h.below, Kd.R_mono h.os (fun _ _ => trivial)⟩
 · obtain ⟨gp, go, rfl, rfl, n1, n2, n3, n4, n5⟩ := so1_form h (by omega)
   have hps : fillTo (fun j => pathN L (j : Int)) [] L.length L.length = pathsL L := fill_all _ _ _
   have hos : fillTo (fun j => (j : Int)) 0 L.length L.length = (List.range L.length).map fun j : Nat => (j : Int) := fill_all _ _ _
   have HP := h.ps
   have HO := h.os
   rw [hps] at HP
   rw [hos] at HO
   have hlen : (pathsL L).length = L.length := by simp [pathsL]
   have hget : ∀ i : Nat, i < L.length → (pathsL L).getD i [] = pathN L (i : Int) := fun i hi => by
    simp [pathsL, List.getD_eq_getElem?_getD, hi]
   haveI : Inhabited (Fin (pathsL L).length) := ⟨⟨0, by omega⟩⟩
   obtain ⟨g2, c2, e2, b2, l2, cells, hcells⟩ := Kd.R_form HO (by simp; omega)
   rw [show ((List.range L.length).map fun j : Nat => (j : Int)).length = L.length by simp] at e2
   cases e2
   have hlist : (List.finRange (pathsL L).length).length = (pathsL L).length := List.length_finRange
   have hH : Holds encF wr go 0 (List.finRange (pathsL L).length).toArray := by
    intro j hj
    have hj2 : j < (pathsL L).length := by simpa using hj
    have := Kd.R_celln 0 h.os (j : Int) (by omega) (by omega)
    rw [Int.toNat_natCast, hos] at this
    rw [Nat.zero_add]
    refine ⟨?_, this.2⟩
    rw [this.1]
    have e1 : (List.finRange (pathsL L).length).toArray[j]! = ⟨j, hj2⟩ := by
     rw [getElem!_pos _ j hj]; simp
    rw [e1]
    show some (Value.int .i64 _) = some (Value.int .i64 (j : Int))
    congr 2
    simp [rdOf, List.getD_eq_getElem?_getD, hlen ▸ hj2]
   have hinj : ∀ i j : Fin (pathsL L).length, (pathsL L).getD i.val [] = (pathsL L).getD j.val [] → i = j := fun i j e => by
    have hi := i.isLt; have hj := j.isLt
    rw [hget _ (by omega), hget _ (by omega)] at e
    exact Fin.ext (path_inj hd _ i.val j.val (Nat.le_refl _) (by omega) (by omega) e)
   have HC0 : Kd.R kPs 65 wr w.heap.size (fun k => k ≠ go) (.slice (some ⟨gp, 0, none⟩) (pathsL L).length cp) (pathsL L) := by
    rw [hlen]
    exact Kd.R_mono HP (fun k hk => fun e => hk.2 (by rw [e]; rfl))
   have hS := sortf_any (pathsL L) pb go co (some ⟨gp, 0, none⟩) cp w.heap.size wr (List.finRange (pathsL L).length).toArray (by simp) (by omega) (fun e => n3 e.symm) (box_lt h) l2 (by rw [hlen]; exact box_cell h) HC0 hH hinj
   rw [show Value.slice (some ⟨go, 0, none⟩) L.length co = Value.slice (some ⟨go, 0, none⟩) (pathsL L).length co by rw [hlen]]
   refine hS.mono ?_
   rintro e w' ⟨rfl, m, os, rfl⟩
   generalize hts : (List.finRange (pathsL L).length).toArray.toList.mergeSort (fun x y => !(ltOf (cfF (pathsL L))) y x) = ts
   have hperm : ts.Perm (List.finRange (pathsL L).length) := by
    rw [← hts]; exact List.mergeSort_perm _ _
   have htl : ts.length = (pathsL L).length := by rw [hperm.length_eq, hlist]
   have hlt : ∀ x y, ltOf (cfF (pathsL L)) x y = ltP L x.val y.val := fun x y => by
    have hx := x.isLt; have hy := y.isLt
    show decide (cmpL ((pathsL L).getD x.val []) ((pathsL L).getD y.val []) < 0) = _
    rw [hget _ (by omega), hget _ (by omega)]; rfl
   have hpw : ts.Pairwise fun x y => (!(ltOf (cfF (pathsL L))) y x) = true := by
    rw [← hts]
    refine List.pairwise_mergeSort (fun a b c h1 h2 => ?_) (fun a b => ?_) _
    · rw [Bool.not_eq_true'] at *
      exact (cf_swo (pathsL L)).ntrans c b a h2 h1
    · cases h1 : ltOf (cfF (pathsL L)) b a with
      | false => rfl
      | true =>
       cases h2 : ltOf (cfF (pathsL L)) a b with
       | false => rfl
       | true =>
        have := (cf_swo (pathsL L)).trans _ _ _ h1 h2
        rw [(cf_swo (pathsL L)).irrefl] at this
        cases this
   have hval : ts.map (·.val) = ordR (ltP L) L.length := by
    refine ord_one (ltP_irr L) (ltP_trans L) (fun i j => ltP_tri hd i j) ?_ ?_
    · have := hperm.map (·.val)
      have e2 : (List.finRange (pathsL L).length).map (·.val) = List.range L.length := by
       rw [← hlen]
       apply List.ext_getElem
       · simp
       · intro j h1 h2; simp
      rw [e2] at this
      exact this
    · rw [List.pairwise_map]
      have hnd : ts.Nodup := hperm.nodup_iff.2 (List.nodup_finRange _)
      refine (List.Pairwise.and hpw hnd).imp ?_
      rintro x y ⟨h1, h2⟩
      rw [Bool.not_eq_true', hlt] at h1
      have hx := x.isLt; have hy := y.isLt
      exact ltP_tri hd y.val x.val (by omega) (by omega) (fun e => h2 (Fin.ext e.symm)) h1
   have hrow : (sortWorld encF wr go 0 m ts.toArray os).ownsRow w.heap.size 3 1 (.slice (some ⟨go, 0, none⟩) (pathsL L).length co) (ordI L).length (encs (Value.int .i64) (ordI L)) := by
    have hcap : ∃ cur, wr.heap[go]? = some (.cells cur 3 (0, 0)) ∧ L.length ≤ co ∧ co ≤ maxLen ∧ cur.size = co * 1 := by
     obtain ⟨_, inner, ho, _⟩ := h.os
     rcases ho.2 with ⟨e9, _⟩ | ⟨g9, cap9, cur9, e9, _, hh, q1, q2, q3, _⟩
     · cases e9
     · rw [fill_length] at q1; try rw [fill_length] at e9
       cases e9
       exact ⟨cur9, hh, q1, q2, q3⟩
    obtain ⟨cur, hh, q1, q2, q3⟩ := hcap
    have h1 := own_sortedF (m := m) (os := os) htl n5 hh (by rw [hlen]; exact q1) q2 q3
    have e1 : ts.map encF = encs (Value.int .i64) (ordI L) := by
     unfold ordI encs
     rw [← hval, List.map_map, List.map_map]
     rfl
    have e2 : (ordI L).length = (pathsL L).length := by
     unfold ordI
     rw [← hval, List.length_map, List.length_map, htl]
    rw [← e1, e2]
    exact h1
   refine ⟨rfl, Below.grown h.below (grown_sortedF ts.toArray) h.below.size (fun k hk => by have : go = k := Option.some.inj hk; omega), Kd.R_of_own hrow (fun _ _ => trivial)⟩
section
variable {P : Program} {ops : Array Oper} {rest : List Oper} {o : Oper} {a : Act} {Q : Exit → Act → World → Prop} {α : Type}
theorem R_make0 (d : Kd α) {w0 W : World} (base e : Nat) (hgd : o.guard = none) {N : Tmp} (_hd : o.dst = some N) (t : TypeId) (x y : Operand) (ho : o.op = .makeSlice t x y) (n : Nat) (hx : a.eval x = .int .i64 0) (hy : a.eval y = .int .i64 n)
    (ht : P.underlying t = some (.slice e)) (z : Value) (bytes : Nat) (hinfo : (P.info? e).map (fun i => (i.zero, i.size, i.bytes)) = some (some z, d.sz, bytes)) (hb0 : 0 < bytes)
    {ok : Nat → Prop} (hfresh : ok W.heap.size) (hl : n * bytes ≤ 281474976710656) (HB : Below base w0 W) (hbase : base ≤ W.heap.size)
    (h : ∀ v1 w1, d.R e w1 base ok v1 [] → Below base w0 w1 → W.grownBy w1 none → (∃ b, v1.ownBlock = some b ∧ W.heap.size ≤ b) → wpList P ops Q rest (a.put o.dst v1) w1) : wpList P ops Q (o :: rest) a W := by
 obtain ⟨i0, hi, hzz⟩ := Option.map_eq_some_iff.1 hinfo
 simp only [Prod.mk.injEq] at hzz
 obtain ⟨hz0, hz1, hz2⟩ := hzz
 have hm : n ≤ 281474976710656 := Nat.le_trans (Nat.le_mul_of_pos_right _ hb0) hl
 have hr := run_make (P := P) (w := W) t e i0 z ht hi hz0 .i64 .i64 0 (n : Int) (by omega) (by omega)
  (by
   have h3 : ((i0.bytes * n : Nat) : Int) ≤ 281474976710656 := by rw [hz2, Nat.mul_comm]; omega
   rwa [Int.natCast_mul] at h3) (by omega)
 simp only [Int.toNat_natCast] at hr
 rw [hz1] at hr
 have hrun : (execOp a.eval o).run P W = .ok (.value (.slice (some ⟨W.heap.size, 0, none⟩) 0 n)) (W.alloc (.cells (madeCells z.cells (n * d.sz)) e)) := by
  simp [execOp, ho, hx, hy, hr]
 have hown : (W.alloc (.cells (madeCells z.cells (n * d.sz)) e)).ownsRow base e d.sz (.slice (some ⟨W.heap.size, 0, none⟩) 0 n) ([] : List α).length [] := by
  refine ⟨by rw [List.length_nil, List.length_nil, Nat.zero_mul], .inr ⟨W.heap.size, n, madeCells z.cells (n * d.sz), rfl, hbase, blk_new W _, Nat.zero_le _, by show n ≤ 9223372036854775807; omega, size_madeCells _ _, by rw [List.length_nil, Nat.zero_mul, List.take_zero]⟩⟩
 have hR : d.R e (W.alloc (.cells (madeCells z.cells (n * d.sz)) e)) base ok (.slice (some ⟨W.heap.size, 0, none⟩) 0 n) [] := by
  refine ⟨fun k hk => ?_, [], hown, Reps.none _ _⟩
  have : W.heap.size = k := Option.some.inj hk
  subst this
  exact hfresh
 exact Kd.event_run hgd hrun (h _ _ hR (HB.alloc hbase _) (World.grownBy_alloc W _ none) ⟨W.heap.size, rfl, Nat.le_refl _⟩)
end
section
variable {α : Type} {d : Kd α} {e base g n cap : Nat} {ok : Nat → Prop} {W : World} {xs : List α}
theorem r_at (h : d.R e W base ok (.slice (some ⟨g, 0, none⟩) n cap) xs) (j : Nat) (hj : j < xs.length) :
    ∃ cs, d.M W base (fun k => ok k ∧ k ≠ g) xs[j] cs ∧ ∀ i u, cs[i]? = some u → W.cell? ⟨g, j * d.sz + i, none⟩ = some u ∧ W.frozen? ⟨g, j * d.sz + i, none⟩ = false := by
 obtain ⟨hn, _⟩ := Kd.R_reads' h
 obtain ⟨h0, inner, ho, hr⟩ := h
 subst hn
 have hM := hr.2 j _ (List.getElem?_eq_getElem hj)
 refine ⟨_, d.M_mono (fun k hk => ⟨hk.1, fun e => hk.2 (by rw [e]; rfl)⟩) hM, fun i u hu => ?_⟩
 rcases ho.2 with ⟨e1, _⟩ | ⟨g2, cap2, cur, e1, _, hh, _, _, _, ht⟩
 · cases e1
 · cases e1
   rw [List.getElem?_take] at hu
   by_cases hi : i < d.sz
   · rw [if_pos hi, List.getElem?_drop] at hu
     have hlt : j * d.sz + i < inner.length := (List.getElem?_eq_some_iff.1 hu).1
     rw [hr.1] at hlt
     rw [← ht, List.getElem?_take, if_pos hlt, Array.getElem?_toList] at hu
     constructor
     · simp only [World.cell?, hh]
       simpa using hu
     · simp [World.frozen?, hh]
   · rw [if_neg hi] at hu; cases hu
end
section
variable {L : List It}
abbrev oL (L : List It) : List Nat := ordR (ltP L) L.length
theorem oL_perm (L : List It) : (oL L).Perm (List.range L.length) := ord_perm _ _
theorem oL_len (L : List It) : (oL L).length = L.length := by rw [(oL_perm L).length_eq, List.length_range]
theorem oL_nodup (L : List It) : (oL L).Nodup := (oL_perm L).nodup_iff.2 List.nodup_range
theorem oL_mem {p : Nat} : p ∈ oL L ↔ p < L.length := by rw [(oL_perm L).mem_iff, List.mem_range]
theorem ordI_len (L : List It) : (ordI L).length = L.length := by rw [ordI, List.length_map]; exact oL_len L
theorem ord_at {k : Nat} (hk : k < L.length) : ∃ q : Nat, q < L.length ∧ rd (ordI L) (k : Int) = (q : Int) ∧ (oL L)[k]? = some q ∧ (oL L).idxOf q = k := by
 have hk2 : k < (oL L).length := by rw [oL_len]; exact hk
 refine ⟨(oL L)[k], oL_mem.1 (List.getElem_mem hk2), ?_, List.getElem?_eq_getElem hk2, ?_⟩
 · have h3 : (ordI L)[k]? = some (((oL L)[k] : Nat) : Int) := by
     unfold ordI
     rw [List.getElem?_map, List.getElem?_eq_getElem hk2]; rfl
   show (ordI L).getD (k : Int).toNat 0 = _
   rw [Int.toNat_natCast, List.getD_eq_getElem?_getD, h3]; rfl
 · exact (oL_nodup L).idxOf_getElem k hk2
theorem idx_lt {p : Nat} (hp : p < L.length) : (oL L).idxOf p < L.length := by
 have := List.idxOf_lt_length_iff.2 (oL_mem.2 hp)
 rwa [oL_len] at this
theorem idx_at {p k : Nat} (hp : p < L.length) (h : (oL L).idxOf p = k) : (oL L)[k]? = some p := by
 have h2 := List.idxOf_lt_length_iff.2 (oL_mem.2 hp)
 subst h
 rw [List.getElem?_eq_getElem h2, List.getElem_idxOf]
def posI (L : List It) (p : Int) : Int := ((oL L).idxOf p.toNat : Int)
def itS (L : List It) (j : Nat) : It := ⟨if (itA L j).f0 = -1 then -1 else posI L (itA L j).f0, (itA L j).f1, (itA L j).f2, (itA L j).f3⟩
def sortL (L : List It) : List It := (oL L).map (itS L)
theorem sortL_len (L : List It) : (sortL L).length = L.length := by rw [sortL, List.length_map]; exact oL_len L
structure So2 (w : World) (L : List It) (Ao : Option Addr) (co : Nat) (Aa : Option Addr) (ca k : Nat) (wr : World) : Prop where
 below : Below w.heap.size w wr
 os : Kd.R (Kd.int .i64) 3 wr w.heap.size (fun b => some b ≠ (Value.slice Aa L.length ca).ownBlock) (.slice Ao L.length co) (ordI L)
 ats : ∃ al : List Int, al.length = L.length ∧ Kd.R (Kd.int .i64) 3 wr w.heap.size (fun b => some b ≠ (Value.slice Ao L.length co).ownBlock) (.slice Aa L.length ca) al ∧ ∀ p : Nat, p < L.length → (oL L).idxOf p < k → rd al p = ((oL L).idxOf p : Int)
variable {w wr : World} {Ao Aa : Option Addr} {co ca k : Nat}
theorem so2_start {w6 w7 : World} (hb7 : Below w.heap.size w w7) (ho : Kd.R (Kd.int .i64) 3 w6 w.heap.size (fun _ => True) (.slice Ao L.length co) (ordI L))
    (hg7 : w6.grownBy w7 none) (hra : Kd.R (Kd.int .i64) 3 w7 w.heap.size (fun _ => True) (.slice Aa L.length ca) (List.replicate L.length 0)) (hn7 : ∃ b, (Value.slice Aa L.length ca).ownBlock = some b ∧ w6.heap.size ≤ b) : So2 w L Ao co Aa ca 0 w7 := by
 obtain ⟨b, hb, hle⟩ := hn7
 have hne : ∀ k, (Value.slice Ao L.length co).ownBlock = some k → k < w6.heap.size := Kd.R_lt ho
 refine ⟨hb7, ?_, List.replicate L.length 0, List.length_replicate, ?_, fun p _ h => absurd h (Nat.not_lt_zero _)⟩
 · exact Kd.R_grown (Kd.R_mono (Kd.R_bound ho) (fun k hk => by rw [hb]; intro e; have e := Option.some.inj e; have := hk.2.2.1; omega)) hg7 (fun _ _ => nofun)
 · refine Kd.R_of_own (Kd.own_of_R hra) (fun k hk => ?_)
   rw [hb] at hk
   cases hk
   intro e
   have := hne _ e.symm
   omega
theorem so2_cells (h : So2 w L Ao co Aa ca k wr) (hk : k < L.length) : ∃ (ga go q : Nat), Aa = some ⟨ga, 0, none⟩ ∧ Ao = some ⟨go, 0, none⟩ ∧ q < L.length ∧ (oL L)[k]? = some q ∧ wr.cell? ⟨go, k, none⟩ = some (.int .i64 (q : Int)) ∧ (∃ u, wr.cell? ⟨ga, q, none⟩ = some u) ∧ wr.frozen? ⟨ga, q, none⟩ = false ∧
    ∀ w2, w2 = wr.setCell ⟨ga, q, none⟩ (.int .i64 (k : Int)) → So2 w L Ao co Aa ca (k + 1) w2 := by
 obtain ⟨al, hal, hra, hv⟩ := h.ats
 obtain ⟨ga, c1, e1, b1, l1, _⟩ := Kd.R_form hra (by omega)
 obtain ⟨go, c2, e2, b2, l2, _⟩ := Kd.R_form h.os (by rw [ordI_len]; omega)
 rw [hal] at e1
 rw [ordI_len] at e2
 cases e1; cases e2
 obtain ⟨q, hq, hrd, hoq, hix⟩ := ord_at hk
 have hne : ga ≠ go := fun e => hra.1 ga rfl (by rw [e]; rfl)
 have x1 := (Kd.R_celln 0 h.os (k : Int) (by omega) (by omega)).1
 have x2 := Kd.R_celln 0 hra (q : Int) (by omega) (by omega)
 rw [Int.toNat_natCast] at x1 x2
 rw [show rdOf 0 (ordI L) (k : Int) = (q : Int) from hrd] at x1
 refine ⟨ga, go, q, rfl, rfl, hq, hoq, x1, ⟨_, x2.1⟩, x2.2, ?_⟩
 rintro w2 rfl
 have hp := Kd.R_putg hra (q : Int) (k : Int)
 rw [Int.toNat_natCast] at hp
 refine ⟨h.below.setCell (p := ⟨ga, q, none⟩) b1 _, Kd.R_far (p := ⟨ga, q, none⟩) h.os (fun k hk => fun e => hk (by show some k = some ga; rw [e])) _, _, ?_, hp.1, ?_⟩
 · rw [List.length_set, hal]
 · intro p hpl hpk
   show (al.set q (k : Int)).getD (p : Int).toNat 0 = _
   rw [Int.toNat_natCast, List.getD_eq_getElem?_getD]
   by_cases e : p = q
   · subst e
     rw [List.getElem?_set_self (by omega), hix]; rfl
   · rw [List.getElem?_set_ne (fun h => e h.symm), ← List.getD_eq_getElem?_getD]
     have hne2 : (oL L).idxOf p ≠ k := fun h2 => by
      have := idx_at hpl h2
      rw [hoq] at this
      exact e (Option.some.inj this).symm
     have := hv p hpl (by omega)
     rw [← this]; rfl
structure So3 (w : World) (L : List It) (Ao : Option Addr) (co : Nat) (Aa : Option Addr) (ca : Nat) (Al : Option Addr) (cl : Nat) (v : Value) (k : Nat) (wr : World) : Prop where
 below : Below w.heap.size w wr
 os : Kd.R (Kd.int .i64) 3 wr w.heap.size (fun b => True ∧ some b ≠ v.ownBlock) (.slice Ao L.length co) (ordI L)
 ats : ∃ al : List Int, al.length = L.length ∧ Kd.R (Kd.int .i64) 3 wr w.heap.size (fun b => True ∧ some b ≠ v.ownBlock) (.slice Aa L.length ca) al ∧ ∀ p : Nat, p < L.length → rd al p = ((oL L).idxOf p : Int)
 all : Kd.R kIt 53 wr w.heap.size (fun b => True ∧ some b ≠ v.ownBlock) (.slice Al L.length cl) L
 out : Kd.R kIt 53 wr w.heap.size (fun _ => True) v ((sortL L).take k)
variable {Al : Option Addr} {cl : Nat} {v : Value}
theorem so3_start {wr2 w8 w9 : World} (h2 : So2 w L Ao co Aa ca L.length wr2) (hb8 : Below wr2.heap.size wr2 w8) (hall : Kd.R kIt 53 w8 wr2.heap.size (fun _ => True) (.slice Al L.length cl) L)
    (hb9 : Below w.heap.size w w9) (hg9 : w8.grownBy w9 none) (hout : Kd.R kIt 53 w9 w.heap.size (fun _ => True) v []) (hn9 : ∃ b, v.ownBlock = some b ∧ w8.heap.size ≤ b) : So3 w L Ao co Aa ca Al cl v 0 w9 := by
 obtain ⟨b, hb, hle⟩ := hn9
 have hcl : ∀ {k : Nat} {W : World}, k < W.heap.size → W.heap.size ≤ w8.heap.size → some k ≠ v.ownBlock := fun h1 h2 e => by
  rw [hb] at e; have e := Option.some.inj e; omega
 obtain ⟨al, hal, hra, hv⟩ := h2.ats
 have o8 := Kd.R_mono (Kd.R_bound (Kd.R_below h2.os hb8)) (ok' := fun b => True ∧ some b ≠ v.ownBlock) (fun k hk => ⟨trivial, hcl hk.2.2.1 (Nat.le_refl _)⟩)
 have a8 := Kd.R_mono (Kd.R_bound (Kd.R_below hra hb8)) (ok' := fun b => True ∧ some b ≠ v.ownBlock) (fun k hk => ⟨trivial, hcl hk.2.2.1 (Nat.le_refl _)⟩)
 have l8 := Kd.R_mono (Kd.R_bound (Kd.R_lower hall h2.below.size)) (ok' := fun b => True ∧ some b ≠ v.ownBlock) (fun k hk => ⟨trivial, hcl hk.2.2.1 (Nat.le_refl _)⟩)
 exact ⟨hb9, Kd.R_grown o8 hg9 (fun _ _ => nofun), ⟨al, hal, Kd.R_grown a8 hg9 (fun _ _ => nofun), fun p hp => hv p hp (idx_lt hp)⟩, Kd.R_grown l8 hg9 (fun _ _ => nofun), hout⟩
theorem so3_on {w1 : World} (h : So3 w L Ao co Aa ca Al cl v k wr) (hb : Below wr.heap.size wr w1) : So3 w L Ao co Aa ca Al cl v k w1 := by
 obtain ⟨al, hal, hra, hv⟩ := h.ats
 exact ⟨h.below.trans (hb.mono h.below.size), Kd.R_below h.os hb, ⟨al, hal, Kd.R_below hra hb, hv⟩, Kd.R_below h.all hb, Kd.R_below h.out hb⟩
theorem so3_cells (h : So3 w L Ao co Aa ca Al cl v k wr) (hk : k < L.length) : ∃ (go gl q : Nat) (A3 : Option Addr) (c3 : Nat), Ao = some ⟨go, 0, none⟩ ∧ Al = some ⟨gl, 0, none⟩ ∧ q < L.length ∧ (oL L)[k]? = some q ∧ wr.cell? ⟨go, k, none⟩ = some (.int .i64 (q : Int)) ∧
    wr.cell? ⟨gl, q * 4, none⟩ = some (.int .i64 (itA L q).f0) ∧ wr.cell? ⟨gl, q * 4 + 1, none⟩ = some (.string (itA L q).f1) ∧ wr.cell? ⟨gl, q * 4 + 2, none⟩ = some (.bool (itA L q).f2) ∧ wr.cell? ⟨gl, q * 4 + 3, none⟩ = some (.slice A3 (itA L q).f3.length c3) ∧
    (Kd.int .u8).R 5 wr w.heap.size (fun b => True ∧ some b ≠ v.ownBlock) (.slice A3 (itA L q).f3.length c3) (itA L q).f3 := by
 obtain ⟨go, c2, e2, b2, l2, _⟩ := Kd.R_form h.os (by rw [ordI_len]; omega)
 obtain ⟨gl, c1, e1, b1, l1, _⟩ := Kd.R_form h.all (by omega)
 rw [ordI_len] at e2
 cases e1; cases e2
 obtain ⟨q, hq, hrd, hoq, hix⟩ := ord_at hk
 have x1 := (Kd.R_celln 0 h.os (k : Int) (by omega) (by omega)).1
 rw [Int.toNat_natCast, show rdOf 0 (ordI L) (k : Int) = (q : Int) from hrd] at x1
 obtain ⟨cs, hM, hc⟩ := r_at h.all q hq
 rw [show L[q] = itA L q by rw [itA_get hq]] at hM
 obtain ⟨v3, rfl, hv3⟩ := k53_openM hM
 obtain ⟨A3, c3, rfl⟩ := Kd.R_slice hv3
 refine ⟨go, gl, q, A3, c3, rfl, rfl, hq, hoq, x1, (hc 0 _ rfl).1, (hc 1 _ rfl).1, (hc 2 _ rfl).1, (hc 3 _ rfl).1, Kd.R_mono hv3 (fun _ hk => hk.1)⟩
theorem so3_at (h : So3 w L Ao co Aa ca Al cl v k wr) {p : Nat} (hp : p < L.length) : ∃ ga, Aa = some ⟨ga, 0, none⟩ ∧ wr.cell? ⟨ga, p, none⟩ = some (.int .i64 ((oL L).idxOf p : Int)) := by
 obtain ⟨al, hal, hra, hv⟩ := h.ats
 obtain ⟨ga, c1, e1, b1, l1, _⟩ := Kd.R_form hra (by omega)
 rw [hal] at e1
 cases e1
 have x1 := (Kd.R_celln 0 hra (p : Int) (by omega) (by omega)).1
 rw [Int.toNat_natCast, show rdOf 0 al (p : Int) = _ from hv p hp] at x1
 exact ⟨ga, rfl, x1⟩
theorem so3_step {W w1 : World} {v1 : Value} {q : Nat} (h : So3 w L Ao co Aa ca Al cl v k W) (hq : (oL L)[k]? = some q) (hr : Kd.R kIt 53 w1 w.heap.size (fun _ => True) v1 ((sortL L).take k ++ [itS L q])) (hb : Below w.heap.size w w1) (hg : W.grownBy w1 v.ownBlock)
    (hat : v1.ownBlock = v.ownBlock ∨ ∃ b, v1.ownBlock = some b ∧ W.heap.size ≤ b) : So3 w L Ao co Aa ca Al cl v1 (k + 1) w1 := by
 obtain ⟨al, hal, hra, hv⟩ := h.ats
 refine ⟨hb, Kd.R_after h.os hg hat, ⟨al, hal, Kd.R_after hra hg hat, hv⟩, Kd.R_after h.all hg hat, ?_⟩
 have e : (sortL L).take (k + 1) = (sortL L).take k ++ [itS L q] := by
  rw [List.take_add_one]
  unfold sortL
  rw [List.getElem?_map, hq]; rfl
 rw [e]
 exact hr
end
end Go.Proofs.YthlflglkdaainaaGreatDoor.Tr
namespace Go.Proofs.YthlflglkdaainaaGreatDoor.Tr
open Go.RowKit Go.Lib Go.Proofs.YthlflglkdaainaaGreatDoorW.PrintWords Go.Proofs.YthlflglkdaainaaGreatDoorW.PrintLast Go.Proofs.YthlflglkdaainaaGreatDoorW.PrintMore Go.Proofs.YthlflglkdaainaaGreatDoor.Prt
theorem ev_step {α : Type} {g : Nat → Option α} {f : Nat → Option α} {r : α} (h : ∀ k, g (k + 1) = f k) (hf : Ev f r) : Ev g r := by
 obtain ⟨K, hK⟩ := hf
 refine ⟨K + 1, fun k hk => ?_⟩
 obtain ⟨k, rfl⟩ : ∃ q, k = q + 1 := ⟨k - 1, by omega⟩
 rw [h]; exact hK k (by omega)
theorem rsame_ev (a b : List ByteArray) (hl : a.length = b.length) (hb : a.length ≤ 100000) : ∀ (t i : Nat), a.length - i ≤ t → i ≤ a.length → a.take i = b.take i → Ev (fun k => gessoref11_Same.l0 k a b i) (decide (a = b)) := by
 intro t
 induction t with
 | zero =>
  intro i h1 h2 h3
  obtain rfl : i = a.length := by omega
  rw [List.take_length, hl, List.take_length] at h3
  refine ⟨1, fun k hk => ?_⟩
  obtain ⟨k, rfl⟩ : ∃ q, k = q + 1 := ⟨k - 1, by omega⟩
  simp only [gessoref11_Same.l0]
  rw [if_neg (by omega), decide_eq_true h3]
 | succ t ih =>
  intro i h1 h2 h3
  by_cases hi : i = a.length
  · exact ih i (by omega) h2 h3
  · have ha : i < a.length := by omega
    have hb2 : i < b.length := by omega
    have ea : rdOf ByteArray.empty a (i : Int) = a[i] := by simp [rdOf, List.getD_eq_getElem?_getD, ha]
    have eb : rdOf ByteArray.empty b (i : Int) = b[i] := by simp [rdOf, List.getD_eq_getElem?_getD, hb2]
    by_cases c : a[i].toList = b[i].toList
    · have e := data_inj c
      refine ev_step (fun k => ?_) (ih (i + 1) (by omega) (by omega) (by rw [List.take_succ_eq_append_getElem ha, List.take_succ_eq_append_getElem hb2, h3, e]))
      simp only [gessoref11_Same.l0]
      rw [if_pos (by omega), if_pos (by omega), if_pos (by omega), ea, eb, if_pos c, wrap_id (by omega) (by omega)]; rfl
    · refine ⟨1, fun k hk => ?_⟩
      obtain ⟨k, rfl⟩ : ∃ q, k = q + 1 := ⟨k - 1, by omega⟩
      simp only [gessoref11_Same.l0]
      rw [if_pos (by omega), if_pos (by omega), if_pos (by omega), ea, eb, if_neg c, decide_eq_false]
      intro h; subst h; exact c rfl
theorem Same11_ev (a b : List ByteArray) (hb : a.length ≤ 100000) : Ev (fun k => gessoref11_Same.f k a b) (decide (a = b)) := by
 unfold gessoref11_Same.f
 by_cases h : (a.length : Int) = (b.length : Int)
 · refine Ev.congr (fun k => ?_) (rsame_ev a b (by omega) hb a.length 0 (by omega) (by omega) rfl)
   rw [if_pos h]; rfl
 · refine ⟨0, fun k _ => ?_⟩
   show (if (a.length : Int) = (b.length : Int) then _ else some false) = _
   rw [if_neg h, decide_eq_false]
   intro e; subst e; exact h rfl
theorem clone_any (xs : List Int) (A : Option Addr) (c : Nat) (w : World) (hC : (Kd.int .u8).C w A xs.length xs) (hl : xs.length ≤ 100000) :
    Calls Tryz.prog 66 #[.slice A xs.length c] w fun e w' => ∃ v, e = .returned v ∧ (Kd.int .u8).R 5 w' w.heap.size (fun _ => True) v xs ∧ Below w.heap.size w w' := by
 have q22 : ∀ (w : World) (a : Option Addr) (n c n' c' : Nat), (binOp .eql 46 (.slice a n c) (.slice none n' c')).run Tryz.prog w = .ok (.bool a.isNone) w := fun w a n c n' c' => Lib.run_eql_slice_nil w _ _ a n c n' c' Tryz.underlying46
 have u22 : ∀ w, Sem.run Tryz.prog (underlying 46) w = .ok (TypeDesc.slice 5) w := run_underlying Tryz.underlying46
 cases A with
 | none =>
  have h0 : xs = [] := by
   rcases xs with _ | ⟨x, xs⟩
   · rfl
   · obtain ⟨ad, h, _⟩ := hC.2.2 (by simp)
     cases h
  subst h0
  have HN := fun W => Kd.R_nil (Kd.int .u8) 5 W w.heap.size (fun _ => True)
  go_enter Tryz.func66, Tryz.ntmps66
  go_wp2
  go_ret
  exact ⟨_, rfl, HN _, Below.refl _ _⟩
 | some ad =>
  have hsrc : Aside0 (∀ j u, (xs.map (Value.int .u8))[j]? = some u → w.cell? (ad.add j) = some u) := ⟨fun j u hj => by
   obtain ⟨x, hx, rfl⟩ := Option.map_eq_some_iff.1 (by rw [List.getElem?_map] at hj; exact hj)
   have hlt : j < xs.length := (List.getElem?_eq_some_iff.1 hx).1
   obtain ⟨ad', e, hc⟩ := hC.2.2 (by omega)
   cases e
   obtain ⟨cs, _, rfl, h2⟩ := hc j x hx
   have := h2 0 _ rfl
   rwa [show j * (Kd.int .u8).sz + 0 = j from by show j * 1 + 0 = j; omega] at this⟩
  have hinfo := info5
  obtain ⟨i0, hi, hz⟩ := Option.map_eq_some_iff.1 hinfo
  simp only [Prod.mk.injEq] at hz
  clear hC hinfo
  go_enter Tryz.func66, Tryz.ntmps66
  go_wp2_with (at_builtin; refine wpList_append_own _ rfl _ _ 46 rfl w.heap.size 5 i0 (.int .u8 0) 1 1 Tryz.underlying46 hi hz.1 hz.2.1 hz.2.2 rfl (by omega) _ _ _ rfl (World.ownsRow_made w #[] 0 (Nat.le_refl _) (Nat.zero_le _) (by simp)) ad xs.length c (xs.map (Value.int .u8)) rfl ?qc1 ?qc2 ?qc3 ?qc4 ?qc5 ?qc6 ?_)
  case qc1 => simp
  case qc2 =>
   intro j u hj
   exact Lib.cell?_alloc_some _ (hsrc.out j u hj)
  case qc3 => intro u hu; obtain ⟨x, _, rfl⟩ := List.mem_map.1 hu; rfl
  case qc4 => simp only [maxLen]; omega
  case qc5 => omega
  case qc6 => simp
  intro v' w1 hown hgrow hnil
  go_wp2
  go_ret
  have hown1 : w1.ownsRow w.heap.size 5 1 v' xs.length (xs.map (Value.int .u8)) := by simpa using hown
  refine ⟨v', rfl, ⟨fun _ _ => trivial, xs.map (Value.int .u8), hown1, by rw [List.length_map]; exact (Nat.mul_one _).symm, fun j p hj => ?_⟩, ?_⟩
  · show (List.take 1 _) = [Value.int .u8 p]
    have hlt : j < xs.length := (List.getElem?_eq_some_iff.1 hj).1
    rw [show j * (Kd.int .u8).sz = j from Nat.mul_one j, List.drop_eq_getElem_cons (by simpa using hlt)]
    obtain ⟨_, rfl⟩ := List.getElem?_eq_some_iff.1 hj
    simp
  · exact ((Below.refl _ w).alloc (Nat.le_refl _) _).grown hgrow (by simp) (by intro k hk; simp [Value.ownBlock] at hk; omega)
theorem run_copy_k (w : World) (dT sT ty elem : TypeId) (k g dLen dCap : Nat) (a : Addr) (sLen sCap : Nat) (cur : Array Value) (t : TypeId) (cs : List Value)
    (hu : Tryz.prog.underlying dT = some (.slice elem)) (hs : (Tryz.prog.info? elem).map (·.size) = some k)
    (hg : w.heap[g]? = some (.cells cur t (0, 0))) (hn : cs.length = Nat.min sLen dLen * k)
    (hsrc : ∀ j v, cs[j]? = some v → w.cell? (a.add j) = some v) (hfit : cs.length ≤ cur.size) (h1 : ∀ v ∈ cs, v.oneCell' = true) :
    (Builtin.copy_ #[dT, sT] ty #[.slice (some ⟨g, 0, none⟩) dLen dCap, .slice (some a) sLen sCap]).run Tryz.prog w =
     .ok (goInt (Nat.min sLen dLen)) (w.setRow g (cs ++ cur.toList.drop cs.length).toArray) := by
 have hl := run_loadCells_list (P := Tryz.prog) w a cs hsrc
 have hst := run_storeCells_at Tryz.prog g 0 t cs 0 cur w hg (by simpa using hfit) h1
 cases hq : Tryz.prog.info? elem with
 | none => simp [hq] at hs
 | some i =>
  have hi : i.size = k := by simpa [hq] using hs
  simp [Builtin.copy_, run_underlying hu, Builtin.lenOf, Builtin.firstCells, sizeOf, typeInfo, hq, hi, ← hn, hl, hst]
theorem blk_old (w : World) (o : Obj) {g : Nat} {x : Obj} (h : w.heap[g]? = some x) : (w.alloc o).heap[g]? = some x := by
 have hlt : g < w.heap.size := (Array.getElem?_eq_some_iff.1 h).1
 show (w.heap.push o)[g]? = _
 rw [Array.getElem?_push, if_neg (by omega)]; exact h
theorem run_copy_0 (w : World) (dT sT ty elem : TypeId) (k : Nat) (a : Option Addr) (dCap : Nat) (b : Option Addr) (sCap : Nat) (hu : Tryz.prog.underlying dT = some (.slice elem)) (hs : (Tryz.prog.info? elem).map (·.size) = some k) :
    (Builtin.copy_ #[dT, sT] ty #[.slice a 0 dCap, .slice b 0 sCap]).run Tryz.prog w = .ok (goInt 0) w := by
 cases hq : Tryz.prog.info? elem with
 | none => simp [hq] at hs
 | some i =>
  cases a <;> cases b <;> simp [Builtin.copy_, run_underlying hu, Builtin.lenOf, Builtin.firstCells, sizeOf, typeInfo, hq, storeCells, loadCells, loadCellsFrom]
theorem flat4 {α : Type} (F : Nat → List α) (h : ∀ j, (F j).length = 4) : ∀ n, ((List.range n).flatMap F).length = n * 4 ∧ ∀ j, j < n → ∀ k, k < 4 → ((List.range n).flatMap F)[j * 4 + k]? = (F j)[k]? := by
 intro n
 induction n with
 | zero => exact ⟨rfl, fun j hj => absurd hj (by omega)⟩
 | succ n ih =>
  rw [List.range_succ, List.flatMap_append]
  have e : List.flatMap F [n] = F n := by simp
  rw [e]
  refine ⟨by rw [List.length_append, ih.1, h]; omega, fun j hj k hk => ?_⟩
  by_cases hjn : j = n
  · subst hjn
    rw [List.getElem?_append_right (by rw [ih.1]; omega), ih.1]
    congr 1; omega
  · rw [List.getElem?_append_left (by rw [ih.1]; omega)]
    exact ih.2 j (by omega) k hk
structure CpI (w : World) (L : List It) (g cap i : Nat) (W : World) : Prop where
 below : Below w.heap.size w W
 gb : w.heap.size ≤ g
 row : ∃ (cur : Array Value) (V : Nat → Value), W.heap[g]? = some (.cells cur 53 (0, 0)) ∧ cur.size = cap * 4 ∧ L.length ≤ cap ∧ cap ≤ maxLen ∧
  (∀ j, j < L.length → cur[j * 4]? = some (.int .i64 (itA L j).f0) ∧ cur[j * 4 + 1]? = some (.string (itA L j).f1) ∧ cur[j * 4 + 2]? = some (.bool (itA L j).f2) ∧ cur[j * 4 + 3]? = some (V j)) ∧
  (∀ j, j < i → j < L.length → (Kd.int .u8).R 5 W w.heap.size (fun k => k ≠ g) (V j) (itA L j).f3) ∧
  (∀ j, i ≤ j → j < L.length → ∃ A c, V j = .slice A (itA L j).f3.length c ∧ (itA L j).f3.length ≤ c ∧ (Kd.int .u8).C w A (itA L j).f3.length (itA L j).f3)
theorem cp_end {w : World} {L : List It} {g cap : Nat} {W : World} (h : CpI w L g cap L.length W) : Kd.R kIt 53 W w.heap.size (fun _ => True) (.slice (some ⟨g, 0, none⟩) L.length cap) L := by
 obtain ⟨cur, V, hg, hs, hl, hm, hc, hR, _⟩ := h.row
 have hs' : cur.toList.length = cap * 4 := by rw [← hs]; simp
 refine ⟨fun _ _ => trivial, cur.toList.take (L.length * 4), ⟨?_, .inr ⟨g, cap, cur, rfl, h.gb, hg, hl, hm, hs, rfl⟩⟩, ?_, fun j p hj => ?_⟩
 · rw [List.length_take, hs']
   show min (L.length * 4) (cap * 4) = L.length * 4
   omega
 · rw [List.length_take, hs']
   show min (L.length * 4) (cap * 4) = L.length * 4
   omega
 · have hjl : j < L.length := (List.getElem?_eq_some_iff.1 hj).1
   have hp : p = itA L j := by
    rw [itA_get hjl]
    exact (List.getElem?_eq_some_iff.1 hj).2.symm
   subst hp
   obtain ⟨c0, c1, c2, c3⟩ := hc j hjl
   have e : (List.take kIt.sz (List.drop (j * kIt.sz) (cur.toList.take (L.length * 4)))) = [.int .i64 (itA L j).f0, .string (itA L j).f1, .bool (itA L j).f2, V j] := by
    show List.take 4 (List.drop (j * 4) _) = _
    apply List.ext_getElem?
    intro k
    rw [List.getElem?_take]
    by_cases hk : k < 4
    · rw [if_pos hk, List.getElem?_drop, List.getElem?_take, if_pos (by omega), Array.getElem?_toList]
      match k, hk with
      | 0, _ => exact c0
      | 1, _ => exact c1
      | 2, _ => exact c2
      | 3, _ => exact c3
    · rw [if_neg hk, List.getElem?_eq_none (by simp; omega)]
   rw [e]
   refine k53_mkM _ _ _ _ (Kd.R_mono (hR j hjl hjl) (fun k hk => ⟨trivial, ?_⟩))
   show some k ≠ some g
   exact fun e => hk (Option.some.inj e)
theorem copy_any (L : List It) (A : Option Addr) (c : Nat) (w : World) (hC : Kd.C kIt w A L.length L) (hl : L.length ≤ 100000) (hd : ∀ x ∈ L, x.f3.length ≤ 100000) :
    Calls Tryz.prog 32 #[.slice A L.length c] w fun e w' => ∃ v, e = .returned v ∧ Kd.R kIt 53 w' w.heap.size (fun _ => True) v L ∧ Below w.heap.size w w' := by
 have hu41 := Tryz.underlying53
 have HC := Aside0.mk hC
 clear hC
 go_enter Tryz.func32, Tryz.ntmps32
 go_wp2_with (first | ((with_reducible refine gate_dst (N := 8) rfl ?_); refine Kd.R_make kIt w.heap.size 53 rfl (N := 8) rfl 22 _ _ rfl (L.length : Int) rfl rfl Tryz.underlying22 (.agg #[(.int .i64 0), (.string ⟨#[]⟩), (.bool false), (.slice none 0 0)]) 56 info53 rfl (by decide) (by omega) zIt (ok := fun _ => True) (okp := fun _ => True) ?hz (fun _ hk => hk) trivial (by omega) (by omega) (Below.refl _ _) (Nat.le_refl _) ?_; (case hz => exact k53_mkM _ _ _ _ (Kd.R_nil _ _ _ _ _)); intro vd w1 hrow hb1 hg1 hn1))
 obtain ⟨_, inner, hown, _⟩ := id hrow
 by_cases h0 : L.length = 0
 · obtain rfl : L = [] := List.length_eq_zero_iff.1 h0
   obtain ⟨Ao, co, eo⟩ := Kd.R_slice hrow
   simp only [List.length_nil, List.replicate, Int.ofNat_zero, Int.toNat_zero] at eo hrow
   subst eo
   have hrun := run_copy_0 w1 22 22 3 53 4 Ao co A c Tryz.underlying22 (by kernel_rfl)
   simp only [List.length_nil]
   have HRow := Aside0.mk hrow
   have HB1 := Aside0.mk hb1
   clear hrow hown hb1 hg1 hn1
   rw [hrun]
   go_wp2
   refine wp_loop_rounds 1 ?_
   rw [rounds_succ]
   go_wp2
   go_ret
   exact ⟨_, rfl, HRow.out, HB1.out⟩
 · rcases hown.2 with ⟨_, h9⟩ | ⟨g, cap, cur, rfl, hgb, hheap, hnc, hcm, hcs, _⟩
   · rw [List.length_replicate] at h9; omega
   have hnc' : L.length ≤ cap := by simpa using hnc
   have hcs' : cur.size = cap * 4 := hcs
   have hcl : cur.toList.length = cap * 4 := by rw [← hcs']; simp
   obtain ⟨ad, rfl, hrd⟩ := HC.out.2.2 (by omega)
   have each : ∀ j, j < L.length → ∃ x : Option Addr × Nat, (itA L j).f3.length ≤ x.2 ∧ (Kd.int .u8).C w x.1 (itA L j).f3.length (itA L j).f3 ∧ ∀ k u, [Value.int .i64 (itA L j).f0, .string (itA L j).f1, .bool (itA L j).f2, .slice x.1 (itA L j).f3.length x.2][k]? = some u → w.cell? (ad.add (j * 4 + k)) = some u := by
    intro j hj
    obtain ⟨cs, _, hK, hcell⟩ := hrd j (itA L j) (by rw [itA_get hj]; exact List.getElem?_eq_getElem hj)
    obtain ⟨A3, c3, rfl, l3, g3⟩ := k53_open hK
    exact ⟨(A3, c3), l3, g3, hcell⟩
   obtain ⟨AC, hAC⟩ := Go.Deep.choose_lt each
   obtain ⟨F, hF⟩ : ∃ F : Nat → List Value, F = fun j : Nat => [Value.int .i64 (itA L j).f0, .string (itA L j).f1, .bool (itA L j).f2, .slice (AC j).1 (itA L j).f3.length (AC j).2] := ⟨_, rfl⟩
   obtain ⟨f1, f2⟩ := flat4 F (fun j => by rw [hF]; rfl) L.length
   have hone : ∀ v ∈ (List.range L.length).flatMap F, v.oneCell' = true := by
    intro v hv
    obtain ⟨j, _, hv⟩ := List.mem_flatMap.1 hv
    rw [hF] at hv
    simp only [List.mem_cons, List.not_mem_nil, or_false] at hv
    rcases hv with rfl | rfl | rfl | rfl <;> rfl
   generalize hcsrc : (List.range L.length).flatMap F = csrc at f1 f2 hone
   have hsrc : ∀ m v, csrc[m]? = some v → w1.cell? (ad.add m) = some v := by
    intro m v hm
    have hml : m < L.length * 4 := by rw [← f1]; exact (List.getElem?_eq_some_iff.1 hm).1
    have h2 := f2 (m / 4) (by omega) (m % 4) (by omega)
    rw [show m / 4 * 4 + m % 4 = m from by omega, hm, hF] at h2
    have h3 := (hAC (m / 4) (by omega)).2.2 (m % 4) v h2.symm
    rw [show m / 4 * 4 + m % 4 = m from by omega] at h3
    exact pw_cell_below hb1 h3
   have hrun := run_copy_k w1 22 22 3 53 4 g L.length cap ad L.length c cur 53 csrc Tryz.underlying22 (by kernel_rfl) hheap (by rw [f1]; simp) hsrc (by rw [f1, hcs']; omega) hone
   rw [show L.length.min L.length = L.length from Nat.min_self _] at hrun
   have hlenr : (List.replicate (L.length : Int).toNat zIt).length = L.length := by simp
   have H0 : CpI w L g cap 0 (w1.setRow g (csrc ++ cur.toList.drop csrc.length).toArray) := {
    below := below_setRow hb1 hgb _
    gb := hgb
    row := ⟨(csrc ++ cur.toList.drop csrc.length).toArray, fun j => .slice (AC j).1 (itA L j).f3.length (AC j).2, setRow_heap w1 g _ _ _ _ hheap, by simp [f1, hcs']; omega, hnc', hcm, fun j hj => by
        have e : ∀ k, k < 4 → ((csrc ++ cur.toList.drop csrc.length).toArray)[j * 4 + k]? = (F j)[k]? := fun k hk => by
         rw [List.getElem?_toArray, List.getElem?_append_left (by rw [f1]; omega)]
         exact f2 j hj k hk
        have e0 := e 0 (by omega); have e1 := e 1 (by omega); have e2 := e 2 (by omega); have e3 := e 3 (by omega)
        rw [hF] at e0 e1 e2 e3
        exact ⟨e0, e1, e2, e3⟩, fun j hj => absurd hj (by omega), fun j _ hj => ⟨_, _, rfl, (hAC j hj).1, (hAC j hj).2.1⟩⟩ }
   have H1 := Aside0.mk H0
   simp only [hlenr]
   generalize (w1.setRow g (csrc ++ cur.toList.drop csrc.length).toArray) = W0 at hrun H1
   rw [hrun]
   clear H0 hrun hsrc hone f1 f2 hAC each hrd hrow hown hheap hb1 hg1 hn1
   go_wp2
   go_loopg [14] L.length (fun gg v14 wr => ∃ i : Nat, i ≤ L.length ∧ L.length - i ≤ gg ∧ v14 = .int .i64 i ∧ Aside0 (CpI w L g cap i wr))
   case atStart => exact ⟨0, Nat.zero_le _, by omega, rfl, H1⟩
   case round =>
    clear H1
    obtain ⟨i, hi, hg, rfl, HI⟩ := hrel
    by_cases hlt : i < L.length
    · have hltz : (i : Int) < (L.length : Int) := by omega
      obtain ⟨hbel, _, cu, V, hgr, hcu, hcap1, hcap2, hcells, hown, hold⟩ := HI.out
      obtain ⟨A3, c3, hV, hl3, hC3⟩ := hold i (Nat.le_refl _) hlt
      obtain ⟨x0, x1, x2, x3⟩ := hcells i hlt
      rw [hV] at x3
      have hat : ∀ k v, cu[i * 4 + k]? = some v → wr.cell? ⟨g, i * 4 + k, none⟩ = some v := fun k v h => by
       simp only [World.cell?, hgr]; exact h
      have y0 := hat 0 _ x0
      have y1 := hat 1 _ x1
      have y2 := hat 2 _ x2
      have y3 := hat 3 _ x3
      rw [Nat.add_zero] at y0
      have hglt : g < wr.heap.size := (Array.getElem?_eq_some_iff.1 hgr).1
      have hd3 : (itA L i).f3.length ≤ 100000 := by
       rw [itA_get hlt]; exact hd _ (List.getElem_mem hlt)
      go_wp2_with (first | (go_at_call 66; refine (clone_any _ A3 c3 _ (Kd.C_below hC3 (below_alloc hbel _)) hd3).mono ?_; rintro e w3 ⟨v, rfl, hv, hb3⟩; obtain ⟨Ao, co, eo⟩ := Kd.R_slice hv; subst eo; have hg3 := (hb3.block g (by rw [show (wr.alloc _).heap.size = wr.heap.size + 1 from Array.size_push ..]; omega)).trans (blk_old wr _ hgr); have z3 : w3.cell? ⟨g, i * 4 + 3, none⟩ = some (.slice A3 (itA L i).f3.length c3) := (by simp only [World.cell?, hg3]; exact x3); have zf : w3.frozen? ⟨g, i * 4 + 3, none⟩ = false := (by simp [World.frozen?, hg3])))
      have hb4 := below_step (below_alloc hbel _) hb3
      go_roundg (L.length - (i + 1))
      case measure => omega
      case rel =>
       refine ⟨i + 1, by omega, by omega, by go_num, ⟨?_⟩⟩
       have hgw := HI.out.gb
       have hsz1 : (wr.alloc (Obj.cells #[.int .i64 (itA L i).f0, .string (itA L i).f1, .bool (itA L i).f2, .slice A3 (itA L i).f3.length c3] 53)).heap.size = wr.heap.size + 1 := Array.size_push ..
       obtain ⟨v, hve⟩ : ∃ v, v = Value.slice Ao (itA L i).f3.length co := ⟨_, rfl⟩
       rw [← hve] at hv ⊢
       have hnew : (w3.setCell ⟨g, i * 4 + 3, none⟩ v).heap[g]? = some (.cells (cu.setIfInBounds (i * 4 + 3) v) 53 (0, 0)) := by
        rw [setCell_eq_setRow w3 g (i * 4 + 3) cu 53 (0, 0) v hg3]
        exact setRow_heap w3 g _ _ _ _ hg3
       have hother : ∀ k, k ≠ g → (w3.setCell ⟨g, i * 4 + 3, none⟩ v).heap[k]? = w3.heap[k]? := fun k hk => Below.heap_setCell w3 _ v k hk
       refine { below := below_set hb4 hgw, gb := hgw, row := ⟨cu.setIfInBounds (i * 4 + 3) v, fun j => if j = i then v else V j, hnew, by simpa using hcu, hcap1, hcap2, fun j hj => ?_, fun j hj hjl => ?_, fun j hj hjl => ?_⟩ }
       · obtain ⟨q0, q1, q2, q3⟩ := hcells j hj
         have hcsz : i * 4 + 3 < cu.size := by rw [hcu]; omega
         have hs : ∀ m, (cu.setIfInBounds (i * 4 + 3) v)[m]? = if i * 4 + 3 = m then some v else cu[m]? := fun m => by
          rw [Array.getElem?_setIfInBounds]
          by_cases e : i * 4 + 3 = m
          · rw [if_pos e, if_pos e, if_pos hcsz]
          · rw [if_neg e, if_neg e]
         refine ⟨by rw [hs, if_neg (by omega)]; exact q0, by rw [hs, if_neg (by omega)]; exact q1, by rw [hs, if_neg (by omega)]; exact q2, ?_⟩
         rw [hs]
         show _ = some (if j = i then v else V j)
         by_cases e : j = i
         · subst e; rw [if_pos rfl, if_pos rfl]
         · rw [if_neg (by omega), if_neg e]; exact q3
       · show (Kd.int .u8).R _ _ _ _ (if j = i then v else V j) _
         by_cases e : j = i
         · subst e
           rw [if_pos rfl]
           exact Kd.R_move (Kd.R_lower (Kd.R_mono (Kd.R_bound hv) (fun k hk => by have := hk.2.1; rw [hsz1] at this; omega)) (by rw [hsz1]; have := hbel.size; omega)) hother
         · rw [if_neg e]
           refine Kd.R_move ?_ hother
           exact Kd.R_below (hown j (by omega) hjl) (below_step (below_alloc (Below.refl _ _) _) hb3)
       · show ∃ A c, (if j = i then v else V j) = _ ∧ _
         rw [if_neg (by omega)]; exact hold j (by omega) hjl
    · have hltz : ¬ (i : Int) < (L.length : Int) := by omega
      obtain rfl : i = L.length := by omega
      go_wp2
      go_ret
      exact ⟨_, rfl, cp_end HI.out, HI.out.below⟩
end Go.Proofs.YthlflglkdaainaaGreatDoor.Tr
namespace Go.Proofs.YthlflglkdaainaaGreatDoor.Tr
open Go.RowKit Go.Lib Go.Sort Go.Shelf Go.Proofs.YthlflglkdaainaaGreatDoorW.PrintWords Go.Proofs.YthlflglkdaainaaGreatDoorW.PrintLast Go.Proofs.YthlflglkdaainaaGreatDoorW.PrintMore Go.Proofs.YthlflglkdaainaaGreatDoor.Prt
theorem right_len {x : It} (h : rightB x = true) : x.f3.length ≤ 8192 := by
 rcases ((rightB_iff x).1 h).2 with h | h
 · rw [h]; decide
 · omega
theorem infoSl : (Tryz.prog.info? 65).map (fun i => (i.zero, i.size, i.bytes)) = some (some (.slice none 0 0), 1, 24) := by kernel_rfl
theorem infoInt : (Tryz.prog.info? 3).map (fun i => (i.zero, i.size, i.bytes)) = some (some (.int .i64 0), 1, 8) := by kernel_rfl
theorem sort_any (L : List It) (A : Option Addr) (c : Nat) (hc : L.length ≤ c) (w : World) (hC : Kd.C kIt w A L.length L) (hwf : WfL L) (h14 : checkN L ≠ 14) :
    Calls Tryz.prog 51 #[.slice A L.length c] w fun e w' => ∃ v, e = .returned (.tuple #[v, .int .i64 0]) ∧ Kd.R kIt 53 w' w.heap.size (fun _ => True) v (sortL L) ∧ Below w.heap.size w w' := by
 have hu41 := Tryz.underlying53
 have HC := Aside0.mk hC
 have HK := fun W B => check_any L A c W (Kd.C_below HC.out B) hwf
 obtain ⟨q1, q2, q3⟩ := check_ok h14
 have h14b : (checkN L == 14) = false := by rw [beq_eq_false_iff_ne]; exact h14
 clear hC
 generalize checkN L = e0 at *
 go_enter Tryz.func51, Tryz.ntmps51
 go_wp2_with (first | (go_at_call 18; refine (HK _ (Below.refl _ _)).mono ?_; rintro e w1 ⟨rfl, hb1⟩) | ((with_reducible refine gate_dst (N := 20) rfl ?_); refine Kd.R_make kPs w.heap.size 65 rfl (N := 20) rfl 87 _ _ rfl (L.length : Int) rfl rfl Tryz.underlying87 (.slice none 0 0) 24 infoSl rfl (by decide) (by omega) [] (ok := fun _ => True) (okp := fun _ => True) ?hz (fun _ hk => hk) trivial (by omega) (by omega) hb1 hb1.size ?_; (case hz => exact ⟨_, rfl, Kd.R_nil _ _ _ _ _⟩); intro vp w2 hrp hb2 hg2 hn2; rw [Int.toNat_natCast] at hrp; obtain ⟨Ap, cp, ep⟩ := Kd.R_slice hrp; rw [List.length_replicate] at ep; subst ep; clear hg2 hn2) | ((with_reducible refine gate_dst (N := 23) rfl ?_); refine Kd.R_make (Kd.int .i64) w.heap.size 3 rfl (N := 23) rfl 76 _ _ rfl (L.length : Int) rfl rfl Tryz.underlying76 (.int .i64 0) 8 infoInt rfl (by decide) (by omega) 0 (ok := fun _ => True) (okp := fun _ => True) rfl (fun _ hk => hk) trivial (by omega) (by omega) (below_alloc hb2 _) (below_alloc hb2 _).size ?_; intro vo w3 hro hb3 hg3 hn3; rw [Int.toNat_natCast] at hro; obtain ⟨Ao, co, eo⟩ := Kd.R_slice hro; rw [List.length_replicate] at eo; subst eo))
 have hb2s := hb2.size
 clear hwf HK h14 h14b hb2 hb1
 have HS1 : So1 w L w2.heap.size Ap cp Ao co 0 w3 := by
  obtain ⟨bo, hbo, hlo⟩ := hn3
  rw [World.size_alloc] at hlo
  refine ⟨hb3, hb2s, ?_, ?_, ?_⟩
  · rw [hg3.block _ (by rw [World.size_alloc]; omega) nofun]
    exact blk_new _ _
  · rw [fill_zero]
    exact Kd.R_grown (Kd.R_mono (Kd.R_bound (Kd.R_alloc (Kd.R_mono (Kd.R_bound hrp) (fun k hk => hk.2.2.1)) (.cells #[.slice Ap L.length cp] 87))) (fun k hk => ⟨by have := hk.1; omega, by rw [hbo]; intro e; have e := Option.some.inj e; have := hk.1; omega⟩)) hg3 (fun _ _ => nofun)
  · rw [fill_zero]
    refine Kd.R_of_own (Kd.own_of_R hro) (fun k hk => ?_)
    rw [hbo] at hk
    cases hk
    exact ⟨by omega, fun e => by have := Kd.R_lt hrp _ e.symm; omega⟩
 clear hb3 hrp hro hg3 hn3 hb2s
 have HS := Aside0.mk HS1
 clear HS1
 generalize w2.heap.size = pb at *
 go_loopg [26] L.length (fun gg v26 wr => ∃ i : Nat, i ≤ L.length ∧ L.length - i ≤ gg ∧ v26 = .int .i64 i ∧ Aside0 (So1 w L pb Ap cp Ao co i wr))
 case atStart => exact ⟨0, Nat.zero_le _, by omega, rfl, HS⟩
 case round =>
  clear HS
  obtain ⟨i, hi, hg, rfl, HI⟩ := hrel
  by_cases hlt : i < L.length
  · have hltz : (i : Int) < (L.length : Int) := by omega
    obtain ⟨gp, go, rfl, rfl, n1, n2, n3, n4, n5⟩ := so1_form HI.out (by omega)
    go_wp2
    have hbx := box_cell HI.out
    have HI0 := HI.out
    go_region_with (go_at_call 77; refine (path_any L q1 q2 (i : Int) (by omega) hltz A c hc _ (Kd.C_below HC.out (HI0.below.trans (by first | exact Below.refl _ _ | exact Below.drew (Below.refl _ _))))).mono ?_; rintro e w5 ⟨v5, rfl, hv5, hb5⟩; replace hb5 : Below wr.heap.size wr w5 := (by first | exact hb5 | exact (Below.drew (Below.refl _ _)).trans hb5); have h5 := so1_on HI0 hb5; have hbx5 := box_cell h5; obtain ⟨⟨u1, c1, f1⟩, u2, c2, f2⟩ := so1_cells h5 hlt; obtain ⟨Av, cv, rfl⟩ := Kd.R_slice hv5)
    all_goals (go_wp2; go_roundg (L.length - (i + 1)); (case measure => omega); (case rel => exact ⟨i + 1, by omega, by omega, by go_num, ⟨so1_step HI0 hb5 hv5 hlt⟩⟩))
  · obtain rfl : i = L.length := by omega
    have hfin := sort_step HI.out q2 q1
    clear HI
    go_wp2_with (first | (go_at_call 83; refine hfin.mono ?_; rintro e w6 ⟨rfl, hb6, ho6⟩) | ((with_reducible refine gate_dst (N := 45) rfl ?_); refine Kd.R_make (Kd.int .i64) w.heap.size 3 rfl (N := 45) rfl 76 _ _ rfl (L.length : Int) rfl rfl Tryz.underlying76 (.int .i64 0) 8 infoInt rfl (by decide) (by omega) 0 (ok := fun _ => True) (okp := fun _ => True) rfl (fun _ hk => hk) trivial (by omega) (by omega) hb6 hb6.size ?_; intro va w7 hra hb7 hg7 hn7; rw [Int.toNat_natCast] at hra; obtain ⟨Aa, ca, ea⟩ := Kd.R_slice hra; rw [List.length_replicate] at ea; subst ea))
    have HT := Aside0.mk (so2_start hb7 ho6 hg7 hra hn7)
    clear hb7 ho6 hg7 hra hn7 hb6 hfin
    go_loopg [48] L.length (fun gg v48 wr => ∃ k : Nat, k ≤ L.length ∧ L.length - k ≤ gg ∧ v48 = .int .i64 k ∧ Aside0 (So2 w L Ao co Aa ca k wr))
    case atStart => exact ⟨0, Nat.zero_le _, by omega, rfl, HT⟩
    case round =>
     clear HT hi hg hlt
     obtain ⟨k, hk, hg, rfl, HI⟩ := hrel
     by_cases hlt : k < L.length
     · obtain ⟨ga, go, q, rfl, rfl, hq, hoq, x1, ⟨u, x2⟩, x3, HN⟩ := so2_cells HI.out hlt
       have hkz : (k : Int) < (L.length : Int) := by omega
       have hqz : (q : Int) < (L.length : Int) := by omega
       have HN := Aside0.mk HN
       clear HI hoq
       go_wp2
       go_roundg (L.length - (k + 1))
       case measure => omega
       case rel => exact ⟨k + 1, by omega, by omega, by go_num, ⟨HN.out _ rfl⟩⟩
     · obtain rfl : k = L.length := by omega
       have HW2 := HI.out
       have hd3 : ∀ x ∈ L, x.f3.length ≤ 100000 := fun x hx => by
        have := List.all_eq_true.1 q3 x hx
        have := right_len this
        omega
       clear HI
       go_wp2_with (first | (go_at_call 32; refine (copy_any L A c _ (Kd.C_below HC.out HW2.below) (by omega) hd3).mono ?_; rintro e w8 ⟨v8, rfl, hall, hb8⟩; obtain ⟨Al, cl, rfl⟩ := Kd.R_slice hall; have hb8b := HW2.below.trans (hb8.mono HW2.below.size)) | ((with_reducible refine gate_dst (N := 62) rfl ?_); refine R_make0 kIt w.heap.size 53 rfl (N := 62) rfl 22 _ _ rfl L.length rfl rfl Tryz.underlying22 (.agg #[(.int .i64 0), (.string ⟨#[]⟩), (.bool false), (.slice none 0 0)]) 56 info53 (by omega) (ok := fun _ => True) trivial (by omega) hb8b hb8b.size ?_; intro vx w9 hout hb9 hg9 hn9; obtain ⟨Ax, cx, ex⟩ := Kd.R_slice hout; rw [List.length_nil] at ex; subst ex))
       have HT := Aside0.mk (so3_start HW2 hb8 hall hb9 hg9 hout hn9)
       clear hb9 hall hg9 hout hn9 hb8b hb8 HW2 hd3 hg hlt hk
       generalize (.slice Ax 0 cx : Value) = vx at HT ⊢
       go_loopg [11, 65] L.length (fun gg v11 v65 wr => ∃ k : Nat, k ≤ L.length ∧ L.length - k ≤ gg ∧ v65 = .int .i64 k ∧ Aside0 (So3 w L Ao co Aa ca Al cl v11 k wr))
       case atStart => exact ⟨0, Nat.zero_le _, by omega, rfl, HT⟩
       case round =>
        clear HT
        obtain ⟨k, hk, hg, rfl, HI⟩ := hrel
        by_cases hlt : k < L.length
        · have H3 := HI.out
          obtain ⟨go, gl, q, A3, c3, rfl, rfl, hq, hoq, x1, y0, y1, y2, y3, hd⟩ := so3_cells H3 hlt
          have hkz : (k : Int) < (L.length : Int) := by omega
          have hqz : (q : Int) < (L.length : Int) := by omega
          have HD := Aside0.mk hd
          have H3 := Aside0.mk H3
          clear HI hd
          by_cases h1 : (itA L q).f0 = -1
          · rw [h1] at y0
            have hit : (⟨-1, (itA L q).f1, (itA L q).f2, (itA L q).f3⟩ : It) = itS L q := by unfold itS; rw [if_pos h1]
            have HBel := below_alloc (Below.refl wr.heap.size wr) (Obj.cells #[.int .i64 (-1), .string (itA L q).f1, .bool (itA L q).f2, .slice A3 (itA L q).f3.length c3] 53)
            go_wp2_with (first | ((with_reducible refine gate_builtin (b := .append) (xs := #[.tmp 82, .tmp 84]) rfl ?_); at_builtin; refine Kd.R_append kIt (w0 := w) (W := wr.alloc (Obj.cells #[.int .i64 (-1), .string (itA L q).f1, .bool (itA L q).f2, .slice A3 (itA L q).f3.length c3] 53)) w.heap.size rfl (.tmp 82) (.tmp 84) 22 53 (.agg #[(.int .i64 0), (.string ⟨#[]⟩), (.bool false), (.slice none 0 0)]) 56 rfl Tryz.underlying22 info53 rfl (by decide) (by omega) u11 ((sortL L).take k) (itS L q) [.int .i64 (-1), .string (itA L q).f1, .bool (itA L q).f2, .slice A3 (itA L q).f3.length c3] (fun _ => True) (fun b => True ∧ some b ≠ u11.ownBlock) rfl ?hx ?hp (fun _ h => h) (fun _ _ => trivial) ?HO ?HB ?hbase ?hl ?_; (case hx => (rw [World.size_alloc]; rfl)); (case hp => (rw [← hit]; exact k53_mkM _ _ _ ⟨_, (itA L q).f1, (itA L q).f2, (itA L q).f3⟩ (Kd.R_alloc HD.out _))); (case HO => exact (so3_on H3.out HBel).out); (case HB => exact (so3_on H3.out HBel).below); (case hbase => exact (so3_on H3.out HBel).below.size); (case hl => (rw [List.length_take]; omega)); intro v12 w12 ho12 hb12 hg12 hat12))
            go_roundg (L.length - (k + 1))
            case measure => omega
            case rel => exact ⟨k + 1, by omega, by omega, by go_num, ⟨so3_step (so3_on H3.out HBel) hoq ho12 hb12 hg12 hat12⟩⟩
          · obtain ⟨p, hp, hpl⟩ : ∃ p : Nat, (itA L q).f0 = p ∧ p < L.length := by
              have hpar : parB L q = true := by
               have hd2 := q2
               simp only [depB, List.all_eq_true, List.mem_range] at hd2
               exact okAt_par (hd2 q hq)
              have := par_ok hpar
              exact ⟨(itA L q).f0.toNat, by omega, by omega⟩
            obtain ⟨ga, rfl, x2⟩ := so3_at H3.out hpl
            have x2b : (wr.alloc (Obj.cells #[.int .i64 (p : Int), .string (itA L q).f1, .bool (itA L q).f2, .slice A3 (itA L q).f3.length c3] 53)).cell? ⟨ga, p, none⟩ = some (.int .i64 ((oL L).idxOf p : Int)) := (below_alloc (Below.refl wr.heap.size wr) _).cell (World.block_lt_of_cell? wr _ x2) ▸ x2
            have hpz : (p : Int) < (L.length : Int) := by omega
            have hpm : ((p : Int) == -1) = false := by rw [beq_eq_false_iff_ne]; omega
            have hit : (⟨((oL L).idxOf p : Int), (itA L q).f1, (itA L q).f2, (itA L q).f3⟩ : It) = itS L q := by unfold itS posI; rw [if_neg h1, hp, Int.toNat_natCast]
            rw [hp] at y0
            have HBel := below_alloc (Below.refl wr.heap.size wr) (Obj.cells #[.int .i64 ((oL L).idxOf p : Int), .string (itA L q).f1, .bool (itA L q).f2, .slice A3 (itA L q).f3.length c3] 53)
            go_wp2_with (first | ((with_reducible refine gate_builtin (b := .append) (xs := #[.tmp 82, .tmp 84]) rfl ?_); at_builtin; refine Kd.R_append kIt (w0 := w) (W := wr.alloc (Obj.cells #[.int .i64 ((oL L).idxOf p : Int), .string (itA L q).f1, .bool (itA L q).f2, .slice A3 (itA L q).f3.length c3] 53)) w.heap.size rfl (.tmp 82) (.tmp 84) 22 53 (.agg #[(.int .i64 0), (.string ⟨#[]⟩), (.bool false), (.slice none 0 0)]) 56 rfl Tryz.underlying22 info53 rfl (by decide) (by omega) u11 ((sortL L).take k) (itS L q) [.int .i64 ((oL L).idxOf p : Int), .string (itA L q).f1, .bool (itA L q).f2, .slice A3 (itA L q).f3.length c3] (fun _ => True) (fun b => True ∧ some b ≠ u11.ownBlock) rfl ?hx ?hp (fun _ h => h) (fun _ _ => trivial) ?HO ?HB ?hbase ?hl ?_; (case hx => (rw [World.size_alloc]; rfl)); (case hp => (rw [← hit]; exact k53_mkM _ _ _ ⟨_, (itA L q).f1, (itA L q).f2, (itA L q).f3⟩ (Kd.R_alloc HD.out _))); (case HO => exact (so3_on H3.out HBel).out); (case HB => exact (so3_on H3.out HBel).below); (case hbase => exact (so3_on H3.out HBel).below.size); (case hl => (rw [List.length_take]; omega)); intro v12 w12 ho12 hb12 hg12 hat12))
            go_roundg (L.length - (k + 1))
            case measure => omega
            case rel => exact ⟨k + 1, by omega, by omega, by go_num, ⟨so3_step (so3_on H3.out HBel) hoq ho12 hb12 hg12 hat12⟩⟩
        · obtain rfl : k = L.length := by omega
          have H3 := HI.out
          have hb := H3.below
          have hout := H3.out
          rw [List.take_of_length_le (by rw [sortL_len]; exact Nat.le_refl _)] at hout
          go_wp2
          go_ret2
          exact ⟨_, rfl, hout, hb⟩
def sortT (L : List It) : List It := if checkN L = 14 then [] else sortL L
def sortE (L : List It) : Int := if checkN L = 14 then 14 else 0
theorem Sort_any (L : List It) (A : Option Addr) (c : Nat) (hc : L.length ≤ c) (w : World) (hC : Kd.C kIt w A L.length L) (hwf : WfL L) :
    Calls Tryz.prog 51 #[.slice A L.length c] w fun e w' => ∃ v, e = .returned (.tuple #[v, .int .i64 (sortE L)]) ∧ Kd.R kIt 53 w' w.heap.size (fun _ => True) v (sortT L) ∧ Below w.heap.size w w' := by
 by_cases h14 : checkN L = 14
 · unfold sortE sortT
   rw [if_pos h14, if_pos h14]
   have HN := fun W => Kd.R_nil kIt 53 W w.heap.size (fun _ => True)
   have HC := Aside0.mk hC
   have HK := fun W B => check_any L A c W (Kd.C_below HC.out B) hwf
   rw [h14] at HK
   clear hC
   go_enter Tryz.func51, Tryz.ntmps51
   go_wp2_with (first | (go_at_call 18; refine (HK _ (Below.refl _ _)).mono ?_; rintro e w1 ⟨rfl, hb1⟩))
   go_ret2
   exact ⟨_, rfl, HN _, hb1⟩
 · unfold sortE sortT
   rw [if_neg h14, if_neg h14]
   exact sort_any L A c hc w hC hwf h14
end Go.Proofs.YthlflglkdaainaaGreatDoor.Tr
namespace Go.Proofs.YthlflglkdaainaaGreatDoor.Tr
open Go.RowKit Go.Lib Go.Proofs.YthlflglkdaainaaGreatDoorW.PrintWords Go.Proofs.YthlflglkdaainaaGreatDoorW.PrintLast Go.Proofs.YthlflglkdaainaaGreatDoorW.PrintMore Go.Proofs.YthlflglkdaainaaGreatDoor.Prt
def eqIt (x y : It) : Bool := decide (x.f0 = y.f0) && (x.f1.toList == y.f1.toList) && (x.f2 == y.f2) && decide (x.f3 = y.f3)
def eqL (L M : List It) : Bool := decide (L.length = M.length) && (List.range L.length).all fun i => eqIt (itA L i) (itA M i)
theorem upF_len (L : List It) : ∀ (n : Nat) (i : Int), (upF n L i).length ≤ n := by
 intro n
 induction n with
 | zero => intro i; simp [upF]
 | succ n ih =>
  intro i
  unfold upF
  split
  · simp
  · rw [List.length_cons]; have := ih (itA L i).f0; omega
theorem path_len (L : List It) (i : Nat) : (pathN L (i : Int)).length ≤ i + 1 := by
 unfold pathN
 rw [List.length_reverse]
 have := upF_len L ((i : Int) + 1).toNat i
 omega
theorem tPath_in {L : List It} (h14 : checkN L ≠ 14) {x : Nat} (hx : x < L.length) : tPath L (x : Int) = pathN L (x : Int) := by
 unfold tPath
 rw [if_neg (by rintro (h | h | h) <;> omega)]
theorem itA_par {L : List It} (h14 : checkN L ≠ 14) {q : Nat} (hq : q < L.length) : -1 ≤ (itA L q).f0 ∧ (itA L q).f0 < q := by
 obtain ⟨_, q2, _⟩ := check_ok h14
 simp only [depB, List.all_eq_true, List.mem_range] at q2
 exact par_ok (okAt_par (q2 q hq))
def Bytes8 (xs : List Int) : Prop := ∀ b ∈ xs, 0 ≤ b ∧ b ≤ 255
theorem nums_inj {xs ys : List Int} (hx : Bytes8 xs) (hy : Bytes8 ys) : (strOfNums xs).toList = (strOfNums ys).toList ↔ xs = ys := by
 refine ⟨fun h => ?_, fun h => by rw [h]⟩
 have h2 := str_inj h
 have h3 : (strOfNums xs).data.toList = (strOfNums ys).data.toList := by rw [h2]
 rw [strOfNums_data, strOfNums_data] at h3
 have key : ∀ {zs : List Int}, Bytes8 zs → (zs.map fun n => UInt8.ofNat n.toNat).map (fun u => (u.toNat : Int)) = zs := by
  intro zs hz
  rw [List.map_map]
  conv => rhs; rw [← List.map_id zs]
  refine List.map_congr_left fun b hb => ?_
  have := hz b hb
  show ((UInt8.ofNat b.toNat).toNat : Int) = b
  rw [UInt8.toNat_ofNat']
  omega
 rw [← key hx, ← key hy, h3]
theorem eqIt_iff (x y : It) : eqIt x y = true ↔ x = y := by
 cases x; cases y
 simp only [eqIt, Bool.and_eq_true, decide_eq_true_eq, beq_iff_eq, S53.mk.injEq]
 constructor
 · rintro ⟨⟨⟨a, b⟩, c⟩, d⟩
   exact ⟨a, str_inj b, c, d⟩
 · rintro ⟨a, b, c, d⟩
   exact ⟨⟨⟨a, by rw [b]⟩, c⟩, d⟩
theorem eqL_iff (L M : List It) : eqL L M = true ↔ L = M := by
 unfold eqL
 rw [Bool.and_eq_true, decide_eq_true_eq, List.all_eq_true]
 constructor
 · rintro ⟨h1, h2⟩
   apply List.ext_getElem h1
   intro i hi hj
   have := h2 i (List.mem_range.2 hi)
   rw [eqIt_iff, itA_get hi, itA_get hj] at this
   exact this
 · rintro rfl
   exact ⟨rfl, fun i _ => (eqIt_iff _ _).2 rfl⟩
theorem eqL_true {L M : List It} (h : L = M) : eqL L M = true := (eqL_iff L M).2 h
theorem eqL_false {L M : List It} (h : ¬ L = M) : eqL L M = false := by
 rw [← Bool.not_eq_true]
 exact fun e => h ((eqL_iff L M).1 e)
theorem eqL_refl (L : List It) : eqL L L = true := (eqL_iff L L).2 rfl
def WfB (L : List It) : Prop := L.length ≤ 100000 ∧ ∀ x ∈ L, Bytes8 x.f3
theorem equal_ev {L M : List It} (hL : WfB L) (hM : WfB M) (hl : L.length = M.length) : ∀ (t i : Nat), L.length - i ≤ t → i ≤ L.length → (∀ j, j < i → itA L j = itA M j) → Ev (fun k => gessoref14_Equal.l0 k L M (i : Int)) (eqL L M) := by
 have hn := hL.1
 intro t
 induction t with
 | zero =>
  intro i h1 h2 h3
  obtain rfl : i = L.length := by omega
  refine ⟨1, fun k hk => ?_⟩
  obtain ⟨k, rfl⟩ : ∃ q, k = q + 1 := ⟨k - 1, by omega⟩
  simp only [gessoref14_Equal.l0]
  rw [if_neg (by omega), eqL_true]
  apply List.ext_getElem hl
  intro j hj hj2
  have := h3 j hj
  rwa [itA_get hj, itA_get hj2] at this
 | succ t ih =>
  intro i h1 h2 h3
  by_cases hi : i < L.length
  · have hi2 : i < M.length := by omega
    have bx := hL.2 _ (List.getElem_mem hi)
    have byy := hM.2 _ (List.getElem_mem hi2)
    rw [← itA_get hi] at bx
    rw [← itA_get hi2] at byy
    have stop : ¬ itA L i = itA M i → Ev (fun k => gessoref14_Equal.l0 k L M (i : Int)) (eqL L M) := by
     intro h
     rw [eqL_false (fun e => h (by rw [e]))]
     refine ⟨1, fun k hk => ?_⟩
     obtain ⟨k, rfl⟩ : ∃ q, k = q + 1 := ⟨k - 1, by omega⟩
     simp only [gessoref14_Equal.l0]
     rw [if_pos (by omega), if_pos (by omega), if_pos (by omega)]
     show (if (itA L i).f0 = (itA M i).f0 then (if (itA L i).f1.toList = (itA M i).f1.toList then (if ((itA L i).f2 != (itA M i).f2) = true then some false else (if (strOfNums (itA L i).f3).toList = (strOfNums (itA M i).f3).toList then _ else some false)) else some false) else some false) = some false
     by_cases a0 : (itA L i).f0 = (itA M i).f0
     · by_cases a1 : (itA L i).f1.toList = (itA M i).f1.toList
       · by_cases a2 : (itA L i).f2 = (itA M i).f2
         · by_cases a3 : (itA L i).f3 = (itA M i).f3
           · exfalso
             apply h
             rw [← eqIt_iff]
             simp [eqIt, a0, a1, a2, a3]
           · rw [if_pos a0, if_pos a1, if_neg (by simp [a2]), if_neg (fun e => a3 ((nums_inj bx byy).1 e))]
         · rw [if_pos a0, if_pos a1, if_pos (by simpa using a2)]
       · rw [if_pos a0, if_neg a1]
     · rw [if_neg a0]
    by_cases he : itA L i = itA M i
    · refine ev_step (fun k => ?_) (ih (i + 1) (by omega) (by omega) (fun j hj => by
        by_cases e : j = i
        · subst e; exact he
        · exact h3 j (by omega)))
      simp only [gessoref14_Equal.l0]
      rw [if_pos (by omega), if_pos (by omega), if_pos (by omega), wrap_id (by omega) (by omega)]
      show (if (itA L i).f0 = (itA M i).f0 then (if (itA L i).f1.toList = (itA M i).f1.toList then (if ((itA L i).f2 != (itA M i).f2) = true then some false else (if (strOfNums (itA L i).f3).toList = (strOfNums (itA M i).f3).toList then _ else some false)) else some false) else some false) = _
      rw [he, if_pos rfl, if_pos rfl, if_neg (by simp), if_pos rfl]
      rfl
    · exact stop he
  · exact ih i (by omega) h2 h3
theorem Equal_ev {L M : List It} (hL : WfB L) (hM : WfB M) : Ev (fun k => gessoref14_Equal.f k L M) (eqL L M) := by
 unfold gessoref14_Equal.f
 by_cases h : L.length = M.length
 · exact Ev.congr (fun k => if_pos (by omega)) (equal_ev hL hM h L.length 0 (by omega) (by omega) (fun j h => absurd h (Nat.not_lt_zero _)))
 · rw [eqL_false (fun e => h (by rw [e]))]
   exact Ev.congr (fun k => if_neg (by omega)) (Ev.now _)
theorem REqual_any {L M : List It} (hL : WfB L) (hM : WfB M) (A B : Option Addr) (c d : Nat) (hc : L.length ≤ c) (hd : M.length ≤ d) (w : World) (hC : Kd.C kIt w A L.length L) (hD : Kd.C kIt w B M.length M) :
    Calls Tryz.prog 22 #[.slice A L.length c, .slice B M.length d] w fun e w' => e = .returned (.bool (eqL L M)) ∧ Drawn0 w w' := by
 obtain ⟨k, hk⟩ := (Equal_ev hL hM).rounds
 exact gessoref14_Equal.calls k A c L B d M _ w hC hc hD hd hk
theorem ev_step' {α : Type} {g : Nat → Option α} {f : Nat → Option α} {r : α} (h : ∀ k, g (k + 1) = f k) (hf : Ev f r) : Ev g r := by
 obtain ⟨K, hK⟩ := hf
 refine ⟨K + 1, fun k hk => ?_⟩
 obtain ⟨k, rfl⟩ : ∃ q, k = q + 1 := ⟨k - 1, by omega⟩
 rw [h]; exact hK k (by omega)
theorem cmpL_snoc : ∀ (a : List ByteArray) (x : ByteArray), cmpL a (a ++ [x]) < 0
 | [], x => by simp [cmpL]
 | y :: a, x => by
  rw [List.cons_append, cmpL, if_pos (cmpS_zero.2 rfl)]
  exact cmpL_snoc a x
theorem idx_range {n p : Nat} (hp : p < n) : (List.range n).idxOf p = p := by
 have := (List.nodup_range (n := n)).idxOf_getElem p (by rw [List.length_range]; exact hp)
 rwa [List.getElem_range] at this
theorem check_of {L : List It} (h1 : L.length ≤ 64) (h2 : depB L = true) (h3 : L.all rightB = true) : checkN L ≠ 14 := by
 unfold checkN
 rw [if_neg (by omega), if_neg]
 · split <;> decide
 · rw [h2]
   have : (L.any fun x => !rightB x) = false := by
    rw [List.any_eq_false]
    intro x hx
    simpa using List.all_eq_true.1 h3 x hx
   rw [this]; decide
section
variable {L : List It} (h14 : checkN L ≠ 14)
def oN (L : List It) (k : Nat) : Nat := (oL L).getD k 0
theorem oN_get {k : Nat} (hk : k < L.length) : (oL L)[k]? = some (oN L k) := by
 have : k < (oL L).length := by rw [oL_len]; exact hk
 rw [oN, List.getD_eq_getElem?_getD, List.getElem?_eq_getElem this]; rfl
theorem oN_lt {k : Nat} (hk : k < L.length) : oN L k < L.length := oL_mem.1 (List.mem_of_getElem? (oN_get hk))
theorem oN_inj {j k : Nat} (hj : j < L.length) (hk : k < L.length) (h : oN L j = oN L k) : j = k := by
 have h1 := oN_get hj; have h2 := oN_get hk
 rw [h] at h1
 exact (List.getElem?_inj (by rw [oL_len]; exact hj) (oL_nodup L)).1 (h1.trans h2.symm)
theorem oN_idx {p : Nat} (hp : p < L.length) : oN L ((oL L).idxOf p) = p := by
 have := idx_at hp rfl
 rw [oN_get (idx_lt hp)] at this
 exact Option.some.inj this
theorem sortL_at {k : Nat} (hk : k < L.length) : itA (sortL L) (k : Int) = itS L (oN L k) := by
 rw [itA_get (by rw [sortL_len]; exact hk)]
 have h1 : (sortL L)[k]? = some (itS L (oN L k)) := by
  unfold sortL
  rw [List.getElem?_map, oN_get hk]; rfl
 exact (List.getElem?_eq_some_iff.1 h1).2
include h14
theorem tree_pars {i : Nat} (hi : i < L.length) : ∀ j : Nat, j ≤ i → parB L j = true := by
 obtain ⟨_, q2, _⟩ := check_ok h14
 simp only [depB, List.all_eq_true, List.mem_range] at q2
 exact fun j hj => okAt_par (q2 j (by omega))
theorem oL_sorted : (oL L).Pairwise fun a b => ltP L a b = true := by
 obtain ⟨_, q2, _⟩ := check_ok h14
 exact ord_sorted (ltP_trans L) L.length (fun i j hi hj => ltP_tri q2 i j hi hj)
theorem oN_less {a b : Nat} (hab : a < b) (hb : b < L.length) : ltP L (oN L a) (oN L b) = true := by
 have h := List.pairwise_iff_getElem.1 (oL_sorted h14) a b (by rw [oL_len]; omega) (by rw [oL_len]; exact hb) hab
 have e1 := (List.getElem?_eq_some_iff.1 (oN_get (show a < L.length by omega))).2
 have e2 := (List.getElem?_eq_some_iff.1 (oN_get hb)).2
 rw [e1, e2] at h
 exact h
theorem par_before {k p : Nat} (hk : k < L.length) (hp : (itA L (oN L k)).f0 = p) : (oL L).idxOf p < k := by
 have hq := oN_lt hk
 obtain ⟨p1, p2⟩ := itA_par h14 hq
 have hpl : p < L.length := by omega
 have hlt : ltP L p (oN L k) = true := by
  unfold ltP
  rw [path_step (tree_pars h14 hq), hp, decide_eq_true_eq]
  exact cmpL_snoc _ _
 apply Decidable.byContradiction
 intro hn
 rcases Nat.lt_or_eq_of_le (Nat.le_of_not_lt hn) with h | h
 · have := oN_less h14 h (idx_lt hpl)
   rw [oN_idx hpl] at this
   have := ltP_trans L _ _ _ this hlt
   rw [ltP_irr] at this; cases this
 · have : oN L k = p := by rw [h]; exact oN_idx hpl
   rw [hp] at p2
   omega
theorem itS_par {k : Nat} (hk : k < L.length) : (itA L (oN L k)).f0 = -1 ∧ (itA (sortL L) k).f0 = -1 ∨ ∃ p : Nat, (itA L (oN L k)).f0 = p ∧ p < L.length ∧ (itA (sortL L) k).f0 = ((oL L).idxOf p : Int) ∧ (oL L).idxOf p < k := by
 obtain ⟨p1, p2⟩ := itA_par h14 (oN_lt hk)
 have hq := oN_lt hk
 rw [sortL_at hk]
 by_cases h : (itA L (oN L k)).f0 = -1
 · refine .inl ⟨h, ?_⟩
   unfold itS; rw [if_pos h]
 · obtain ⟨p, hp⟩ : ∃ p : Nat, (itA L (oN L k)).f0 = p := ⟨(itA L (oN L k)).f0.toNat, by omega⟩
   refine .inr ⟨p, hp, by omega, ?_, par_before h14 hk hp⟩
   unfold itS posI
   rw [if_neg h, hp, Int.toNat_natCast]
theorem sort_par {k : Nat} (hk : k < L.length) : parB (sortL L) k = true := by
 have hpl := tree_pars h14 (oN_lt hk) (oN L k) (Nat.le_refl _)
 simp only [parB, Bool.and_eq_true, Bool.or_eq_true, decide_eq_true_eq] at hpl ⊢
 rcases itS_par h14 hk with ⟨a, b⟩ | ⟨p, a, b, c, d⟩
 · rw [b]
   exact ⟨⟨by omega, by omega⟩, .inl rfl⟩
 · rw [c]
   refine ⟨⟨by omega, by omega⟩, .inr ?_⟩
   rw [sortL_at (idx_lt b), oN_idx b]
   show (itA L p).f2 = true
   rcases hpl.2 with h | h
   · omega
   · rw [a] at h; exact h
theorem sort_pars {i : Nat} (hi : i < L.length) : ∀ j : Nat, j ≤ i → parB (sortL L) j = true := fun j hj => sort_par h14 (by omega)
theorem sort_path : ∀ (t k : Nat), k ≤ t → k < L.length → pathN (sortL L) k = pathN L (oN L k) ∧ dep (sortL L) k = dep L (oN L k) := by
 intro t
 induction t with
 | zero =>
  intro k h1 hk
  obtain rfl : k = 0 := by omega
  rcases itS_par h14 hk with ⟨a, b⟩ | ⟨p, a, b, c, d⟩
  · rw [path_step (sort_pars h14 hk), path_step (tree_pars h14 (oN_lt hk)), a, b, path_top, path_top, dep_one a, dep_one b, sortL_at hk]
    exact ⟨rfl, rfl⟩
  · omega
 | succ t ih =>
  intro k h1 hk
  rcases itS_par h14 hk with ⟨a, b⟩ | ⟨p, a, b, c, d⟩
  · rw [path_step (sort_pars h14 hk), path_step (tree_pars h14 (oN_lt hk)), a, b, path_top, path_top, dep_one a, dep_one b, sortL_at hk]
    exact ⟨rfl, rfl⟩
  · obtain ⟨i1, i2⟩ := ih ((oL L).idxOf p) (by omega) (by omega)
    rw [oN_idx b] at i1 i2
    have hlt := (itA_par h14 (oN_lt hk)).2
    rw [path_step (sort_pars h14 hk), path_step (tree_pars h14 (oN_lt hk)), a, c, i1, dep_step c d (fun j hj => sort_par h14 (by omega)), i2, dep_step a (by omega) (fun j hj => tree_pars h14 (oN_lt hk) j (by omega)), sortL_at hk]
    exact ⟨rfl, rfl⟩
theorem sort_check : checkN (sortL L) ≠ 14 := by
 obtain ⟨q1, q2, q3⟩ := check_ok h14
 refine check_of (by rw [sortL_len]; exact q1) ?_ ?_
 · simp only [depB, List.all_eq_true, List.mem_range] at q2 ⊢
   intro k hk
   rw [sortL_len] at hk
   have ho := q2 _ (oN_lt hk)
   simp only [okAtB, Bool.and_eq_true, decide_eq_true_eq, Bool.not_eq_true'] at ho ⊢
   refine ⟨⟨sort_par h14 hk, ?_⟩, ?_⟩
   · rw [(sort_path h14 k k (Nat.le_refl _) hk).2]; exact ho.1.2
   · unfold dupB
     rw [List.any_eq_false]
     intro x hx hc
     obtain ⟨j, hj, hx⟩ := List.getElem_of_mem hx
     rw [List.length_take, sortL_len] at hj
     rw [List.getElem_take] at hx
     have hjl : j < L.length := by omega
     rw [Bool.and_eq_true, decide_eq_true_eq, beq_iff_eq] at hc
     have hxj : x = itA (sortL L) j := by rw [itA_get (by rw [sortL_len]; exact hjl)]; exact hx.symm
     rw [hxj] at hc
     have hp : pathN (sortL L) j = pathN (sortL L) k := by
      rw [path_step (sort_pars h14 hjl), path_step (sort_pars h14 hk), hc.1, str_inj hc.2]
     rw [(sort_path h14 j j (Nat.le_refl _) hjl).1, (sort_path h14 k k (Nat.le_refl _) hk).1] at hp
     have := path_inj (check_ok h14).2.1 _ _ _ (Nat.le_refl _) (oN_lt hjl) (oN_lt hk) hp
     have := oN_inj hjl hk this
     omega
 · rw [List.all_eq_true] at q3 ⊢
   intro x hx
   obtain ⟨q, hq, rfl⟩ := List.mem_map.1 hx
   have hql := oL_mem.1 hq
   have := q3 _ (List.getElem_mem hql)
   rw [← itA_get hql] at this
   exact this
theorem sort_ltP {j k : Nat} (hj : j < L.length) (hk : k < L.length) : ltP (sortL L) j k = ltP L (oN L j) (oN L k) := by
 unfold ltP
 rw [(sort_path h14 j j (Nat.le_refl _) hj).1, (sort_path h14 k k (Nat.le_refl _) hk).1]
theorem sort_ord : oL (sortL L) = List.range L.length := by
 have hc := sort_check h14
 obtain ⟨_, q2, _⟩ := check_ok hc
 have hl := sortL_len L
 show ordR (ltP (sortL L)) (sortL L).length = _
 rw [hl]
 refine (ord_one (ltP_irr _) (ltP_trans _) (fun i j hi hj => ltP_tri q2 i j (by omega) (by omega)) (List.Perm.refl _) ?_).symm
 rw [List.pairwise_iff_getElem]
 intro i j hi hj hij
 rw [List.length_range] at hi hj
 rw [List.getElem_range, List.getElem_range, sort_ltP h14 hi hj]
 exact oN_less h14 hij hj
theorem sort_again : sortL (sortL L) = sortL L := by
 have hl := sortL_len L
 apply List.ext_getElem
 · rw [sortL_len]
 · intro k h1 h2
   rw [hl] at h2
   have hk2 : k < (sortL L).length := by rw [hl]; exact h2
   have e0 := sortL_at (L := sortL L) hk2
   have ho : oN (sortL L) k = k := by
    unfold oN
    rw [sort_ord h14, List.getD_eq_getElem?_getD, List.getElem?_range h2]; rfl
   rw [ho, itA_get h1] at e0
   rw [e0]
   have e1 : (sortL L)[k] = itA (sortL L) k := (itA_get hk2).symm
   rw [e1]
   unfold itS
   rcases itS_par h14 h2 with ⟨a, b⟩ | ⟨p, a, b, c, d⟩
   · rw [if_pos b]
     conv => rhs; rw [show itA (sortL L) k = ⟨(itA (sortL L) k).f0, (itA (sortL L) k).f1, (itA (sortL L) k).f2, (itA (sortL L) k).f3⟩ from rfl, b]
   · rw [if_neg (by omega)]
     unfold posI
     rw [c, Int.toNat_natCast, sort_ord h14, idx_range (by omega)]
     conv => rhs; rw [show itA (sortL L) k = ⟨(itA (sortL L) k).f0, (itA (sortL L) k).f1, (itA (sortL L) k).f2, (itA (sortL L) k).f3⟩ from rfl, c]
end
theorem take_drop_set {α : Type} (l : List α) (i s k : Nat) (u : α) (hk : k < s) : ((l.set (i * s + k) u).drop (i * s)).take s = ((l.drop (i * s)).take s).set k u := by
 apply List.ext_getElem?
 intro q
 rw [List.getElem?_take, List.getElem?_set, List.getElem?_take, List.getElem?_drop, List.getElem?_drop, List.getElem?_set, List.length_take, List.length_drop]
 by_cases hq : q < s
 · rw [if_pos hq, if_pos hq]
   by_cases e : k = q
   · subst e
     rw [if_pos rfl, if_pos rfl]
     by_cases h : i * s + k < l.length
     · rw [if_pos h, if_pos (by omega)]
     · rw [if_neg h, if_neg (by omega)]
   · rw [if_neg (by omega), if_neg e]
 · rw [if_neg hq, if_neg (by omega), if_neg hq]
theorem take_drop_far {α : Type} (l : List α) (i j s k : Nat) (u : α) (hk : k < s) (hij : i ≠ j) : ((l.set (i * s + k) u).drop (j * s)).take s = (l.drop (j * s)).take s := by
 apply List.ext_getElem?
 intro q
 rw [List.getElem?_take, List.getElem?_take, List.getElem?_drop, List.getElem?_drop]
 by_cases hq : q < s
 · rw [if_pos hq, if_pos hq, List.getElem?_set_ne]
   intro h
   rcases Nat.lt_or_gt_of_ne hij with h1 | h1
   · have := Nat.mul_le_mul_right s (show i + 1 ≤ j from h1)
     rw [Nat.succ_mul] at this
     omega
   · have := Nat.mul_le_mul_right s (show j + 1 ≤ i from h1)
     rw [Nat.succ_mul] at this
     omega
 · rw [if_neg hq, if_neg hq]
section
variable {α : Type} {d : Kd α} {e base g n cap : Nat} {ok : Nat → Prop} {W : World} {xs : List α}
theorem rk_put (h : d.R e W base ok (.slice (some ⟨g, 0, none⟩) n cap) xs) (j k : Nat) (hj : j < xs.length) (hk : k < d.sz) (u : Value) {x' : α}
    (hM : ∀ cs, d.M W base (fun b => ok b ∧ b ≠ g) xs[j] cs → d.M W base (fun b => ok b ∧ b ≠ g) x' (cs.set k u)) :
    d.R e (W.setCell ⟨g, j * d.sz + k, none⟩ u) base ok (.slice (some ⟨g, 0, none⟩) n cap) (xs.set j x') ∧ W.grownBy (W.setCell ⟨g, j * d.sz + k, none⟩ u) (some g) := by
 obtain ⟨hn, _⟩ := Kd.R_reads' h
 obtain ⟨h0, inner, ho, hr⟩ := h
 subst hn
 have hs := ho.stored (j * d.sz + k) u
 refine ⟨⟨h0, inner.set (j * d.sz + k) u, ?_, ?_, fun q p hq => ?_⟩, ?_⟩
 · rw [List.length_set]; exact hs.1
 · rw [List.length_set, List.length_set, hr.1]
 · have hql : q < xs.length := by have := (List.getElem?_eq_some_iff.1 hq).1; rwa [List.length_set] at this
   by_cases e1 : j = q
   · subst e1
     have hp : p = x' := by
      rw [List.getElem?_set_self hj] at hq; exact (Option.some.inj hq).symm
     subst hp
     rw [take_drop_set _ _ _ _ _ hk]
     have h1 := hr.2 j _ (List.getElem?_eq_getElem hj)
     have h2 := hM _ (d.M_mono (fun b hb => ⟨hb.1, fun e => hb.2 (by rw [e]; rfl)⟩) h1)
     refine Kd.M_far (p := ⟨g, j * d.sz + k, none⟩) (d.M_mono (fun b hb => ⟨hb.1, fun e => hb.2 (Option.some.inj e)⟩) h2) (fun b hb => fun e => hb.2 (by show some b = some g; rw [e])) u
   · rw [take_drop_far _ _ _ _ _ _ hk e1]
     rw [List.getElem?_set_ne e1] at hq
     exact Kd.M_far (p := ⟨g, j * d.sz + k, none⟩) (hr.2 q p hq) (fun b hb => fun e => hb.2 (by show some b = some g; rw [e])) u
 · exact hs.2
end
end Go.Proofs.YthlflglkdaainaaGreatDoor.Tr
