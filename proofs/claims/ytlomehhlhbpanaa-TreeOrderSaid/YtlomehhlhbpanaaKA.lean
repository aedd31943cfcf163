import Derived.Test.YtlomehhlhbpanaaT0
import Derived.Deep.Slices
import Derived.Lib.SmallJoins
import Derived.ChangeSlices
import Derived.Lib.SlBytesConst
import Derived.Lib.IndexLaws
import Derived.Shelf.Small.Strs
import Derived.Maps.OwnSet
import Derived.DeepKeys4
import Derived.Test.YtlomehhlhbpanaaT1
import Derived.Shelf.SlicesE.Clone
import Derived.Laws.CopyRow
import Derived.Laws.CopyOwn
/- A pack of texts: TIt, TThree, TRight, TCont, TDep, TDepW, TCheck, TPath, TClone, TCopy. -/
/- Items as an argument: what stands in memory. -/
namespace Go.Proofs.Ytlomehhlhbpanaa
open Go.RowKit Go.Lib Go.Joins Go.ChangeShapes Go.Deep Go.Proofs.YtlomehhlhbpanaaW.PrintWords Go.Proofs.Ytlomehhlhbpanaa.Prt

abbrev It := S41
abbrev kIt : Kd It := k41
abbrev zIt : It := z41
abbrev itA (L : List It) (i : Int) : It := rd_T41 L i

def WfIt (x : It) : Prop := -9223372036854775808 ≤ x.f0 ∧ x.f0 ≤ 9223372036854775807 ∧ x.f1.size ≤ maxLen ∧ (∀ b ∈ x.f3, 0 ≤ b ∧ b ≤ 255) ∧ x.f3.length ≤ maxLen
def WfL (L : List It) : Prop := ∀ x ∈ L, WfIt x

theorem open_bytesC {H : Type} {enc : TypeId × Value → H} {w : World} {base : Nat} {spare held : _} {fuel : Nat} {cs : List Value} {x : DataW H × List MemPlace}
    (h : DataW.trod enc Try.prog w base spare held fuel 39 cs = some x) :
    ∃ A c xs, cs = [.slice A xs.length c] ∧ xs.length ≤ c ∧ (Kd.int .u8).C w A xs.length xs ∧ (∀ b ∈ xs, 0 ≤ b ∧ b ≤ 255) ∧ xs.length ≤ maxLen := by
  rcases open_ints Try.underlying39 Try.underlying5 (by kernel_rfl) h with ⟨hcs, _⟩ | ⟨a, l, c, zs, hcs, _, hl, hm, hz, _, hcell, hwz⟩
  · exact ⟨none, 0, [], hcs, Nat.le_refl _, ⟨rfl, by simp, fun hn => absurd hn (by simp)⟩, by simp, by simp⟩
  · have hlz : l ≤ zs.length := by rw [hz]; split <;> omega
    have hlt : (zs.take l).length = l := by rw [List.length_take]; omega
    refine ⟨some a, c, zs.take l, by rw [hlt]; exact hcs, by omega, ⟨rfl, by rw [hlt]; simp only [maxLen] at hm; omega, fun _ => ⟨a, rfl, fun j p hj => ⟨[.int .u8 p], rfl, rfl, fun i u hu => ?_⟩⟩⟩, ?_, by omega⟩
    · have hjl : j < l := by have := (List.getElem?_eq_some_iff.1 hj).1; omega
      match i, hu with
      | 0, hu =>
        cases hu
        have h1 := hcell j (by omega)
        show w.cell? (a.add (j * 1 + 0)) = _
        rw [Nat.mul_one, Nat.add_zero, h1]
        rw [List.getElem?_take_of_lt hjl] at hj
        rw [List.getD_eq_getElem?_getD, hj]; rfl
      | i + 1, hu => simp at hu
    · intro b hb
      have h1 := hwz b (List.mem_of_mem_take hb)
      simp [Lit.wf, IntKind.min, IntKind.max, IntKind.signed, IntKind.bits] at h1
      constructor <;> omega

theorem open_items {H : Type} {enc : TypeId × Value → H} {w : World} {base : Nat} {spare held : _} {fuel : Nat} {cs : List Value} {x : DataW H × List MemPlace}
    (h : DataW.trod enc Try.prog w base spare held fuel 22 cs = some x) :
    ∃ A c L, cs = [.slice A L.length c] ∧ L.length ≤ c ∧ Kd.C kIt w A L.length L ∧ WfL L ∧ L.length ≤ maxLen := by
  rcases open_slice Try.underlying22 h with ⟨hcs, _⟩ | ⟨a, len, cap, m, n, D, Pl, hcs, hb, hl, hm, hmm, _, hx⟩
  · exact ⟨none, 0, [], hcs, Nat.le_refl _, ⟨rfl, by simp, fun hn => absurd hn (by simp)⟩, by simp [WfL], by simp⟩
  · have hlm : len ≤ m := by rw [hmm]; split <;> omega
    have hc4 : Try.prog.cellsOf 41 = 4 := by kernel_rfl
    have each : ∀ i, i < len → ∃ s : It, ∃ c : List Value, c.length = 4 ∧ kIt.K w s c ∧ (∀ j u, c[j]? = some u → w.cell? (a.add (i * 4 + j)) = some u) ∧ WfIt s := by
      intro i hi
      obtain ⟨cs', h1, h2⟩ := hx i (by omega)
      rw [hc4] at h1
      obtain ⟨_, hlen, hcell⟩ := World.cells?_some h1
      obtain ⟨y0, y1, y2, y3, k, _, _, t0, t1, t2, t3⟩ := trod_struct4 Try.underlying41 h2
      match cs', hlen with
      | [c0, c1, c2, c3], _ =>
        obtain ⟨p, e0, _, wf0⟩ := DataW.trod_int Try.underlying3 t0
        obtain ⟨s, e1, _, wf1⟩ := DataW.trod_string Try.underlying9 t1
        obtain ⟨b, e2, _⟩ := DataW.trod_bool Try.underlying4 t2
        obtain ⟨A3, cc, xs, e3, l3, g3, wf3, wl3⟩ := open_bytesC t3
        have d0 : c0 = .int .i64 p := by
          have : [c0] = [Value.int .i64 p] := e0
          exact (List.cons.inj this).1
        have d1 : c1 = .string s := by
          have : [c1] = [Value.string s] := e1
          exact (List.cons.inj this).1
        have d2 : c2 = .bool b := by
          have : [c2] = [Value.bool b] := e2
          exact (List.cons.inj this).1
        have d3 : c3 = .slice A3 xs.length cc := by
          have : [c3] = [Value.slice A3 xs.length cc] := e3
          exact (List.cons.inj this).1
        subst d0; subst d1; subst d2; subst d3
        refine ⟨⟨p, s, b, xs⟩, _, rfl, k41_mk w ⟨p, s, b, xs⟩ l3 g3, fun j u hu => ?_, ?_⟩
        · have hj : j < 4 := by have := (List.getElem?_eq_some_iff.1 hu).1; simpa using this
          have h5 := hcell j hj
          rw [hu] at h5
          rw [← h5]
          rw [Addr.add_add]
        · simp [Lit.wf, IntKind.min, IntKind.max, IntKind.signed, IntKind.bits] at wf0
          exact ⟨by show _ ≤ p; omega, by show p ≤ _; omega, wf1, wf3, wl3⟩
    haveI : Inhabited It := ⟨zIt⟩
    obtain ⟨f, hf⟩ := choose_lt each
    have hlf : ((List.range len).map f).length = len := by simp
    refine ⟨some a, cap, (List.range len).map f, by rw [hlf]; exact hcs, by omega, ⟨rfl, by rw [hlf]; simp only [maxLen] at hm; omega, fun _ => ⟨a, rfl, fun j p hj => ?_⟩⟩, ?_, by omega⟩
    · rw [List.getElem?_map] at hj
      obtain ⟨i, hi, rfl⟩ := Option.map_eq_some_iff.1 hj
      obtain ⟨hjl, rfl⟩ := List.getElem?_eq_some_iff.1 hi
      have hjl' : j < len := by simpa using hjl
      rw [List.getElem_range]
      obtain ⟨c, q1, q2, q3, _⟩ := hf j hjl'
      exact ⟨c, q1, q2, q3⟩
    · intro y hy
      obtain ⟨i, hi, rfl⟩ := List.mem_map.1 hy
      exact (hf i (List.mem_range.1 hi)).choose_spec.2.2.2
end Go.Proofs.Ytlomehhlhbpanaa

/- three: the closed tree. -/
namespace Go.Proofs.Ytlomehhlhbpanaa
open Go.RowKit Go.Lib Go.Proofs.YtlomehhlhbpanaaW.PrintWords Go.Proofs.Ytlomehhlhbpanaa.Prt

def threeL : List It := [⟨-1, ⟨#[100]⟩, true, []⟩, ⟨0, ⟨#[97]⟩, false, [120]⟩, ⟨-1, ⟨#[98]⟩, false, []⟩]

theorem add_at0 (b k : Nat) : Addr.add ⟨b, 0, none⟩ k = ⟨b, k, none⟩ := by simp [Addr.add]; intro h; exact h.symm
theorem cell_alloc_new (w : World) (cs : Array Value) (e : TypeId) (fr : Nat × Nat) (i : Nat) {v : Value} (h : cs[i]? = some v) : (w.alloc (.cells cs e fr)).cell? ⟨w.heap.size, i, none⟩ = some v := by
  have : (w.alloc (.cells cs e fr)).heap[w.heap.size]? = some (.cells cs e fr) := by
    show (w.heap.push (.cells cs e fr))[w.heap.size]? = _
    simp
  simp only [World.cell?, this]
  exact h

set_option maxRecDepth 100000 in
set_option maxHeartbeats 4000000 in
theorem three_any (w : World) :
    Calls Try.prog 24 #[] w fun e w' => ∃ A c, e = .returned (.slice A threeL.length c) ∧ threeL.length ≤ c ∧ Kd.C kIt w' A threeL.length threeL ∧ Below w.heap.size w w' := by
  have hu41 := Try.underlying41
  go_enter Try.func24, Try.ntmps24
  go_wp2
  rw [run_convert_bytes_const w 39 5 #[.int .u8 120] 1 1 Try.underlying39 Try.underlying5]
  go_wp2
  refine bodyPost_ret (results_tmp rfl _ _ _) rfl ?_
  have hb1 : Below w.heap.size w (w.alloc (Obj.cells #[Value.int IntKind.u8 120] 5 (1, 2))) := below_alloc (Below.refl _ _) _
  refine ⟨_, _, rfl, Nat.le_refl _, ⟨rfl, by decide, fun _ => ⟨_, rfl, fun j p hj => ?_⟩⟩, below_alloc hb1 _⟩
  have hsz : (w.alloc (Obj.cells #[Value.int IntKind.u8 120] 5 (1, 2))).heap.size = w.heap.size + 1 := Array.size_push ..
  rw [← hsz]
  match j, hj with
  | 0, hj =>
    cases hj
    refine ⟨[.int .i64 (-1), .string ⟨#[100]⟩, .bool true, .slice none 0 0], rfl, k41_mk _ ⟨-1, ⟨#[100]⟩, true, []⟩ (Nat.le_refl _) ⟨rfl, by simp, fun hn => absurd hn (by simp)⟩, fun i u hu => ?_⟩
    show (World.alloc _ _).cell? (Addr.add ⟨_, 0, none⟩ (0 * 4 + i)) = _
    rw [add_at0]
    refine cell_alloc_new _ _ _ _ _ ?_
    match i, hu with
    | 0, hu => exact hu
    | 1, hu => exact hu
    | 2, hu => exact hu
    | 3, hu => exact hu
    | i + 4, hu => simp at hu
  | 1, hj =>
    cases hj
    refine ⟨[.int .i64 0, .string ⟨#[97]⟩, .bool false, .slice (some ⟨w.heap.size, 0, none⟩) 1 1], rfl, k41_mk _ ⟨0, ⟨#[97]⟩, false, [120]⟩ (Nat.le_refl _) ⟨rfl, by decide, fun _ => ⟨_, rfl, fun j p hj => ⟨[.int .u8 120], rfl, ?_, fun i u hu => ?_⟩⟩⟩, fun i u hu => ?_⟩
    · match j, hj with
      | 0, hj => cases hj; rfl
      | j + 1, hj => simp at hj
    · match j, hj with
      | 0, hj =>
        match i, hu with
        | 0, hu =>
          refine pw_cell_below (below_alloc (Below.refl _ _) _) ?_
          show (World.alloc _ _).cell? (Addr.add ⟨_, 0, none⟩ (0 * 1 + 0)) = _
          rw [add_at0]
          exact cell_alloc_new w _ _ _ 0 hu
        | i + 1, hu => simp at hu
      | j + 1, hj => simp at hj
    show (World.alloc _ _).cell? (Addr.add ⟨_, 0, none⟩ (1 * 4 + i)) = _
    rw [add_at0]
    · refine cell_alloc_new _ _ _ _ _ ?_
      match i, hu with
      | 0, hu => exact hu
      | 1, hu => exact hu
      | 2, hu => exact hu
      | 3, hu => exact hu
      | i + 4, hu => simp at hu
  | 2, hj =>
    cases hj
    refine ⟨[.int .i64 (-1), .string ⟨#[98]⟩, .bool false, .slice none 0 0], rfl, k41_mk _ ⟨-1, ⟨#[98]⟩, false, []⟩ (Nat.le_refl _) ⟨rfl, by simp, fun hn => absurd hn (by simp)⟩, fun i u hu => ?_⟩
    show (World.alloc _ _).cell? (Addr.add ⟨_, 0, none⟩ (2 * 4 + i)) = _
    rw [add_at0]
    refine cell_alloc_new _ _ _ _ _ ?_
    match i, hu with
    | 0, hu => exact hu
    | 1, hu => exact hu
    | 2, hu => exact hu
    | 3, hu => exact hu
    | i + 4, hu => simp at hu
  | j + 3, hj => simp [threeL] at hj
end Go.Proofs.Ytlomehhlhbpanaa

/- tree.right, the two closures of tree.Check. -/
namespace Go.Proofs.Ytlomehhlhbpanaa
open Go.RowKit Go.Lib Go.Proofs.YtlomehhlhbpanaaW.PrintWords Go.Proofs.Ytlomehhlhbpanaa.Prt

/-- An item's cells. -/
def cellsIt (x : It) (A : Option Addr) (c : Nat) : Array Value := #[.int .i64 x.f0, .string x.f1, .bool x.f2, .slice A x.f3.length c]

def nameB (s : ByteArray) : Bool := !(s.toList == []) && decide (s.size ≤ 48) && decide (Lib.indexByte s.data.toList 0 < 0) && decide (Lib.indexByte s.data.toList 47 < 0)
def rightB (x : It) : Bool := nameB x.f1 && (decide (x.f3.length = 0) || (!x.f2 && decide (x.f3.length ≤ 8192)))

theorem rightB_iff (x : It) : rightB x = true ↔ ((¬ x.f1.toList = [] ∧ (x.f1.size : Int) ≤ 48) ∧ Lib.indexByte x.f1.data.toList 0 < 0 ∧ Lib.indexByte x.f1.data.toList 47 < 0) ∧ (x.f3 = [] ∨ (x.f2 = false ∧ (x.f3.length : Int) ≤ 8192)) := by
  have hl : x.f3.length = 0 ↔ x.f3 = [] := List.length_eq_zero_iff
  unfold rightB nameB
  generalize x.f1.size = n
  generalize x.f1.toList = t
  grind

def lIdx_ren : Go.Shelf.Ren := ⟨fun | 137 => 40 | 217 => 47 | 266 => 59 | n => n, fun | 9 => 9 | 5 => 5 | 3 => 3 | n => n, fun | n => n⟩
theorem lIdx : Go.Proofs.Lays.n137 Try.prog lIdx_ren := {
  mixed := by kernel_rfl
  f137 := Try.func40.trans (congrArg some (by kernel_rfl))
  f217 := Try.func47.trans (congrArg some (by kernel_rfl))
  f266 := Try.func59.trans (congrArg some (by kernel_rfl))
  t3 := Try.underlying3
  a3 := Try.isAgg3
  z3 := Try.sizeOf3
  v3 := Try.zeroValue3
  t5 := Try.underlying5
  a5 := Try.isAgg5
  z5 := Try.sizeOf5
  v5 := Try.zeroValue5
  t9 := Try.underlying9
  a9 := Try.isAgg9
  z9 := Try.sizeOf9
  v9 := Try.zeroValue9 }

theorem idxb_any (s : ByteArray) (c : Int) (w : World) : Calls Try.prog 40 #[.string s, .int .u8 c] w fun e w' => e = .returned (.int .i64 (Lib.indexByte s.data.toList c.toNat.toUInt8)) ∧ w' = w :=
  Any.strings_IndexByte lIdx s c w

set_option maxRecDepth 100000 in
set_option maxHeartbeats 4000000 in
theorem right_any (x : It) (A : Option Addr) (c : Nat) (w : World) :
    Calls Try.prog 28 #[.agg (cellsIt x A c)] w fun e w' => e = .returned (.bool (rightB x)) ∧ Below w.heap.size w w' := by
  have hu41 := Try.underlying41
  unfold cellsIt
  go_enter Try.func28, Try.ntmps28
  go_wp2_with (go_at_call 40; refine (idxb_any _ _ _).mono ?_; rintro e w1 ⟨rfl, rfl⟩)
  all_goals (go_ret; refine ⟨?_, below_alloc (Below.refl _ _) _⟩)
  all_goals (refine congrArg (fun b => Ending.returned (Value.bool b)) ?_)
  all_goals (clear hu41)
  all_goals (have hl : x.f3.length = 0 ↔ x.f3 = [] := List.length_eq_zero_iff; rw [Bool.eq_iff_iff, rightB_iff]; grind)

def resB (s : ByteArray) : Bool := s.toList == ([46, 103, 101, 115, 115, 111] : List UInt8) || s.toList == ([46, 103, 101, 115, 115, 111, 126] : List UInt8)
set_option maxRecDepth 100000 in
set_option maxHeartbeats 4000000 in
theorem res_any (s : ByteArray) (w : World) : Calls Try.prog 15 #[.string s] w fun e w' => e = .returned (.bool (resB s)) ∧ Below w.heap.size w w' := by
  go_enter Try.func15, Try.ntmps15
  go_wp2
  all_goals (go_ret; refine ⟨?_, Below.refl _ _⟩)
  all_goals (refine congrArg (fun b => Ending.returned (Value.bool b)) ?_)
  all_goals (unfold resB; generalize s.toList = t at *; grind)
end Go.Proofs.Ytlomehhlhbpanaa

/- slices.ContainsFunc over items, and the closures of tree.Check. -/
namespace Go.Proofs.Ytlomehhlhbpanaa
open Go.RowKit Go.Lib Go.Proofs.YtlomehhlhbpanaaW.PrintWords Go.Proofs.Ytlomehhlhbpanaa.Prt

def PredIt (g : Nat) (lb : Array Value) (p : It → Bool) (w : World) : Prop :=
  ∀ (W : World) (x : It) (A : Option Addr) (c : Nat), Below w.heap.size w W → Calls Try.prog g (#[.agg (cellsIt x A c)] ++ lb) W fun e w' => e = .returned (.bool (p x)) ∧ Below w.heap.size w w'

set_option maxRecDepth 100000 in
set_option maxHeartbeats 4000000 in
theorem idxF_any (p : It → Bool) (g : Nat) (lb : Array Value) (eg : ∀ args w, (callFunc g args).run Try.prog w = .ok (.enter g args) w) (L : List It) (A : Option Addr) (c : Nat) (w : World)
    (hC : Kd.C kIt w A L.length L) (hp : PredIt g lb p w) :
    Calls Try.prog 39 #[.slice A L.length c, .func (.func g) #[] lb] w fun e w' => ∃ r : Int, e = .returned (.int .i64 r) ∧ decide (0 ≤ r) = L.any p ∧ Below w.heap.size w w' := by
  have hu41 := Try.underlying41
  have HC := Aside0.mk hC
  have HP := Aside0.mk hp
  have hlen := hC.2.1
  clear hC hp
  go_enter Try.func39, Try.ntmps39
  go_wp2
  go_loopg [5, 8] L.length (fun gg _ s8 wr => ∃ kk : Nat, kk ≤ L.length ∧ L.length - kk ≤ gg ∧ s8 = .int .i64 kk ∧ Aside0 (Below w.heap.size w wr) ∧ Aside0 (∀ x ∈ L.take kk, p x = false))
  case atStart => exact ⟨0, Nat.zero_le _, by omega, rfl, ⟨Below.refl _ w⟩, ⟨fun x hx => by simp at hx⟩⟩
  case round =>
    obtain ⟨kk, hkk, hg, rfl, BW, F⟩ := hrel
    by_cases hlt : kk < L.length
    · have hltz : (kk : Int) < (L.length : Int) := by omega
      obtain ⟨ad, A3, c3, rfl, h0, h1, h2, h3, _, _⟩ := at_T41 (Kd.C_below HC.out BW.out) (kk : Int) (by omega) hltz
      have hx : rd_T41 L (kk : Int) = L[kk] := by
        unfold rd_T41
        rw [Int.toNat_natCast, List.getD_eq_getElem?_getD, List.getElem?_eq_getElem hlt]; rfl
      rw [hx] at h0 h1 h2 h3
      have hcall := HP.out wr L[kk] A3 c3 BW.out
      have F2 : ∀ q, p L[kk] = q → q = false → Aside0 (∀ x ∈ L.take (kk + 1), p x = false) := fun q h1 h2 => ⟨fun x hx => by
        rw [List.take_succ_eq_append_getElem hlt] at hx
        rcases List.mem_append.1 hx with hx | hx
        · exact F.out x hx
        · rw [List.mem_singleton.1 hx, h1, h2]⟩
      have T2 : p L[kk] = true → L.any p = true := fun h => List.any_eq_true.2 ⟨_, List.getElem_mem hlt, h⟩
      clear hx
      rw [Int.toNat_natCast] at h0 h1 h2 h3
      unfold cellsIt at hcall
      generalize L[kk] = y at *
      cases hq : p y with
      | true =>
        rw [hq] at hcall
        go_wp2_with (go_at_fn g; refine hcall.mono ?_; rintro e w' ⟨rfl, hb'⟩)
        go_ret
        exact ⟨_, rfl, by rw [T2 hq]; simp, hb'⟩
      | false =>
        rw [hq] at hcall
        go_wp2_with (go_at_fn g; refine hcall.mono ?_; rintro e w' ⟨rfl, hb'⟩)
        go_roundg (L.length - (kk + 1))
        case measure => omega
        case rel => exact ⟨kk + 1, by omega, by omega, by go_num, ⟨hb'⟩, F2 _ hq rfl⟩
    · have hltz : ¬ (kk : Int) < (L.length : Int) := by omega
      have : kk = L.length := by omega
      subst this
      go_wp2
      go_ret
      refine ⟨_, rfl, ?_, BW.out⟩
      have h := F.out
      rw [List.take_length] at h
      symm
      rw [show decide ((0:Int) ≤ -1) = false from rfl, List.any_eq_false]
      exact fun x hx => by rw [h x hx]; simp

set_option maxRecDepth 100000 in
set_option maxHeartbeats 4000000 in
theorem contF_any (p : It → Bool) (g : Nat) (lb : Array Value) (eg : ∀ args w, (callFunc g args).run Try.prog w = .ok (.enter g args) w) (L : List It) (A : Option Addr) (c : Nat) (w : World)
    (hC : Kd.C kIt w A L.length L) (hp : PredIt g lb p w) :
    Calls Try.prog 26 #[.slice A L.length c, .func (.func g) #[] lb] w fun e w' => e = .returned (.bool (L.any p)) ∧ Below w.heap.size w w' := by
  go_enter Try.func26, Try.ntmps26
  go_wp2_with (go_at_call 39; refine (idxF_any p g lb eg L A c _ hC hp).mono ?_; rintro e w1 ⟨r, rfl, hr, hb⟩)
  go_ret
  exact ⟨rfl, hb⟩

set_option maxRecDepth 100000 in
set_option maxHeartbeats 4000000 in
theorem pred1 (w : World) : PredIt 27 #[] (fun x => !rightB x) w := by
  intro W x A c hb
  have hu41 := Try.underlying41
  unfold cellsIt
  go_enter Try.func27, Try.ntmps27
  go_wp2_with (go_at_call 28; refine (right_any x A c _).mono ?_; rintro e w1 ⟨rfl, hb1⟩)
  go_ret
  exact ⟨rfl, below_then hb hb.size (below_step (below_alloc (Below.refl _ _) _) hb1)⟩

set_option maxRecDepth 100000 in
set_option maxHeartbeats 4000000 in
theorem pred2 (w : World) : PredIt 29 #[] (fun x => resB x.f1) w := by
  intro W x A c hb
  have hu41 := Try.underlying41
  unfold cellsIt
  go_enter Try.func29, Try.ntmps29
  go_wp2_with (go_at_call 15; refine (res_any _ _).mono ?_; rintro e w1 ⟨rfl, hb1⟩)
  go_ret
  exact ⟨rfl, below_then hb hb.size (below_step (below_alloc (Below.refl _ _) _) hb1)⟩
end Go.Proofs.Ytlomehhlhbpanaa

/- How deep items stand: the plain side, and the map of places. -/
namespace Go.Proofs.Ytlomehhlhbpanaa
open Go.RowKit Go.Lib Go.Maps Go.Proofs.YtlomehhlhbpanaaW.PrintWords Go.Proofs.Ytlomehhlhbpanaa.Prt

theorem laidOut : laidOutB Try.prog = true := by kernel_rfl
theorem placeK : Keyed Try.prog 59 := Keyed.of_law (deep_law_laid laidOut (m := 3) (by decide) (of_decide_eq_true (by kernel_rfl)) (by kernel_rfl) (by kernel_rfl))

set_option maxRecDepth 100000 in
/-- A place as a key. -/
theorem place_key {p : Int} {s : ByteArray} (h1 : -9223372036854775808 ≤ p) (h2 : p ≤ 9223372036854775807) (hs : s.size ≤ maxLen) : ∃ kl, keyOf Try.prog 59 (.agg #[.int .i64 p, .string s]) = some kl := by
  have hw : (Lit.int .i64 p).wf = true := by
    simp [Lit.wf, IntKind.min, IntKind.max, IntKind.signed, IntKind.bits]; omega
  have hu := Try.underlying59
  have c1 : Try.prog.cellsOf 3 = 1 := by kernel_rfl
  have c2 : Try.prog.cellsOf 9 = 1 := by kernel_rfl
  have c3 : Try.prog.cellsOf 59 = 2 := by kernel_rfl
  have hk : Try.prog.keyType 59 = true := by kernel_rfl
  obtain ⟨m, hz⟩ : ∃ m, Try.prog.types.size = m + 1 := ⟨Try.prog.types.size - 1, by kernel_rfl⟩
  unfold keyOf
  rw [hu, hk]
  simp only [Bool.true_and, Value.formed, hu]
  rw [hz]
  simp [Program.keyLits, hu, c1, c2, c3, Value.cells, Try.underlying3, Try.underlying9, hw, hs]

theorem data_inj {a b : ByteArray} (h : a.toList = b.toList) : a = b := by
  rw [toList_data, toList_data] at h
  exact ByteArray.ext (Array.toList_inj.1 h)

/-! ### depths -/
def depF : Nat → List It → Int → Int
  | 0, _, _ => 1
  | f + 1, L, i => if (itA L i).f0 = -1 then 1 else depF f L (itA L i).f0 + 1
def dep (L : List It) (i : Nat) : Int := depF (i + 1) L i
def parB (L : List It) (i : Nat) : Bool := decide (-1 ≤ (itA L i).f0) && decide ((itA L i).f0 < i) && (decide ((itA L i).f0 = -1) || (itA L (itA L i).f0).f2)
def dupB (L : List It) (i : Nat) (p : Int) (s : ByteArray) : Bool := (L.take i).any fun x => decide (x.f0 = p) && (x.f1.toList == s.toList)
def okAtB (L : List It) (i : Nat) : Bool := parB L i && decide (dep L i ≤ 8) && !dupB L i (itA L i).f0 (itA L i).f1
def depB (L : List It) : Bool := (List.range L.length).all (okAtB L)

theorem depF_more {L : List It} : ∀ (i : Nat), (∀ j, j ≤ i → parB L j = true) → ∀ f, i + 1 ≤ f → depF f L i = depF (i + 1) L i := by
  intro i
  induction i using Nat.strongRecOn with
  | _ i ih =>
    intro h f hf
    obtain ⟨f, rfl⟩ : ∃ g, f = g + 1 := ⟨f - 1, by omega⟩
    have hp := h i (Nat.le_refl _)
    simp only [parB, Bool.and_eq_true, decide_eq_true_eq] at hp
    obtain ⟨⟨h1, h2⟩, _⟩ := hp
    simp only [depF]
    by_cases h0 : (itA L i).f0 = -1
    · rw [if_pos h0, if_pos h0]
    · rw [if_neg h0, if_neg h0]
      obtain ⟨q, hq⟩ : ∃ q : Nat, (itA L i).f0 = q := ⟨(itA L i).f0.toNat, by omega⟩
      rw [hq] at h2 ⊢
      rw [ih q (by omega) (fun j hj => h j (by omega)) f (by omega), ih q (by omega) (fun j hj => h j (by omega)) i (by omega)]
theorem dep_one {L : List It} {i : Nat} (h : (itA L i).f0 = -1) : dep L i = 1 := by
  simp only [dep, depF]; rw [if_pos h]
theorem dep_step {L : List It} {i q : Nat} (hq : (itA L i).f0 = q) (hlt : q < i) (h : ∀ j, j < i → parB L j = true) : dep L i = dep L q + 1 := by
  simp only [dep]
  rw [show depF (i + 1) L i = depF i L (itA L i).f0 + 1 from by rw [depF]; rw [if_neg (by omega)], hq]
  rw [depF_more q (fun j hj => h j (by omega)) i (by omega)]
theorem dep_lo {L : List It} : ∀ (f : Nat) (i : Int), 1 ≤ depF f L i
  | 0, _ => by simp [depF]
  | f + 1, i => by
    simp only [depF]
    split
    · omega
    · have := dep_lo (L := L) f (itA L i).f0
      omega
theorem okAt_par {L : List It} {i : Nat} (h : okAtB L i = true) : parB L i = true := by
  simp only [okAtB, Bool.and_eq_true] at h; exact h.1.1
theorem depB_true {L : List It} (h : ∀ i, i < L.length → okAtB L i = true) : depB L = true := by
  simp only [depB, List.all_eq_true, List.mem_range]; exact h
theorem depB_false {L : List It} {i : Nat} (hi : i < L.length) (h : okAtB L i = false) : depB L = false := by
  rw [← Bool.not_eq_true]
  intro hh
  simp only [depB, List.all_eq_true, List.mem_range] at hh
  rw [hh i hi] at h; cases h
theorem itA_get {L : List It} {i : Nat} (h : i < L.length) : itA L (i : Int) = L[i] := by
  show rd_T41 L (i : Int) = _
  unfold rd_T41
  rw [Int.toNat_natCast, List.getD_eq_getElem?_getD, List.getElem?_eq_getElem h]; rfl
theorem dup_step {L : List It} {i : Nat} (hi : i < L.length) (p : Int) (s : ByteArray) : dupB L (i + 1) p s = (dupB L i p s || (decide ((itA L i).f0 = p) && ((itA L i).f1.toList == s.toList))) := by
  unfold dupB
  rw [List.take_succ_eq_append_getElem hi, List.any_append, itA_get hi]
  simp

/-- What the map of places says behind i items. -/
def SeenP (D : DataW Unit) (L : List It) (i : Nat) : Prop := IsMap D ∧ ∀ (p : Int) (s : ByteArray) (kl : Lit), keyOf Try.prog 59 (.agg #[.int .i64 p, .string s]) = some kl → D.atKey kl (.lit (.bool false)) = .lit (.bool (dupB L i p s))

theorem seen_empty (L : List It) : SeenP (.map []) L 0 := ⟨isMap_empty, fun p s kl _ => by simp [dupB, DataW.atKey]⟩
theorem seen_put {D : DataW Unit} {L : List It} {i : Nat} (h : SeenP D L i) (hi : i < L.length) {kl : Lit} (hk : keyOf Try.prog 59 (.agg #[.int .i64 (itA L i).f0, .string (itA L i).f1]) = some kl) : SeenP (D.put kl (.lit (.bool true))) L (i + 1) := by
  refine ⟨?_, fun p s kl' hk' => ?_⟩
  · obtain ⟨es, rfl⟩ := h.1
    exact ⟨_, rfl⟩
  · rw [dup_step hi]
    by_cases he : kl' = kl
    · subst he
      have := placeK.inj hk hk'
      injection this with h1
      have h2 := (Array.mk.injEq _ _).mp h1
      simp only [List.cons.injEq, Value.int.injEq, Value.string.injEq, true_and, and_true] at h2
      rw [atKey_put_same h.1 (placeK.key hk), ← h2.1, ← h2.2]
      simp
    · rw [atKey_put_other he, h.2 p s kl' hk']
      have hn : (decide ((itA L i).f0 = p) && ((itA L i).f1.toList == s.toList)) = false := by
        rw [← Bool.not_eq_true, Bool.and_eq_true, decide_eq_true_eq, beq_iff_eq]
        rintro ⟨h1, h2⟩
        rw [← h1, ← data_inj h2, hk] at hk'
        exact he (Option.some.inj hk').symm
      rw [hn, Bool.or_false]

theorem seen_look {W : World} {b n : Nat} {D : DataW Unit} {L : List It} {i : Nat} (HM : W.ownsMap Try.prog 59 (plainElem Try.prog 4) b n D) (HD : SeenP D L i) {p : Int} {s : ByteArray} {kl : Lit} (hk : keyOf Try.prog 59 (.agg #[.int .i64 p, .string s]) = some kl) :
    (Instr.lookup 57 (.map (some b)) (.agg #[.int .i64 p, .string s]) false).run Try.prog W = .ok (.bool (dupB L i p s)) W := by
  obtain ⟨v, ps, hrun, hv⟩ := HM.lookup placeK Try.underlying57 (Try.zeroValue4 W) (plainElem_bool Try.underlying4 false) hk
  rw [HD.2 p s kl hk] at hv
  have : v = .bool (dupB L i p s) := by
    unfold plainElem at hv
    rw [Try.underlying4] at hv
    cases v <;> simp at hv
    rw [hv.1]
  rw [hrun, this]
end Go.Proofs.Ytlomehhlhbpanaa

/- The walk of tree.depths. -/
namespace Go.Proofs.Ytlomehhlhbpanaa
open Go.RowKit Go.Lib Go.Maps Go.Proofs.YtlomehhlhbpanaaW.PrintWords Go.Proofs.YtlomehhlhbpanaaW.PrintLast Go.Proofs.YtlomehhlhbpanaaW.PrintMore Go.Proofs.Ytlomehhlhbpanaa.Prt

/-- What stands behind i rounds. -/
structure DepI (w : World) (L : List It) (b : Nat) (vd : Value) (i : Nat) (W : World) : Prop where
  below : Below w.heap.size w W
  row : ∃ ds : List Int, ds.length = L.length ∧ Kd.R (Kd.int .i64) 3 W w.heap.size (fun k => k ≠ b) vd ds ∧ ∀ j, j < i → ds.getD j 0 = dep L j
  map : ∃ D : DataW Unit, W.ownsMap Try.prog 59 (plainElem Try.prog 4) b i D ∧ SeenP D L i
  base : w.heap.size ≤ b
  oks : ∀ j, j < i → okAtB L j = true

theorem set_dep {ds : List Int} {L : List It} {i : Nat} (hl : i < ds.length) (h : ∀ j, j < i → ds.getD j 0 = dep L j) {v : Int} (hv : v = dep L i) : ∀ j, j < i + 1 → (ds.set i v).getD j 0 = dep L j := by
  intro j hj
  rw [List.getD_eq_getElem?_getD, List.getElem?_set]
  by_cases e : i = j
  · subst e; rw [if_pos rfl, if_pos hl, hv]; rfl
  · rw [if_neg e, ← List.getD_eq_getElem?_getD]; exact h j (by omega)
theorem cell_set_ne {w : World} {p : Addr} {v : Value} {a : Addr} {u : Value} (h : w.cell? a = some u) (hne : a.block ≠ p.block) : (w.setCell p v).cell? a = some u := by
  rw [← h]
  simp only [World.cell?, Below.heap_setCell w p v a.block hne]

/-- .. and in the midst of a round: the item's box is block x. -/
structure MidI (w : World) (L : List It) (b g co i : Nat) (D : DataW Unit) (ds : List Int) (x : Nat) (W : World) : Prop where
  below : Below w.heap.size w W
  row : Kd.R (Kd.int .i64) 3 W w.heap.size (fun k => k ≠ b) (.slice (some ⟨g, 0, none⟩) L.length co) ds
  map : W.ownsMap Try.prog 59 (plainElem Try.prog 4) b i D
  x0 : W.cell? ⟨x, 0, none⟩ = some (.int .i64 (itA L i).f0)
  x1 : W.cell? ⟨x, 1, none⟩ = some (.string (itA L i).f1)
  gb : w.heap.size ≤ g
  ne : g ≠ x
  bx : w.heap.size ≤ x

theorem size_setCell (w : World) (p : Addr) (v : Value) : (w.setCell p v).heap.size = w.heap.size := by
  simp [World.setCell]

set_option maxRecDepth 100000 in
set_option maxHeartbeats 8000000 in
theorem depths_any (L : List It) (A : Option Addr) (c : Nat) (w : World) (hC : Kd.C kIt w A L.length L) (hwf : WfL L) (hl : L.length ≤ 64) :
    Calls Try.prog 25 #[.slice A L.length c] w fun e w' => ∃ v, e = .returned (.tuple #[v, .bool (depB L)]) ∧ Below w.heap.size w w' := by
  have hu41 := Try.underlying41
  have hu59 := Try.underlying59
  have HC := Aside0.mk hC
  have HW := Aside0.mk hwf
  clear hC hwf
  go_enter Try.func25, Try.ntmps25
  go_wp2_with (first | ((with_reducible refine gate_dst (N := 11) rfl ?_); refine Kd.R_make (Kd.int .i64) w.heap.size 3 rfl (N := 11) rfl 44 _ _ rfl (L.length : Int) rfl rfl Try.underlying44 (.int .i64 0) 8 info3 rfl (by decide) (by omega) 0 (ok := fun _ => True) (okp := fun _ => True) rfl (fun _ hk => hk) trivial (by omega) (by omega) (Below.refl _ _) (Nat.le_refl _) ?_; intro vd w1 hrow hb1 hg1 hn1))
  have hmk : (Instr.makeMap 57 none).run Try.prog w1 = .ok (.map (some w1.heap.size)) (w1.alloc (.map #[] 0)) := run_makeMap _ _
  rw [hmk]
  clear hmk
  go_wp2
  have hsz1 : w.heap.size ≤ w1.heap.size := hb1.size
  have H0 : DepI w L w1.heap.size vd 0 (w1.alloc (.map #[] 0)) := {
    below := below_alloc hb1 _
    row := ⟨List.replicate L.length 0, by simp, Kd.R_alloc (Kd.R_mono (Kd.R_bound hrow) (fun k hk => by have := hk.2.2.1; omega)) _, fun j hj => absurd hj (by omega)⟩
    map := ⟨.map [], World.ownsMap_made _ _ _ _, seen_empty L⟩
    base := hsz1
    oks := fun j hj => absurd hj (by omega) }
  have H1 := Aside0.mk H0
  have HS := Aside0.mk hsz1
  generalize w1.alloc (.map #[] 0) = W0 at H1 ⊢
  generalize w1.heap.size = b at H1 HS ⊢
  clear H0 hsz1 hb1 hg1 hn1 hrow
  go_loopg [15] L.length (fun gg v15 wr => ∃ i : Nat, i ≤ L.length ∧ L.length - i ≤ gg ∧ v15 = .int .i64 i ∧ Aside0 (DepI w L b vd i wr))
  case atStart => exact ⟨0, Nat.zero_le _, by omega, rfl, H1⟩
  case round =>
    clear H1
    obtain ⟨i, hi, hg, rfl, HI⟩ := hrel
    by_cases hlt : i < L.length
    · have hltz : (i : Int) < (L.length : Int) := by omega
      obtain ⟨HBel, ⟨ds, hds, HR, hdv⟩, ⟨D, HM, HD⟩, hbase, hoks⟩ := HI.out
      have hwfi := HW.out _ (List.getElem_mem hlt)
      rw [← itA_get hlt] at hwfi
      obtain ⟨ad, A3, c3, hA, h0, h1, h2, h3, _, _⟩ := at_T41 (Kd.C_below HC.out HBel) (i : Int) (by omega) hltz
      rw [Int.toNat_natCast] at h0 h1 h2 h3
      subst hA
      obtain ⟨g, co, eo, gb, gl, _⟩ := Kd.R_form HR (by omega)
      rw [hds] at eo
      subst eo
      have hgb : g ≠ b := HR.1 g rfl
      obtain ⟨hc1, hf1⟩ := Kd.R_celln 0 HR (i : Int) (by omega) (by omega)
      rw [Int.toNat_natCast] at hc1 hf1
      have HP := Kd.R_putg HR (i : Int) 1
      rw [Int.toNat_natCast] at HP
      have HF : ∀ w2, w2 = (wr.setCell ⟨g, i, none⟩ (.int .i64 1)).alloc (Obj.cells #[.int .i64 (itA L i).f0, .string (itA L i).f1, .bool (itA L i).f2, .slice A3 (itA L i).f3.length c3] 41) →
          MidI w L b g co i D (ds.set i 1) wr.heap.size w2 := by
        rintro w2 rfl
        have hb3 := (below_set (j := i) (v := .int .i64 1) HBel gb)
        exact {
          below := below_alloc hb3 _
          row := Kd.R_alloc HP.1 _
          map := (HM.kept HP.2 (by simp; omega)).alloc _
          x0 := by
            have := cell_alloc_new (wr.setCell ⟨g, i, none⟩ (.int .i64 1)) #[.int .i64 (itA L i).f0, .string (itA L i).f1, .bool (itA L i).f2, .slice A3 (itA L i).f3.length c3] 41 (0, 0) 0 rfl
            rwa [size_setCell] at this
          x1 := by
            have := cell_alloc_new (wr.setCell ⟨g, i, none⟩ (.int .i64 1)) #[.int .i64 (itA L i).f0, .string (itA L i).f1, .bool (itA L i).f2, .slice A3 (itA L i).f3.length c3] 41 (0, 0) 1 rfl
            rwa [size_setCell] at this
          gb := gb
          ne := by omega
          bx := HBel.size }
      obtain ⟨kl, hkl⟩ := place_key (p := (itA L i).f0) (s := (itA L i).f1) hwfi.1 hwfi.2.1 hwfi.2.2.1
      by_cases cA : (itA L i).f0 < -1
      · have hno : okAtB L i = false := by
          rw [← Bool.not_eq_true]; intro h
          have := okAt_par h
          simp only [parB, Bool.and_eq_true, decide_eq_true_eq] at this
          omega
        have hbel := (HF _ rfl).below
        have hfin := depB_false hlt hno
        clear HP HF hwfi hno hkl HM HD
        go_wp2
        go_ret2
        first | exact ⟨⟨_, rfl⟩, hbel⟩ | exact ⟨_, rfl, hbel⟩ | (rw [hfin]; first | exact ⟨⟨_, rfl⟩, hbel⟩ | exact ⟨_, rfl, hbel⟩) | (refine ⟨?_, hbel⟩; rw [hfin]; exact ⟨_, rfl⟩) | (refine ⟨_, ?_, hbel⟩; rw [hfin]; rfl)
      · have hA0 : decide ((itA L i).f0 < -1) = false := decide_eq_false cA
        by_cases cB : (i : Int) ≤ (itA L i).f0
        · have hno : okAtB L i = false := by
            rw [← Bool.not_eq_true]; intro h
            have := okAt_par h
            simp only [parB, Bool.and_eq_true, decide_eq_true_eq] at this
            omega
          have hbel := (HF _ rfl).below
          have hfin := depB_false hlt hno
          clear HP HF hwfi hno hkl HM HD
          go_wp2
          go_ret2
          first | exact ⟨⟨_, rfl⟩, hbel⟩ | exact ⟨_, rfl, hbel⟩ | (rw [hfin]; first | exact ⟨⟨_, rfl⟩, hbel⟩ | exact ⟨_, rfl, hbel⟩) | (refine ⟨?_, hbel⟩; rw [hfin]; exact ⟨_, rfl⟩) | (refine ⟨_, ?_, hbel⟩; rw [hfin]; rfl)
        · have hds2 : (ds.set i 1).length = L.length := by rw [List.length_set, hds]
          by_cases cC : (itA L i).f0 = -1
          · have hcell : ∀ {w2 : World}, MidI w L b g co i D (ds.set i 1) wr.heap.size w2 → w2.cell? ⟨g, i, none⟩ = some (.int .i64 1) := fun M => by
              have := (Kd.R_celln 0 M.row (i : Int) (by omega) (by omega)).1
              rw [Int.toNat_natCast] at this
              rw [this, show rdOf 0 (ds.set i 1) (i : Int) = 1 from by simp [rdOf, List.getD_eq_getElem?_getD, hds, hlt]]
            have hkl0 := Aside0.mk hkl
            rw [cC] at hkl
            have hkl := Aside0.mk hkl
            have hdep : dep L i = 1 := dep_one cC
            have HPar : parB L i = true := by simp only [parB, cC]; simp; omega
            rw [show (rd_T41 L i).f0 = -1 from cC] at h0
            have hBC : decide ((i : Int) ≤ -1) = false := decide_eq_false (by omega)
            simp only [cC] at HF
            cases hdu : dupB L i (-1) (itA L i).f1 with
            | true =>
              have hno : okAtB L i = false := by simp only [okAtB, cC, hdu]; simp
              have hfin := depB_false hlt hno
              clear hno
              go_wp2_with (first | ((with_reducible refine gate_store (t := 3) (p := 22) rfl ?_); refine store_event (t := 3) (p := 22) (v := ?vo) (w1 := (wr.setCell ⟨g, i, none⟩ (.int .i64 1)).alloc (Obj.cells #[.int .i64 (-1), .string (itA L i).f1, .bool (itA L i).f2, .slice A3 (itA L i).f3.length c3] 41)) ?hg ?ho ?hn ?hr ?_; (case ho => rfl); (case hg => rfl); (case hn => rfl); (case hr => first | (go_simp; done) | (go_simp; rfl)); intro w2 hw2; have M2 := Aside0.mk (HF w2 hw2); clear hw2 HF; have x0 := M2.out.x0; have x1 := M2.out.x1; (try rw [cC] at x0); have hlk := seen_look (M2.out.map.alloc (Obj.cells #[.int .i64 (-1), .string (itA L i).f1] 59)) HD hkl.out; rw [hdu] at hlk; have hbel := below_alloc M2.out.below (Obj.cells #[.int .i64 (-1), .string (itA L i).f1] 59); have hc2 := hcell M2.out))
              go_ret2
              first | exact ⟨⟨_, rfl⟩, hbel⟩ | exact ⟨_, rfl, hbel⟩ | (rw [hfin]; first | exact ⟨⟨_, rfl⟩, hbel⟩ | exact ⟨_, rfl, hbel⟩) | (refine ⟨?_, hbel⟩; rw [hfin]; exact ⟨_, rfl⟩) | (refine ⟨_, ?_, hbel⟩; rw [hfin]; rfl)
            | false =>
              have hok : okAtB L i = true := by simp only [okAtB, cC, hdu, HPar, hdep]; rfl
              have hset := set_dep (v := 1) (by omega : i < ds.length) hdv hdep.symm
              have hds3 := hds2
              have HOK := Aside0.mk hok; have HST := Aside0.mk hset; clear hok hset hdv
              go_wp2_with (first | ((with_reducible refine gate_store (t := 3) (p := 22) rfl ?_); refine store_event (t := 3) (p := 22) (v := ?vo) (w1 := (wr.setCell ⟨g, i, none⟩ (.int .i64 1)).alloc (Obj.cells #[.int .i64 (-1), .string (itA L i).f1, .bool (itA L i).f2, .slice A3 (itA L i).f3.length c3] 41)) ?hg ?ho ?hn ?hr ?_; (case ho => rfl); (case hg => rfl); (case hn => rfl); (case hr => first | (go_simp; done) | (go_simp; rfl)); intro w2 hw2; have M2 := Aside0.mk (HF w2 hw2); clear hw2 HF; have x0 := M2.out.x0; have x1 := M2.out.x1; (try rw [cC] at x0); have hlk := seen_look (M2.out.map.alloc (Obj.cells #[.int .i64 (-1), .string (itA L i).f1] 59)) HD hkl.out; rw [hdu] at hlk; have hc2 := pw_cell_below (below_alloc (Below.refl _ _) (Obj.cells #[.int .i64 (-1), .string (itA L i).f1] 59)) (hcell M2.out); have hown := Aside0.mk (M2.out.map.alloc (Obj.cells #[.int .i64 (-1), .string (itA L i).f1] 59))) | (at_mapUpdate; refine wpList_mapUpdate_own _ rfl _ _ _ 57 rfl 59 4 placeK Try.underlying57 _ b i D rfl hown.out (by simp only [maxLen]; omega) _ _ kl rfl rfl hkl.out (.lit (.bool true)) [] (plainElem_bool Try.underlying4 true) ?_; intro w4 hm4 hg4))
              have hok := HOK.out; have hset := HST.out
              go_roundg (L.length - (i + 1))
              case measure => omega
              case rel =>
                refine ⟨i + 1, by omega, by omega, by go_num, ⟨?_⟩⟩
                have hb4 := below_alloc M2.out.below (Obj.cells #[.int .i64 (-1), .string (itA L i).f1] 59)
                exact {
                  below := Below.grown hb4 hg4 hb4.size (fun k hk => by have := Option.some.inj hk; omega)
                  row := ⟨ds.set i 1, hds3, Kd.R_grown (Kd.R_alloc M2.out.row _) hg4 (fun k hk he => hk (Option.some.inj he)), hset⟩
                  map := ⟨_, hm4, seen_put HD hlt hkl0.out⟩
                  base := hbase
                  oks := fun j hj => by
                    by_cases e : j = i
                    · subst e; exact hok
                    · exact hoks j (by omega) }
          · obtain ⟨q, hq⟩ : ∃ q : Nat, (itA L i).f0 = q := ⟨(itA L i).f0.toNat, by omega⟩
            have hqi : q < i := by omega
            have hkl0 := Aside0.mk hkl
            rw [hq] at hkl
            have hkl := Aside0.mk hkl
            rw [show (rd_T41 L i).f0 = (q : Int) from hq] at h0
            have hq0 : decide ((q : Int) < -1) = false := decide_eq_false (by omega)
            have hq1 : decide ((i : Int) ≤ (q : Int)) = false := decide_eq_false (by omega)
            have hq2 : ((q : Int) == -1) = false := by rw [beq_eq_false_iff_ne]; omega
            have hq3 : ¬ (q : Int) = -1 := by omega
            have hq4 : (q : Int) < (L.length : Int) := by omega
            have hq5 : (0 : Int) ≤ (q : Int) := by omega
            simp only [hq] at HF
            cases hdir : (rd_T41 L (q : Int)).f2 with
            | false =>
              have hno : okAtB L i = false := by
                rw [← Bool.not_eq_true]; intro h
                have := okAt_par h
                simp only [parB, Bool.and_eq_true, Bool.or_eq_true, decide_eq_true_eq] at this
                rw [hq] at this
                rcases this.2 with h7 | h7
                · omega
                · rw [show (itA L (q : Int)).f2 = false from hdir] at h7; cases h7
              have hfin := depB_false hlt hno
              clear hno
              go_wp2_with (first | ((with_reducible refine gate_store (t := 3) (p := 22) rfl ?_); refine store_event (t := 3) (p := 22) (v := ?vo) (w1 := (wr.setCell ⟨g, i, none⟩ (.int .i64 1)).alloc (Obj.cells #[.int .i64 (q : Int), .string (itA L i).f1, .bool (itA L i).f2, .slice A3 (itA L i).f3.length c3] 41)) ?hg ?ho ?hn ?hr ?_; (case ho => rfl); (case hg => rfl); (case hn => rfl); (case hr => first | (go_simp; done) | (go_simp; rfl)); intro w2 hw2; have M2 := Aside0.mk (HF w2 hw2); clear hw2 HF; have x0 := M2.out.x0; have x1 := M2.out.x1; rw [hq] at x0; obtain ⟨ad2, B3, d3, hA2, y0, y1, y2, y3, _, _⟩ := at_T41 (Kd.C_below HC.out M2.out.below) (q : Int) (by omega) (by omega); cases hA2; clear y0 y1 y3; rw [Int.toNat_natCast] at y2; rw [hdir] at y2; have hbel := M2.out.below))
              go_ret2
              first | exact ⟨⟨_, rfl⟩, hbel⟩ | exact ⟨_, rfl, hbel⟩ | (rw [hfin]; first | exact ⟨⟨_, rfl⟩, hbel⟩ | exact ⟨_, rfl, hbel⟩) | (refine ⟨?_, hbel⟩; rw [hfin]; exact ⟨_, rfl⟩) | (refine ⟨_, ?_, hbel⟩; rw [hfin]; rfl)
            | true =>
              have HPar : parB L i = true := by
                simp only [parB, Bool.and_eq_true, Bool.or_eq_true, decide_eq_true_eq]
                rw [hq]
                exact ⟨⟨by omega, by omega⟩, .inr hdir⟩
              have hdep : dep L i = dep L q + 1 := dep_step hq hqi (fun j hj => okAt_par (hoks j hj))
              have hd8 : dep L q ≤ 8 := by
                have := hoks q hqi
                simp only [okAtB, Bool.and_eq_true, decide_eq_true_eq] at this
                exact this.1.2
              have hd1 : 1 ≤ dep L q := dep_lo _ _
              have hdvq := hdv q hqi
              have hset := set_dep (v := dep L q + 1) (by rw [List.length_set]; omega : i < (ds.set i 1).length) (fun j hj => by rw [List.getD_eq_getElem?_getD, List.getElem?_set_ne (by omega), ← List.getD_eq_getElem?_getD]; exact hdv j hj) hdep.symm
              have hds3 : ((ds.set i 1).set i (dep L q + 1)).length = L.length := by rw [List.length_set, hds2]
              generalize dep L q = dq at *
              have hcq : ∀ {w2 : World}, MidI w L b g co i D (ds.set i 1) wr.heap.size w2 → w2.cell? ⟨g, q, none⟩ = some (.int .i64 dq) := fun M => by
                have := (Kd.R_celln 0 M.row (q : Int) (by omega) (by omega)).1
                rw [Int.toNat_natCast] at this
                rw [this, show rdOf 0 (ds.set i 1) (q : Int) = dq from by simp only [rdOf, Int.toNat_natCast]; rw [List.getD_eq_getElem?_getD, List.getElem?_set_ne (by omega), ← List.getD_eq_getElem?_getD]; exact hdvq]
              have hcf : ∀ {w2 : World} {ds' : List Int}, MidI w L b g co i D ds' wr.heap.size w2 → w2.cell? ⟨g, i, none⟩ = some (.int .i64 (rdOf 0 ds' (i : Int))) ∧ w2.frozen? ⟨g, i, none⟩ = false := fun M => by
                have := Kd.R_celln 0 M.row (i : Int) (by omega) (by omega)
                rw [Int.toNat_natCast] at this; exact this
              have hrd : rdOf 0 ((ds.set i 1).set i (dq + 1)) (i : Int) = dq + 1 := by simp [rdOf, List.getD_eq_getElem?_getD, hds, hlt]
              have HG : ∀ w2 w3, MidI w L b g co i D (ds.set i 1) wr.heap.size w2 → w3 = w2.setCell ⟨g, i, none⟩ (.int .i64 (dq + 1)) → MidI w L b g co i D ((ds.set i 1).set i (dq + 1)) wr.heap.size w3 := by
                rintro w2 w3 M rfl
                have hp := Kd.R_putg M.row (i : Int) (dq + 1)
                rw [Int.toNat_natCast] at hp
                exact {
                  below := below_set (j := i) (v := .int .i64 (dq + 1)) M.below gb
                  row := hp.1
                  map := M.map.kept hp.2 (by simp; omega)
                  x0 := cell_set_ne M.x0 (fun e => M.ne e.symm)
                  x1 := cell_set_ne M.x1 (fun e => M.ne e.symm)
                  gb := gb
                  ne := M.ne
                  bx := M.bx }
              cases hdu : dupB L i (q : Int) (itA L i).f1 with
              | true =>
                have hno : okAtB L i = false := by simp only [okAtB, hq, hdu]; simp
                have hfin := depB_false hlt hno
                clear hno hset hds3 hrd hdv hdvq
                go_wp2_with (first | ((with_reducible refine gate_store (t := 3) (p := 22) rfl ?_); refine store_event (t := 3) (p := 22) (v := ?vo) (w1 := (wr.setCell ⟨g, i, none⟩ (.int .i64 1)).alloc (Obj.cells #[.int .i64 (q : Int), .string (itA L i).f1, .bool (itA L i).f2, .slice A3 (itA L i).f3.length c3] 41)) ?hg ?ho ?hn ?hr ?_; (case ho => rfl); (case hg => rfl); (case hn => rfl); (case hr => first | (go_simp; done) | (go_simp; rfl)); intro w2 hw2; have M2 := Aside0.mk (HF w2 hw2); clear hw2 HF; have x0 := M2.out.x0; have x1 := M2.out.x1; rw [hq] at x0; obtain ⟨ad2, B3, d3, hA2, y0, y1, y2, y3, _, _⟩ := at_T41 (Kd.C_below HC.out M2.out.below) (q : Int) (by omega) (by omega); cases hA2; clear y0 y1 y3; rw [Int.toNat_natCast] at y2; rw [hdir] at y2; have hc2 := hcq M2.out; obtain ⟨hc5, hf5⟩ := hcf M2.out; have M3 := Aside0.mk (HG _ _ M2.out rfl); clear HG; have hlk := seen_look (M3.out.map.alloc (Obj.cells #[.int .i64 (q : Int), .string (itA L i).f1] 59)) HD hkl.out; rw [hdu] at hlk; have hbel := below_alloc M3.out.below (Obj.cells #[.int .i64 (q : Int), .string (itA L i).f1] 59)))
                go_ret2
                first | exact ⟨⟨_, rfl⟩, hbel⟩ | exact ⟨_, rfl, hbel⟩ | (rw [hfin]; first | exact ⟨⟨_, rfl⟩, hbel⟩ | exact ⟨_, rfl, hbel⟩) | (refine ⟨?_, hbel⟩; rw [hfin]; exact ⟨_, rfl⟩) | (refine ⟨_, ?_, hbel⟩; rw [hfin]; rfl)
              | false =>
                by_cases h9 : (8 : Int) < dq + 1
                · have hno : okAtB L i = false := by
                    rw [← Bool.not_eq_true]; intro h
                    simp only [okAtB, Bool.and_eq_true, decide_eq_true_eq] at h
                    omega
                  have hfin := depB_false hlt hno
                  clear hno hset hds3 hdv hdvq
                  go_wp2_with (first | ((with_reducible refine gate_store (t := 3) (p := 22) rfl ?_); refine store_event (t := 3) (p := 22) (v := ?vo) (w1 := (wr.setCell ⟨g, i, none⟩ (.int .i64 1)).alloc (Obj.cells #[.int .i64 (q : Int), .string (itA L i).f1, .bool (itA L i).f2, .slice A3 (itA L i).f3.length c3] 41)) ?hg ?ho ?hn ?hr ?_; (case ho => rfl); (case hg => rfl); (case hn => rfl); (case hr => first | (go_simp; done) | (go_simp; rfl)); intro w2 hw2; have M2 := Aside0.mk (HF w2 hw2); clear hw2 HF; have x0 := M2.out.x0; have x1 := M2.out.x1; rw [hq] at x0; obtain ⟨ad2, B3, d3, hA2, y0, y1, y2, y3, _, _⟩ := at_T41 (Kd.C_below HC.out M2.out.below) (q : Int) (by omega) (by omega); cases hA2; clear y0 y1 y3; rw [Int.toNat_natCast] at y2; rw [hdir] at y2; have hc2 := hcq M2.out; obtain ⟨hc5, hf5⟩ := hcf M2.out; have M3 := Aside0.mk (HG _ _ M2.out rfl); clear HG; have hlk := seen_look (M3.out.map.alloc (Obj.cells #[.int .i64 (q : Int), .string (itA L i).f1] 59)) HD hkl.out; rw [hdu] at hlk; have hc6 := (hcf M3.out).1; rw [hrd] at hc6; have hc7 := pw_cell_below (below_alloc (Below.refl _ _) (Obj.cells #[.int .i64 (q : Int), .string (itA L i).f1] 59)) hc6; have hbel := below_alloc M3.out.below (Obj.cells #[.int .i64 (q : Int), .string (itA L i).f1] 59)))
                  go_ret2
                  first | exact ⟨⟨_, rfl⟩, hbel⟩ | exact ⟨_, rfl, hbel⟩ | (rw [hfin]; first | exact ⟨⟨_, rfl⟩, hbel⟩ | exact ⟨_, rfl, hbel⟩) | (refine ⟨?_, hbel⟩; rw [hfin]; exact ⟨_, rfl⟩) | (refine ⟨_, ?_, hbel⟩; rw [hfin]; rfl)
                · have hok : okAtB L i = true := by
                    simp only [okAtB, Bool.and_eq_true, decide_eq_true_eq]
                    rw [hq, hdu]
                    exact ⟨⟨HPar, by omega⟩, rfl⟩
                  have HOK := Aside0.mk hok; have HST := Aside0.mk hset; clear hok hset hdv hdvq
                  go_wp2_with (first | ((with_reducible refine gate_store (t := 3) (p := 22) rfl ?_); refine store_event (t := 3) (p := 22) (v := ?vo) (w1 := (wr.setCell ⟨g, i, none⟩ (.int .i64 1)).alloc (Obj.cells #[.int .i64 (q : Int), .string (itA L i).f1, .bool (itA L i).f2, .slice A3 (itA L i).f3.length c3] 41)) ?hg ?ho ?hn ?hr ?_; (case ho => rfl); (case hg => rfl); (case hn => rfl); (case hr => first | (go_simp; done) | (go_simp; rfl)); intro w2 hw2; have M2 := Aside0.mk (HF w2 hw2); clear hw2 HF; have x0 := M2.out.x0; have x1 := M2.out.x1; rw [hq] at x0; obtain ⟨ad2, B3, d3, hA2, y0, y1, y2, y3, _, _⟩ := at_T41 (Kd.C_below HC.out M2.out.below) (q : Int) (by omega) (by omega); cases hA2; clear y0 y1 y3; rw [Int.toNat_natCast] at y2; rw [hdir] at y2; have hc2 := hcq M2.out; obtain ⟨hc5, hf5⟩ := hcf M2.out; have M3 := Aside0.mk (HG _ _ M2.out rfl); clear HG; have hlk := seen_look (M3.out.map.alloc (Obj.cells #[.int .i64 (q : Int), .string (itA L i).f1] 59)) HD hkl.out; rw [hdu] at hlk; have hc6 := (hcf M3.out).1; rw [hrd] at hc6; have hc7 := pw_cell_below (below_alloc (Below.refl _ _) (Obj.cells #[.int .i64 (q : Int), .string (itA L i).f1] 59)) hc6; have hbel := below_alloc M3.out.below (Obj.cells #[.int .i64 (q : Int), .string (itA L i).f1] 59); have hown := Aside0.mk (M3.out.map.alloc (Obj.cells #[.int .i64 (q : Int), .string (itA L i).f1] 59))) | (at_mapUpdate; refine wpList_mapUpdate_own _ rfl _ _ _ 57 rfl 59 4 placeK Try.underlying57 _ b i D rfl hown.out (by simp only [maxLen]; omega) _ _ kl rfl rfl hkl.out (.lit (.bool true)) [] (plainElem_bool Try.underlying4 true) ?_; intro w4 hm4 hg4))
                  have hok := HOK.out; have hset := HST.out
                  go_roundg (L.length - (i + 1))
                  case measure => omega
                  case rel =>
                    refine ⟨i + 1, by omega, by omega, by go_num, ⟨?_⟩⟩
                    exact {
                      below := Below.grown hbel hg4 hbel.size (fun k hk => by have := Option.some.inj hk; omega)
                      row := ⟨_, hds3, Kd.R_grown (Kd.R_alloc M3.out.row _) hg4 (fun k hk he => hk (Option.some.inj he)), hset⟩
                      map := ⟨_, hm4, seen_put HD hlt hkl0.out⟩
                      base := hbase
                      oks := fun j hj => by
                        by_cases e : j = i
                        · subst e; exact hok
                        · exact hoks j (by omega) }
    · have hltz : ¬ (i : Int) < (L.length : Int) := by omega
      go_wp2
      go_ret2
      have hfin := depB_true (fun j hj => HI.out.oks j (by omega))
      have hbel := HI.out.below
      first | exact ⟨⟨_, rfl⟩, hbel⟩ | exact ⟨_, rfl, hbel⟩ | (rw [hfin]; first | exact ⟨⟨_, rfl⟩, hbel⟩ | exact ⟨_, rfl, hbel⟩) | (refine ⟨?_, hbel⟩; rw [hfin]; exact ⟨_, rfl⟩) | (refine ⟨_, ?_, hbel⟩; rw [hfin]; rfl)
end Go.Proofs.Ytlomehhlhbpanaa

/- tree.Check and tree.Path. -/
namespace Go.Proofs.Ytlomehhlhbpanaa
open Go.RowKit Go.Lib Go.Proofs.YtlomehhlhbpanaaW.PrintWords Go.Proofs.YtlomehhlhbpanaaW.PrintLast Go.Proofs.YtlomehhlhbpanaaW.PrintMore Go.Proofs.Ytlomehhlhbpanaa.Prt

def checkN (L : List It) : Int := if 64 < L.length then 14 else if !(depB L) || L.any (fun x => !rightB x) then 14 else if L.any (fun x => resB x.f1) then 15 else 0

set_option maxRecDepth 100000 in
set_option maxHeartbeats 8000000 in
theorem check_any (L : List It) (A : Option Addr) (c : Nat) (w : World) (hC : Kd.C kIt w A L.length L) (hwf : WfL L) :
    Calls Try.prog 10 #[.slice A L.length c] w fun e w' => e = .returned (.int .i64 (checkN L)) ∧ Below w.heap.size w w' := by
  have HC := Aside0.mk hC
  have e1 : ∀ args w, (callFunc 27 args).run Try.prog w = .ok (.enter 27 args) w := enters_of Try.func27 (by kernel_rfl) rfl
  have e2 : ∀ args w, (callFunc 29 args).run Try.prog w = .ok (.enter 29 args) w := enters_of Try.func29 (by kernel_rfl) rfl
  clear hC
  by_cases h64 : 64 < L.length
  · have hz : (64 : Int) < (L.length : Int) := by omega
    have hr : checkN L = 14 := by simp only [checkN]; rw [if_pos h64]
    go_enter Try.func10, Try.ntmps10
    go_wp2
    go_ret
    rw [hr]; exact ⟨rfl, Below.refl _ _⟩
  · have hz : ¬ (64 : Int) < (L.length : Int) := by omega
    have HD := fun W B => depths_any L A c W (Kd.C_below HC.out B) hwf (by omega)
    cases hd : depB L with
    | false =>
      have hr : checkN L = 14 := by simp only [checkN]; rw [if_neg h64, hd]; rfl
      go_enter Try.func10, Try.ntmps10
      go_wp2_with (go_at_call 25; refine (HD _ (Below.refl _ _)).mono ?_; rintro e w1 ⟨v, rfl, hb1⟩; rw [hd])
      go_ret
      rw [hr]; exact ⟨rfl, hb1⟩
    | true =>
      go_enter Try.func10, Try.ntmps10
      cases hp : L.any (fun x => !rightB x) with
      | true =>
        have hr : checkN L = 14 := by simp only [checkN]; rw [if_neg h64, hd, hp]; rfl
        go_wp2_with (first | (go_at_call 25; refine (HD _ (Below.refl _ _)).mono ?_; rintro e w1 ⟨v, rfl, hb1⟩; rw [hd]) | (go_at_call 26; refine (contF_any _ _ _ e1 L A c _ (Kd.C_below HC.out hb1) (pred1 _)).mono ?_; rintro e w2 ⟨rfl, hb2⟩; rw [hp]))
        go_ret
        rw [hr]; exact ⟨rfl, below_step hb1 hb2⟩
      | false =>
        have hr : checkN L = if L.any (fun x => resB x.f1) then 15 else 0 := by simp only [checkN]; rw [if_neg h64, hd, hp]; rfl
        cases hq : L.any (fun x => resB x.f1) with
        | true =>
          go_wp2_with (first | (go_at_call 25; refine (HD _ (Below.refl _ _)).mono ?_; rintro e w1 ⟨v, rfl, hb1⟩; rw [hd]) | (go_at_call 26; refine (contF_any _ _ _ e1 L A c _ (Kd.C_below HC.out hb1) (pred1 _)).mono ?_; rintro e w2 ⟨rfl, hb2⟩; rw [hp]; have hb3 := below_step hb1 hb2; clear hb1 hb2) | (go_at_call 26; refine (contF_any _ _ _ e2 L A c _ (Kd.C_below HC.out hb3) (pred2 _)).mono ?_; rintro e w4 ⟨rfl, hb4⟩; rw [hq]))
          go_ret
          rw [hr, hq]; exact ⟨rfl, below_step hb3 hb4⟩
        | false =>
          go_wp2_with (first | (go_at_call 25; refine (HD _ (Below.refl _ _)).mono ?_; rintro e w1 ⟨v, rfl, hb1⟩; rw [hd]) | (go_at_call 26; refine (contF_any _ _ _ e1 L A c _ (Kd.C_below HC.out hb1) (pred1 _)).mono ?_; rintro e w2 ⟨rfl, hb2⟩; rw [hp]; have hb3 := below_step hb1 hb2; clear hb1 hb2) | (go_at_call 26; refine (contF_any _ _ _ e2 L A c _ (Kd.C_below HC.out hb3) (pred2 _)).mono ?_; rintro e w4 ⟨rfl, hb4⟩; rw [hq]))
          go_ret
          rw [hr, hq]; exact ⟨rfl, below_step hb3 hb4⟩
end Go.Proofs.Ytlomehhlhbpanaa

/- Paths: the plain side of tree.path, and tree.Path. -/
namespace Go.Proofs.Ytlomehhlhbpanaa
open Go.RowKit Go.Lib Go.Proofs.YtlomehhlhbpanaaW.PrintWords Go.Proofs.YtlomehhlhbpanaaW.PrintLast Go.Proofs.YtlomehhlhbpanaaW.PrintMore Go.Proofs.Ytlomehhlhbpanaa.Prt

theorem wrap_id {x : Int} (h1 : -9223372036854775808 ≤ x) (h2 : x ≤ 9223372036854775807) : wrap64 x = x := by
  unfold wrap64; omega
theorem set_mid {α : Type} (p : List α) (a x : α) (t : List α) : (p ++ a :: t).set p.length x = p ++ x :: t := by
  rw [List.set_append_right _ _ (Nat.le_refl _), Nat.sub_self, List.set_cons_zero]
theorem rdOf_mid {α : Type} (d : α) (p : List α) (a : α) (t : List α) : rdOf d (p ++ a :: t) (p.length : Int) = a := by
  simp [rdOf, List.getD_eq_getElem?_getD]

theorem rev_ev : ∀ (n : Nat) (m p s : List ByteArray), m.length ≤ n → p.length + m.length + s.length ≤ 8796093022208 →
    Ev (fun k => slices_Reverse_string_string.l0 k (p ++ m ++ s) (p.length : Int) ((p.length : Int) + m.length - 1)) (p ++ m.reverse ++ s) := by
  intro n
  induction n with
  | zero =>
    intro m p s hm hb
    obtain rfl : m = [] := List.length_eq_zero_iff.1 (by omega)
    refine ⟨1, fun k hk => ?_⟩
    obtain ⟨k, rfl⟩ : ∃ q, k = q + 1 := ⟨k - 1, by omega⟩
    simp only [slices_Reverse_string_string.l0]
    rw [if_neg (by simp; omega)]; rfl
  | succ n ih =>
    intro m p s hm hb
    match m, hm, hb with
    | [], hm, hb => exact ih [] p s (by simp) hb
    | [a], hm, hb =>
      refine ⟨1, fun k hk => ?_⟩
      obtain ⟨k, rfl⟩ : ∃ q, k = q + 1 := ⟨k - 1, by omega⟩
      simp only [slices_Reverse_string_string.l0]
      rw [if_neg (by simp)]; rfl
    | a :: c :: m', hm, hb =>
      obtain ⟨m2, b, hmb⟩ : ∃ m2 b, c :: m' = m2 ++ [b] := by
        rcases List.eq_nil_or_concat (c :: m') with h | h
        · cases h
        · obtain ⟨l', b, h⟩ := h; exact ⟨l', b, by rw [h, List.concat_eq_append]⟩
      rw [hmb] at hm hb ⊢
      have hml : (a :: (m2 ++ [b])).length = m2.length + 2 := by simp
      rw [hml] at hm hb ⊢
      have h1 := ih m2 (p ++ [b]) ([a] ++ s) (by omega) (by simp; omega)
      obtain ⟨K, hK⟩ := h1
      refine ⟨K + 1, fun k hk => ?_⟩
      obtain ⟨k, rfl⟩ : ∃ q, k = q + 1 := ⟨k - 1, by omega⟩
      have e0 : p ++ a :: (m2 ++ [b]) ++ s = p ++ a :: (m2 ++ b :: s) := by simp
      have hlen : (p ++ a :: (m2 ++ b :: s)).length = p.length + m2.length + s.length + 2 := by simp; omega
      have r1 : rdOf ByteArray.empty (p ++ a :: (m2 ++ b :: s)) ((p.length : Int) + ((m2.length + 2 : Nat) : Int) - 1) = b := by
        have := rdOf_mid ByteArray.empty (p ++ a :: m2) b s
        rw [show (((p ++ a :: m2).length : Nat) : Int) = (p.length : Int) + ((m2.length + 2 : Nat) : Int) - 1 from by rw [List.length_append, List.length_cons]; omega] at this
        rw [show p ++ a :: (m2 ++ b :: s) = (p ++ a :: m2) ++ b :: s from by simp, this]
      have r2 : rdOf ByteArray.empty (p ++ a :: (m2 ++ b :: s)) (p.length : Int) = a := rdOf_mid _ _ _ _
      have s1 : ((p ++ a :: (m2 ++ b :: s)).set p.length b).set (p.length + m2.length + 1) a = (p ++ [b]) ++ m2 ++ ([a] ++ s) := by
        rw [set_mid]
        have := set_mid (p ++ b :: m2) b a s
        rw [List.length_append, List.length_cons] at this
        rw [show p ++ b :: (m2 ++ b :: s) = (p ++ b :: m2) ++ b :: s from by simp, show p.length + m2.length + 1 = p.length + (m2.length + 1) from by omega, this]
        simp
      rw [e0]
      simp only [slices_Reverse_string_string.l0]
      rw [hlen, if_pos (by omega), if_pos (by omega), if_pos (by omega), if_pos (by omega), if_pos (by omega), r1, r2, Int.toNat_natCast, show ((p.length : Int) + ((m2.length + 2 : Nat) : Int) - 1).toNat = p.length + m2.length + 1 from by omega, s1]
      have h2 : slices_Reverse_string_string.l0 k (p ++ [b] ++ m2 ++ ([a] ++ s)) (((p ++ [b]).length : Nat) : Int) ((((p ++ [b]).length : Nat) : Int) + m2.length - 1) = _ := hK k (by omega)
      rw [wrap_id (by omega) (by omega), wrap_id (by omega) (by omega)]
      rw [show (((p ++ [b]).length : Nat) : Int) = (p.length : Int) + 1 from by simp] at h2
      rw [show (p.length : Int) + ((m2.length + 2 : Nat) : Int) - 1 - 1 = (p.length : Int) + 1 + (m2.length : Int) - 1 from by omega, h2]
      simp
theorem rev_all (l : List ByteArray) (h : l.length ≤ 8796093022208) : Ev (fun k => slices_Reverse_string_string.f k l) l.reverse := by
  have := rev_ev l.length l [] [] (Nat.le_refl _) (by simpa using h)
  unfold slices_Reverse_string_string.f
  rw [wrap_id (by omega) (by omega)]
  simpa using this

/-! ### paths -/
def upF : Nat → List It → Int → List ByteArray
  | 0, _, _ => []
  | f + 1, L, i => if i = -1 then [] else (itA L i).f1 :: upF f L (itA L i).f0
def pathN (L : List It) (i : Int) : List ByteArray := (upF (i + 1).toNat L i).reverse

theorem par_ok {L : List It} {i : Nat} (h : parB L i = true) : -1 ≤ (itA L i).f0 ∧ (itA L i).f0 < i := by
  simp only [parB, Bool.and_eq_true, decide_eq_true_eq] at h
  exact h.1

theorem up_any {L : List It} : ∀ (t : Nat) (i : Int) (n m : Nat), -1 ≤ i → (i + 1).toNat ≤ t → (i + 1).toNat ≤ n → (i + 1).toNat ≤ m → (∀ j : Nat, (j : Int) ≤ i → parB L j = true) → upF n L i = upF m L i := by
  intro t
  induction t with
  | zero =>
    intro i n m h1 h2 _ _ _
    obtain rfl : i = -1 := by omega
    cases n <;> cases m <;> simp [upF]
  | succ t ih =>
    intro i n m h1 h2 h3 h4 hp
    by_cases hi : i = -1
    · subst hi; cases n <;> cases m <;> simp [upF]
    · obtain ⟨q, rfl⟩ : ∃ q : Nat, i = q := ⟨i.toNat, by omega⟩
      obtain ⟨p1, p2⟩ := par_ok (hp q (by omega))
      obtain ⟨n, rfl⟩ : ∃ a, n = a + 1 := ⟨n - 1, by omega⟩
      obtain ⟨m, rfl⟩ : ∃ a, m = a + 1 := ⟨m - 1, by omega⟩
      simp only [upF]
      rw [if_neg hi, if_neg hi, ih _ n m p1 (by omega) (by omega) (by omega) (fun j hj => hp j (by omega))]
theorem up_step {L : List It} {i : Nat} (hp : ∀ j : Nat, j ≤ i → parB L j = true) : upF ((i : Int) + 1).toNat L i = (itA L i).f1 :: upF ((itA L i).f0 + 1).toNat L (itA L i).f0 := by
  obtain ⟨p1, p2⟩ := par_ok (hp i (by omega))
  rw [show ((i : Int) + 1).toNat = i + 1 from by omega]
  simp only [upF]
  rw [if_neg (by omega), up_any _ (itA L (i : Int)).f0 i _ p1 (Nat.le_refl _) (by omega) (Nat.le_refl _) (fun j hj => hp j (by omega))]
theorem path_step {L : List It} {i : Nat} (hp : ∀ j : Nat, j ≤ i → parB L j = true) : pathN L i = pathN L (itA L i).f0 ++ [(itA L i).f1] := by
  unfold pathN
  rw [up_step hp, List.reverse_cons]
theorem path_top (L : List It) : pathN L (-1) = [] := by simp [pathN, upF]

theorem tpath_ev {L : List It} : ∀ (t : Nat) (i : Int) (acc : List ByteArray), -1 ≤ i → i < L.length → (i + 1).toNat ≤ t → acc.length + t ≤ 100 → (∀ j : Nat, (j : Int) ≤ i → parB L j = true) →
    Ev (fun k => tree_path.l0 k L i acc) (acc ++ upF (i + 1).toNat L i).reverse := by
  intro t
  induction t with
  | zero =>
    intro i acc h1 h2 h3 h4 hp
    obtain rfl : i = -1 := by omega
    obtain ⟨K, hK⟩ := rev_all acc (by omega)
    refine ⟨K + 1, fun k hk => ?_⟩
    obtain ⟨k, rfl⟩ : ∃ q, k = q + 1 := ⟨k - 1, by omega⟩
    have h5 : slices_Reverse_string_string.f k acc = some acc.reverse := hK k (by omega)
    simp only [tree_path.l0, h5]
    simp [upF]
  | succ t ih =>
    intro i acc h1 h2 h3 h4 hp
    by_cases hi : i = -1
    · exact ih i acc h1 h2 (by omega) (by omega) hp
    · obtain ⟨q, rfl⟩ : ∃ q : Nat, i = q := ⟨i.toNat, by omega⟩
      obtain ⟨p1, p2⟩ := par_ok (hp q (by omega))
      obtain ⟨K, hK⟩ := ih (itA L (q : Int)).f0 (acc ++ [(itA L (q : Int)).f1]) p1 (by omega) (by omega) (by simp; omega) (fun j hj => hp j (by omega))
      refine ⟨K + 1, fun k hk => ?_⟩
      obtain ⟨k, rfl⟩ : ∃ q, k = q + 1 := ⟨k - 1, by omega⟩
      have h5 : tree_path.l0 k L (itA L (q : Int)).f0 (acc ++ [(itA L (q : Int)).f1]) = _ := hK k (by omega)
      simp only [tree_path.l0]
      rw [if_neg hi, if_pos (by omega), if_pos h2, if_pos (by omega)]
      rw [up_step (fun j hj => hp j (by omega))]
      refine h5.trans ?_
      simp

set_option maxRecDepth 100000 in
set_option maxHeartbeats 8000000 in
theorem path_any (L : List It) (hL : L.length ≤ 64) (hd : depB L = true) (i : Int) (hi : -1 ≤ i) (hi2 : i < L.length) (A : Option Addr) (c : Nat) (hc : L.length ≤ c) (w : World) (hC : Kd.C kIt w A L.length L) :
    Calls Try.prog 31 #[.slice A L.length c, .int .i64 i] w fun e w' => ∃ v, e = .returned v ∧ Kd.R Kd.string 9 w' w.heap.size (fun _ => True) v (pathN L i) ∧ Below w.heap.size w w' := by
  have hp : ∀ j : Nat, (j : Int) ≤ i → parB L j = true := fun j hj => by
    simp only [depB, List.all_eq_true, List.mem_range] at hd
    exact okAt_par (hd j (by omega))
  obtain ⟨k, hk⟩ := (tpath_ev (i + 1).toNat i [] hi hi2 (Nat.le_refl _) (by simp; omega) hp).rounds
  have := tree_path.calls k A c L i (pathN L i) w hC hc (by unfold tree_path.f; rw [hk]; rfl)
  exact this

/-- What tree.Path tells. -/
def tPath (L : List It) (i : Int) : List ByteArray := if i < 0 ∨ (L.length : Int) ≤ i ∨ checkN L = 14 then [] else pathN L i

theorem check_ok {L : List It} (h : checkN L ≠ 14) : L.length ≤ 64 ∧ depB L = true ∧ L.all rightB = true := by
  unfold checkN at h
  by_cases h1 : 64 < L.length
  · rw [if_pos h1] at h; exact absurd rfl h
  · rw [if_neg h1] at h
    by_cases h2 : (!(depB L) || L.any (fun x => !rightB x)) = true
    · rw [if_pos h2] at h; exact absurd rfl h
    · rw [Bool.or_eq_true, not_or] at h2
      refine ⟨by omega, by simpa using h2.1, ?_⟩
      have h3 := h2.2
      rw [List.all_eq_true]
      intro x hx
      rw [Bool.not_eq_true, List.any_eq_false] at h3
      simpa using h3 x hx

set_option maxRecDepth 100000 in
set_option maxHeartbeats 8000000 in
theorem Path_any (L : List It) (i : Int) (A : Option Addr) (c : Nat) (hc : L.length ≤ c) (w : World) (hC : Kd.C kIt w A L.length L) (hwf : WfL L) :
    Calls Try.prog 13 #[.slice A L.length c, .int .i64 i] w fun e w' => ∃ v, e = .returned v ∧ Kd.R Kd.string 9 w' w.heap.size (fun _ => True) v (tPath L i) ∧ Below w.heap.size w w' := by
  have HC := Aside0.mk hC
  have HK := fun W B => check_any L A c W (Kd.C_below HC.out B) hwf
  have HN := fun W => Kd.R_nil Kd.string 9 W w.heap.size (fun _ => True)
  clear hC
  by_cases h1 : i < 0
  · have hr : tPath L i = [] := by unfold tPath; rw [if_pos (.inl h1)]
    rw [hr]
    go_enter Try.func13, Try.ntmps13
    go_wp2
    go_ret
    exact ⟨_, rfl, HN _, Below.refl _ _⟩
  · have h1b : decide (i < 0) = false := decide_eq_false h1
    by_cases h2 : (L.length : Int) ≤ i
    · have hr : tPath L i = [] := by unfold tPath; rw [if_pos (.inr (.inl h2))]
      rw [hr]
      go_enter Try.func13, Try.ntmps13
      go_wp2
      go_ret
      exact ⟨_, rfl, HN _, Below.refl _ _⟩
    · have h2b : decide ((L.length : Int) ≤ i) = false := decide_eq_false h2
      by_cases h3 : checkN L = 14
      · have hr : tPath L i = [] := by unfold tPath; rw [if_pos (.inr (.inr h3))]
        rw [hr]
        go_enter Try.func13, Try.ntmps13
        go_wp2_with (go_at_call 10; refine (HK _ (Below.refl _ _)).mono ?_; rintro e w1 ⟨rfl, hb1⟩; rw [h3])
        go_ret
        exact ⟨_, rfl, HN _, hb1⟩
      · have hr : tPath L i = pathN L i := by unfold tPath; rw [if_neg (by rintro (h | h | h) <;> omega)]
        rw [hr]
        obtain ⟨q1, q2, _⟩ := check_ok h3
        have h3b : (checkN L == 14) = false := by rw [beq_eq_false_iff_ne]; exact h3
        generalize checkN L = e at *
        go_enter Try.func13, Try.ntmps13
        go_wp2_with (first | (go_at_call 10; refine (HK _ (Below.refl _ _)).mono ?_; rintro e w1 ⟨rfl, hb1⟩) | (go_at_call 31; refine (path_any L q1 q2 i (by omega) (by omega) A c hc _ (Kd.C_below HC.out hb1)).mono ?_; rintro e w2 ⟨v, rfl, hv, hb2⟩))
        go_ret
        exact ⟨_, rfl, Kd.R_lower hv hb1.size, below_step hb1 hb2⟩
end Go.Proofs.Ytlomehhlhbpanaa

/- slices.Clone over bytes. -/
namespace Go.Proofs.Ytlomehhlhbpanaa
open Go.RowKit Go.Lib Go.Proofs.YtlomehhlhbpanaaW.PrintWords Go.Proofs.YtlomehhlhbpanaaW.PrintLast Go.Proofs.YtlomehhlhbpanaaW.PrintMore Go.Proofs.Ytlomehhlhbpanaa.Prt

set_option maxRecDepth 100000 in
set_option maxHeartbeats 8000000 in
theorem clone_any (xs : List Int) (A : Option Addr) (c : Nat) (w : World) (hC : (Kd.int .u8).C w A xs.length xs) (hl : xs.length ≤ 100000) :
    Calls Try.prog 32 #[.slice A xs.length c] w fun e w' => ∃ v, e = .returned v ∧ (Kd.int .u8).R 5 w' w.heap.size (fun _ => True) v xs ∧ Below w.heap.size w w' := by
  have q22 : ∀ (w : World) (a : Option Addr) (n c n' c' : Nat), (binOp .eql 39 (.slice a n c) (.slice none n' c')).run Try.prog w = .ok (.bool a.isNone) w := fun w a n c n' c' => Lib.run_eql_slice_nil w _ _ a n c n' c' Try.underlying39
  have u22 : ∀ w, Sem.run Try.prog (underlying 39) w = .ok (TypeDesc.slice 5) w := run_underlying Try.underlying39
  cases A with
  | none =>
    have h0 : xs = [] := by
      rcases xs with _ | ⟨x, xs⟩
      · rfl
      · obtain ⟨ad, h, _⟩ := hC.2.2 (by simp)
        cases h
    subst h0
    have HN := fun W => Kd.R_nil (Kd.int .u8) 5 W w.heap.size (fun _ => True)
    go_enter Try.func32, Try.ntmps32
    go_wp2
    go_ret
    exact ⟨_, rfl, HN _, Below.refl _ _⟩
  | some ad =>
    have hsrc : Aside0 (∀ j u, (xs.map (Value.int .u8))[j]? = some u → w.cell? (ad.add j) = some u) := ⟨fun j u hj => by
      obtain ⟨x, hx, rfl⟩ := Option.map_eq_some_iff.1 (by rw [List.getElem?_map] at hj; exact hj)
      have hlt : j < xs.length := (List.getElem?_eq_some_iff.1 hx).1
      obtain ⟨ad', e, hc⟩ := hC.2.2 (by omega)
      cases e
      obtain ⟨cs, _, rfl, h2⟩ := hc j x hx
      have := h2 0 _ rfl
      rwa [show j * (Kd.int .u8).sz + 0 = j from by show j * 1 + 0 = j; omega] at this⟩
    have hinfo := info5
    obtain ⟨i0, hi, hz⟩ := Option.map_eq_some_iff.1 hinfo
    simp only [Prod.mk.injEq] at hz
    clear hC hinfo
    go_enter Try.func32, Try.ntmps32
    go_wp2_with (at_builtin; refine wpList_append_own _ rfl _ _ 39 rfl w.heap.size 5 i0 (.int .u8 0) 1 1 Try.underlying39 hi hz.1 hz.2.1 hz.2.2 rfl (by omega) _ _ _ rfl (World.ownsRow_made w #[] 0 (Nat.le_refl _) (Nat.zero_le _) (by simp)) ad xs.length c (xs.map (Value.int .u8)) rfl ?qc1 ?qc2 ?qc3 ?qc4 ?qc5 ?qc6 ?_)
    case qc1 => simp
    case qc2 =>
      intro j u hj
      exact Lib.cell?_alloc_some _ (hsrc.out j u hj)
    case qc3 => intro u hu; obtain ⟨x, _, rfl⟩ := List.mem_map.1 hu; rfl
    case qc4 => simp only [maxLen]; omega
    case qc5 => omega
    case qc6 => simp
    intro v' w1 hown hgrow hnil
    go_wp2
    go_ret
    have hown1 : w1.ownsRow w.heap.size 5 1 v' xs.length (xs.map (Value.int .u8)) := by simpa using hown
    refine ⟨v', rfl, ⟨fun _ _ => trivial, xs.map (Value.int .u8), hown1, by rw [List.length_map]; exact (Nat.mul_one _).symm, fun j p hj => ?_⟩, ?_⟩
    · show (List.take 1 _) = [Value.int .u8 p]
      have hlt : j < xs.length := (List.getElem?_eq_some_iff.1 hj).1
      rw [show j * (Kd.int .u8).sz = j from Nat.mul_one j, List.drop_eq_getElem_cons (by simpa using hlt)]
      obtain ⟨_, rfl⟩ := List.getElem?_eq_some_iff.1 hj
      simp
    · exact ((Below.refl _ w).alloc (Nat.le_refl _) _).grown hgrow (by simp) (by intro k hk; simp [Value.ownBlock] at hk; omega)
end Go.Proofs.Ytlomehhlhbpanaa

/- tree.Copy. -/
namespace Go.Proofs.Ytlomehhlhbpanaa
open Go.RowKit Go.Lib Go.Proofs.YtlomehhlhbpanaaW.PrintWords Go.Proofs.YtlomehhlhbpanaaW.PrintLast Go.Proofs.YtlomehhlhbpanaaW.PrintMore Go.Proofs.Ytlomehhlhbpanaa.Prt

/-- copy at elements of k cells. -/
theorem run_copy_k (w : World) (dT sT ty elem : TypeId) (k g dLen dCap : Nat) (a : Addr) (sLen sCap : Nat) (cur : Array Value) (t : TypeId) (cs : List Value)
    (hu : Try.prog.underlying dT = some (.slice elem)) (hs : (Try.prog.info? elem).map (·.size) = some k)
    (hg : w.heap[g]? = some (.cells cur t (0, 0))) (hn : cs.length = Nat.min sLen dLen * k)
    (hsrc : ∀ j v, cs[j]? = some v → w.cell? (a.add j) = some v) (hfit : cs.length ≤ cur.size) (h1 : ∀ v ∈ cs, v.oneCell' = true) :
    (Builtin.copy_ #[dT, sT] ty #[.slice (some ⟨g, 0, none⟩) dLen dCap, .slice (some a) sLen sCap]).run Try.prog w =
      .ok (goInt (Nat.min sLen dLen)) (w.setRow g (cs ++ cur.toList.drop cs.length).toArray) := by
  have hl := run_loadCells_list (P := Try.prog) w a cs hsrc
  have hst := run_storeCells_at Try.prog g 0 t cs 0 cur w hg (by simpa using hfit) h1
  cases hq : Try.prog.info? elem with
  | none => simp [hq] at hs
  | some i =>
    have hi : i.size = k := by simpa [hq] using hs
    simp [Builtin.copy_, run_underlying hu, Builtin.lenOf, Builtin.firstCells, sizeOf, typeInfo, hq, hi, ← hn, hl, hst]

theorem blk_old (w : World) (o : Obj) {g : Nat} {x : Obj} (h : w.heap[g]? = some x) : (w.alloc o).heap[g]? = some x := by
  have hlt : g < w.heap.size := (Array.getElem?_eq_some_iff.1 h).1
  show (w.heap.push o)[g]? = _
  rw [Array.getElem?_push, if_neg (by omega)]; exact h
theorem run_copy_0 (w : World) (dT sT ty elem : TypeId) (k : Nat) (a : Option Addr) (dCap : Nat) (b : Option Addr) (sCap : Nat) (hu : Try.prog.underlying dT = some (.slice elem)) (hs : (Try.prog.info? elem).map (·.size) = some k) :
    (Builtin.copy_ #[dT, sT] ty #[.slice a 0 dCap, .slice b 0 sCap]).run Try.prog w = .ok (goInt 0) w := by
  cases hq : Try.prog.info? elem with
  | none => simp [hq] at hs
  | some i =>
    cases a <;> cases b <;> simp [Builtin.copy_, run_underlying hu, Builtin.lenOf, Builtin.firstCells, sizeOf, typeInfo, hq, storeCells, loadCells, loadCellsFrom]

theorem flat4 {α : Type} (F : Nat → List α) (h : ∀ j, (F j).length = 4) : ∀ n, ((List.range n).flatMap F).length = n * 4 ∧ ∀ j, j < n → ∀ k, k < 4 → ((List.range n).flatMap F)[j * 4 + k]? = (F j)[k]? := by
  intro n
  induction n with
  | zero => exact ⟨rfl, fun j hj => absurd hj (by omega)⟩
  | succ n ih =>
    rw [List.range_succ, List.flatMap_append]
    have e : List.flatMap F [n] = F n := by simp
    rw [e]
    refine ⟨by rw [List.length_append, ih.1, h]; omega, fun j hj k hk => ?_⟩
    by_cases hjn : j = n
    · subst hjn
      rw [List.getElem?_append_right (by rw [ih.1]; omega), ih.1]
      congr 1; omega
    · rw [List.getElem?_append_left (by rw [ih.1]; omega)]
      exact ih.2 j (by omega) k hk

/-- The copy's row behind i rounds: block g. -/
structure CpI (w : World) (L : List It) (g cap i : Nat) (W : World) : Prop where
  below : Below w.heap.size w W
  gb : w.heap.size ≤ g
  row : ∃ (cur : Array Value) (V : Nat → Value), W.heap[g]? = some (.cells cur 41 (0, 0)) ∧ cur.size = cap * 4 ∧ L.length ≤ cap ∧ cap ≤ maxLen ∧
    (∀ j, j < L.length → cur[j * 4]? = some (.int .i64 (itA L j).f0) ∧ cur[j * 4 + 1]? = some (.string (itA L j).f1) ∧ cur[j * 4 + 2]? = some (.bool (itA L j).f2) ∧ cur[j * 4 + 3]? = some (V j)) ∧
    (∀ j, j < i → j < L.length → (Kd.int .u8).R 5 W w.heap.size (fun k => k ≠ g) (V j) (itA L j).f3) ∧
    (∀ j, i ≤ j → j < L.length → ∃ A c, V j = .slice A (itA L j).f3.length c ∧ (itA L j).f3.length ≤ c ∧ (Kd.int .u8).C w A (itA L j).f3.length (itA L j).f3)

theorem cp_end {w : World} {L : List It} {g cap : Nat} {W : World} (h : CpI w L g cap L.length W) : Kd.R kIt 41 W w.heap.size (fun _ => True) (.slice (some ⟨g, 0, none⟩) L.length cap) L := by
  obtain ⟨cur, V, hg, hs, hl, hm, hc, hR, _⟩ := h.row
  have hs' : cur.toList.length = cap * 4 := by rw [← hs]; simp
  refine ⟨fun _ _ => trivial, cur.toList.take (L.length * 4), ⟨?_, .inr ⟨g, cap, cur, rfl, h.gb, hg, hl, hm, hs, rfl⟩⟩, ?_, fun j p hj => ?_⟩
  · rw [List.length_take, hs']
    show min (L.length * 4) (cap * 4) = L.length * 4
    omega
  · rw [List.length_take, hs']
    show min (L.length * 4) (cap * 4) = L.length * 4
    omega
  · have hjl : j < L.length := (List.getElem?_eq_some_iff.1 hj).1
    have hp : p = itA L j := by
      rw [itA_get hjl]
      exact (List.getElem?_eq_some_iff.1 hj).2.symm
    subst hp
    obtain ⟨c0, c1, c2, c3⟩ := hc j hjl
    have e : (List.take kIt.sz (List.drop (j * kIt.sz) (cur.toList.take (L.length * 4)))) = [.int .i64 (itA L j).f0, .string (itA L j).f1, .bool (itA L j).f2, V j] := by
      show List.take 4 (List.drop (j * 4) _) = _
      apply List.ext_getElem?
      intro k
      rw [List.getElem?_take]
      by_cases hk : k < 4
      · rw [if_pos hk, List.getElem?_drop, List.getElem?_take, if_pos (by omega), Array.getElem?_toList]
        match k, hk with
        | 0, _ => exact c0
        | 1, _ => exact c1
        | 2, _ => exact c2
        | 3, _ => exact c3
      · rw [if_neg hk, List.getElem?_eq_none (by simp; omega)]
    rw [e]
    refine k41_mkM _ _ _ _ (Kd.R_mono (hR j hjl hjl) (fun k hk => ⟨trivial, ?_⟩))
    show some k ≠ some g
    exact fun e => hk (Option.some.inj e)

set_option maxRecDepth 100000 in
set_option maxHeartbeats 8000000 in
theorem copy_any (L : List It) (A : Option Addr) (c : Nat) (w : World) (hC : Kd.C kIt w A L.length L) (hl : L.length ≤ 100000) (hd : ∀ x ∈ L, x.f3.length ≤ 100000) :
    Calls Try.prog 17 #[.slice A L.length c] w fun e w' => ∃ v, e = .returned v ∧ Kd.R kIt 41 w' w.heap.size (fun _ => True) v L ∧ Below w.heap.size w w' := by
  have hu41 := Try.underlying41
  have HC := Aside0.mk hC
  clear hC
  go_enter Try.func17, Try.ntmps17
  go_wp2_with (first | ((with_reducible refine gate_dst (N := 8) rfl ?_); refine Kd.R_make kIt w.heap.size 41 rfl (N := 8) rfl 22 _ _ rfl (L.length : Int) rfl rfl Try.underlying22 (.agg #[(.int .i64 0), (.string ⟨#[]⟩), (.bool false), (.slice none 0 0)]) 56 info41 rfl (by decide) (by omega) zIt (ok := fun _ => True) (okp := fun _ => True) ?hz (fun _ hk => hk) trivial (by omega) (by omega) (Below.refl _ _) (Nat.le_refl _) ?_; (case hz => exact k41_mkM _ _ _ _ (Kd.R_nil _ _ _ _ _)); intro vd w1 hrow hb1 hg1 hn1))
  obtain ⟨_, inner, hown, _⟩ := id hrow
  by_cases h0 : L.length = 0
  · obtain rfl : L = [] := List.length_eq_zero_iff.1 h0
    obtain ⟨Ao, co, eo⟩ := Kd.R_slice hrow
    simp only [List.length_nil, List.replicate, Int.ofNat_zero, Int.toNat_zero] at eo hrow
    subst eo
    have hrun := run_copy_0 w1 22 22 3 41 4 Ao co A c Try.underlying22 (by kernel_rfl)
    simp only [List.length_nil]
    have HRow := Aside0.mk hrow
    have HB1 := Aside0.mk hb1
    clear hrow hown hb1 hg1 hn1
    rw [hrun]
    go_wp2
    refine wp_loop_rounds 1 ?_
    rw [rounds_succ]
    go_wp2
    go_ret
    exact ⟨_, rfl, HRow.out, HB1.out⟩
  · rcases hown.2 with ⟨_, h9⟩ | ⟨g, cap, cur, rfl, hgb, hheap, hnc, hcm, hcs, _⟩
    · rw [List.length_replicate] at h9; omega
    have hnc' : L.length ≤ cap := by simpa using hnc
    have hcs' : cur.size = cap * 4 := hcs
    have hcl : cur.toList.length = cap * 4 := by rw [← hcs']; simp
    obtain ⟨ad, rfl, hrd⟩ := HC.out.2.2 (by omega)
    have each : ∀ j, j < L.length → ∃ x : Option Addr × Nat, (itA L j).f3.length ≤ x.2 ∧ (Kd.int .u8).C w x.1 (itA L j).f3.length (itA L j).f3 ∧ ∀ k u, [Value.int .i64 (itA L j).f0, .string (itA L j).f1, .bool (itA L j).f2, .slice x.1 (itA L j).f3.length x.2][k]? = some u → w.cell? (ad.add (j * 4 + k)) = some u := by
      intro j hj
      obtain ⟨cs, _, hK, hcell⟩ := hrd j (itA L j) (by rw [itA_get hj]; exact List.getElem?_eq_getElem hj)
      obtain ⟨A3, c3, rfl, l3, g3⟩ := k41_open hK
      exact ⟨(A3, c3), l3, g3, hcell⟩
    obtain ⟨AC, hAC⟩ := Go.Deep.choose_lt each
    obtain ⟨F, hF⟩ : ∃ F : Nat → List Value, F = fun j : Nat => [Value.int .i64 (itA L j).f0, .string (itA L j).f1, .bool (itA L j).f2, .slice (AC j).1 (itA L j).f3.length (AC j).2] := ⟨_, rfl⟩
    obtain ⟨f1, f2⟩ := flat4 F (fun j => by rw [hF]; rfl) L.length
    have hone : ∀ v ∈ (List.range L.length).flatMap F, v.oneCell' = true := by
      intro v hv
      obtain ⟨j, _, hv⟩ := List.mem_flatMap.1 hv
      rw [hF] at hv
      simp only [List.mem_cons, List.not_mem_nil, or_false] at hv
      rcases hv with rfl | rfl | rfl | rfl <;> rfl
    generalize hcsrc : (List.range L.length).flatMap F = csrc at f1 f2 hone
    have hsrc : ∀ m v, csrc[m]? = some v → w1.cell? (ad.add m) = some v := by
      intro m v hm
      have hml : m < L.length * 4 := by rw [← f1]; exact (List.getElem?_eq_some_iff.1 hm).1
      have h2 := f2 (m / 4) (by omega) (m % 4) (by omega)
      rw [show m / 4 * 4 + m % 4 = m from by omega, hm, hF] at h2
      have h3 := (hAC (m / 4) (by omega)).2.2 (m % 4) v h2.symm
      rw [show m / 4 * 4 + m % 4 = m from by omega] at h3
      exact pw_cell_below hb1 h3
    have hrun := run_copy_k w1 22 22 3 41 4 g L.length cap ad L.length c cur 41 csrc Try.underlying22 (by kernel_rfl) hheap (by rw [f1]; simp) hsrc (by rw [f1, hcs']; omega) hone
    rw [show L.length.min L.length = L.length from Nat.min_self _] at hrun
    have hlenr : (List.replicate (L.length : Int).toNat zIt).length = L.length := by simp
    have H0 : CpI w L g cap 0 (w1.setRow g (csrc ++ cur.toList.drop csrc.length).toArray) := {
      below := below_setRow hb1 hgb _
      gb := hgb
      row := ⟨(csrc ++ cur.toList.drop csrc.length).toArray, fun j => .slice (AC j).1 (itA L j).f3.length (AC j).2, setRow_heap w1 g _ _ _ _ hheap, by simp [f1, hcs']; omega, hnc', hcm, fun j hj => by
          have e : ∀ k, k < 4 → ((csrc ++ cur.toList.drop csrc.length).toArray)[j * 4 + k]? = (F j)[k]? := fun k hk => by
            rw [List.getElem?_toArray, List.getElem?_append_left (by rw [f1]; omega)]
            exact f2 j hj k hk
          have e0 := e 0 (by omega); have e1 := e 1 (by omega); have e2 := e 2 (by omega); have e3 := e 3 (by omega)
          rw [hF] at e0 e1 e2 e3
          exact ⟨e0, e1, e2, e3⟩, fun j hj => absurd hj (by omega), fun j _ hj => ⟨_, _, rfl, (hAC j hj).1, (hAC j hj).2.1⟩⟩ }
    have H1 := Aside0.mk H0
    simp only [hlenr]
    generalize (w1.setRow g (csrc ++ cur.toList.drop csrc.length).toArray) = W0 at hrun H1
    rw [hrun]
    clear H0 hrun hsrc hone f1 f2 hAC each hrd hrow hown hheap hb1 hg1 hn1
    go_wp2
    go_loopg [14] L.length (fun gg v14 wr => ∃ i : Nat, i ≤ L.length ∧ L.length - i ≤ gg ∧ v14 = .int .i64 i ∧ Aside0 (CpI w L g cap i wr))
    case atStart => exact ⟨0, Nat.zero_le _, by omega, rfl, H1⟩
    case round =>
      clear H1
      obtain ⟨i, hi, hg, rfl, HI⟩ := hrel
      by_cases hlt : i < L.length
      · have hltz : (i : Int) < (L.length : Int) := by omega
        obtain ⟨hbel, _, cu, V, hgr, hcu, hcap1, hcap2, hcells, hown, hold⟩ := HI.out
        obtain ⟨A3, c3, hV, hl3, hC3⟩ := hold i (Nat.le_refl _) hlt
        obtain ⟨x0, x1, x2, x3⟩ := hcells i hlt
        rw [hV] at x3
        have hat : ∀ k v, cu[i * 4 + k]? = some v → wr.cell? ⟨g, i * 4 + k, none⟩ = some v := fun k v h => by
          simp only [World.cell?, hgr]; exact h
        have y0 := hat 0 _ x0
        have y1 := hat 1 _ x1
        have y2 := hat 2 _ x2
        have y3 := hat 3 _ x3
        rw [Nat.add_zero] at y0
        have hglt : g < wr.heap.size := (Array.getElem?_eq_some_iff.1 hgr).1
        have hd3 : (itA L i).f3.length ≤ 100000 := by
          rw [itA_get hlt]; exact hd _ (List.getElem_mem hlt)
        go_wp2_with (first | (go_at_call 32; refine (clone_any _ A3 c3 _ (Kd.C_below hC3 (below_alloc hbel _)) hd3).mono ?_; rintro e w3 ⟨v, rfl, hv, hb3⟩; obtain ⟨Ao, co, eo⟩ := Kd.R_slice hv; subst eo; have hg3 := (hb3.block g (by rw [show (wr.alloc _).heap.size = wr.heap.size + 1 from Array.size_push ..]; omega)).trans (blk_old wr _ hgr); have z3 : w3.cell? ⟨g, i * 4 + 3, none⟩ = some (.slice A3 (itA L i).f3.length c3) := (by simp only [World.cell?, hg3]; exact x3); have zf : w3.frozen? ⟨g, i * 4 + 3, none⟩ = false := (by simp [World.frozen?, hg3])))
        have hb4 := below_step (below_alloc hbel _) hb3
        go_roundg (L.length - (i + 1))
        case measure => omega
        case rel =>
          refine ⟨i + 1, by omega, by omega, by go_num, ⟨?_⟩⟩
          have hgw := HI.out.gb
          have hsz1 : (wr.alloc (Obj.cells #[.int .i64 (itA L i).f0, .string (itA L i).f1, .bool (itA L i).f2, .slice A3 (itA L i).f3.length c3] 41)).heap.size = wr.heap.size + 1 := Array.size_push ..
          obtain ⟨v, hve⟩ : ∃ v, v = Value.slice Ao (itA L i).f3.length co := ⟨_, rfl⟩
          rw [← hve] at hv ⊢
          have hnew : (w3.setCell ⟨g, i * 4 + 3, none⟩ v).heap[g]? = some (.cells (cu.setIfInBounds (i * 4 + 3) v) 41 (0, 0)) := by
            rw [setCell_eq_setRow w3 g (i * 4 + 3) cu 41 (0, 0) v hg3]
            exact setRow_heap w3 g _ _ _ _ hg3
          have hother : ∀ k, k ≠ g → (w3.setCell ⟨g, i * 4 + 3, none⟩ v).heap[k]? = w3.heap[k]? := fun k hk => Below.heap_setCell w3 _ v k hk
          refine { below := below_set hb4 hgw, gb := hgw, row := ⟨cu.setIfInBounds (i * 4 + 3) v, fun j => if j = i then v else V j, hnew, by simpa using hcu, hcap1, hcap2, fun j hj => ?_, fun j hj hjl => ?_, fun j hj hjl => ?_⟩ }
          · obtain ⟨q0, q1, q2, q3⟩ := hcells j hj
            have hcsz : i * 4 + 3 < cu.size := by rw [hcu]; omega
            have hs : ∀ m, (cu.setIfInBounds (i * 4 + 3) v)[m]? = if i * 4 + 3 = m then some v else cu[m]? := fun m => by
              rw [Array.getElem?_setIfInBounds]
              by_cases e : i * 4 + 3 = m
              · rw [if_pos e, if_pos e, if_pos hcsz]
              · rw [if_neg e, if_neg e]
            refine ⟨by rw [hs, if_neg (by omega)]; exact q0, by rw [hs, if_neg (by omega)]; exact q1, by rw [hs, if_neg (by omega)]; exact q2, ?_⟩
            rw [hs]
            show _ = some (if j = i then v else V j)
            by_cases e : j = i
            · subst e; rw [if_pos rfl, if_pos rfl]
            · rw [if_neg (by omega), if_neg e]; exact q3
          · show (Kd.int .u8).R _ _ _ _ (if j = i then v else V j) _
            by_cases e : j = i
            · subst e
              rw [if_pos rfl]
              exact Kd.R_move (Kd.R_lower (Kd.R_mono (Kd.R_bound hv) (fun k hk => by have := hk.2.1; rw [hsz1] at this; omega)) (by rw [hsz1]; have := hbel.size; omega)) hother
            · rw [if_neg e]
              refine Kd.R_move ?_ hother
              exact Kd.R_below (hown j (by omega) hjl) (below_step (below_alloc (Below.refl _ _) _) hb3)
          · show ∃ A c, (if j = i then v else V j) = _ ∧ _
            rw [if_neg (by omega)]; exact hold j (by omega) hjl
      · have hltz : ¬ (i : Int) < (L.length : Int) := by omega
        obtain rfl : i = L.length := by omega
        go_wp2
        go_ret
        exact ⟨_, rfl, cp_end HI.out, HI.out.below⟩
end Go.Proofs.Ytlomehhlhbpanaa
