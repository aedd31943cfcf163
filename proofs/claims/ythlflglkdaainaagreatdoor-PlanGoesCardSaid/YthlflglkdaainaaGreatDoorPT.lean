import Derived.Test.YthlflglkdaainaaGreatDoorProg
import Derived.Below
import Derived.Deep.Draws
import Derived.Deep.AppendLies
import Derived.Maps.AppendAt
import Derived.OwnWalk
import Derived.Laws.BytesArg
import Derived.Laws.MakeOwn
import Derived.Laws.OwnMore
import Derived.Deep.OwnRows
import Derived.Tactics
import Derived.Lib.ConvBytes
import Derived.Laws.Slices
import Derived.WalkKit
import Derived.KernelRfl
import Derived.RowKit3
import Derived.Deep.LoopGhost
import Derived.Deep.QuietTactic
import Derived.BigQuiet
import Derived.WideLaws
import Derived.Deep.DeepCutAuto
import Derived.Deep.CutBlock
import Derived.Deep.RegionHeld3
import Derived.Laws.Rows
import Derived.Lib.AppendStr
import Derived.ArgAppend
import Derived.Laws.IdiomCopy
import Derived.OrdersHeld
import Derived.Laws.BitsLemmas
import Derived.RowKit
import Derived.Test.YthlflglkdaainaaGreatDoorPW
/- Texts of this seat: T0, TEqual, T1, T2, T3, T4, T5, T11, T12, T13. -/
set_option maxRecDepth 100000
set_option maxHeartbeats 8000000
namespace Go.Proofs.YthlflglkdaainaaGreatDoor.Prt
open Go.RowKit Go.Proofs.YthlflglkdaainaaGreatDoorW.PrintWords Go.Proofs.YthlflglkdaainaaGreatDoorW.PrintLast Go.Proofs.YthlflglkdaainaaGreatDoorW.PrintMore
attribute [local go_sem] max2_int min2_int max_two min_two max_three min_three max_four min_four   -- for this text's walks alone
set_option linter.unusedVariables false
set_option linter.unusedSimpArgs false
def errW : Option Int → Value
 | none => .nilIface
 | some c => .iface 0 (.int .i64 c)
theorem errW_none : errW none = .nilIface := rfl
theorem errW_some (c : Int) : errW (some c) = .iface 0 (.int .i64 c) := rfl
theorem info3 : (Tryz.prog.info? 3).map (fun i => (i.zero, i.size, i.bytes)) = some (some (.int .i64 0), 1, 8) := by kernel_rfl
theorem info5 : (Tryz.prog.info? 5).map (fun i => (i.zero, i.size, i.bytes)) = some (some (.int .u8 0), 1, 1) := by kernel_rfl
theorem info9 : (Tryz.prog.info? 9).map (fun i => (i.zero, i.size, i.bytes)) = some (some (.string ⟨#[]⟩), 1, 16) := by kernel_rfl
theorem info53 : (Tryz.prog.info? 53).map (fun i => (i.zero, i.size, i.bytes)) = some (some (.agg #[(.int .i64 0), (.string ⟨#[]⟩), (.bool false), (.slice none 0 0)]), 4, 56) := by kernel_rfl
structure S53 where
 f0 : Int
 f1 : ByteArray
 f2 : Bool
 f3 : (List Int)
def z53 : S53 := ⟨(0 : Int), (⟨#[]⟩ : ByteArray), false, ([] : List Int)⟩
def k53 : Kd S53 := Kd.iso (Kd.pair (Kd.int .i64) (Kd.pair Kd.string (Kd.pair Kd.bool (Kd.slice 5 (Kd.int .u8))))) (fun x : S53 => (x.f0, x.f1, x.f2, x.f3))
theorem k53_open {w : World} {x : S53} {cs : List Value} (h : k53.K w x cs) : ∃ A3 c3, cs = [.int .i64 x.f0, .string x.f1, .bool x.f2, .slice A3 x.f3.length c3] ∧ x.f3.length ≤ c3 ∧ (Kd.int .u8).C w A3 x.f3.length x.f3 := by
 obtain ⟨_, _, rfl, rfl, ⟨_, _, rfl, rfl, ⟨_, _, rfl, rfl, ⟨A3, c3, rfl, l3, g3⟩⟩⟩⟩ := h
 exact ⟨A3, c3, rfl, l3, g3⟩
theorem k53_openM {w : World} {base : Nat} {ok : Nat → Prop} {x : S53} {cs : List Value} (h : k53.M w base ok x cs) : ∃ v3, cs = [.int .i64 x.f0, .string x.f1, .bool x.f2, v3] ∧ (Kd.int .u8).R 5 w base ok v3 x.f3 := by
 obtain ⟨_, _, rfl, rfl, ⟨_, _, rfl, rfl, ⟨_, _, rfl, rfl, ⟨v3, rfl, g3⟩⟩⟩⟩ := h
 exact ⟨v3, rfl, g3⟩
theorem k53_mk (w : World) (x : S53) {A3 : Option Addr} {c3 : Nat} (l3 : x.f3.length ≤ c3) (g3 : (Kd.int .u8).C w A3 x.f3.length x.f3) : k53.K w x [.int .i64 x.f0, .string x.f1, .bool x.f2, .slice A3 x.f3.length c3] := ⟨[.int .i64 x.f0], [.string x.f1, .bool x.f2, .slice A3 x.f3.length c3], rfl, rfl, ⟨[.string x.f1], [.bool x.f2, .slice A3 x.f3.length c3], rfl, rfl, ⟨[.bool x.f2], [.slice A3 x.f3.length c3], rfl, rfl, ⟨A3, c3, rfl, l3, g3⟩⟩⟩⟩
theorem k53_mkM (w : World) (base : Nat) (ok : Nat → Prop) (x : S53) {v3 : Value} (g3 : (Kd.int .u8).R 5 w base ok v3 x.f3) : k53.M w base ok x [.int .i64 x.f0, .string x.f1, .bool x.f2, v3] := ⟨[.int .i64 x.f0], [.string x.f1, .bool x.f2, v3], rfl, rfl, ⟨[.string x.f1], [.bool x.f2, v3], rfl, rfl, ⟨[.bool x.f2], [v3], rfl, rfl, ⟨v3, rfl, g3⟩⟩⟩⟩
theorem k53_mkF (W : World) (ok : Nat → Prop) (x : S53) {A3 : Option Addr} {c3 : Nat} (l3 : x.f3.length ≤ c3) (g3 : Kd.F (Kd.int .u8) W ok A3 x.f3.length x.f3) : Kd.FK k53 W ok x [.int .i64 x.f0, .string x.f1, .bool x.f2, .slice A3 x.f3.length c3] := fun W2 hW => k53_mk W2 x l3 (g3 W2 hW)
def rd_T53 (xs : List S53) (i : Int) : S53 := xs.getD i.toNat z53
theorem at_T53 {w : World} {A : Option Addr} {n : Nat} {xs : List S53} (h : Kd.C k53 w A n xs) (i : Int) (h0 : 0 ≤ i) (h1 : i < n) : ∃ ad A3 c3, A = some ad ∧ w.cell? (ad.add (i.toNat * 4)) = some (.int .i64 (rd_T53 xs i).f0) ∧ w.cell? ⟨(ad.add (i.toNat * 4)).block, (ad.add (i.toNat * 4)).off + 1, none⟩ = some (.string (rd_T53 xs i).f1) ∧ w.cell? ⟨(ad.add (i.toNat * 4)).block, (ad.add (i.toNat * 4)).off + 2, none⟩ = some (.bool (rd_T53 xs i).f2) ∧ w.cell? ⟨(ad.add (i.toNat * 4)).block, (ad.add (i.toNat * 4)).off + 3, none⟩ = some (.slice A3 (rd_T53 xs i).f3.length c3) ∧ (rd_T53 xs i).f3.length ≤ c3 ∧ (Kd.int .u8).C w A3 (rd_T53 xs i).f3.length (rd_T53 xs i).f3 := by
 obtain ⟨ad, c, e, _, hK, hc0⟩ := Kd.C_get h z53 i h0 h1
 have hc : ∀ j u, c[j]? = some u → w.cell? (ad.add (i.toNat * 4 + j)) = some u := hc0
 obtain ⟨A3, c3, rfl, l3, g3⟩ := k53_open hK
 exact ⟨ad, A3, c3, e, hc 0 _ rfl, by rw [← add_field _ _ 1 (by omega)]; exact hc 1 _ rfl, by rw [← add_field _ _ 2 (by omega)]; exact hc 2 _ rfl, by rw [← add_field _ _ 3 (by omega)]; exact hc 3 _ rfl, l3, g3⟩
structure S49 where
 f0 : ByteArray
 f1 : Int
 f2 : (List Int)
 f3 : Int
def z49 : S49 := ⟨(⟨#[]⟩ : ByteArray), (0 : Int), ([] : List Int), (0 : Int)⟩
def k49 : Kd S49 := Kd.iso (Kd.pair Kd.string (Kd.pair (Kd.int .u8) (Kd.pair (Kd.slice 5 (Kd.int .u8)) (Kd.int .u8)))) (fun x : S49 => (x.f0, x.f1, x.f2, x.f3))
theorem k49_open {w : World} {x : S49} {cs : List Value} (h : k49.K w x cs) : ∃ A2 c2, cs = [.string x.f0, .int .u8 x.f1, .slice A2 x.f2.length c2, .int .u8 x.f3] ∧ x.f2.length ≤ c2 ∧ (Kd.int .u8).C w A2 x.f2.length x.f2 := by
 obtain ⟨_, _, rfl, rfl, ⟨_, _, rfl, rfl, ⟨_, _, rfl, ⟨A2, c2, rfl, l2, g2⟩, rfl⟩⟩⟩ := h
 exact ⟨A2, c2, rfl, l2, g2⟩
theorem k49_openM {w : World} {base : Nat} {ok : Nat → Prop} {x : S49} {cs : List Value} (h : k49.M w base ok x cs) : ∃ v2, cs = [.string x.f0, .int .u8 x.f1, v2, .int .u8 x.f3] ∧ (Kd.int .u8).R 5 w base ok v2 x.f2 := by
 obtain ⟨_, _, rfl, rfl, ⟨_, _, rfl, rfl, ⟨_, _, rfl, ⟨v2, rfl, g2⟩, rfl⟩⟩⟩ := h
 exact ⟨v2, rfl, g2⟩
theorem k49_mkM (w : World) (base : Nat) (ok : Nat → Prop) (x : S49) {v2 : Value} (g2 : (Kd.int .u8).R 5 w base ok v2 x.f2) : k49.M w base ok x [.string x.f0, .int .u8 x.f1, v2, .int .u8 x.f3] := ⟨[.string x.f0], [.int .u8 x.f1, v2, .int .u8 x.f3], rfl, rfl, ⟨[.int .u8 x.f1], [v2, .int .u8 x.f3], rfl, rfl, ⟨[v2], [.int .u8 x.f3], rfl, ⟨v2, rfl, g2⟩, rfl⟩⟩⟩
theorem k49_openF {W : World} {ok : Nat → Prop} {x : S49} {cs : List Value} (h : Kd.FK k49 W ok x cs) : ∃ A2 c2, cs = [.string x.f0, .int .u8 x.f1, .slice A2 x.f2.length c2, .int .u8 x.f3] ∧ x.f2.length ≤ c2 ∧ Kd.F (Kd.int .u8) W ok A2 x.f2.length x.f2 := by
 obtain ⟨A2, c2, rfl, l2, _⟩ := k49_open (Kd.FK_now h)
 exact ⟨A2, c2, rfl, l2, (fun W' hW => by obtain ⟨A2_, c2_, he, l2_, g2_⟩ := k49_open (h W' hW); injection (Option.some.inj (show some (Value.slice A2 x.f2.length c2) = some (Value.slice A2_ x.f2.length c2_) from congrArg (fun l => l[2]?) he)) with ha_ _ _; rw [ha_]; exact g2_)⟩
def rd_T49 (xs : List S49) (i : Int) : S49 := xs.getD i.toNat z49
theorem at_T49 {w : World} {A : Option Addr} {n : Nat} {xs : List S49} (h : Kd.C k49 w A n xs) (i : Int) (h0 : 0 ≤ i) (h1 : i < n) : ∃ ad A2 c2, A = some ad ∧ w.cell? (ad.add (i.toNat * 4)) = some (.string (rd_T49 xs i).f0) ∧ w.cell? ⟨(ad.add (i.toNat * 4)).block, (ad.add (i.toNat * 4)).off + 1, none⟩ = some (.int .u8 (rd_T49 xs i).f1) ∧ w.cell? ⟨(ad.add (i.toNat * 4)).block, (ad.add (i.toNat * 4)).off + 2, none⟩ = some (.slice A2 (rd_T49 xs i).f2.length c2) ∧ w.cell? ⟨(ad.add (i.toNat * 4)).block, (ad.add (i.toNat * 4)).off + 3, none⟩ = some (.int .u8 (rd_T49 xs i).f3) ∧ (rd_T49 xs i).f2.length ≤ c2 ∧ (Kd.int .u8).C w A2 (rd_T49 xs i).f2.length (rd_T49 xs i).f2 := by
 obtain ⟨ad, c, e, _, hK, hc0⟩ := Kd.C_get h z49 i h0 h1
 have hc : ∀ j u, c[j]? = some u → w.cell? (ad.add (i.toNat * 4 + j)) = some u := hc0
 obtain ⟨A2, c2, rfl, l2, g2⟩ := k49_open hK
 exact ⟨ad, A2, c2, e, hc 0 _ rfl, by rw [← add_field _ _ 1 (by omega)]; exact hc 1 _ rfl, by rw [← add_field _ _ 2 (by omega)]; exact hc 2 _ rfl, by rw [← add_field _ _ 3 (by omega)]; exact hc 3 _ rfl, l2, g2⟩
structure S90 where
 f0 : (List ByteArray)
 f1 : Int
def z90 : S90 := ⟨([] : List ByteArray), (0 : Int)⟩
def k90 : Kd S90 := Kd.iso (Kd.pair (Kd.slice 9 Kd.string) (Kd.int .u8)) (fun x : S90 => (x.f0, x.f1))
theorem k90_open {w : World} {x : S90} {cs : List Value} (h : k90.K w x cs) : ∃ A0 c0, cs = [.slice A0 x.f0.length c0, .int .u8 x.f1] ∧ x.f0.length ≤ c0 ∧ Kd.string.C w A0 x.f0.length x.f0 := by
 obtain ⟨_, _, rfl, ⟨A0, c0, rfl, l0, g0⟩, rfl⟩ := h
 exact ⟨A0, c0, rfl, l0, g0⟩
theorem k90_mk (w : World) (x : S90) {A0 : Option Addr} {c0 : Nat} (l0 : x.f0.length ≤ c0) (g0 : Kd.string.C w A0 x.f0.length x.f0) : k90.K w x [.slice A0 x.f0.length c0, .int .u8 x.f1] := ⟨[.slice A0 x.f0.length c0], [.int .u8 x.f1], rfl, ⟨A0, c0, rfl, l0, g0⟩, rfl⟩
theorem k90_mkM (w : World) (base : Nat) (ok : Nat → Prop) (x : S90) {v0 : Value} (g0 : Kd.string.R 9 w base ok v0 x.f0) : k90.M w base ok x [v0, .int .u8 x.f1] := ⟨[v0], [.int .u8 x.f1], rfl, ⟨v0, rfl, g0⟩, rfl⟩
theorem k90_openF {W : World} {ok : Nat → Prop} {x : S90} {cs : List Value} (h : Kd.FK k90 W ok x cs) : ∃ A0 c0, cs = [.slice A0 x.f0.length c0, .int .u8 x.f1] ∧ x.f0.length ≤ c0 ∧ Kd.F Kd.string W ok A0 x.f0.length x.f0 := by
 obtain ⟨A0, c0, rfl, l0, _⟩ := k90_open (Kd.FK_now h)
 exact ⟨A0, c0, rfl, l0, (fun W' hW => by obtain ⟨A0_, c0_, he, l0_, g0_⟩ := k90_open (h W' hW); injection (Option.some.inj (show some (Value.slice A0 x.f0.length c0) = some (Value.slice A0_ x.f0.length c0_) from congrArg (fun l => l[0]?) he)) with ha_ _ _; rw [ha_]; exact g0_)⟩
theorem k90_mkF (W : World) (ok : Nat → Prop) (x : S90) {A0 : Option Addr} {c0 : Nat} (l0 : x.f0.length ≤ c0) (g0 : Kd.F Kd.string W ok A0 x.f0.length x.f0) : Kd.FK k90 W ok x [.slice A0 x.f0.length c0, .int .u8 x.f1] := fun W2 hW => k90_mk W2 x l0 (g0 W2 hW)
def rd_T90 (xs : List S90) (i : Int) : S90 := xs.getD i.toNat z90
theorem at_T90 {w : World} {A : Option Addr} {n : Nat} {xs : List S90} (h : Kd.C k90 w A n xs) (i : Int) (h0 : 0 ≤ i) (h1 : i < n) : ∃ ad A0 c0, A = some ad ∧ w.cell? (ad.add (i.toNat * 2)) = some (.slice A0 (rd_T90 xs i).f0.length c0) ∧ w.cell? ⟨(ad.add (i.toNat * 2)).block, (ad.add (i.toNat * 2)).off + 1, none⟩ = some (.int .u8 (rd_T90 xs i).f1) ∧ (rd_T90 xs i).f0.length ≤ c0 ∧ Kd.string.C w A0 (rd_T90 xs i).f0.length (rd_T90 xs i).f0 := by
 obtain ⟨ad, c, e, _, hK, hc0⟩ := Kd.C_get h z90 i h0 h1
 have hc : ∀ j u, c[j]? = some u → w.cell? (ad.add (i.toNat * 2 + j)) = some u := hc0
 obtain ⟨A0, c0, rfl, l0, g0⟩ := k90_open hK
 exact ⟨ad, A0, c0, e, hc 0 _ rfl, by rw [← add_field _ _ 1 (by omega)]; exact hc 1 _ rfl, l0, g0⟩
attribute [local go_sem] max2_int min2_int max_two min_two max_three min_three max_four min_four   -- for this text's walks alone
set_option linter.unusedVariables false
set_option linter.unusedSimpArgs false
def gessoref14_Equal.l0 : Nat → List (S53) → List (S53) → Int → Option (Bool)
 | 0, _, _, _ => none
 | k + 1, x0, x1, x5 => if x5 < (x0.length : Int) then (if 0 ≤ x5 then (if x5 < (x1.length : Int) then (if ((rd_T53 x0 x5).f0) = ((rd_T53 x1 x5).f0) then (if ((rd_T53 x0 x5).f1).toList = ((rd_T53 x1 x5).f1).toList then (if (((rd_T53 x0 x5).f2) != ((rd_T53 x1 x5).f2)) = true then (some false) else (if (strOfNums ((rd_T53 x0 x5).f3)).toList = (strOfNums ((rd_T53 x1 x5).f3)).toList then (gessoref14_Equal.l0 k x0 x1 (wrap64 (x5 + 1))) else (some false))) else (some false)) else (some false)) else (none)) else (none)) else (some true)
def gessoref14_Equal.f (k : Nat) (l0 : List (S53)) (l1 : List (S53)) : Option (Bool) := if (l0.length : Int) = (l1.length : Int) then (gessoref14_Equal.l0 k l0 l1 0) else (some false)
theorem gessoref14_Equal.calls (k : Nat) (A0 : Option Addr) (c0 : Nat) (l0 : List (S53)) (A1 : Option Addr) (c1 : Nat) (l1 : List (S53)) (r : Bool) (w : World) (hr0 : Kd.C k53 w A0 l0.length l0) (hc0 : l0.length ≤ c0) (hr1 : Kd.C k53 w A1 l1.length l1) (hc1 : l1.length ≤ c1) (h : gessoref14_Equal.f k l0 l1 = some r) :
    Calls Tryz.prog 22 #[.slice A0 l0.length c0, .slice A1 l1.length c1] w fun e w' => e = .returned (.bool r) ∧ Drawn0 w w' := by
 have HR0 := Aside0.mk hr0
 have HC0 := Aside0.mk hc0
 clear hr0 hc0
 have HR1 := Aside0.mk hr1
 have HC1 := Aside0.mk hc1
 clear hr1 hc1
 have H : (if (l0.length : Int) = (l1.length : Int) then (gessoref14_Equal.l0 k l0 l1 0) else (some false)) = some r := h
 clear h
 by_cases c3 : (l0.length : Int) = (l1.length : Int)
 · rw [if_pos c3] at H
   have c3b0 : ((l0.length : Int) == (l1.length : Int)) = true := beq_iff_eq.mpr c3
   have c3b1 : ((l0.length : Int) != (l1.length : Int)) = false := bne_eq_false_iff_eq.mpr c3
   have c3b2 : (l0.length == l1.length) = true := by first | simpa using c3 | (simp at c3 ⊢; omega)
   clear c3
   have H' := Aside0.mk H
   clear H
   go_enter Tryz.func22, Tryz.ntmps22
   go_wp2
   repeat (go_quiet (fail); try go_wp2)
   go_loopg [5] k (fun kq v5 w' => ∃ (x5_1 : Int), v5 = .int .i64 x5_1 ∧ Aside0 (gessoref14_Equal.l0 kq l0 l1 x5_1 = some r) ∧ Aside0 (kq ≤ k) ∧ Drawn0 w w')
   case atStart => exact ⟨(0), (by first | rfl | (simp; done) | (simp [*]; done)), H', ⟨Nat.le_refl _⟩, by repeat (first | exact Drawn0.refl _ | apply Drawn0.step)⟩
   case round =>
    clear H'
    try clear c1
    try clear c2
    try clear p2
    try clear c3
    try clear c3b0
    try clear c3b1
    try clear c3b2
    obtain ⟨x5_1, rfl, HA, HK1, ⟨m1, rfl⟩⟩ := hrel
    cases gk with
    | zero => exact absurd HA.out (by simp [gessoref14_Equal.l0])
    | succ k1 =>
     have H := HA.out
     clear HA
     simp only [gessoref14_Equal.l0] at H
     by_cases c4 : x5_1 < (l0.length : Int)
     · rw [if_pos c4] at H
       have c4b0 : decide (x5_1 < (l0.length : Int)) = true := decide_eq_true c4
       clear c4
       by_cases c5 : 0 ≤ x5_1
       · rw [if_pos c5] at H
         have c5b0 : decide (0 ≤ x5_1) = true := decide_eq_true c5
         clear c5
         by_cases c6 : x5_1 < (l1.length : Int)
         · rw [if_pos c6] at H
           have c6b0 : decide (x5_1 < (l1.length : Int)) = true := decide_eq_true c6
           clear c6
           by_cases c7 : ((rd_T53 l0 x5_1).f0) = ((rd_T53 l1 x5_1).f0)
           · rw [if_pos c7] at H
             have c7b0 : (((rd_T53 l0 x5_1).f0) == ((rd_T53 l1 x5_1).f0)) = true := beq_iff_eq.mpr c7
             have c7b1 : (((rd_T53 l0 x5_1).f0) != ((rd_T53 l1 x5_1).f0)) = false := bne_eq_false_iff_eq.mpr c7
             clear c7
             by_cases c8 : ((rd_T53 l0 x5_1).f1).toList = ((rd_T53 l1 x5_1).f1).toList
             · rw [if_pos c8] at H
               have c8b0 : (((rd_T53 l0 x5_1).f1).toList == ((rd_T53 l1 x5_1).f1).toList) = true := beq_iff_eq.mpr c8
               have c8b1 : (((rd_T53 l0 x5_1).f1).toList != ((rd_T53 l1 x5_1).f1).toList) = false := bne_eq_false_iff_eq.mpr c8
               clear c8
               by_cases c9 : (((rd_T53 l0 x5_1).f2) != ((rd_T53 l1 x5_1).f2)) = true
               · rw [if_pos c9] at H
                 have c9b0 : (((rd_T53 l0 x5_1).f2) != ((rd_T53 l1 x5_1).f2)) = true := c9
                 (try (have c9b1 : decide (((rd_T53 l0 x5_1).f2) = ((rd_T53 l1 x5_1).f2)) = false := by simpa using c9))
                 (try (have c9b2 : (((rd_T53 l0 x5_1).f2) == ((rd_T53 l1 x5_1).f2)) = false := by simpa using c9))
                 (try (have c9b3 : ¬ (((rd_T53 l0 x5_1).f2) = ((rd_T53 l1 x5_1).f2)) := by simpa using c9))
                 clear c9
                 obtain rfl := Option.some.inj H
                 have p193 : 0 ≤ (x5_1 : Int) := of_decide_eq_true (by first | (with_reducible assumption) | assumption)
                 have q193 : x5_1 < (l0.length : Int) := of_decide_eq_true (by first | (with_reducible assumption) | assumption)
                 obtain ⟨ad193, A193_3, c193_3, e193, hx193_0, hx193_1, hx193_2, hx193_3, hl193_3, hi193_3⟩ := at_T53 HR0.out x5_1 p193 q193
                 cases e193
                 have HR193_3 := Aside0.mk hi193_3
                 have HC193_3 := Aside0.mk hl193_3
                 clear hi193_3 hl193_3
                 replace p193 := eq_true p193
                 replace q193 := eq_true q193
                 have p194 : 0 ≤ (x5_1 : Int) := of_decide_eq_true (by first | (with_reducible assumption) | assumption)
                 have q194 : x5_1 < (l1.length : Int) := of_decide_eq_true (by first | (with_reducible assumption) | assumption)
                 obtain ⟨ad194, A194_3, c194_3, e194, hx194_0, hx194_1, hx194_2, hx194_3, hl194_3, hi194_3⟩ := at_T53 HR1.out x5_1 p194 q194
                 cases e194
                 have HR194_3 := Aside0.mk hi194_3
                 have HC194_3 := Aside0.mk hl194_3
                 clear hi194_3 hl194_3
                 replace p194 := eq_true p194
                 replace q194 := eq_true q194
                 have p195 : 0 ≤ (x5_1 : Int) := of_decide_eq_true (by first | (with_reducible assumption) | assumption)
                 have q195 : x5_1 < (l0.length : Int) := of_decide_eq_true (by first | (with_reducible assumption) | assumption)
                 obtain ⟨ad195, A195_3, c195_3, e195, hx195_0, hx195_1, hx195_2, hx195_3, hl195_3, hi195_3⟩ := at_T53 HR0.out x5_1 p195 q195
                 obtain rfl : ad193 = ad195 := (by injection e195)
                 have HR195_3 := Aside0.mk hi195_3
                 have HC195_3 := Aside0.mk hl195_3
                 clear hi195_3 hl195_3
                 replace p195 := eq_true p195
                 replace q195 := eq_true q195
                 have ea_ := Option.some.inj (hx193_3.symm.trans hx195_3)
                 injection ea_ with ea_ en_ ec_
                 subst ea_
                 subst ec_
                 clear en_
                 have p196 : 0 ≤ (x5_1 : Int) := of_decide_eq_true (by first | (with_reducible assumption) | assumption)
                 have q196 : x5_1 < (l1.length : Int) := of_decide_eq_true (by first | (with_reducible assumption) | assumption)
                 obtain ⟨ad196, A196_3, c196_3, e196, hx196_0, hx196_1, hx196_2, hx196_3, hl196_3, hi196_3⟩ := at_T53 HR1.out x5_1 p196 q196
                 obtain rfl : ad194 = ad196 := (by injection e196)
                 have HR196_3 := Aside0.mk hi196_3
                 have HC196_3 := Aside0.mk hl196_3
                 clear hi196_3 hl196_3
                 replace p196 := eq_true p196
                 replace q196 := eq_true q196
                 have ea_ := Option.some.inj (hx194_3.symm.trans hx196_3)
                 injection ea_ with ea_ en_ ec_
                 subst ea_
                 subst ec_
                 clear en_
                 have p197 : 0 ≤ (x5_1 : Int) := of_decide_eq_true (by first | (with_reducible assumption) | assumption)
                 have q197 : x5_1 < (l0.length : Int) := of_decide_eq_true (by first | (with_reducible assumption) | assumption)
                 obtain ⟨ad197, A197_3, c197_3, e197, hx197_0, hx197_1, hx197_2, hx197_3, hl197_3, hi197_3⟩ := at_T53 HR0.out x5_1 p197 q197
                 obtain rfl : ad193 = ad197 := (by injection e197)
                 have HR197_3 := Aside0.mk hi197_3
                 have HC197_3 := Aside0.mk hl197_3
                 clear hi197_3 hl197_3
                 replace p197 := eq_true p197
                 replace q197 := eq_true q197
                 have ea_ := Option.some.inj (hx193_3.symm.trans hx197_3)
                 injection ea_ with ea_ en_ ec_
                 subst ea_
                 subst ec_
                 clear en_
                 have p198 : 0 ≤ (x5_1 : Int) := of_decide_eq_true (by first | (with_reducible assumption) | assumption)
                 have q198 : x5_1 < (l1.length : Int) := of_decide_eq_true (by first | (with_reducible assumption) | assumption)
                 obtain ⟨ad198, A198_3, c198_3, e198, hx198_0, hx198_1, hx198_2, hx198_3, hl198_3, hi198_3⟩ := at_T53 HR1.out x5_1 p198 q198
                 obtain rfl : ad194 = ad198 := (by injection e198)
                 have HR198_3 := Aside0.mk hi198_3
                 have HC198_3 := Aside0.mk hl198_3
                 clear hi198_3 hl198_3
                 replace p198 := eq_true p198
                 replace q198 := eq_true q198
                 have ea_ := Option.some.inj (hx194_3.symm.trans hx198_3)
                 injection ea_ with ea_ en_ ec_
                 subst ea_
                 subst ec_
                 clear en_
                 go_wp2
                 repeat (go_quiet (fail); try go_wp2)
                 go_ret
                 exact ⟨by first | rfl | (simp; done) | (simp [*]; done), by repeat (first | exact Drawn0.refl _ | apply Drawn0.step)⟩
               · rw [if_neg c9] at H
                 have c9b0 : (((rd_T53 l0 x5_1).f2) != ((rd_T53 l1 x5_1).f2)) = false := by simpa using c9
                 (try (have c9b1 : decide (((rd_T53 l0 x5_1).f2) = ((rd_T53 l1 x5_1).f2)) = true := by simpa using c9))
                 (try (have c9b2 : (((rd_T53 l0 x5_1).f2) == ((rd_T53 l1 x5_1).f2)) = true := by simpa using c9))
                 clear c9
                 by_cases c10 : (strOfNums ((rd_T53 l0 x5_1).f3)).toList = (strOfNums ((rd_T53 l1 x5_1).f3)).toList
                 · rw [if_pos c10] at H
                   have c10b0 : ((strOfNums ((rd_T53 l0 x5_1).f3)).toList == (strOfNums ((rd_T53 l1 x5_1).f3)).toList) = true := beq_iff_eq.mpr c10
                   have c10b1 : ((strOfNums ((rd_T53 l0 x5_1).f3)).toList != (strOfNums ((rd_T53 l1 x5_1).f3)).toList) = false := bne_eq_false_iff_eq.mpr c10
                   clear c10
                   have H' := Aside0.mk H
                   clear H
                   have p193 : 0 ≤ (x5_1 : Int) := of_decide_eq_true (by first | (with_reducible assumption) | assumption)
                   have q193 : x5_1 < (l0.length : Int) := of_decide_eq_true (by first | (with_reducible assumption) | assumption)
                   obtain ⟨ad193, A193_3, c193_3, e193, hx193_0, hx193_1, hx193_2, hx193_3, hl193_3, hi193_3⟩ := at_T53 HR0.out x5_1 p193 q193
                   cases e193
                   have HR193_3 := Aside0.mk hi193_3
                   have HC193_3 := Aside0.mk hl193_3
                   clear hi193_3 hl193_3
                   replace p193 := eq_true p193
                   replace q193 := eq_true q193
                   have p194 : 0 ≤ (x5_1 : Int) := of_decide_eq_true (by first | (with_reducible assumption) | assumption)
                   have q194 : x5_1 < (l1.length : Int) := of_decide_eq_true (by first | (with_reducible assumption) | assumption)
                   obtain ⟨ad194, A194_3, c194_3, e194, hx194_0, hx194_1, hx194_2, hx194_3, hl194_3, hi194_3⟩ := at_T53 HR1.out x5_1 p194 q194
                   cases e194
                   have HR194_3 := Aside0.mk hi194_3
                   have HC194_3 := Aside0.mk hl194_3
                   clear hi194_3 hl194_3
                   replace p194 := eq_true p194
                   replace q194 := eq_true q194
                   have p195 : 0 ≤ (x5_1 : Int) := of_decide_eq_true (by first | (with_reducible assumption) | assumption)
                   have q195 : x5_1 < (l0.length : Int) := of_decide_eq_true (by first | (with_reducible assumption) | assumption)
                   obtain ⟨ad195, A195_3, c195_3, e195, hx195_0, hx195_1, hx195_2, hx195_3, hl195_3, hi195_3⟩ := at_T53 HR0.out x5_1 p195 q195
                   obtain rfl : ad193 = ad195 := (by injection e195)
                   have HR195_3 := Aside0.mk hi195_3
                   have HC195_3 := Aside0.mk hl195_3
                   clear hi195_3 hl195_3
                   replace p195 := eq_true p195
                   replace q195 := eq_true q195
                   have ea_ := Option.some.inj (hx193_3.symm.trans hx195_3)
                   injection ea_ with ea_ en_ ec_
                   subst ea_
                   subst ec_
                   clear en_
                   have p196 : 0 ≤ (x5_1 : Int) := of_decide_eq_true (by first | (with_reducible assumption) | assumption)
                   have q196 : x5_1 < (l1.length : Int) := of_decide_eq_true (by first | (with_reducible assumption) | assumption)
                   obtain ⟨ad196, A196_3, c196_3, e196, hx196_0, hx196_1, hx196_2, hx196_3, hl196_3, hi196_3⟩ := at_T53 HR1.out x5_1 p196 q196
                   obtain rfl : ad194 = ad196 := (by injection e196)
                   have HR196_3 := Aside0.mk hi196_3
                   have HC196_3 := Aside0.mk hl196_3
                   clear hi196_3 hl196_3
                   replace p196 := eq_true p196
                   replace q196 := eq_true q196
                   have ea_ := Option.some.inj (hx194_3.symm.trans hx196_3)
                   injection ea_ with ea_ en_ ec_
                   subst ea_
                   subst ec_
                   clear en_
                   have p197 : 0 ≤ (x5_1 : Int) := of_decide_eq_true (by first | (with_reducible assumption) | assumption)
                   have q197 : x5_1 < (l0.length : Int) := of_decide_eq_true (by first | (with_reducible assumption) | assumption)
                   obtain ⟨ad197, A197_3, c197_3, e197, hx197_0, hx197_1, hx197_2, hx197_3, hl197_3, hi197_3⟩ := at_T53 HR0.out x5_1 p197 q197
                   obtain rfl : ad193 = ad197 := (by injection e197)
                   have HR197_3 := Aside0.mk hi197_3
                   have HC197_3 := Aside0.mk hl197_3
                   clear hi197_3 hl197_3
                   replace p197 := eq_true p197
                   replace q197 := eq_true q197
                   have ea_ := Option.some.inj (hx193_3.symm.trans hx197_3)
                   injection ea_ with ea_ en_ ec_
                   subst ea_
                   subst ec_
                   clear en_
                   have p198 : 0 ≤ (x5_1 : Int) := of_decide_eq_true (by first | (with_reducible assumption) | assumption)
                   have q198 : x5_1 < (l1.length : Int) := of_decide_eq_true (by first | (with_reducible assumption) | assumption)
                   obtain ⟨ad198, A198_3, c198_3, e198, hx198_0, hx198_1, hx198_2, hx198_3, hl198_3, hi198_3⟩ := at_T53 HR1.out x5_1 p198 q198
                   obtain rfl : ad194 = ad198 := (by injection e198)
                   have HR198_3 := Aside0.mk hi198_3
                   have HC198_3 := Aside0.mk hl198_3
                   clear hi198_3 hl198_3
                   replace p198 := eq_true p198
                   replace q198 := eq_true q198
                   have ea_ := Option.some.inj (hx194_3.symm.trans hx198_3)
                   injection ea_ with ea_ en_ ec_
                   subst ea_
                   subst ec_
                   clear en_
                   have p199 : 0 ≤ (x5_1 : Int) := of_decide_eq_true (by first | (with_reducible assumption) | assumption)
                   have q199 : x5_1 < (l0.length : Int) := of_decide_eq_true (by first | (with_reducible assumption) | assumption)
                   obtain ⟨ad199, A199_3, c199_3, e199, hx199_0, hx199_1, hx199_2, hx199_3, hl199_3, hi199_3⟩ := at_T53 HR0.out x5_1 p199 q199
                   obtain rfl : ad193 = ad199 := (by injection e199)
                   have HR199_3 := Aside0.mk hi199_3
                   have HC199_3 := Aside0.mk hl199_3
                   clear hi199_3 hl199_3
                   replace p199 := eq_true p199
                   replace q199 := eq_true q199
                   have ea_ := Option.some.inj (hx193_3.symm.trans hx199_3)
                   injection ea_ with ea_ en_ ec_
                   subst ea_
                   subst ec_
                   clear en_
                   have hcv11 := fun m => Kd.C_string (P := Tryz.prog) (w := w.drewN m) (A := A193_3) (c := c193_3) Tryz.underlying46 Tryz.underlying5 Tryz.underlying9 (Kd.C_below HR199_3.out (Drawn0.below ⟨⟨_, rfl⟩⟩))
                   have hcv11b := fun m n => Kd.C_string (P := Tryz.prog) (w := (w.drewN m).drewN n) (A := A193_3) (c := c193_3) Tryz.underlying46 Tryz.underlying5 Tryz.underlying9 (Kd.C_below (Kd.C_below HR199_3.out (Drawn0.below ⟨⟨m, rfl⟩⟩)) (Drawn0.below (w := w.drewN m) ⟨⟨n, rfl⟩⟩))
                   have p200 : 0 ≤ (x5_1 : Int) := of_decide_eq_true (by first | (with_reducible assumption) | assumption)
                   have q200 : x5_1 < (l1.length : Int) := of_decide_eq_true (by first | (with_reducible assumption) | assumption)
                   obtain ⟨ad200, A200_3, c200_3, e200, hx200_0, hx200_1, hx200_2, hx200_3, hl200_3, hi200_3⟩ := at_T53 HR1.out x5_1 p200 q200
                   obtain rfl : ad194 = ad200 := (by injection e200)
                   have HR200_3 := Aside0.mk hi200_3
                   have HC200_3 := Aside0.mk hl200_3
                   clear hi200_3 hl200_3
                   replace p200 := eq_true p200
                   replace q200 := eq_true q200
                   have ea_ := Option.some.inj (hx194_3.symm.trans hx200_3)
                   injection ea_ with ea_ en_ ec_
                   subst ea_
                   subst ec_
                   clear en_
                   have hcv12 := fun m => Kd.C_string (P := Tryz.prog) (w := w.drewN m) (A := A194_3) (c := c194_3) Tryz.underlying46 Tryz.underlying5 Tryz.underlying9 (Kd.C_below HR200_3.out (Drawn0.below ⟨⟨_, rfl⟩⟩))
                   have hcv12b := fun m n => Kd.C_string (P := Tryz.prog) (w := (w.drewN m).drewN n) (A := A194_3) (c := c194_3) Tryz.underlying46 Tryz.underlying5 Tryz.underlying9 (Kd.C_below (Kd.C_below HR200_3.out (Drawn0.below ⟨⟨m, rfl⟩⟩)) (Drawn0.below (w := w.drewN m) ⟨⟨n, rfl⟩⟩))
                   go_wp2
                   repeat (go_quiet (fail); try go_wp2)
                   go_roundg k1
                   case measure => have := HK1.out; omega
                   case rel => exact ⟨(wrap64 (x5_1 + 1)), (by first | rfl | (simp; done) | (simp [*]; done)), H', ⟨by have := HK1.out; omega⟩, by repeat (first | exact Drawn0.refl _ | apply Drawn0.step)⟩
                 · rw [if_neg c10] at H
                   have c10b0 : ((strOfNums ((rd_T53 l0 x5_1).f3)).toList == (strOfNums ((rd_T53 l1 x5_1).f3)).toList) = false := beq_eq_false_iff_ne.mpr c10
                   have c10b1 : ((strOfNums ((rd_T53 l0 x5_1).f3)).toList != (strOfNums ((rd_T53 l1 x5_1).f3)).toList) = true := bne_iff_ne.mpr c10
                   obtain rfl := Option.some.inj H
                   have p193 : 0 ≤ (x5_1 : Int) := of_decide_eq_true (by first | (with_reducible assumption) | assumption)
                   have q193 : x5_1 < (l0.length : Int) := of_decide_eq_true (by first | (with_reducible assumption) | assumption)
                   obtain ⟨ad193, A193_3, c193_3, e193, hx193_0, hx193_1, hx193_2, hx193_3, hl193_3, hi193_3⟩ := at_T53 HR0.out x5_1 p193 q193
                   cases e193
                   have HR193_3 := Aside0.mk hi193_3
                   have HC193_3 := Aside0.mk hl193_3
                   clear hi193_3 hl193_3
                   replace p193 := eq_true p193
                   replace q193 := eq_true q193
                   have p194 : 0 ≤ (x5_1 : Int) := of_decide_eq_true (by first | (with_reducible assumption) | assumption)
                   have q194 : x5_1 < (l1.length : Int) := of_decide_eq_true (by first | (with_reducible assumption) | assumption)
                   obtain ⟨ad194, A194_3, c194_3, e194, hx194_0, hx194_1, hx194_2, hx194_3, hl194_3, hi194_3⟩ := at_T53 HR1.out x5_1 p194 q194
                   cases e194
                   have HR194_3 := Aside0.mk hi194_3
                   have HC194_3 := Aside0.mk hl194_3
                   clear hi194_3 hl194_3
                   replace p194 := eq_true p194
                   replace q194 := eq_true q194
                   have p195 : 0 ≤ (x5_1 : Int) := of_decide_eq_true (by first | (with_reducible assumption) | assumption)
                   have q195 : x5_1 < (l0.length : Int) := of_decide_eq_true (by first | (with_reducible assumption) | assumption)
                   obtain ⟨ad195, A195_3, c195_3, e195, hx195_0, hx195_1, hx195_2, hx195_3, hl195_3, hi195_3⟩ := at_T53 HR0.out x5_1 p195 q195
                   obtain rfl : ad193 = ad195 := (by injection e195)
                   have HR195_3 := Aside0.mk hi195_3
                   have HC195_3 := Aside0.mk hl195_3
                   clear hi195_3 hl195_3
                   replace p195 := eq_true p195
                   replace q195 := eq_true q195
                   have ea_ := Option.some.inj (hx193_3.symm.trans hx195_3)
                   injection ea_ with ea_ en_ ec_
                   subst ea_
                   subst ec_
                   clear en_
                   have p196 : 0 ≤ (x5_1 : Int) := of_decide_eq_true (by first | (with_reducible assumption) | assumption)
                   have q196 : x5_1 < (l1.length : Int) := of_decide_eq_true (by first | (with_reducible assumption) | assumption)
                   obtain ⟨ad196, A196_3, c196_3, e196, hx196_0, hx196_1, hx196_2, hx196_3, hl196_3, hi196_3⟩ := at_T53 HR1.out x5_1 p196 q196
                   obtain rfl : ad194 = ad196 := (by injection e196)
                   have HR196_3 := Aside0.mk hi196_3
                   have HC196_3 := Aside0.mk hl196_3
                   clear hi196_3 hl196_3
                   replace p196 := eq_true p196
                   replace q196 := eq_true q196
                   have ea_ := Option.some.inj (hx194_3.symm.trans hx196_3)
                   injection ea_ with ea_ en_ ec_
                   subst ea_
                   subst ec_
                   clear en_
                   have p197 : 0 ≤ (x5_1 : Int) := of_decide_eq_true (by first | (with_reducible assumption) | assumption)
                   have q197 : x5_1 < (l0.length : Int) := of_decide_eq_true (by first | (with_reducible assumption) | assumption)
                   obtain ⟨ad197, A197_3, c197_3, e197, hx197_0, hx197_1, hx197_2, hx197_3, hl197_3, hi197_3⟩ := at_T53 HR0.out x5_1 p197 q197
                   obtain rfl : ad193 = ad197 := (by injection e197)
                   have HR197_3 := Aside0.mk hi197_3
                   have HC197_3 := Aside0.mk hl197_3
                   clear hi197_3 hl197_3
                   replace p197 := eq_true p197
                   replace q197 := eq_true q197
                   have ea_ := Option.some.inj (hx193_3.symm.trans hx197_3)
                   injection ea_ with ea_ en_ ec_
                   subst ea_
                   subst ec_
                   clear en_
                   have p198 : 0 ≤ (x5_1 : Int) := of_decide_eq_true (by first | (with_reducible assumption) | assumption)
                   have q198 : x5_1 < (l1.length : Int) := of_decide_eq_true (by first | (with_reducible assumption) | assumption)
                   obtain ⟨ad198, A198_3, c198_3, e198, hx198_0, hx198_1, hx198_2, hx198_3, hl198_3, hi198_3⟩ := at_T53 HR1.out x5_1 p198 q198
                   obtain rfl : ad194 = ad198 := (by injection e198)
                   have HR198_3 := Aside0.mk hi198_3
                   have HC198_3 := Aside0.mk hl198_3
                   clear hi198_3 hl198_3
                   replace p198 := eq_true p198
                   replace q198 := eq_true q198
                   have ea_ := Option.some.inj (hx194_3.symm.trans hx198_3)
                   injection ea_ with ea_ en_ ec_
                   subst ea_
                   subst ec_
                   clear en_
                   have p199 : 0 ≤ (x5_1 : Int) := of_decide_eq_true (by first | (with_reducible assumption) | assumption)
                   have q199 : x5_1 < (l0.length : Int) := of_decide_eq_true (by first | (with_reducible assumption) | assumption)
                   obtain ⟨ad199, A199_3, c199_3, e199, hx199_0, hx199_1, hx199_2, hx199_3, hl199_3, hi199_3⟩ := at_T53 HR0.out x5_1 p199 q199
                   obtain rfl : ad193 = ad199 := (by injection e199)
                   have HR199_3 := Aside0.mk hi199_3
                   have HC199_3 := Aside0.mk hl199_3
                   clear hi199_3 hl199_3
                   replace p199 := eq_true p199
                   replace q199 := eq_true q199
                   have ea_ := Option.some.inj (hx193_3.symm.trans hx199_3)
                   injection ea_ with ea_ en_ ec_
                   subst ea_
                   subst ec_
                   clear en_
                   have hcv13 := fun m => Kd.C_string (P := Tryz.prog) (w := w.drewN m) (A := A193_3) (c := c193_3) Tryz.underlying46 Tryz.underlying5 Tryz.underlying9 (Kd.C_below HR199_3.out (Drawn0.below ⟨⟨_, rfl⟩⟩))
                   have hcv13b := fun m n => Kd.C_string (P := Tryz.prog) (w := (w.drewN m).drewN n) (A := A193_3) (c := c193_3) Tryz.underlying46 Tryz.underlying5 Tryz.underlying9 (Kd.C_below (Kd.C_below HR199_3.out (Drawn0.below ⟨⟨m, rfl⟩⟩)) (Drawn0.below (w := w.drewN m) ⟨⟨n, rfl⟩⟩))
                   have p200 : 0 ≤ (x5_1 : Int) := of_decide_eq_true (by first | (with_reducible assumption) | assumption)
                   have q200 : x5_1 < (l1.length : Int) := of_decide_eq_true (by first | (with_reducible assumption) | assumption)
                   obtain ⟨ad200, A200_3, c200_3, e200, hx200_0, hx200_1, hx200_2, hx200_3, hl200_3, hi200_3⟩ := at_T53 HR1.out x5_1 p200 q200
                   obtain rfl : ad194 = ad200 := (by injection e200)
                   have HR200_3 := Aside0.mk hi200_3
                   have HC200_3 := Aside0.mk hl200_3
                   clear hi200_3 hl200_3
                   replace p200 := eq_true p200
                   replace q200 := eq_true q200
                   have ea_ := Option.some.inj (hx194_3.symm.trans hx200_3)
                   injection ea_ with ea_ en_ ec_
                   subst ea_
                   subst ec_
                   clear en_
                   have hcv14 := fun m => Kd.C_string (P := Tryz.prog) (w := w.drewN m) (A := A194_3) (c := c194_3) Tryz.underlying46 Tryz.underlying5 Tryz.underlying9 (Kd.C_below HR200_3.out (Drawn0.below ⟨⟨_, rfl⟩⟩))
                   have hcv14b := fun m n => Kd.C_string (P := Tryz.prog) (w := (w.drewN m).drewN n) (A := A194_3) (c := c194_3) Tryz.underlying46 Tryz.underlying5 Tryz.underlying9 (Kd.C_below (Kd.C_below HR200_3.out (Drawn0.below ⟨⟨m, rfl⟩⟩)) (Drawn0.below (w := w.drewN m) ⟨⟨n, rfl⟩⟩))
                   go_wp2
                   repeat (go_quiet (fail); try go_wp2)
                   go_ret
                   exact ⟨by first | rfl | (simp; done) | (simp [*]; done), by repeat (first | exact Drawn0.refl _ | apply Drawn0.step)⟩
             · rw [if_neg c8] at H
               have c8b0 : (((rd_T53 l0 x5_1).f1).toList == ((rd_T53 l1 x5_1).f1).toList) = false := beq_eq_false_iff_ne.mpr c8
               have c8b1 : (((rd_T53 l0 x5_1).f1).toList != ((rd_T53 l1 x5_1).f1).toList) = true := bne_iff_ne.mpr c8
               obtain rfl := Option.some.inj H
               have p193 : 0 ≤ (x5_1 : Int) := of_decide_eq_true (by first | (with_reducible assumption) | assumption)
               have q193 : x5_1 < (l0.length : Int) := of_decide_eq_true (by first | (with_reducible assumption) | assumption)
               obtain ⟨ad193, A193_3, c193_3, e193, hx193_0, hx193_1, hx193_2, hx193_3, hl193_3, hi193_3⟩ := at_T53 HR0.out x5_1 p193 q193
               cases e193
               have HR193_3 := Aside0.mk hi193_3
               have HC193_3 := Aside0.mk hl193_3
               clear hi193_3 hl193_3
               replace p193 := eq_true p193
               replace q193 := eq_true q193
               have p194 : 0 ≤ (x5_1 : Int) := of_decide_eq_true (by first | (with_reducible assumption) | assumption)
               have q194 : x5_1 < (l1.length : Int) := of_decide_eq_true (by first | (with_reducible assumption) | assumption)
               obtain ⟨ad194, A194_3, c194_3, e194, hx194_0, hx194_1, hx194_2, hx194_3, hl194_3, hi194_3⟩ := at_T53 HR1.out x5_1 p194 q194
               cases e194
               have HR194_3 := Aside0.mk hi194_3
               have HC194_3 := Aside0.mk hl194_3
               clear hi194_3 hl194_3
               replace p194 := eq_true p194
               replace q194 := eq_true q194
               have p195 : 0 ≤ (x5_1 : Int) := of_decide_eq_true (by first | (with_reducible assumption) | assumption)
               have q195 : x5_1 < (l0.length : Int) := of_decide_eq_true (by first | (with_reducible assumption) | assumption)
               obtain ⟨ad195, A195_3, c195_3, e195, hx195_0, hx195_1, hx195_2, hx195_3, hl195_3, hi195_3⟩ := at_T53 HR0.out x5_1 p195 q195
               obtain rfl : ad193 = ad195 := (by injection e195)
               have HR195_3 := Aside0.mk hi195_3
               have HC195_3 := Aside0.mk hl195_3
               clear hi195_3 hl195_3
               replace p195 := eq_true p195
               replace q195 := eq_true q195
               have ea_ := Option.some.inj (hx193_3.symm.trans hx195_3)
               injection ea_ with ea_ en_ ec_
               subst ea_
               subst ec_
               clear en_
               have p196 : 0 ≤ (x5_1 : Int) := of_decide_eq_true (by first | (with_reducible assumption) | assumption)
               have q196 : x5_1 < (l1.length : Int) := of_decide_eq_true (by first | (with_reducible assumption) | assumption)
               obtain ⟨ad196, A196_3, c196_3, e196, hx196_0, hx196_1, hx196_2, hx196_3, hl196_3, hi196_3⟩ := at_T53 HR1.out x5_1 p196 q196
               obtain rfl : ad194 = ad196 := (by injection e196)
               have HR196_3 := Aside0.mk hi196_3
               have HC196_3 := Aside0.mk hl196_3
               clear hi196_3 hl196_3
               replace p196 := eq_true p196
               replace q196 := eq_true q196
               have ea_ := Option.some.inj (hx194_3.symm.trans hx196_3)
               injection ea_ with ea_ en_ ec_
               subst ea_
               subst ec_
               clear en_
               go_wp2
               repeat (go_quiet (fail); try go_wp2)
               go_ret
               exact ⟨by first | rfl | (simp; done) | (simp [*]; done), by repeat (first | exact Drawn0.refl _ | apply Drawn0.step)⟩
           · rw [if_neg c7] at H
             have c7b0 : (((rd_T53 l0 x5_1).f0) == ((rd_T53 l1 x5_1).f0)) = false := beq_eq_false_iff_ne.mpr c7
             have c7b1 : (((rd_T53 l0 x5_1).f0) != ((rd_T53 l1 x5_1).f0)) = true := bne_iff_ne.mpr c7
             obtain rfl := Option.some.inj H
             have p193 : 0 ≤ (x5_1 : Int) := of_decide_eq_true (by first | (with_reducible assumption) | assumption)
             have q193 : x5_1 < (l0.length : Int) := of_decide_eq_true (by first | (with_reducible assumption) | assumption)
             obtain ⟨ad193, A193_3, c193_3, e193, hx193_0, hx193_1, hx193_2, hx193_3, hl193_3, hi193_3⟩ := at_T53 HR0.out x5_1 p193 q193
             cases e193
             have HR193_3 := Aside0.mk hi193_3
             have HC193_3 := Aside0.mk hl193_3
             clear hi193_3 hl193_3
             replace p193 := eq_true p193
             replace q193 := eq_true q193
             have p194 : 0 ≤ (x5_1 : Int) := of_decide_eq_true (by first | (with_reducible assumption) | assumption)
             have q194 : x5_1 < (l1.length : Int) := of_decide_eq_true (by first | (with_reducible assumption) | assumption)
             obtain ⟨ad194, A194_3, c194_3, e194, hx194_0, hx194_1, hx194_2, hx194_3, hl194_3, hi194_3⟩ := at_T53 HR1.out x5_1 p194 q194
             cases e194
             have HR194_3 := Aside0.mk hi194_3
             have HC194_3 := Aside0.mk hl194_3
             clear hi194_3 hl194_3
             replace p194 := eq_true p194
             replace q194 := eq_true q194
             go_wp2
             repeat (go_quiet (fail); try go_wp2)
             go_ret
             exact ⟨by first | rfl | (simp; done) | (simp [*]; done), by repeat (first | exact Drawn0.refl _ | apply Drawn0.step)⟩
         · rw [if_neg c6] at H
           exact absurd H (by simp)
       · rw [if_neg c5] at H
         exact absurd H (by simp)
     · rw [if_neg c4] at H
       have c4b0 : decide (x5_1 < (l0.length : Int)) = false := decide_eq_false c4
       clear c4
       obtain rfl := Option.some.inj H
       go_wp2
       repeat (go_quiet (fail); try go_wp2)
       go_ret
       exact ⟨by first | rfl | (simp; done) | (simp [*]; done), by repeat (first | exact Drawn0.refl _ | apply Drawn0.step)⟩
 · rw [if_neg c3] at H
   have c3b0 : ((l0.length : Int) == (l1.length : Int)) = false := beq_eq_false_iff_ne.mpr c3
   have c3b1 : ((l0.length : Int) != (l1.length : Int)) = true := bne_iff_ne.mpr c3
   have c3b2 : (l0.length == l1.length) = false := by first | simpa using c3 | (simp at c3 ⊢; omega)
   obtain rfl := Option.some.inj H
   go_enter Tryz.func22, Tryz.ntmps22
   go_wp2
   repeat (go_quiet (fail); try go_wp2)
   go_ret
   exact ⟨by first | rfl | (simp; done) | (simp [*]; done), by repeat (first | exact Drawn0.refl _ | apply Drawn0.step)⟩
attribute [local go_sem] max2_int min2_int max_two min_two max_three min_three max_four min_four   -- for this text's walks alone
set_option linter.unusedVariables false
set_option linter.unusedSimpArgs false
def gessoref14_Light.l0 : Nat → List (S53) → Int → Int → Int → Option (Bool)
 | 0, _, _, _, _ => none
 | k + 1, x0, x1, x5, x6 => if x6 < (x0.length : Int) then (if 0 ≤ x6 then (gessoref14_Light.l0 k x0 x1 (wrap64 ((wrap64 (x5 + (mn (((rd_T53 x0 x6).f3).length : Int) (wrap64 (x1 + 1))))) + (mn (((rd_T53 x0 x6).f1).size : Int) (wrap64 (x1 + 1))))) (wrap64 (x6 + 1))) else (none)) else (some (decide (x5 ≤ x1)))
def gessoref14_Light.f (k : Nat) (l0 : List (S53)) (a1 : Int) : Option (Bool) := if (l0.length : Int) > 70 then (some false) else (gessoref14_Light.l0 k l0 a1 0 0)
theorem gessoref14_Light.calls (k : Nat) (A0 : Option Addr) (c0 : Nat) (l0 : List (S53)) (a1 : Int) (r : Bool) (w : World) (hr0 : Kd.C k53 w A0 l0.length l0) (hc0 : l0.length ≤ c0) (h : gessoref14_Light.f k l0 a1 = some r) :
    Calls Tryz.prog 15 #[.slice A0 l0.length c0, .int .i64 a1] w fun e w' => e = .returned (.bool r) ∧ Below w.heap.size w w' := by
 have HR0 := Aside0.mk hr0
 have HC0 := Aside0.mk hc0
 clear hr0 hc0
 have HB := Aside0.mk (Below.refl w.heap.size w)
 have H : (if (l0.length : Int) > 70 then (some false) else (gessoref14_Light.l0 k l0 a1 0 0)) = some r := h
 clear h
 by_cases c3 : (l0.length : Int) > 70
 · rw [if_pos c3] at H
   have c3b0 : decide (70 < (l0.length : Int)) = true := decide_eq_true c3
   have c3b1 : decide (70 < l0.length) = true := decide_eq_true (by omega)
   clear c3
   obtain rfl := Option.some.inj H
   go_enter Tryz.func15, Tryz.ntmps15
   go_wp2
   go_ret
   exact ⟨by first | rfl | (simp [errW_none, errW_some] <;> rfl) | (simp [*, errW_none, errW_some] <;> rfl), by repeat (first | (with_reducible first | exact HB.out | apply below_alloc | apply pw_below_drewN | apply below_drew1) | exact HB.out)⟩
 · rw [if_neg c3] at H
   have c3b0 : decide (70 < (l0.length : Int)) = false := decide_eq_false c3
   have c3b1 : decide (70 < l0.length) = false := decide_eq_false (by omega)
   clear c3
   have H' := Aside0.mk H
   clear H
   go_enter Tryz.func15, Tryz.ntmps15
   go_wp2
   go_loopg [5, 6] k (fun kq v5 v6 w' => ∃ (x5_1 : Int) (x6_1 : Int), v5 = .int .i64 x5_1 ∧ v6 = .int .i64 x6_1 ∧ Aside0 (gessoref14_Light.l0 kq l0 a1 x5_1 x6_1 = some r) ∧ Aside0 (kq ≤ k) ∧ Aside0 (Below w.heap.size w w'))
   case atStart => exact ⟨(0), (0), (by first | rfl | (simp; done) | (simp [*]; done)), (by first | rfl | (simp; done) | (simp [*]; done)), H', ⟨Nat.le_refl _⟩, ⟨by repeat (first | (with_reducible first | exact HB.out | apply below_alloc | apply pw_below_drewN | apply below_drew1) | exact HB.out)⟩⟩
   case round =>
    clear H'
    try clear c1
    try clear p2
    try clear c3
    try clear c3b0
    try clear c3b1
    obtain ⟨x5_1, x6_1, rfl, rfl, HA, HK1, HB⟩ := hrel
    cases gk with
    | zero => exact absurd HA.out (by simp [gessoref14_Light.l0])
    | succ k1 =>
     have H := HA.out
     clear HA
     simp only [gessoref14_Light.l0] at H
     by_cases c4 : x6_1 < (l0.length : Int)
     · rw [if_pos c4] at H
       have c4b0 : decide (x6_1 < (l0.length : Int)) = true := decide_eq_true c4
       clear c4
       by_cases c5 : 0 ≤ x6_1
       · rw [if_pos c5] at H
         have c5b0 : decide (0 ≤ x6_1) = true := decide_eq_true c5
         clear c5
         obtain ⟨ji6, hji6⟩ : ∃ j_ : Int, (mn (((rd_T53 l0 x6_1).f3).length : Int) (wrap64 (a1 + 1))) = j_ := ⟨_, rfl⟩
         replace H : (gessoref14_Light.l0 k1 l0 a1 (wrap64 ((wrap64 (x5_1 + (ji6))) + (mn (((rd_T53 l0 x6_1).f1).size : Int) (wrap64 (a1 + 1))))) (wrap64 (x6_1 + 1))) = some r := by first | (rw [hji6] at H; exact H) | (simp only [hji6] at H ⊢; exact H)
         have hji6_ : (if (wrap64 (a1 + 1)) < (((rd_T53 l0 x6_1).f3).length : Int) then (wrap64 (a1 + 1)) else (((rd_T53 l0 x6_1).f3).length : Int)) = ji6 := hji6
         obtain ⟨ji7, hji7⟩ : ∃ j_ : Int, (mn (((rd_T53 l0 x6_1).f1).size : Int) (wrap64 (a1 + 1))) = j_ := ⟨_, rfl⟩
         replace H : (gessoref14_Light.l0 k1 l0 a1 (wrap64 ((wrap64 (x5_1 + (ji6))) + (ji7))) (wrap64 (x6_1 + 1))) = some r := by first | (rw [hji7] at H; exact H) | (simp only [hji7] at H ⊢; exact H)
         have hji7_ : (if (wrap64 (a1 + 1)) < (((rd_T53 l0 x6_1).f1).size : Int) then (wrap64 (a1 + 1)) else (((rd_T53 l0 x6_1).f1).size : Int)) = ji7 := hji7
         have H' := Aside0.mk H
         clear H
         have p101 : 0 ≤ (x6_1 : Int) := of_decide_eq_true (by first | (with_reducible assumption) | assumption)
         have q101 : x6_1 < (l0.length : Int) := of_decide_eq_true (by first | (with_reducible assumption) | assumption)
         obtain ⟨ad101, A101_3, c101_3, e101, hx101_0, hx101_1, hx101_2, hx101_3, hl101_3, hi101_3⟩ := at_T53 HR0.out x6_1 p101 q101
         cases e101
         replace hx101_0 := (HB.out.cell (World.block_lt_of_cell? w _ hx101_0)).trans hx101_0
         replace hx101_1 := (HB.out.cell (World.block_lt_of_cell? w _ hx101_1)).trans hx101_1
         replace hx101_2 := (HB.out.cell (World.block_lt_of_cell? w _ hx101_2)).trans hx101_2
         replace hx101_3 := (HB.out.cell (World.block_lt_of_cell? w _ hx101_3)).trans hx101_3
         have HR101_3 := Aside0.mk hi101_3
         have HC101_3 := Aside0.mk hl101_3
         clear hi101_3 hl101_3
         replace p101 := eq_true p101
         replace q101 := eq_true q101
         have p102 : 0 ≤ (x6_1 : Int) := of_decide_eq_true (by first | (with_reducible assumption) | assumption)
         have q102 : x6_1 < (l0.length : Int) := of_decide_eq_true (by first | (with_reducible assumption) | assumption)
         obtain ⟨ad102, A102_3, c102_3, e102, hx102_0, hx102_1, hx102_2, hx102_3, hl102_3, hi102_3⟩ := at_T53 HR0.out x6_1 p102 q102
         obtain rfl : ad101 = ad102 := (by injection e102)
         replace hx102_0 := (HB.out.cell (World.block_lt_of_cell? w _ hx102_0)).trans hx102_0
         replace hx102_1 := (HB.out.cell (World.block_lt_of_cell? w _ hx102_1)).trans hx102_1
         replace hx102_2 := (HB.out.cell (World.block_lt_of_cell? w _ hx102_2)).trans hx102_2
         replace hx102_3 := (HB.out.cell (World.block_lt_of_cell? w _ hx102_3)).trans hx102_3
         have HR102_3 := Aside0.mk hi102_3
         have HC102_3 := Aside0.mk hl102_3
         clear hi102_3 hl102_3
         replace p102 := eq_true p102
         replace q102 := eq_true q102
         have ea_ := Option.some.inj (hx101_3.symm.trans hx102_3)
         injection ea_ with ea_ en_ ec_
         subst ea_
         subst ec_
         clear en_
         go_wp2
         go_roundg k1
         case measure => have := HK1.out; omega
         case rel => exact ⟨(wrap64 ((wrap64 (x5_1 + (ji6))) + (ji7))), (wrap64 (x6_1 + 1)), (by first | rfl | (simp; done) | (simp only [← hji6, ← hji7] <;> (first | rfl | simp)) | (simp [*]; done)), (by first | rfl | (simp; done) | (simp [*]; done)), H', ⟨by have := HK1.out; omega⟩, ⟨by repeat (first | (with_reducible first | exact HB.out | apply below_alloc | apply pw_below_drewN | apply below_drew1) | exact HB.out)⟩⟩
       · rw [if_neg c5] at H
         exact absurd H (by simp)
     · rw [if_neg c4] at H
       have c4b0 : decide (x6_1 < (l0.length : Int)) = false := decide_eq_false c4
       clear c4
       obtain rfl := Option.some.inj H
       go_wp2
       go_ret
       exact ⟨by first | rfl | (simp [errW_none, errW_some] <;> rfl) | (simp [*, errW_none, errW_some] <;> rfl), by repeat (first | (with_reducible first | exact HB.out | apply below_alloc | apply pw_below_drewN | apply below_drew1) | exact HB.out)⟩
attribute [local go_sem] max2_int min2_int max_two min_two max_three min_three max_four min_four   -- for this text's walks alone
set_option linter.unusedVariables false
set_option linter.unusedSimpArgs false
def slices_Reverse_string_string.l0 : Nat → List ByteArray → Int → Int → Option (List ByteArray)
 | 0, _, _, _ => none
 | k + 1, x0, x2, x3 => if x2 < x3 then (if 0 ≤ x3 then (if x3 < (x0.length : Int) then (if 0 ≤ x2 then (if x2 < (x0.length : Int) then (slices_Reverse_string_string.l0 k ((x0.set (x2 : Int).toNat (rdOf ByteArray.empty x0 x3)).set (x3 : Int).toNat (rdOf ByteArray.empty x0 x2)) (wrap64 (x2 + 1)) (wrap64 (x3 - 1))) else (none)) else (none)) else (none)) else (none)) else (some x0)
def slices_Reverse_string_string.f (k : Nat) (l0 : List ByteArray) : Option (List ByteArray) := slices_Reverse_string_string.l0 k l0 0 (wrap64 ((l0.length : Int) - 1))
def slices_Reverse_string_string.T3 : Bool × List (List Nat × List Nat) := (true, [([], []), ([], []), ([], []), ([], []), ([], []), ([], []), ([4, 5], [4, 5]), ([6], [6]), ([], []), ([], []), ([8, 9], [8, 9]), ([10], [10]), ([0, 1, 0, 1, 4, 5, 6, 7, 11], [0, 1]), ([12, 7, 0, 1, 4, 5, 6, 7, 11], [7, 12]), ([2, 3, 0, 1, 2, 3, 4, 5, 6, 7, 8, 9, 10, 11, 12, 13], [2, 3]), ([14, 11, 13, 0, 1, 2, 3, 4, 5, 6, 7, 8, 9, 10, 11, 12, 13], [11, 14])])
def slices_Reverse_string_string.B3 : List Nat := [0, 0, 0, 0, 0, 0, 48, 112, 0, 0, 768, 1792, 4083, 8179, 16383, 32767]
theorem slices_Reverse_string_string.tab3 : rtab .any (opsOf Tryz.f106 3) = slices_Reverse_string_string.T3 := by kernel_rfl
theorem slices_Reverse_string_string.bits3 : waitsOk slices_Reverse_string_string.T3.2 slices_Reverse_string_string.B3 = true := by kernel_rfl
theorem slices_Reverse_string_string.calls (k : Nat) (P0_ : Nat → Prop) (u9000_ : Value) (l0 : List ByteArray) (r : List ByteArray) (w0 w : World) (hB : Below w0.heap.size w0 w) (ho0 : Kd.R Kd.string 9 w w0.heap.size P0_ u9000_ l0) (h : slices_Reverse_string_string.f k l0 = some r) :
    Calls Tryz.prog 106 #[u9000_] w fun e w' => e = .returned (.tuple #[]) ∧ Kd.R Kd.string 9 w' w0.heap.size (fun k_ => (P0_ k_ ∨ w.heap.size ≤ k_)) u9000_ r ∧ Below w0.heap.size w0 w' ∧ Kept w w' (fun k_ => P0_ k_) := by
 have HO0 := Aside0.mk (show Kd.R Kd.string 9 w w0.heap.size (fun k_ => (P0_ k_ ∨ w.heap.size ≤ k_)) u9000_ l0 from Kd.R_mono ho0 (fun k_ hk => (.inl hk)))
 have HK := Aside0.mk (Kept.refl w (fun k_ => P0_ k_))
 have HW0 := Aside0.mk hB.size
 have HB := Aside0.mk hB
 clear hB
 have H : (slices_Reverse_string_string.l0 k l0 0 (wrap64 ((l0.length : Int) - 1))) = some r := h
 clear h
 have H' := Aside0.mk H
 clear H
 obtain ⟨Ao2, co2, eo2⟩ := Kd.R_slice HO0.out
 subst eo2
 go_enter Tryz.func106, Tryz.ntmps106
 go_wp2
 go_loopg [2, 3] k (fun kq v2 v3 w' => ∃ (x0_1 : List ByteArray) (x2_1 : Int) (x3_1 : Int), v2 = .int .i64 x2_1 ∧ v3 = .int .i64 x3_1 ∧ Aside0 (slices_Reverse_string_string.l0 kq x0_1 x2_1 x3_1 = some r) ∧ Aside0 (kq ≤ k) ∧ Aside0 (Kd.R Kd.string 9 w' w0.heap.size (fun k_ => (P0_ k_ ∨ w.heap.size ≤ k_)) (.slice Ao2 l0.length co2) x0_1) ∧ Aside0 (Kept w w' (fun k_ => P0_ k_)) ∧ Aside0 (Below w0.heap.size w0 w'))
 case atStart => exact ⟨(l0), (0), (wrap64 ((l0.length : Int) - 1)), (by first | rfl | (simp; done) | (simp [*]; done)), (by first | rfl | (simp; done) | (simp [*]; done)), H', ⟨Nat.le_refl _⟩, ⟨by (with_reducible repeat (first | apply Kd.R_alloc | apply Kd.R_drewN | apply Kd.R_drew)); exact HO0.out⟩, ⟨by repeat (first | (with_reducible first | exact HK.out | apply Kept.alloc | apply Kept.drewN | apply Kept.drew) | exact HK.out)⟩, ⟨by repeat (first | (with_reducible first | exact HB.out | apply below_alloc | apply pw_below_drewN | apply below_drew1) | exact HB.out)⟩⟩
 case round =>
  clear H'
  try clear c1
  try clear p2
  obtain ⟨x0_1, x2_1, x3_1, rfl, rfl, HA, HK1, HO_0, HK, HB⟩ := hrel
  have hl0_1 := (Kd.R_reads' HO_0.out).1
  rw [hl0_1] at HO_0
  (try simp only [hl0_1])
  cases gk with
  | zero => exact absurd HA.out (by simp [slices_Reverse_string_string.l0])
  | succ k1 =>
   have H := HA.out
   clear HA
   simp only [slices_Reverse_string_string.l0] at H
   by_cases c3 : x2_1 < x3_1
   · rw [if_pos c3] at H
     have c3b0 : decide (x2_1 < x3_1) = true := decide_eq_true c3
     clear c3
     by_cases c4 : 0 ≤ x3_1
     · rw [if_pos c4] at H
       have c4b0 : decide (0 ≤ x3_1) = true := decide_eq_true c4
       clear c4
       by_cases c5 : x3_1 < (x0_1.length : Int)
       · rw [if_pos c5] at H
         have c5b0 : decide (x3_1 < (x0_1.length : Int)) = true := decide_eq_true c5
         clear c5
         by_cases c6 : 0 ≤ x2_1
         · rw [if_pos c6] at H
           have c6b0 : decide (0 ≤ x2_1) = true := decide_eq_true c6
           clear c6
           by_cases c7 : x2_1 < (x0_1.length : Int)
           · rw [if_pos c7] at H
             have c7b0 : decide (x2_1 < (x0_1.length : Int)) = true := decide_eq_true c7
             clear c7
             obtain ⟨y183, hy183⟩ : ∃ y_ : List ByteArray, y_ = (x0_1.set (x2_1 : Int).toNat (rdOf ByteArray.empty x0_1 x3_1)) := ⟨_, rfl⟩
             replace H : (slices_Reverse_string_string.l0 k1 (y183.set (x3_1 : Int).toNat (rdOf ByteArray.empty x0_1 x2_1)) (wrap64 (x2_1 + 1)) (wrap64 (x3_1 - 1))) = some r := by first | (rw [hy183]; with_reducible exact H) | (have H2_ := (Option.bind_some _ _).symm.trans H; rw [hy183]; with_reducible exact H2_) | (have H2_ := (Option.bind_some _ _).symm.trans H; with_reducible exact H2_) | with_reducible exact H | (rw [hy183]; exact H) | exact H
             have Ny183 := Aside0.mk hy183
             clear hy183
             obtain ⟨y184, hy184⟩ : ∃ y_ : List ByteArray, y_ = (y183.set (x3_1 : Int).toNat (rdOf ByteArray.empty x0_1 x2_1)) := ⟨_, rfl⟩
             replace H : (slices_Reverse_string_string.l0 k1 y184 (wrap64 (x2_1 + 1)) (wrap64 (x3_1 - 1))) = some r := by first | (rw [hy184]; with_reducible exact H) | (have H2_ := (Option.bind_some _ _).symm.trans H; rw [hy184]; with_reducible exact H2_) | (have H2_ := (Option.bind_some _ _).symm.trans H; with_reducible exact H2_) | with_reducible exact H | (rw [hy184]; exact H) | exact H
             have Ny184 := Aside0.mk hy184
             clear hy184
             have H' := Aside0.mk H
             clear H
             try go_wp2
             have n0_ := Aside0.mk (Kd.R_drew HO_0.out)
             have n1_ := Aside0.mk (Kept.drew HK.out)
             have n2_ := Aside0.mk (below_drew1 HB.out)
             clear HO_0
             clear HK
             clear HB
             have HO_0 := n0_
             have HK := n1_
             have HB := n2_
             clear n0_ n1_ n2_
             have p181 : 0 ≤ (x3_1 : Int) := of_decide_eq_true (by first | (with_reducible assumption) | assumption)
             have q181 : x3_1 < (x0_1.length : Int) := of_decide_eq_true (by first | (with_reducible assumption) | assumption)
             obtain ⟨ad181, e181, hx181_0⟩ := Kd.at_string (Kd.R_reads' HO_0.out).2.2 x3_1 p181 q181
             cases e181
             replace p181 := eq_true p181
             replace q181 := eq_true q181
             have p182 : 0 ≤ (x2_1 : Int) := of_decide_eq_true (by first | (with_reducible assumption) | assumption)
             have q182 : x2_1 < (x0_1.length : Int) := of_decide_eq_true (by first | (with_reducible assumption) | assumption)
             obtain ⟨ad182, e182, hx182_0⟩ := Kd.at_string (Kd.R_reads' HO_0.out).2.2 x2_1 p182 q182
             obtain rfl : ad181 = ad182 := (by injection e182)
             replace p182 := eq_true p182
             replace q182 := eq_true q182
             have p8 : 0 ≤ (x2_1 : Int) := of_decide_eq_true (by first | (with_reducible assumption) | assumption)
             have q8 : (x2_1 : Int) < ((x0_1.length : Int) : Int) := of_decide_eq_true (by first | (with_reducible assumption) | assumption)
             obtain ⟨go8, co8, eo8, gb8, gl8, cl8, HG8⟩ := Kd.R_form HO_0.out (by omega)
             (first | cases eo8 | (injection eo8 with ea_ en_ ec_; (first | subst ea_ | (injection ea_ with ea_; subst ea_)); subst ec_; clear en_))
             have GB8 := Aside0.mk gb8
             have GG8 := Aside0.mk HG8
             clear gb8 gl8 HG8
             have HMgo8 := Aside0.mk (show (P0_ go8 ∨ w.heap.size ≤ go8) from (HO_0.out.1 _ rfl))
             (first | simp only [add_plain] at hx181_0 | skip)
             (first | simp only [add_plain] at hx182_0 | skip)
             obtain ⟨hx8_0, hf8_0⟩ := Kd.R_celln (⟨#[]⟩ : ByteArray) HO_0.out (x2_1 : Int) p8 q8
             replace p8 := eq_true p8
             replace q8 := eq_true q8
             have HP11 := Kd.R_putn HO_0.out (x2_1 : Int) (rdOf ByteArray.empty x0_1 x3_1)
             rw [← Ny183.out] at HP11
             have HQ11 := Aside0.mk HP11
             clear HP11
             have p9 : 0 ≤ (x3_1 : Int) := of_decide_eq_true (by first | (with_reducible assumption) | assumption)
             have q9 : (x3_1 : Int) < ((x0_1.length : Int) : Int) := of_decide_eq_true (by first | (with_reducible assumption) | assumption)
             obtain ⟨hx9_0, hf9_0⟩ := Kd.R_celln (⟨#[]⟩ : ByteArray) HQ11.out (x3_1 : Int) p9 q9
             replace p9 := eq_true p9
             replace q9 := eq_true q9
             have HP12 := Kd.R_putn HQ11.out (x3_1 : Int) (rdOf ByteArray.empty x0_1 x2_1)
             rw [← Ny184.out] at HP12
             have HQ12 := Aside0.mk HP12
             clear HP12
             refine start_ (n := 16) (S := fun w' => w'.cell? ⟨go8, (x3_1).toNat, none⟩ = some (.string (rdOf ByteArray.empty x0_1 x3_1)) ∧ w'.cell? ⟨go8, (x2_1).toNat, none⟩ = some (.string (rdOf ByteArray.empty x0_1 x2_1))) (ds := [13, 15]) #[false, false, false, false, false, false, false, false, false, false, false, false, false, false, false, false] (by kernel_rfl) rfl rfl ⟨hx181_0, hx182_0⟩ (fun hHeld => ?_); refine with_tabW slices_Reverse_string_string.tab3 slices_Reverse_string_string.bits3 (fun HT_ HW_ => ?_)
             generalize wr.drew = w10 at HO_0 HK HB GG8 HQ11 HQ12 hf8_0 hf9_0 hx181_0 hx182_0 hx8_0 hx9_0 hHeld ⊢
             refine pure_ (i := 0) (N := some 14) (v := ?_) (a' := ?_) #[true, false, false, false, false, false, false, false, false, false, false, false, false, false, false, false] rfl rfl (any_of HT_.out (by kernel_rfl)) (fun _ _ _ h => h) (Or.inl ⟨by rfl, ?_⟩) ?_ ?_
             rotate_left
             · intro w'
               go_simp
               with_reducible rfl
             rotate_left
             · simp only [Act.put, List.setIfInBounds_toArray, List.set_cons_zero, List.set_cons_succ, i64_w, i32_w]
               rfl
             refine pure_ (i := 1) (N := some 15) (v := ?_) (a' := ?_) #[true, true, false, false, false, false, false, false, false, false, false, false, false, false, false, false] rfl rfl (any_of HT_.out (by kernel_rfl)) (fun _ _ _ h => h) (Or.inl ⟨by rfl, ?_⟩) ?_ ?_
             rotate_left
             · intro w'
               go_simp
               with_reducible rfl
             rotate_left
             · simp only [Act.put, List.setIfInBounds_toArray, List.set_cons_zero, List.set_cons_succ, i64_w, i32_w]
               rfl
             refine pure_ (i := 2) (N := some 16) (v := ?_) (a' := ?_) #[true, true, true, false, false, false, false, false, false, false, false, false, false, false, false, false] rfl rfl (any_of HT_.out (by kernel_rfl)) (fun _ _ _ h => h) (Or.inl ⟨by rfl, ?_⟩) ?_ ?_
             rotate_left
             · intro w'
               go_simp
               with_reducible rfl
             rotate_left
             · simp only [Act.put, List.setIfInBounds_toArray, List.set_cons_zero, List.set_cons_succ, i64_w, i32_w]
               rfl
             refine pure_ (i := 3) (N := some 17) (v := ?_) (a' := ?_) #[true, true, true, true, false, false, false, false, false, false, false, false, false, false, false, false] rfl rfl (any_of HT_.out (by kernel_rfl)) (fun _ _ _ h => h) (Or.inl ⟨by rfl, ?_⟩) ?_ ?_
             rotate_left
             · intro w'
               go_simp
               with_reducible rfl
             rotate_left
             · simp only [Act.put, List.setIfInBounds_toArray, List.set_cons_zero, List.set_cons_succ, i64_w, i32_w]
               rfl
             refine pure_ (i := 4) (N := some 18) (v := ?_) (a' := ?_) #[true, true, true, true, true, false, false, false, false, false, false, false, false, false, false, false] rfl rfl (any_of HT_.out (by kernel_rfl)) (fun _ _ _ h => h) (Or.inl ⟨by rfl, ?_⟩) ?_ ?_
             rotate_left
             · intro w'
               go_simp
               with_reducible rfl
             rotate_left
             · simp only [Act.put, List.setIfInBounds_toArray, List.set_cons_zero, List.set_cons_succ, i64_w, i32_w]
               rfl
             refine pure_ (i := 5) (N := some 19) (v := ?_) (a' := ?_) #[true, true, true, true, true, true, false, false, false, false, false, false, false, false, false, false] rfl rfl (any_of HT_.out (by kernel_rfl)) (fun _ _ _ h => h) (Or.inl ⟨by rfl, ?_⟩) ?_ ?_
             rotate_left
             · intro w'
               go_simp
               with_reducible rfl
             rotate_left
             · simp only [Act.put, List.setIfInBounds_toArray, List.set_cons_zero, List.set_cons_succ, i64_w, i32_w]
               rfl
             refine pure_ (i := 6) (N := some 20) (v := ?_) (a' := ?_) #[true, true, true, true, true, true, true, false, false, false, false, false, false, false, false, false] rfl rfl (any_of HT_.out (by kernel_rfl)) (fun _ _ _ h => h) (Or.inl ⟨by rfl, ?_⟩) ?_ ?_
             rotate_left
             · intro w'
               go_simp
               with_reducible rfl
             rotate_left
             · simp only [Act.put, List.setIfInBounds_toArray, List.set_cons_zero, List.set_cons_succ, i64_w, i32_w]
               rfl
             refine pure_ (i := 8) (N := some 22) (v := ?_) (a' := ?_) #[true, true, true, true, true, true, true, false, true, false, false, false, false, false, false, false] rfl rfl (any_of HT_.out (by kernel_rfl)) (fun _ _ _ h => h) (Or.inl ⟨by rfl, ?_⟩) ?_ ?_
             rotate_left
             · intro w'
               go_simp
               with_reducible rfl
             rotate_left
             · simp only [Act.put, List.setIfInBounds_toArray, List.set_cons_zero, List.set_cons_succ, i64_w, i32_w]
               rfl
             refine pure_ (i := 9) (N := some 23) (v := ?_) (a' := ?_) #[true, true, true, true, true, true, true, false, true, true, false, false, false, false, false, false] rfl rfl (any_of HT_.out (by kernel_rfl)) (fun _ _ _ h => h) (Or.inl ⟨by rfl, ?_⟩) ?_ ?_
             rotate_left
             · intro w'
               go_simp
               with_reducible rfl
             rotate_left
             · simp only [Act.put, List.setIfInBounds_toArray, List.set_cons_zero, List.set_cons_succ, i64_w, i32_w]
               rfl
             refine pure_ (i := 10) (N := some 24) (v := ?_) (a' := ?_) #[true, true, true, true, true, true, true, false, true, true, true, false, false, false, false, false] rfl rfl (any_of HT_.out (by kernel_rfl)) (fun _ _ _ h => h) (Or.inl ⟨by rfl, ?_⟩) ?_ ?_
             rotate_left
             · intro w'
               go_simp
               with_reducible rfl
             rotate_left
             · simp only [Act.put, List.setIfInBounds_toArray, List.set_cons_zero, List.set_cons_succ, i64_w, i32_w]
               rfl
             refine take_ (i := 7) (N := some 21) (v := ?_) (a' := ?_) #[true, true, true, true, true, true, true, true, true, true, true, false, false, false, false, false] rfl rfl (take_ofW HT_.out HW_.out (by kernel_rfl)) (fun _ _ _ h => h) (Or.inl ⟨by rfl, ?_⟩) hHeld ?_ ?_
             rotate_left
             · rintro w' ⟨s0, s1⟩
               go_simp
               with_reducible rfl
             rotate_left
             · simp only [Act.put, List.setIfInBounds_toArray, List.set_cons_zero, List.set_cons_succ, i64_w, i32_w]
               rfl
             refine take_ (i := 11) (N := some 25) (v := ?_) (a' := ?_) #[true, true, true, true, true, true, true, true, true, true, true, true, false, false, false, false] rfl rfl (take_ofW HT_.out HW_.out (by kernel_rfl)) (fun _ _ _ h => h) (Or.inl ⟨by rfl, ?_⟩) hHeld ?_ ?_
             rotate_left
             · rintro w' ⟨s0, s1⟩
               go_simp
               with_reducible rfl
             rotate_left
             · simp only [Act.put, List.setIfInBounds_toArray, List.set_cons_zero, List.set_cons_succ, i64_w, i32_w]
               rfl
             refine pure_ (i := 12) (N := some 26) (v := ?_) (a' := ?_) #[true, true, true, true, true, true, true, true, true, true, true, true, true, false, false, false] rfl rfl (any_of HT_.out (by kernel_rfl)) (fun _ _ _ h => h) (Or.inl ⟨by rfl, ?_⟩) ?_ ?_
             rotate_left
             · intro w'
               go_simp
               with_reducible rfl
             rotate_left
             · simp only [Act.put, List.setIfInBounds_toArray, List.set_cons_zero, List.set_cons_succ, i64_w, i32_w]
               rfl
             refine last_ (i := 13) (N := none) #[true, true, true, true, true, true, true, true, true, true, true, true, true, true, false, false] rfl rfl (one_of HT_.out (by kernel_rfl)) (by decide) (fun K hK => ?_)
             refine skip_ (w1 := ?_) (by rfl) rfl ?_ ?_
             rotate_left
             · go_simp
               rfl
             refine hK.out _ _ ?_
             clear hK K
             refine pure_ (i := 14) (N := some 27) (v := ?_) (a' := ?_) #[true, true, true, true, true, true, true, true, true, true, true, true, true, true, true, false] rfl rfl (any_of HT_.out (by kernel_rfl)) (fun _ _ _ h => h) (Or.inl ⟨by rfl, ?_⟩) ?_ ?_
             rotate_left
             · intro w'
               go_simp
               with_reducible rfl
             rotate_left
             · simp only [Act.put, List.setIfInBounds_toArray, List.set_cons_zero, List.set_cons_succ, i64_w, i32_w]
               rfl
             refine last_ (i := 15) (N := none) #[true, true, true, true, true, true, true, true, true, true, true, true, true, true, true, true] rfl rfl (one_of HT_.out (by kernel_rfl)) (by decide) (fun K hK => ?_)
             refine skip_ (w1 := ?_) (by rfl) rfl ?_ ?_
             rotate_left
             · go_simp
               rfl
             refine hK.out _ _ ?_
             clear hK K
             refine done_ (done_of HT_.out (by kernel_rfl)) ?_
             try go_wp2
             (try simp only [← hl0_1])
             go_roundg k1
             case measure => have := HK1.out; omega
             case rel => exact ⟨(y184), (wrap64 (x2_1 + 1)), (wrap64 (x3_1 - 1)), (by first | rfl | (simp; done) | (simp [*]; done)), (by first | rfl | (simp; done) | (simp [*]; done)), H', ⟨by have := HK1.out; omega⟩, ⟨by (try simp only [hl0_1]); (with_reducible repeat (first | apply Kd.R_alloc | apply Kd.R_drewN | apply Kd.R_drew)); exact HQ12.out⟩, ⟨by repeat (first | (with_reducible first | exact HK.out | apply Kept.alloc | apply Kept.drewN | apply Kept.drew | refine Kept.setCell ?_ HMgo8.out _ | refine Kept.setCell ?_ HMgo8.out _) | exact HK.out)⟩, ⟨by repeat (first | (with_reducible first | exact HB.out | apply below_alloc | apply pw_below_drewN | apply below_drew1 | refine below_set ?_ GB8.out | refine below_set ?_ GB8.out) | exact HB.out)⟩⟩
           · rw [if_neg c7] at H
             exact absurd H (by simp)
         · rw [if_neg c6] at H
           exact absurd H (by simp)
       · rw [if_neg c5] at H
         exact absurd H (by simp)
     · rw [if_neg c4] at H
       exact absurd H (by simp)
   · rw [if_neg c3] at H
     have c3b0 : decide (x2_1 < x3_1) = false := decide_eq_false c3
     clear c3
     obtain rfl := Option.some.inj H
     go_wp2
     first | go_end0 | ((try simp only [Exit.inBlock, Exit.then]); refine bodyPost_ret (results_none rfl _ _ _) rfl ?_)
     exact ⟨by first | rfl | (simp [errW_none, errW_some] <;> rfl) | (simp [*, errW_none, errW_some] <;> rfl), (by first | exact (by (with_reducible repeat (first | apply Kd.R_alloc | apply Kd.R_drewN | apply Kd.R_drew)); exact HO_0.out) | (simp only [hl0_1]; exact (by (with_reducible repeat (first | apply Kd.R_alloc | apply Kd.R_drewN | apply Kd.R_drew)); exact HO_0.out))), by repeat (first | (with_reducible first | exact HB.out | apply below_alloc | apply pw_below_drewN | apply below_drew1) | exact HB.out), by repeat (first | (with_reducible first | exact HK.out | apply Kept.alloc | apply Kept.drewN | apply Kept.drew) | exact HK.out)⟩
attribute [local go_sem] max2_int min2_int max_two min_two max_three min_three max_four min_four   -- for this text's walks alone
set_option linter.unusedVariables false
set_option linter.unusedSimpArgs false
def tree_path.l0 : Nat → List (S53) → Int → List ByteArray → Option (List ByteArray)
 | 0, _, _, _ => none
 | k + 1, x0, x1, x5 => if x1 = (-1) then ((slices_Reverse_string_string.f k x5).bind fun t185 => (some t185)) else (if 0 ≤ x1 then (if x1 < (x0.length : Int) then (if x5.length < 8796093022208 then (tree_path.l0 k x0 ((rd_T53 x0 x1).f0) (x5 ++ [(rd_T53 x0 x1).f1])) else (none)) else (none)) else (none))
def tree_path.f (k : Nat) (l0 : List (S53)) (a1 : Int) : Option (List ByteArray) := tree_path.l0 k l0 a1 ([] : List ByteArray)
theorem tree_path.calls (k : Nat) (A0 : Option Addr) (c0 : Nat) (l0 : List (S53)) (a1 : Int) (r : List ByteArray) (w : World) (hr0 : Kd.C k53 w A0 l0.length l0) (hc0 : l0.length ≤ c0) (h : tree_path.f k l0 a1 = some r) :
    Calls Tryz.prog 77 #[.slice A0 l0.length c0, .int .i64 a1] w fun e w' => ∃ v0_ : Value, e = .returned (v0_) ∧ Kd.R Kd.string 9 w' w.heap.size (fun _ => True) v0_ r ∧ Below w.heap.size w w' := by
 have HR0 := Aside0.mk hr0
 have HC0 := Aside0.mk hc0
 clear hr0 hc0
 have HB := Aside0.mk (Below.refl w.heap.size w)
 have H : (tree_path.l0 k l0 a1 ([] : List ByteArray)) = some r := h
 clear h
 have H' := Aside0.mk H
 clear H
 go_enter Tryz.func77, Tryz.ntmps77
 go_wp2
 go_loopg [1, 5] k (fun kq v1 v5 w' => ∃ (x1_1 : Int) (x5_1 : List ByteArray), v1 = .int .i64 x1_1 ∧ Aside0 (tree_path.l0 kq l0 x1_1 x5_1 = some r) ∧ Aside0 (kq ≤ k) ∧ Aside0 (Kd.R Kd.string 9 w' w.heap.size (fun _ => True) v5 x5_1) ∧ Aside0 (Below w.heap.size w w'))
 case atStart => exact ⟨(a1), (([] : List ByteArray)), (by first | rfl | (simp; done) | (simp [*]; done)), H', ⟨Nat.le_refl _⟩, ⟨by first | exact Kd.R_nil _ _ _ _ _ | exact Kd.N_nil _ _ _ _ _ | exact Kd.V_nil _ _ _ _ _ | exact Kd.Q_nil _ _ _ _ _ | exact Kd.S_nil _ _ _ _ _⟩, ⟨by repeat (first | (with_reducible first | exact HB.out | apply below_alloc | apply pw_below_drewN | apply below_drew1) | exact HB.out)⟩⟩
 case round =>
  clear H'
  try clear p2
  obtain ⟨x1_1, x5_1, rfl, HA, HK1, HO_5, HB⟩ := hrel
  cases gk with
  | zero => exact absurd HA.out (by simp [tree_path.l0])
  | succ k1 =>
   have H := HA.out
   clear HA
   simp only [tree_path.l0] at H
   by_cases c3 : x1_1 = (-1)
   · rw [if_pos c3] at H
     have c3b0 : (x1_1 == (-1)) = true := beq_iff_eq.mpr c3
     have c3b1 : (x1_1 != (-1)) = false := bne_eq_false_iff_eq.mpr c3
     clear c3
     replace H := Option.bind_eq_some_iff.mp H
     obtain ⟨t185, A40, H⟩ := H
     replace H : (some t185) = some r := H
     have A4 := Aside0.mk A40
     clear A40
     obtain rfl := Option.some.inj H
     obtain ⟨Ao5, co5, eo5⟩ := Kd.R_slice HO_5.out
     subst eo5
     go_wp2_with (first | ((with_reducible refine gate_callee (f := 106) rfl ?_); refine goesL_ (some 22) rfl rfl Tryz.func106 (by kernel_rfl) rfl #[.slice Ao5 x5_1.length co5] rfl (by (try simp only [List.map_toArray, List.map_cons, List.map_nil]); first | done | rfl | (simp only [List.length_drop, List.length_take]; rfl)) ?_; (with_reducible refine (slices_Reverse_string_string.calls k1 (fun k_ => some k_ = (.slice Ao5 x5_1.length co5 : Value).ownBlock) (.slice Ao5 x5_1.length co5) x5_1 t185 w _ ?side1 ?side2 A4.out).mono ?_); (case side1 => repeat (first | (with_reducible first | exact HB.out | apply below_alloc | apply pw_below_drewN | apply below_drew1) | exact HB.out)); (case side2 => exact Kd.R_tight rfl HO_5.out); rintro e w6 ⟨rfl, hy0, hb, hkp⟩; refine ⟨_, rfl, ?_⟩; have n0_ := Aside0.mk (Kd.R_reok rfl hy0 (fun k_ e_ => HO_5.out.1 k_ e_)); have n1_ := Aside0.mk (hb); clear HO_5; clear HB; have HO_5 := n0_; have HB := n1_; clear n0_ n1_; (try clear hb); (try clear hkp); (try clear hy0)))
     go_ret
     exact ⟨_, by first | rfl | (simp [errW_none, errW_some] <;> rfl) | (simp [*, errW_none, errW_some] <;> rfl), by (with_reducible repeat (first | apply Kd.R_alloc | apply Kd.R_drewN | apply Kd.R_drew)); exact HO_5.out, by repeat (first | (with_reducible first | exact HB.out | apply below_alloc | apply pw_below_drewN | apply below_drew1) | exact HB.out)⟩
   · rw [if_neg c3] at H
     have c3b0 : (x1_1 == (-1)) = false := beq_eq_false_iff_ne.mpr c3
     have c3b1 : (x1_1 != (-1)) = true := bne_iff_ne.mpr c3
     by_cases c7 : 0 ≤ x1_1
     · rw [if_pos c7] at H
       have c7b0 : decide (0 ≤ x1_1) = true := decide_eq_true c7
       clear c7
       by_cases c8 : x1_1 < (l0.length : Int)
       · rw [if_pos c8] at H
         have c8b0 : decide (x1_1 < (l0.length : Int)) = true := decide_eq_true c8
         clear c8
         by_cases c9 : x5_1.length < 8796093022208
         · rw [if_pos c9] at H
           have LMc9 := Aside0.mk c9
           clear c9
           obtain ⟨y187, hy187⟩ : ∃ y_ : List ByteArray, y_ = (x5_1 ++ [(rd_T53 l0 x1_1).f1]) := ⟨_, rfl⟩
           replace H : (tree_path.l0 k1 l0 ((rd_T53 l0 x1_1).f0) y187) = some r := by first | (rw [hy187]; with_reducible exact H) | (have H2_ := (Option.bind_some _ _).symm.trans H; rw [hy187]; with_reducible exact H2_) | (have H2_ := (Option.bind_some _ _).symm.trans H; with_reducible exact H2_) | with_reducible exact H | (rw [hy187]; exact H) | exact H
           have Ny187 := Aside0.mk hy187
           clear hy187
           have H' := Aside0.mk H
           clear H
           have p186 : 0 ≤ (x1_1 : Int) := of_decide_eq_true (by first | (with_reducible assumption) | assumption)
           have q186 : x1_1 < (l0.length : Int) := of_decide_eq_true (by first | (with_reducible assumption) | assumption)
           obtain ⟨ad186, A186_3, c186_3, e186, hx186_0, hx186_1, hx186_2, hx186_3, hl186_3, hi186_3⟩ := at_T53 HR0.out x1_1 p186 q186
           cases e186
           replace hx186_0 := (HB.out.cell (World.block_lt_of_cell? w _ hx186_0)).trans hx186_0
           replace hx186_1 := (HB.out.cell (World.block_lt_of_cell? w _ hx186_1)).trans hx186_1
           replace hx186_2 := (HB.out.cell (World.block_lt_of_cell? w _ hx186_2)).trans hx186_2
           replace hx186_3 := (HB.out.cell (World.block_lt_of_cell? w _ hx186_3)).trans hx186_3
           have HR186_3 := Aside0.mk hi186_3
           have HC186_3 := Aside0.mk hl186_3
           clear hi186_3 hl186_3
           replace p186 := eq_true p186
           replace q186 := eq_true q186
           go_wp2_with (first | ((with_reducible refine gate_builtin (b := .append) (xs := #[.tmp 13, .tmp 19]) rfl ?_); at_builtin; refine Kd.R_append Kd.string (w0 := w) w.heap.size rfl (.tmp 13) (.tmp 19) 65 9 (.string ⟨#[]⟩) 16 rfl Tryz.underlying65 info9 rfl (by decide) (by omega) u5 x5_1 ((rd_T53 l0 x1_1).f1) [.string ((rd_T53 l0 x1_1).f1)] (fun _ => True) (fun _ => False) rfl rfl ?aP (fun _ hk => hk.elim) ?aF ?aO ?aB ?aS ?aL ?_; (case aP => exact rfl); (case aB => exact (by repeat (first | (with_reducible first | exact HB.out | apply below_alloc | apply pw_below_drewN | apply below_drew1) | exact HB.out))); (case aF => exact (fun _ _ => trivial)); (case aO => exact (by (with_reducible repeat (first | apply Kd.R_alloc | apply Kd.R_drewN | apply Kd.R_drew)); exact HO_5.out)); (case aS => exact (below_size (by repeat (first | (with_reducible first | exact HB.out | apply below_alloc | apply pw_below_drewN | apply below_drew1) | exact HB.out)))); (case aL => have := LMc9.out; omega); intro v188 w10 ho hb hg hat; rw [← Ny187.out] at ho; have n0_ := Aside0.mk (hb); have n1_ := Aside0.mk (ho); clear HB; clear HO_5; have HB := n0_; have HO189 := n1_; clear n0_ n1_; clear ho hb hg hat; have p190 : 0 ≤ (x1_1 : Int) := of_decide_eq_true (by first | (with_reducible assumption) | assumption); have q190 : x1_1 < (l0.length : Int) := of_decide_eq_true (by first | (with_reducible assumption) | assumption); obtain ⟨ad190, A190_3, c190_3, e190, hx190_0, hx190_1, hx190_2, hx190_3, hl190_3, hi190_3⟩ := at_T53 HR0.out x1_1 p190 q190; obtain rfl : ad186 = ad190 := (by injection e190); replace hx190_0 := (HB.out.cell (World.block_lt_of_cell? w _ hx190_0)).trans hx190_0; replace hx190_1 := (HB.out.cell (World.block_lt_of_cell? w _ hx190_1)).trans hx190_1; replace hx190_2 := (HB.out.cell (World.block_lt_of_cell? w _ hx190_2)).trans hx190_2; replace hx190_3 := (HB.out.cell (World.block_lt_of_cell? w _ hx190_3)).trans hx190_3; have HR190_3 := Aside0.mk hi190_3; have HC190_3 := Aside0.mk hl190_3; clear hi190_3 hl190_3; replace p190 := eq_true p190; replace q190 := eq_true q190))
           go_roundg k1
           case measure => have := HK1.out; omega
           case rel => exact ⟨((rd_T53 l0 x1_1).f0), (y187), (by first | rfl | (simp; done) | (simp [*]; done)), H', ⟨by have := HK1.out; omega⟩, ⟨by (with_reducible repeat (first | apply Kd.R_alloc | apply Kd.R_drewN | apply Kd.R_drew)); exact HO189.out⟩, ⟨by repeat (first | (with_reducible first | exact HB.out | apply below_alloc | apply pw_below_drewN | apply below_drew1) | exact HB.out)⟩⟩
         · rw [if_neg c9] at H
           exact absurd H (by simp)
       · rw [if_neg c8] at H
         exact absurd H (by simp)
     · rw [if_neg c7] at H
       exact absurd H (by simp)
attribute [local go_sem] max2_int min2_int max_two min_two max_three min_three max_four min_four   -- for this text's walks alone
set_option linter.unusedVariables false
set_option linter.unusedSimpArgs false
attribute [local go_sem] max2_int min2_int max_two min_two max_three min_three max_four min_four   -- for this text's walks alone
set_option linter.unusedVariables false
set_option linter.unusedSimpArgs false
attribute [local go_sem] max2_int min2_int max_two min_two max_three min_three max_four min_four   -- for this text's walks alone
set_option linter.unusedVariables false
set_option linter.unusedSimpArgs false
def gessoref11_Same.l0 : Nat → List ByteArray → List ByteArray → Int → Option (Bool)
 | 0, _, _, _ => none
 | k + 1, x0, x1, x5 => if x5 < (x0.length : Int) then (if 0 ≤ x5 then (if x5 < (x1.length : Int) then (if (rdOf ByteArray.empty x0 x5).toList = (rdOf ByteArray.empty x1 x5).toList then (gessoref11_Same.l0 k x0 x1 (wrap64 (x5 + 1))) else (some false)) else (none)) else (none)) else (some true)
def gessoref11_Same.f (k : Nat) (l0 : List ByteArray) (l1 : List ByteArray) : Option (Bool) := if (l0.length : Int) = (l1.length : Int) then (gessoref11_Same.l0 k l0 l1 0) else (some false)
theorem gessoref11_Same.calls (k : Nat) (A0 : Option Addr) (c0 : Nat) (l0 : List ByteArray) (A1 : Option Addr) (c1 : Nat) (l1 : List ByteArray) (r : Bool) (w : World) (hr0 : Kd.C Kd.string w A0 l0.length l0) (hc0 : l0.length ≤ c0) (hr1 : Kd.C Kd.string w A1 l1.length l1) (hc1 : l1.length ≤ c1) (h : gessoref11_Same.f k l0 l1 = some r) :
    Calls Tryz.prog 52 #[.slice A0 l0.length c0, .slice A1 l1.length c1] w fun e w' => e = .returned (.bool r) ∧ Drawn0 w w' := by
 have HR0 := Aside0.mk hr0
 have HC0 := Aside0.mk hc0
 clear hr0 hc0
 have HR1 := Aside0.mk hr1
 have HC1 := Aside0.mk hc1
 clear hr1 hc1
 have H : (if (l0.length : Int) = (l1.length : Int) then (gessoref11_Same.l0 k l0 l1 0) else (some false)) = some r := h
 clear h
 by_cases c3 : (l0.length : Int) = (l1.length : Int)
 · rw [if_pos c3] at H
   have c3b0 : ((l0.length : Int) == (l1.length : Int)) = true := beq_iff_eq.mpr c3
   have c3b1 : ((l0.length : Int) != (l1.length : Int)) = false := bne_eq_false_iff_eq.mpr c3
   have c3b2 : (l0.length == l1.length) = true := by first | simpa using c3 | (simp at c3 ⊢; omega)
   clear c3
   have H' := Aside0.mk H
   clear H
   go_enter Tryz.func52, Tryz.ntmps52
   go_wp2
   repeat (go_quiet (fail); try go_wp2)
   go_loopg [5] k (fun kq v5 w' => ∃ (x5_1 : Int), v5 = .int .i64 x5_1 ∧ Aside0 (gessoref11_Same.l0 kq l0 l1 x5_1 = some r) ∧ Aside0 (kq ≤ k) ∧ Drawn0 w w')
   case atStart => exact ⟨(0), (by first | rfl | (simp; done) | (simp [*]; done)), H', ⟨Nat.le_refl _⟩, by repeat (first | exact Drawn0.refl _ | apply Drawn0.step)⟩
   case round =>
    clear H'
    try clear c1
    try clear p2
    try clear c3
    try clear c3b0
    try clear c3b1
    try clear c3b2
    obtain ⟨x5_1, rfl, HA, HK1, ⟨m1, rfl⟩⟩ := hrel
    cases gk with
    | zero => exact absurd HA.out (by simp [gessoref11_Same.l0])
    | succ k1 =>
     have H := HA.out
     clear HA
     simp only [gessoref11_Same.l0] at H
     by_cases c4 : x5_1 < (l0.length : Int)
     · rw [if_pos c4] at H
       have c4b0 : decide (x5_1 < (l0.length : Int)) = true := decide_eq_true c4
       clear c4
       by_cases c5 : 0 ≤ x5_1
       · rw [if_pos c5] at H
         have c5b0 : decide (0 ≤ x5_1) = true := decide_eq_true c5
         clear c5
         by_cases c6 : x5_1 < (l1.length : Int)
         · rw [if_pos c6] at H
           have c6b0 : decide (x5_1 < (l1.length : Int)) = true := decide_eq_true c6
           clear c6
           by_cases c7 : (rdOf ByteArray.empty l0 x5_1).toList = (rdOf ByteArray.empty l1 x5_1).toList
           · rw [if_pos c7] at H
             have c7b0 : ((rdOf ByteArray.empty l0 x5_1).toList == (rdOf ByteArray.empty l1 x5_1).toList) = true := beq_iff_eq.mpr c7
             have c7b1 : ((rdOf ByteArray.empty l0 x5_1).toList != (rdOf ByteArray.empty l1 x5_1).toList) = false := bne_eq_false_iff_eq.mpr c7
             clear c7
             have H' := Aside0.mk H
             clear H
             have p397 : 0 ≤ (x5_1 : Int) := of_decide_eq_true (by first | (with_reducible assumption) | assumption)
             have q397 : x5_1 < (l0.length : Int) := of_decide_eq_true (by first | (with_reducible assumption) | assumption)
             obtain ⟨ad397, e397, hx397_0⟩ := Kd.at_string HR0.out x5_1 p397 q397
             cases e397
             replace p397 := eq_true p397
             replace q397 := eq_true q397
             have p398 : 0 ≤ (x5_1 : Int) := of_decide_eq_true (by first | (with_reducible assumption) | assumption)
             have q398 : x5_1 < (l1.length : Int) := of_decide_eq_true (by first | (with_reducible assumption) | assumption)
             obtain ⟨ad398, e398, hx398_0⟩ := Kd.at_string HR1.out x5_1 p398 q398
             cases e398
             replace p398 := eq_true p398
             replace q398 := eq_true q398
             go_wp2
             repeat (go_quiet (fail); try go_wp2)
             go_roundg k1
             case measure => have := HK1.out; omega
             case rel => exact ⟨(wrap64 (x5_1 + 1)), (by first | rfl | (simp; done) | (simp [*]; done)), H', ⟨by have := HK1.out; omega⟩, by repeat (first | exact Drawn0.refl _ | apply Drawn0.step)⟩
           · rw [if_neg c7] at H
             have c7b0 : ((rdOf ByteArray.empty l0 x5_1).toList == (rdOf ByteArray.empty l1 x5_1).toList) = false := beq_eq_false_iff_ne.mpr c7
             have c7b1 : ((rdOf ByteArray.empty l0 x5_1).toList != (rdOf ByteArray.empty l1 x5_1).toList) = true := bne_iff_ne.mpr c7
             obtain rfl := Option.some.inj H
             have p397 : 0 ≤ (x5_1 : Int) := of_decide_eq_true (by first | (with_reducible assumption) | assumption)
             have q397 : x5_1 < (l0.length : Int) := of_decide_eq_true (by first | (with_reducible assumption) | assumption)
             obtain ⟨ad397, e397, hx397_0⟩ := Kd.at_string HR0.out x5_1 p397 q397
             cases e397
             replace p397 := eq_true p397
             replace q397 := eq_true q397
             have p398 : 0 ≤ (x5_1 : Int) := of_decide_eq_true (by first | (with_reducible assumption) | assumption)
             have q398 : x5_1 < (l1.length : Int) := of_decide_eq_true (by first | (with_reducible assumption) | assumption)
             obtain ⟨ad398, e398, hx398_0⟩ := Kd.at_string HR1.out x5_1 p398 q398
             cases e398
             replace p398 := eq_true p398
             replace q398 := eq_true q398
             go_wp2
             repeat (go_quiet (fail); try go_wp2)
             go_ret
             exact ⟨by first | rfl | (simp; done) | (simp [*]; done), by repeat (first | exact Drawn0.refl _ | apply Drawn0.step)⟩
         · rw [if_neg c6] at H
           exact absurd H (by simp)
       · rw [if_neg c5] at H
         exact absurd H (by simp)
     · rw [if_neg c4] at H
       have c4b0 : decide (x5_1 < (l0.length : Int)) = false := decide_eq_false c4
       clear c4
       obtain rfl := Option.some.inj H
       go_wp2
       repeat (go_quiet (fail); try go_wp2)
       go_ret
       exact ⟨by first | rfl | (simp; done) | (simp [*]; done), by repeat (first | exact Drawn0.refl _ | apply Drawn0.step)⟩
 · rw [if_neg c3] at H
   have c3b0 : ((l0.length : Int) == (l1.length : Int)) = false := beq_eq_false_iff_ne.mpr c3
   have c3b1 : ((l0.length : Int) != (l1.length : Int)) = true := bne_iff_ne.mpr c3
   have c3b2 : (l0.length == l1.length) = false := by first | simpa using c3 | (simp at c3 ⊢; omega)
   obtain rfl := Option.some.inj H
   go_enter Tryz.func52, Tryz.ntmps52
   go_wp2
   repeat (go_quiet (fail); try go_wp2)
   go_ret
   exact ⟨by first | rfl | (simp; done) | (simp [*]; done), by repeat (first | exact Drawn0.refl _ | apply Drawn0.step)⟩
attribute [local go_sem] max2_int min2_int max_two min_two max_three min_three max_four min_four   -- for this text's walks alone
set_option linter.unusedVariables false
set_option linter.unusedSimpArgs false
attribute [local go_sem] max2_int min2_int max_two min_two max_three min_three max_four min_four   -- for this text's walks alone
set_option linter.unusedVariables false
set_option linter.unusedSimpArgs false
def gessoref16_SameLines.l0 : Nat → List (S90) → List (S90) → Int → Option (Bool)
 | 0, _, _, _ => none
 | k + 1, x0, x1, x5 => if x5 < (x0.length : Int) then (if 0 ≤ x5 then (if x5 < (x1.length : Int) then (if ((rd_T90 x0 x5).f1) = ((rd_T90 x1 x5).f1) then ((gessoref11_Same.f k ((rd_T90 x0 x5).f0) ((rd_T90 x1 x5).f0)).bind fun t493 => (if t493 = true then (gessoref16_SameLines.l0 k x0 x1 (wrap64 (x5 + 1))) else (some false))) else (some false)) else (none)) else (none)) else (some true)
def gessoref16_SameLines.f (k : Nat) (l0 : List (S90)) (l1 : List (S90)) : Option (Bool) := if (l0.length : Int) = (l1.length : Int) then (gessoref16_SameLines.l0 k l0 l1 0) else (some false)
theorem gessoref16_SameLines.calls (k : Nat) (A0 : Option Addr) (c0 : Nat) (l0 : List (S90)) (A1 : Option Addr) (c1 : Nat) (l1 : List (S90)) (r : Bool) (w : World) (hr0 : Kd.C k90 w A0 l0.length l0) (hc0 : l0.length ≤ c0) (hr1 : Kd.C k90 w A1 l1.length l1) (hc1 : l1.length ≤ c1) (h : gessoref16_SameLines.f k l0 l1 = some r) :
    Calls Tryz.prog 31 #[.slice A0 l0.length c0, .slice A1 l1.length c1] w fun e w' => e = .returned (.bool r) ∧ Drawn0 w w' := by
 have HR0 := Aside0.mk hr0
 have HC0 := Aside0.mk hc0
 clear hr0 hc0
 have HR1 := Aside0.mk hr1
 have HC1 := Aside0.mk hc1
 clear hr1 hc1
 have H : (if (l0.length : Int) = (l1.length : Int) then (gessoref16_SameLines.l0 k l0 l1 0) else (some false)) = some r := h
 clear h
 by_cases c3 : (l0.length : Int) = (l1.length : Int)
 · rw [if_pos c3] at H
   have c3b0 : ((l0.length : Int) == (l1.length : Int)) = true := beq_iff_eq.mpr c3
   have c3b1 : ((l0.length : Int) != (l1.length : Int)) = false := bne_eq_false_iff_eq.mpr c3
   have c3b2 : (l0.length == l1.length) = true := by first | simpa using c3 | (simp at c3 ⊢; omega)
   clear c3
   have H' := Aside0.mk H
   clear H
   go_enter Tryz.func31, Tryz.ntmps31
   go_wp2
   repeat (go_quiet (fail); try go_wp2)
   go_loopg [5] k (fun kq v5 w' => ∃ (x5_1 : Int), v5 = .int .i64 x5_1 ∧ Aside0 (gessoref16_SameLines.l0 kq l0 l1 x5_1 = some r) ∧ Aside0 (kq ≤ k) ∧ Drawn0 w w')
   case atStart => exact ⟨(0), (by first | rfl | (simp; done) | (simp [*]; done)), H', ⟨Nat.le_refl _⟩, by repeat (first | exact Drawn0.refl _ | apply Drawn0.step)⟩
   case round =>
    clear H'
    try clear c1
    try clear p2
    try clear c3
    try clear c3b0
    try clear c3b1
    try clear c3b2
    obtain ⟨x5_1, rfl, HA, HK1, ⟨m1, rfl⟩⟩ := hrel
    cases gk with
    | zero => exact absurd HA.out (by simp [gessoref16_SameLines.l0])
    | succ k1 =>
     have H := HA.out
     clear HA
     simp only [gessoref16_SameLines.l0] at H
     by_cases c4 : x5_1 < (l0.length : Int)
     · rw [if_pos c4] at H
       have c4b0 : decide (x5_1 < (l0.length : Int)) = true := decide_eq_true c4
       clear c4
       by_cases c5 : 0 ≤ x5_1
       · rw [if_pos c5] at H
         have c5b0 : decide (0 ≤ x5_1) = true := decide_eq_true c5
         clear c5
         by_cases c6 : x5_1 < (l1.length : Int)
         · rw [if_pos c6] at H
           have c6b0 : decide (x5_1 < (l1.length : Int)) = true := decide_eq_true c6
           clear c6
           by_cases c7 : ((rd_T90 l0 x5_1).f1) = ((rd_T90 l1 x5_1).f1)
           · rw [if_pos c7] at H
             have c7b0 : (((rd_T90 l0 x5_1).f1) == ((rd_T90 l1 x5_1).f1)) = true := beq_iff_eq.mpr c7
             have c7b1 : (((rd_T90 l0 x5_1).f1) != ((rd_T90 l1 x5_1).f1)) = false := bne_eq_false_iff_eq.mpr c7
             clear c7
             replace H := Option.bind_eq_some_iff.mp H
             obtain ⟨t493, A80, H⟩ := H
             replace H : (if t493 = true then (gessoref16_SameLines.l0 k1 l0 l1 (wrap64 (x5_1 + 1))) else (some false)) = some r := H
             have A8 := Aside0.mk A80
             clear A80
             by_cases c9 : t493 = true
             · subst c9
               have H1 : (gessoref16_SameLines.l0 k1 l0 l1 (wrap64 (x5_1 + 1))) = some r := by rw [if_pos rfl] at H; exact H
               clear H
               have H := H1
               clear H1
               have H' := Aside0.mk H
               clear H
               have p489 : 0 ≤ (x5_1 : Int) := of_decide_eq_true (by first | (with_reducible assumption) | assumption)
               have q489 : x5_1 < (l0.length : Int) := of_decide_eq_true (by first | (with_reducible assumption) | assumption)
               obtain ⟨ad489, A489_0, c489_0, e489, hx489_0, hx489_1, hl489_0, hi489_0⟩ := at_T90 HR0.out x5_1 p489 q489
               cases e489
               have HR489_0 := Aside0.mk hi489_0
               have HC489_0 := Aside0.mk hl489_0
               clear hi489_0 hl489_0
               replace p489 := eq_true p489
               replace q489 := eq_true q489
               have p490 : 0 ≤ (x5_1 : Int) := of_decide_eq_true (by first | (with_reducible assumption) | assumption)
               have q490 : x5_1 < (l1.length : Int) := of_decide_eq_true (by first | (with_reducible assumption) | assumption)
               obtain ⟨ad490, A490_0, c490_0, e490, hx490_0, hx490_1, hl490_0, hi490_0⟩ := at_T90 HR1.out x5_1 p490 q490
               cases e490
               have HR490_0 := Aside0.mk hi490_0
               have HC490_0 := Aside0.mk hl490_0
               clear hi490_0 hl490_0
               replace p490 := eq_true p490
               replace q490 := eq_true q490
               have p491 : 0 ≤ (x5_1 : Int) := of_decide_eq_true (by first | (with_reducible assumption) | assumption)
               have q491 : x5_1 < (l0.length : Int) := of_decide_eq_true (by first | (with_reducible assumption) | assumption)
               obtain ⟨ad491, A491_0, c491_0, e491, hx491_0, hx491_1, hl491_0, hi491_0⟩ := at_T90 HR0.out x5_1 p491 q491
               obtain rfl : ad489 = ad491 := (by injection e491)
               have HR491_0 := Aside0.mk hi491_0
               have HC491_0 := Aside0.mk hl491_0
               clear hi491_0 hl491_0
               replace p491 := eq_true p491
               replace q491 := eq_true q491
               have ea_ := Option.some.inj (hx489_0.symm.trans hx491_0)
               injection ea_ with ea_ en_ ec_
               subst ea_
               subst ec_
               clear en_
               have p492 : 0 ≤ (x5_1 : Int) := of_decide_eq_true (by first | (with_reducible assumption) | assumption)
               have q492 : x5_1 < (l1.length : Int) := of_decide_eq_true (by first | (with_reducible assumption) | assumption)
               obtain ⟨ad492, A492_0, c492_0, e492, hx492_0, hx492_1, hl492_0, hi492_0⟩ := at_T90 HR1.out x5_1 p492 q492
               obtain rfl : ad490 = ad492 := (by injection e492)
               have HR492_0 := Aside0.mk hi492_0
               have HC492_0 := Aside0.mk hl492_0
               clear hi492_0 hl492_0
               replace p492 := eq_true p492
               replace q492 := eq_true q492
               have ea_ := Option.some.inj (hx490_0.symm.trans hx492_0)
               injection ea_ with ea_ en_ ec_
               subst ea_
               subst ec_
               clear en_
               go_wp2_with (first | (go_at_call 52; (with_reducible refine (gessoref11_Same.calls k1 _ _ ((rd_T90 l0 x5_1).f0) _ _ ((rd_T90 l1 x5_1).f0) true _ ?side1 ?side2 ?side3 ?side4 A8.out).mono ?_); (case side1 => repeat (first | exact HR491_0.out | (with_reducible refine Kd.C_alloc ?_ _) | (with_reducible refine Kd.C_drewN ?_ _) | (with_reducible refine Kd.C_drew ?_))); (case side2 => exact HC491_0.out); (case side3 => repeat (first | exact HR492_0.out | (with_reducible refine Kd.C_alloc ?_ _) | (with_reducible refine Kd.C_drewN ?_ _) | (with_reducible refine Kd.C_drew ?_))); (case side4 => exact HC492_0.out); rintro e w' ⟨rfl, ⟨nd, rfl⟩⟩; (try first | exact ⟨rfl, _, World.drewN_drewN _ _ _⟩ | exact ⟨rfl, _, Eq.trans (World.drewN_drewN _ _ _) (congrArg (World.drewN _) (Nat.add_assoc _ _ _))⟩)))
               repeat (go_quiet (first | (go_at_call 52; (with_reducible refine (gessoref11_Same.calls k1 _ _ ((rd_T90 l0 x5_1).f0) _ _ ((rd_T90 l1 x5_1).f0) true _ ?side1 ?side2 ?side3 ?side4 A8.out).mono ?_); (case side1 => repeat (first | exact HR491_0.out | (with_reducible refine Kd.C_alloc ?_ _) | (with_reducible refine Kd.C_drewN ?_ _) | (with_reducible refine Kd.C_drew ?_))); (case side2 => exact HC491_0.out); (case side3 => repeat (first | exact HR492_0.out | (with_reducible refine Kd.C_alloc ?_ _) | (with_reducible refine Kd.C_drewN ?_ _) | (with_reducible refine Kd.C_drew ?_))); (case side4 => exact HC492_0.out); rintro e w' ⟨rfl, ⟨nd, rfl⟩⟩; (try first | exact ⟨rfl, _, World.drewN_drewN _ _ _⟩ | exact ⟨rfl, _, Eq.trans (World.drewN_drewN _ _ _) (congrArg (World.drewN _) (Nat.add_assoc _ _ _))⟩))); try go_wp2_with (first | (go_at_call 52; (with_reducible refine (gessoref11_Same.calls k1 _ _ ((rd_T90 l0 x5_1).f0) _ _ ((rd_T90 l1 x5_1).f0) true _ ?side1 ?side2 ?side3 ?side4 A8.out).mono ?_); (case side1 => repeat (first | exact HR491_0.out | (with_reducible refine Kd.C_alloc ?_ _) | (with_reducible refine Kd.C_drewN ?_ _) | (with_reducible refine Kd.C_drew ?_))); (case side2 => exact HC491_0.out); (case side3 => repeat (first | exact HR492_0.out | (with_reducible refine Kd.C_alloc ?_ _) | (with_reducible refine Kd.C_drewN ?_ _) | (with_reducible refine Kd.C_drew ?_))); (case side4 => exact HC492_0.out); rintro e w' ⟨rfl, ⟨nd, rfl⟩⟩; (try first | exact ⟨rfl, _, World.drewN_drewN _ _ _⟩ | exact ⟨rfl, _, Eq.trans (World.drewN_drewN _ _ _) (congrArg (World.drewN _) (Nat.add_assoc _ _ _))⟩))))
               go_roundg k1
               case measure => have := HK1.out; omega
               case rel => exact ⟨(wrap64 (x5_1 + 1)), (by first | rfl | (simp; done) | (simp [*]; done)), H', ⟨by have := HK1.out; omega⟩, by repeat (first | exact Drawn0.refl _ | apply Drawn0.step)⟩
             · replace c9 := Bool.eq_false_iff.mpr c9
               subst c9
               have H1 : (some false) = some r := by rw [if_neg (show ¬ (false = true) by decide)] at H; exact H
               clear H
               have H := H1
               clear H1
               obtain rfl := Option.some.inj H
               have p489 : 0 ≤ (x5_1 : Int) := of_decide_eq_true (by first | (with_reducible assumption) | assumption)
               have q489 : x5_1 < (l0.length : Int) := of_decide_eq_true (by first | (with_reducible assumption) | assumption)
               obtain ⟨ad489, A489_0, c489_0, e489, hx489_0, hx489_1, hl489_0, hi489_0⟩ := at_T90 HR0.out x5_1 p489 q489
               cases e489
               have HR489_0 := Aside0.mk hi489_0
               have HC489_0 := Aside0.mk hl489_0
               clear hi489_0 hl489_0
               replace p489 := eq_true p489
               replace q489 := eq_true q489
               have p490 : 0 ≤ (x5_1 : Int) := of_decide_eq_true (by first | (with_reducible assumption) | assumption)
               have q490 : x5_1 < (l1.length : Int) := of_decide_eq_true (by first | (with_reducible assumption) | assumption)
               obtain ⟨ad490, A490_0, c490_0, e490, hx490_0, hx490_1, hl490_0, hi490_0⟩ := at_T90 HR1.out x5_1 p490 q490
               cases e490
               have HR490_0 := Aside0.mk hi490_0
               have HC490_0 := Aside0.mk hl490_0
               clear hi490_0 hl490_0
               replace p490 := eq_true p490
               replace q490 := eq_true q490
               have p491 : 0 ≤ (x5_1 : Int) := of_decide_eq_true (by first | (with_reducible assumption) | assumption)
               have q491 : x5_1 < (l0.length : Int) := of_decide_eq_true (by first | (with_reducible assumption) | assumption)
               obtain ⟨ad491, A491_0, c491_0, e491, hx491_0, hx491_1, hl491_0, hi491_0⟩ := at_T90 HR0.out x5_1 p491 q491
               obtain rfl : ad489 = ad491 := (by injection e491)
               have HR491_0 := Aside0.mk hi491_0
               have HC491_0 := Aside0.mk hl491_0
               clear hi491_0 hl491_0
               replace p491 := eq_true p491
               replace q491 := eq_true q491
               have ea_ := Option.some.inj (hx489_0.symm.trans hx491_0)
               injection ea_ with ea_ en_ ec_
               subst ea_
               subst ec_
               clear en_
               have p492 : 0 ≤ (x5_1 : Int) := of_decide_eq_true (by first | (with_reducible assumption) | assumption)
               have q492 : x5_1 < (l1.length : Int) := of_decide_eq_true (by first | (with_reducible assumption) | assumption)
               obtain ⟨ad492, A492_0, c492_0, e492, hx492_0, hx492_1, hl492_0, hi492_0⟩ := at_T90 HR1.out x5_1 p492 q492
               obtain rfl : ad490 = ad492 := (by injection e492)
               have HR492_0 := Aside0.mk hi492_0
               have HC492_0 := Aside0.mk hl492_0
               clear hi492_0 hl492_0
               replace p492 := eq_true p492
               replace q492 := eq_true q492
               have ea_ := Option.some.inj (hx490_0.symm.trans hx492_0)
               injection ea_ with ea_ en_ ec_
               subst ea_
               subst ec_
               clear en_
               go_wp2_with (first | (go_at_call 52; (with_reducible refine (gessoref11_Same.calls k1 _ _ ((rd_T90 l0 x5_1).f0) _ _ ((rd_T90 l1 x5_1).f0) false _ ?side1 ?side2 ?side3 ?side4 A8.out).mono ?_); (case side1 => repeat (first | exact HR491_0.out | (with_reducible refine Kd.C_alloc ?_ _) | (with_reducible refine Kd.C_drewN ?_ _) | (with_reducible refine Kd.C_drew ?_))); (case side2 => exact HC491_0.out); (case side3 => repeat (first | exact HR492_0.out | (with_reducible refine Kd.C_alloc ?_ _) | (with_reducible refine Kd.C_drewN ?_ _) | (with_reducible refine Kd.C_drew ?_))); (case side4 => exact HC492_0.out); rintro e w' ⟨rfl, ⟨nd, rfl⟩⟩; (try first | exact ⟨rfl, _, World.drewN_drewN _ _ _⟩ | exact ⟨rfl, _, Eq.trans (World.drewN_drewN _ _ _) (congrArg (World.drewN _) (Nat.add_assoc _ _ _))⟩)))
               repeat (go_quiet (first | (go_at_call 52; (with_reducible refine (gessoref11_Same.calls k1 _ _ ((rd_T90 l0 x5_1).f0) _ _ ((rd_T90 l1 x5_1).f0) false _ ?side1 ?side2 ?side3 ?side4 A8.out).mono ?_); (case side1 => repeat (first | exact HR491_0.out | (with_reducible refine Kd.C_alloc ?_ _) | (with_reducible refine Kd.C_drewN ?_ _) | (with_reducible refine Kd.C_drew ?_))); (case side2 => exact HC491_0.out); (case side3 => repeat (first | exact HR492_0.out | (with_reducible refine Kd.C_alloc ?_ _) | (with_reducible refine Kd.C_drewN ?_ _) | (with_reducible refine Kd.C_drew ?_))); (case side4 => exact HC492_0.out); rintro e w' ⟨rfl, ⟨nd, rfl⟩⟩; (try first | exact ⟨rfl, _, World.drewN_drewN _ _ _⟩ | exact ⟨rfl, _, Eq.trans (World.drewN_drewN _ _ _) (congrArg (World.drewN _) (Nat.add_assoc _ _ _))⟩))); try go_wp2_with (first | (go_at_call 52; (with_reducible refine (gessoref11_Same.calls k1 _ _ ((rd_T90 l0 x5_1).f0) _ _ ((rd_T90 l1 x5_1).f0) false _ ?side1 ?side2 ?side3 ?side4 A8.out).mono ?_); (case side1 => repeat (first | exact HR491_0.out | (with_reducible refine Kd.C_alloc ?_ _) | (with_reducible refine Kd.C_drewN ?_ _) | (with_reducible refine Kd.C_drew ?_))); (case side2 => exact HC491_0.out); (case side3 => repeat (first | exact HR492_0.out | (with_reducible refine Kd.C_alloc ?_ _) | (with_reducible refine Kd.C_drewN ?_ _) | (with_reducible refine Kd.C_drew ?_))); (case side4 => exact HC492_0.out); rintro e w' ⟨rfl, ⟨nd, rfl⟩⟩; (try first | exact ⟨rfl, _, World.drewN_drewN _ _ _⟩ | exact ⟨rfl, _, Eq.trans (World.drewN_drewN _ _ _) (congrArg (World.drewN _) (Nat.add_assoc _ _ _))⟩))))
               go_ret
               exact ⟨by first | rfl | (simp; done) | (simp [*]; done), by repeat (first | exact Drawn0.refl _ | apply Drawn0.step)⟩
           · rw [if_neg c7] at H
             have c7b0 : (((rd_T90 l0 x5_1).f1) == ((rd_T90 l1 x5_1).f1)) = false := beq_eq_false_iff_ne.mpr c7
             have c7b1 : (((rd_T90 l0 x5_1).f1) != ((rd_T90 l1 x5_1).f1)) = true := bne_iff_ne.mpr c7
             obtain rfl := Option.some.inj H
             have p489 : 0 ≤ (x5_1 : Int) := of_decide_eq_true (by first | (with_reducible assumption) | assumption)
             have q489 : x5_1 < (l0.length : Int) := of_decide_eq_true (by first | (with_reducible assumption) | assumption)
             obtain ⟨ad489, A489_0, c489_0, e489, hx489_0, hx489_1, hl489_0, hi489_0⟩ := at_T90 HR0.out x5_1 p489 q489
             cases e489
             have HR489_0 := Aside0.mk hi489_0
             have HC489_0 := Aside0.mk hl489_0
             clear hi489_0 hl489_0
             replace p489 := eq_true p489
             replace q489 := eq_true q489
             have p490 : 0 ≤ (x5_1 : Int) := of_decide_eq_true (by first | (with_reducible assumption) | assumption)
             have q490 : x5_1 < (l1.length : Int) := of_decide_eq_true (by first | (with_reducible assumption) | assumption)
             obtain ⟨ad490, A490_0, c490_0, e490, hx490_0, hx490_1, hl490_0, hi490_0⟩ := at_T90 HR1.out x5_1 p490 q490
             cases e490
             have HR490_0 := Aside0.mk hi490_0
             have HC490_0 := Aside0.mk hl490_0
             clear hi490_0 hl490_0
             replace p490 := eq_true p490
             replace q490 := eq_true q490
             go_wp2
             repeat (go_quiet (fail); try go_wp2)
             go_ret
             exact ⟨by first | rfl | (simp; done) | (simp [*]; done), by repeat (first | exact Drawn0.refl _ | apply Drawn0.step)⟩
         · rw [if_neg c6] at H
           exact absurd H (by simp)
       · rw [if_neg c5] at H
         exact absurd H (by simp)
     · rw [if_neg c4] at H
       have c4b0 : decide (x5_1 < (l0.length : Int)) = false := decide_eq_false c4
       clear c4
       obtain rfl := Option.some.inj H
       go_wp2
       repeat (go_quiet (fail); try go_wp2)
       go_ret
       exact ⟨by first | rfl | (simp; done) | (simp [*]; done), by repeat (first | exact Drawn0.refl _ | apply Drawn0.step)⟩
 · rw [if_neg c3] at H
   have c3b0 : ((l0.length : Int) == (l1.length : Int)) = false := beq_eq_false_iff_ne.mpr c3
   have c3b1 : ((l0.length : Int) != (l1.length : Int)) = true := bne_iff_ne.mpr c3
   have c3b2 : (l0.length == l1.length) = false := by first | simpa using c3 | (simp at c3 ⊢; omega)
   obtain rfl := Option.some.inj H
   go_enter Tryz.func31, Tryz.ntmps31
   go_wp2
   repeat (go_quiet (fail); try go_wp2)
   go_ret
   exact ⟨by first | rfl | (simp; done) | (simp [*]; done), by repeat (first | exact Drawn0.refl _ | apply Drawn0.step)⟩
end Go.Proofs.YthlflglkdaainaaGreatDoor.Prt
