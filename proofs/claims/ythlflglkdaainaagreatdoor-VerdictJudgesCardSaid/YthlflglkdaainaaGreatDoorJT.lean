import Derived.Test.YthlflglkdaainaaGreatDoorProg
import Derived.Below
import Derived.Deep.Draws
import Derived.Deep.AppendLies
import Derived.Maps.AppendAt
import Derived.OwnWalk
import Derived.Laws.BytesArg
import Derived.Laws.MakeOwn
import Derived.Laws.OwnMore
import Derived.Deep.OwnRows
import Derived.Tactics
import Derived.Lib.ConvBytes
import Derived.Laws.Slices
import Derived.WalkKit
import Derived.KernelRfl
import Derived.RowKit3
import Derived.Deep.LoopGhost
import Derived.Deep.QuietTactic
import Derived.BigQuiet
import Derived.WideLaws
import Derived.Deep.DeepCutAuto
import Derived.Deep.CutBlock
import Derived.Deep.RegionHeld3
import Derived.Laws.Rows
import Derived.Lib.AppendStr
import Derived.ArgAppend
import Derived.Laws.IdiomCopy
import Derived.OrdersHeld
import Derived.Laws.BitsLemmas
import Derived.RowKit
import Derived.Test.YthlflglkdaainaaGreatDoorJW
/- Texts of this seat: T0, TEqual, T1, T2, T3, T4, T5, T11, T12, T13. -/
set_option maxRecDepth 100000
set_option maxHeartbeats 8000000
namespace Go.Proofs.YthlflglkdaainaaGreatDoor.Prt
open Go.RowKit Go.Proofs.YthlflglkdaainaaGreatDoorW.PrintWords Go.Proofs.YthlflglkdaainaaGreatDoorW.PrintLast Go.Proofs.YthlflglkdaainaaGreatDoorW.PrintMore
attribute [local go_sem] max2_int min2_int max_two min_two max_three min_three max_four min_four   -- for this text's walks alone
set_option linter.unusedVariables false
set_option linter.unusedSimpArgs false
def errW : Option Int → Value
 | none => .nilIface
 | some c => .iface 0 (.int .i64 c)
theorem errW_none : errW none = .nilIface := rfl
theorem errW_some (c : Int) : errW (some c) = .iface 0 (.int .i64 c) := rfl
theorem info3 : (Tryz.prog.info? 3).map (fun i => (i.zero, i.size, i.bytes)) = some (some (.int .i64 0), 1, 8) := by kernel_rfl
theorem info5 : (Tryz.prog.info? 5).map (fun i => (i.zero, i.size, i.bytes)) = some (some (.int .u8 0), 1, 1) := by kernel_rfl
theorem info9 : (Tryz.prog.info? 9).map (fun i => (i.zero, i.size, i.bytes)) = some (some (.string ⟨#[]⟩), 1, 16) := by kernel_rfl
theorem info53 : (Tryz.prog.info? 53).map (fun i => (i.zero, i.size, i.bytes)) = some (some (.agg #[(.int .i64 0), (.string ⟨#[]⟩), (.bool false), (.slice none 0 0)]), 4, 56) := by kernel_rfl
structure S53 where
 f0 : Int
 f1 : ByteArray
 f2 : Bool
 f3 : (List Int)
def z53 : S53 := ⟨(0 : Int), (⟨#[]⟩ : ByteArray), false, ([] : List Int)⟩
def k53 : Kd S53 := Kd.iso (Kd.pair (Kd.int .i64) (Kd.pair Kd.string (Kd.pair Kd.bool (Kd.slice 5 (Kd.int .u8))))) (fun x : S53 => (x.f0, x.f1, x.f2, x.f3))
theorem k53_open {w : World} {x : S53} {cs : List Value} (h : k53.K w x cs) : ∃ A3 c3, cs = [.int .i64 x.f0, .string x.f1, .bool x.f2, .slice A3 x.f3.length c3] ∧ x.f3.length ≤ c3 ∧ (Kd.int .u8).C w A3 x.f3.length x.f3 := by
 obtain ⟨_, _, rfl, rfl, ⟨_, _, rfl, rfl, ⟨_, _, rfl, rfl, ⟨A3, c3, rfl, l3, g3⟩⟩⟩⟩ := h
 exact ⟨A3, c3, rfl, l3, g3⟩
theorem k53_openM {w : World} {base : Nat} {ok : Nat → Prop} {x : S53} {cs : List Value} (h : k53.M w base ok x cs) : ∃ v3, cs = [.int .i64 x.f0, .string x.f1, .bool x.f2, v3] ∧ (Kd.int .u8).R 5 w base ok v3 x.f3 := by
 obtain ⟨_, _, rfl, rfl, ⟨_, _, rfl, rfl, ⟨_, _, rfl, rfl, ⟨v3, rfl, g3⟩⟩⟩⟩ := h
 exact ⟨v3, rfl, g3⟩
theorem k53_mk (w : World) (x : S53) {A3 : Option Addr} {c3 : Nat} (l3 : x.f3.length ≤ c3) (g3 : (Kd.int .u8).C w A3 x.f3.length x.f3) : k53.K w x [.int .i64 x.f0, .string x.f1, .bool x.f2, .slice A3 x.f3.length c3] := ⟨[.int .i64 x.f0], [.string x.f1, .bool x.f2, .slice A3 x.f3.length c3], rfl, rfl, ⟨[.string x.f1], [.bool x.f2, .slice A3 x.f3.length c3], rfl, rfl, ⟨[.bool x.f2], [.slice A3 x.f3.length c3], rfl, rfl, ⟨A3, c3, rfl, l3, g3⟩⟩⟩⟩
theorem k53_mkM (w : World) (base : Nat) (ok : Nat → Prop) (x : S53) {v3 : Value} (g3 : (Kd.int .u8).R 5 w base ok v3 x.f3) : k53.M w base ok x [.int .i64 x.f0, .string x.f1, .bool x.f2, v3] := ⟨[.int .i64 x.f0], [.string x.f1, .bool x.f2, v3], rfl, rfl, ⟨[.string x.f1], [.bool x.f2, v3], rfl, rfl, ⟨[.bool x.f2], [v3], rfl, rfl, ⟨v3, rfl, g3⟩⟩⟩⟩
theorem k53_mkF (W : World) (ok : Nat → Prop) (x : S53) {A3 : Option Addr} {c3 : Nat} (l3 : x.f3.length ≤ c3) (g3 : Kd.F (Kd.int .u8) W ok A3 x.f3.length x.f3) : Kd.FK k53 W ok x [.int .i64 x.f0, .string x.f1, .bool x.f2, .slice A3 x.f3.length c3] := fun W2 hW => k53_mk W2 x l3 (g3 W2 hW)
def rd_T53 (xs : List S53) (i : Int) : S53 := xs.getD i.toNat z53
theorem at_T53 {w : World} {A : Option Addr} {n : Nat} {xs : List S53} (h : Kd.C k53 w A n xs) (i : Int) (h0 : 0 ≤ i) (h1 : i < n) : ∃ ad A3 c3, A = some ad ∧ w.cell? (ad.add (i.toNat * 4)) = some (.int .i64 (rd_T53 xs i).f0) ∧ w.cell? ⟨(ad.add (i.toNat * 4)).block, (ad.add (i.toNat * 4)).off + 1, none⟩ = some (.string (rd_T53 xs i).f1) ∧ w.cell? ⟨(ad.add (i.toNat * 4)).block, (ad.add (i.toNat * 4)).off + 2, none⟩ = some (.bool (rd_T53 xs i).f2) ∧ w.cell? ⟨(ad.add (i.toNat * 4)).block, (ad.add (i.toNat * 4)).off + 3, none⟩ = some (.slice A3 (rd_T53 xs i).f3.length c3) ∧ (rd_T53 xs i).f3.length ≤ c3 ∧ (Kd.int .u8).C w A3 (rd_T53 xs i).f3.length (rd_T53 xs i).f3 := by
 obtain ⟨ad, c, e, _, hK, hc0⟩ := Kd.C_get h z53 i h0 h1
 have hc : ∀ j u, c[j]? = some u → w.cell? (ad.add (i.toNat * 4 + j)) = some u := hc0
 obtain ⟨A3, c3, rfl, l3, g3⟩ := k53_open hK
 exact ⟨ad, A3, c3, e, hc 0 _ rfl, by rw [← add_field _ _ 1 (by omega)]; exact hc 1 _ rfl, by rw [← add_field _ _ 2 (by omega)]; exact hc 2 _ rfl, by rw [← add_field _ _ 3 (by omega)]; exact hc 3 _ rfl, l3, g3⟩
structure S49 where
 f0 : ByteArray
 f1 : Int
 f2 : (List Int)
 f3 : Int
def z49 : S49 := ⟨(⟨#[]⟩ : ByteArray), (0 : Int), ([] : List Int), (0 : Int)⟩
def k49 : Kd S49 := Kd.iso (Kd.pair Kd.string (Kd.pair (Kd.int .u8) (Kd.pair (Kd.slice 5 (Kd.int .u8)) (Kd.int .u8)))) (fun x : S49 => (x.f0, x.f1, x.f2, x.f3))
theorem k49_open {w : World} {x : S49} {cs : List Value} (h : k49.K w x cs) : ∃ A2 c2, cs = [.string x.f0, .int .u8 x.f1, .slice A2 x.f2.length c2, .int .u8 x.f3] ∧ x.f2.length ≤ c2 ∧ (Kd.int .u8).C w A2 x.f2.length x.f2 := by
 obtain ⟨_, _, rfl, rfl, ⟨_, _, rfl, rfl, ⟨_, _, rfl, ⟨A2, c2, rfl, l2, g2⟩, rfl⟩⟩⟩ := h
 exact ⟨A2, c2, rfl, l2, g2⟩
theorem k49_openM {w : World} {base : Nat} {ok : Nat → Prop} {x : S49} {cs : List Value} (h : k49.M w base ok x cs) : ∃ v2, cs = [.string x.f0, .int .u8 x.f1, v2, .int .u8 x.f3] ∧ (Kd.int .u8).R 5 w base ok v2 x.f2 := by
 obtain ⟨_, _, rfl, rfl, ⟨_, _, rfl, rfl, ⟨_, _, rfl, ⟨v2, rfl, g2⟩, rfl⟩⟩⟩ := h
 exact ⟨v2, rfl, g2⟩
theorem k49_mk (w : World) (x : S49) {A2 : Option Addr} {c2 : Nat} (l2 : x.f2.length ≤ c2) (g2 : (Kd.int .u8).C w A2 x.f2.length x.f2) : k49.K w x [.string x.f0, .int .u8 x.f1, .slice A2 x.f2.length c2, .int .u8 x.f3] := ⟨[.string x.f0], [.int .u8 x.f1, .slice A2 x.f2.length c2, .int .u8 x.f3], rfl, rfl, ⟨[.int .u8 x.f1], [.slice A2 x.f2.length c2, .int .u8 x.f3], rfl, rfl, ⟨[.slice A2 x.f2.length c2], [.int .u8 x.f3], rfl, ⟨A2, c2, rfl, l2, g2⟩, rfl⟩⟩⟩
theorem k49_mkM (w : World) (base : Nat) (ok : Nat → Prop) (x : S49) {v2 : Value} (g2 : (Kd.int .u8).R 5 w base ok v2 x.f2) : k49.M w base ok x [.string x.f0, .int .u8 x.f1, v2, .int .u8 x.f3] := ⟨[.string x.f0], [.int .u8 x.f1, v2, .int .u8 x.f3], rfl, rfl, ⟨[.int .u8 x.f1], [v2, .int .u8 x.f3], rfl, rfl, ⟨[v2], [.int .u8 x.f3], rfl, ⟨v2, rfl, g2⟩, rfl⟩⟩⟩
theorem k49_openF {W : World} {ok : Nat → Prop} {x : S49} {cs : List Value} (h : Kd.FK k49 W ok x cs) : ∃ A2 c2, cs = [.string x.f0, .int .u8 x.f1, .slice A2 x.f2.length c2, .int .u8 x.f3] ∧ x.f2.length ≤ c2 ∧ Kd.F (Kd.int .u8) W ok A2 x.f2.length x.f2 := by
 obtain ⟨A2, c2, rfl, l2, _⟩ := k49_open (Kd.FK_now h)
 exact ⟨A2, c2, rfl, l2, (fun W' hW => by obtain ⟨A2_, c2_, he, l2_, g2_⟩ := k49_open (h W' hW); injection (Option.some.inj (show some (Value.slice A2 x.f2.length c2) = some (Value.slice A2_ x.f2.length c2_) from congrArg (fun l => l[2]?) he)) with ha_ _ _; rw [ha_]; exact g2_)⟩
theorem k49_mkF (W : World) (ok : Nat → Prop) (x : S49) {A2 : Option Addr} {c2 : Nat} (l2 : x.f2.length ≤ c2) (g2 : Kd.F (Kd.int .u8) W ok A2 x.f2.length x.f2) : Kd.FK k49 W ok x [.string x.f0, .int .u8 x.f1, .slice A2 x.f2.length c2, .int .u8 x.f3] := fun W2 hW => k49_mk W2 x l2 (g2 W2 hW)
def rd_T49 (xs : List S49) (i : Int) : S49 := xs.getD i.toNat z49
theorem at_T49 {w : World} {A : Option Addr} {n : Nat} {xs : List S49} (h : Kd.C k49 w A n xs) (i : Int) (h0 : 0 ≤ i) (h1 : i < n) : ∃ ad A2 c2, A = some ad ∧ w.cell? (ad.add (i.toNat * 4)) = some (.string (rd_T49 xs i).f0) ∧ w.cell? ⟨(ad.add (i.toNat * 4)).block, (ad.add (i.toNat * 4)).off + 1, none⟩ = some (.int .u8 (rd_T49 xs i).f1) ∧ w.cell? ⟨(ad.add (i.toNat * 4)).block, (ad.add (i.toNat * 4)).off + 2, none⟩ = some (.slice A2 (rd_T49 xs i).f2.length c2) ∧ w.cell? ⟨(ad.add (i.toNat * 4)).block, (ad.add (i.toNat * 4)).off + 3, none⟩ = some (.int .u8 (rd_T49 xs i).f3) ∧ (rd_T49 xs i).f2.length ≤ c2 ∧ (Kd.int .u8).C w A2 (rd_T49 xs i).f2.length (rd_T49 xs i).f2 := by
 obtain ⟨ad, c, e, _, hK, hc0⟩ := Kd.C_get h z49 i h0 h1
 have hc : ∀ j u, c[j]? = some u → w.cell? (ad.add (i.toNat * 4 + j)) = some u := hc0
 obtain ⟨A2, c2, rfl, l2, g2⟩ := k49_open hK
 exact ⟨ad, A2, c2, e, hc 0 _ rfl, by rw [← add_field _ _ 1 (by omega)]; exact hc 1 _ rfl, by rw [← add_field _ _ 2 (by omega)]; exact hc 2 _ rfl, by rw [← add_field _ _ 3 (by omega)]; exact hc 3 _ rfl, l2, g2⟩
structure S90 where
 f0 : (List ByteArray)
 f1 : Int
def z90 : S90 := ⟨([] : List ByteArray), (0 : Int)⟩
def k90 : Kd S90 := Kd.iso (Kd.pair (Kd.slice 9 Kd.string) (Kd.int .u8)) (fun x : S90 => (x.f0, x.f1))
theorem k90_open {w : World} {x : S90} {cs : List Value} (h : k90.K w x cs) : ∃ A0 c0, cs = [.slice A0 x.f0.length c0, .int .u8 x.f1] ∧ x.f0.length ≤ c0 ∧ Kd.string.C w A0 x.f0.length x.f0 := by
 obtain ⟨_, _, rfl, ⟨A0, c0, rfl, l0, g0⟩, rfl⟩ := h
 exact ⟨A0, c0, rfl, l0, g0⟩
theorem k90_mk (w : World) (x : S90) {A0 : Option Addr} {c0 : Nat} (l0 : x.f0.length ≤ c0) (g0 : Kd.string.C w A0 x.f0.length x.f0) : k90.K w x [.slice A0 x.f0.length c0, .int .u8 x.f1] := ⟨[.slice A0 x.f0.length c0], [.int .u8 x.f1], rfl, ⟨A0, c0, rfl, l0, g0⟩, rfl⟩
theorem k90_mkM (w : World) (base : Nat) (ok : Nat → Prop) (x : S90) {v0 : Value} (g0 : Kd.string.R 9 w base ok v0 x.f0) : k90.M w base ok x [v0, .int .u8 x.f1] := ⟨[v0], [.int .u8 x.f1], rfl, ⟨v0, rfl, g0⟩, rfl⟩
theorem k90_openF {W : World} {ok : Nat → Prop} {x : S90} {cs : List Value} (h : Kd.FK k90 W ok x cs) : ∃ A0 c0, cs = [.slice A0 x.f0.length c0, .int .u8 x.f1] ∧ x.f0.length ≤ c0 ∧ Kd.F Kd.string W ok A0 x.f0.length x.f0 := by
 obtain ⟨A0, c0, rfl, l0, _⟩ := k90_open (Kd.FK_now h)
 exact ⟨A0, c0, rfl, l0, (fun W' hW => by obtain ⟨A0_, c0_, he, l0_, g0_⟩ := k90_open (h W' hW); injection (Option.some.inj (show some (Value.slice A0 x.f0.length c0) = some (Value.slice A0_ x.f0.length c0_) from congrArg (fun l => l[0]?) he)) with ha_ _ _; rw [ha_]; exact g0_)⟩
theorem k90_mkF (W : World) (ok : Nat → Prop) (x : S90) {A0 : Option Addr} {c0 : Nat} (l0 : x.f0.length ≤ c0) (g0 : Kd.F Kd.string W ok A0 x.f0.length x.f0) : Kd.FK k90 W ok x [.slice A0 x.f0.length c0, .int .u8 x.f1] := fun W2 hW => k90_mk W2 x l0 (g0 W2 hW)
def rd_T90 (xs : List S90) (i : Int) : S90 := xs.getD i.toNat z90
theorem at_T90 {w : World} {A : Option Addr} {n : Nat} {xs : List S90} (h : Kd.C k90 w A n xs) (i : Int) (h0 : 0 ≤ i) (h1 : i < n) : ∃ ad A0 c0, A = some ad ∧ w.cell? (ad.add (i.toNat * 2)) = some (.slice A0 (rd_T90 xs i).f0.length c0) ∧ w.cell? ⟨(ad.add (i.toNat * 2)).block, (ad.add (i.toNat * 2)).off + 1, none⟩ = some (.int .u8 (rd_T90 xs i).f1) ∧ (rd_T90 xs i).f0.length ≤ c0 ∧ Kd.string.C w A0 (rd_T90 xs i).f0.length (rd_T90 xs i).f0 := by
 obtain ⟨ad, c, e, _, hK, hc0⟩ := Kd.C_get h z90 i h0 h1
 have hc : ∀ j u, c[j]? = some u → w.cell? (ad.add (i.toNat * 2 + j)) = some u := hc0
 obtain ⟨A0, c0, rfl, l0, g0⟩ := k90_open hK
 exact ⟨ad, A0, c0, e, hc 0 _ rfl, by rw [← add_field _ _ 1 (by omega)]; exact hc 1 _ rfl, l0, g0⟩
attribute [local go_sem] max2_int min2_int max_two min_two max_three min_three max_four min_four   -- for this text's walks alone
set_option linter.unusedVariables false
set_option linter.unusedSimpArgs false
attribute [local go_sem] max2_int min2_int max_two min_two max_three min_three max_four min_four   -- for this text's walks alone
set_option linter.unusedVariables false
set_option linter.unusedSimpArgs false
def gessoref14_Light.l0 : Nat → List (S53) → Int → Int → Int → Option (Bool)
 | 0, _, _, _, _ => none
 | k + 1, x0, x1, x5, x6 => if x6 < (x0.length : Int) then (if 0 ≤ x6 then (gessoref14_Light.l0 k x0 x1 (wrap64 ((wrap64 (x5 + (mn (((rd_T53 x0 x6).f3).length : Int) (wrap64 (x1 + 1))))) + (mn (((rd_T53 x0 x6).f1).size : Int) (wrap64 (x1 + 1))))) (wrap64 (x6 + 1))) else (none)) else (some (decide (x5 ≤ x1)))
def gessoref14_Light.f (k : Nat) (l0 : List (S53)) (a1 : Int) : Option (Bool) := if (l0.length : Int) > 70 then (some false) else (gessoref14_Light.l0 k l0 a1 0 0)
theorem gessoref14_Light.calls (k : Nat) (A0 : Option Addr) (c0 : Nat) (l0 : List (S53)) (a1 : Int) (r : Bool) (w : World) (hr0 : Kd.C k53 w A0 l0.length l0) (hc0 : l0.length ≤ c0) (h : gessoref14_Light.f k l0 a1 = some r) :
    Calls Tryz.prog 15 #[.slice A0 l0.length c0, .int .i64 a1] w fun e w' => e = .returned (.bool r) ∧ Below w.heap.size w w' := by
 have HR0 := Aside0.mk hr0
 have HC0 := Aside0.mk hc0
 clear hr0 hc0
 have HB := Aside0.mk (Below.refl w.heap.size w)
 have H : (if (l0.length : Int) > 70 then (some false) else (gessoref14_Light.l0 k l0 a1 0 0)) = some r := h
 clear h
 by_cases c3 : (l0.length : Int) > 70
 · rw [if_pos c3] at H
   have c3b0 : decide (70 < (l0.length : Int)) = true := decide_eq_true c3
   have c3b1 : decide (70 < l0.length) = true := decide_eq_true (by omega)
   clear c3
   obtain rfl := Option.some.inj H
   go_enter Tryz.func15, Tryz.ntmps15
   go_wp2
   go_ret
   exact ⟨by first | rfl | (simp [errW_none, errW_some] <;> rfl) | (simp [*, errW_none, errW_some] <;> rfl), by repeat (first | (with_reducible first | exact HB.out | apply below_alloc | apply pw_below_drewN | apply below_drew1) | exact HB.out)⟩
 · rw [if_neg c3] at H
   have c3b0 : decide (70 < (l0.length : Int)) = false := decide_eq_false c3
   have c3b1 : decide (70 < l0.length) = false := decide_eq_false (by omega)
   clear c3
   have H' := Aside0.mk H
   clear H
   go_enter Tryz.func15, Tryz.ntmps15
   go_wp2
   go_loopg [5, 6] k (fun kq v5 v6 w' => ∃ (x5_1 : Int) (x6_1 : Int), v5 = .int .i64 x5_1 ∧ v6 = .int .i64 x6_1 ∧ Aside0 (gessoref14_Light.l0 kq l0 a1 x5_1 x6_1 = some r) ∧ Aside0 (kq ≤ k) ∧ Aside0 (Below w.heap.size w w'))
   case atStart => exact ⟨(0), (0), (by first | rfl | (simp; done) | (simp [*]; done)), (by first | rfl | (simp; done) | (simp [*]; done)), H', ⟨Nat.le_refl _⟩, ⟨by repeat (first | (with_reducible first | exact HB.out | apply below_alloc | apply pw_below_drewN | apply below_drew1) | exact HB.out)⟩⟩
   case round =>
    clear H'
    try clear c1
    try clear p2
    try clear c3
    try clear c3b0
    try clear c3b1
    obtain ⟨x5_1, x6_1, rfl, rfl, HA, HK1, HB⟩ := hrel
    cases gk with
    | zero => exact absurd HA.out (by simp [gessoref14_Light.l0])
    | succ k1 =>
     have H := HA.out
     clear HA
     simp only [gessoref14_Light.l0] at H
     by_cases c4 : x6_1 < (l0.length : Int)
     · rw [if_pos c4] at H
       have c4b0 : decide (x6_1 < (l0.length : Int)) = true := decide_eq_true c4
       clear c4
       by_cases c5 : 0 ≤ x6_1
       · rw [if_pos c5] at H
         have c5b0 : decide (0 ≤ x6_1) = true := decide_eq_true c5
         clear c5
         obtain ⟨ji6, hji6⟩ : ∃ j_ : Int, (mn (((rd_T53 l0 x6_1).f3).length : Int) (wrap64 (a1 + 1))) = j_ := ⟨_, rfl⟩
         replace H : (gessoref14_Light.l0 k1 l0 a1 (wrap64 ((wrap64 (x5_1 + (ji6))) + (mn (((rd_T53 l0 x6_1).f1).size : Int) (wrap64 (a1 + 1))))) (wrap64 (x6_1 + 1))) = some r := by first | (rw [hji6] at H; exact H) | (simp only [hji6] at H ⊢; exact H)
         have hji6_ : (if (wrap64 (a1 + 1)) < (((rd_T53 l0 x6_1).f3).length : Int) then (wrap64 (a1 + 1)) else (((rd_T53 l0 x6_1).f3).length : Int)) = ji6 := hji6
         obtain ⟨ji7, hji7⟩ : ∃ j_ : Int, (mn (((rd_T53 l0 x6_1).f1).size : Int) (wrap64 (a1 + 1))) = j_ := ⟨_, rfl⟩
         replace H : (gessoref14_Light.l0 k1 l0 a1 (wrap64 ((wrap64 (x5_1 + (ji6))) + (ji7))) (wrap64 (x6_1 + 1))) = some r := by first | (rw [hji7] at H; exact H) | (simp only [hji7] at H ⊢; exact H)
         have hji7_ : (if (wrap64 (a1 + 1)) < (((rd_T53 l0 x6_1).f1).size : Int) then (wrap64 (a1 + 1)) else (((rd_T53 l0 x6_1).f1).size : Int)) = ji7 := hji7
         have H' := Aside0.mk H
         clear H
         have p101 : 0 ≤ (x6_1 : Int) := of_decide_eq_true (by first | (with_reducible assumption) | assumption)
         have q101 : x6_1 < (l0.length : Int) := of_decide_eq_true (by first | (with_reducible assumption) | assumption)
         obtain ⟨ad101, A101_3, c101_3, e101, hx101_0, hx101_1, hx101_2, hx101_3, hl101_3, hi101_3⟩ := at_T53 HR0.out x6_1 p101 q101
         cases e101
         replace hx101_0 := (HB.out.cell (World.block_lt_of_cell? w _ hx101_0)).trans hx101_0
         replace hx101_1 := (HB.out.cell (World.block_lt_of_cell? w _ hx101_1)).trans hx101_1
         replace hx101_2 := (HB.out.cell (World.block_lt_of_cell? w _ hx101_2)).trans hx101_2
         replace hx101_3 := (HB.out.cell (World.block_lt_of_cell? w _ hx101_3)).trans hx101_3
         have HR101_3 := Aside0.mk hi101_3
         have HC101_3 := Aside0.mk hl101_3
         clear hi101_3 hl101_3
         replace p101 := eq_true p101
         replace q101 := eq_true q101
         have p102 : 0 ≤ (x6_1 : Int) := of_decide_eq_true (by first | (with_reducible assumption) | assumption)
         have q102 : x6_1 < (l0.length : Int) := of_decide_eq_true (by first | (with_reducible assumption) | assumption)
         obtain ⟨ad102, A102_3, c102_3, e102, hx102_0, hx102_1, hx102_2, hx102_3, hl102_3, hi102_3⟩ := at_T53 HR0.out x6_1 p102 q102
         obtain rfl : ad101 = ad102 := (by injection e102)
         replace hx102_0 := (HB.out.cell (World.block_lt_of_cell? w _ hx102_0)).trans hx102_0
         replace hx102_1 := (HB.out.cell (World.block_lt_of_cell? w _ hx102_1)).trans hx102_1
         replace hx102_2 := (HB.out.cell (World.block_lt_of_cell? w _ hx102_2)).trans hx102_2
         replace hx102_3 := (HB.out.cell (World.block_lt_of_cell? w _ hx102_3)).trans hx102_3
         have HR102_3 := Aside0.mk hi102_3
         have HC102_3 := Aside0.mk hl102_3
         clear hi102_3 hl102_3
         replace p102 := eq_true p102
         replace q102 := eq_true q102
         have ea_ := Option.some.inj (hx101_3.symm.trans hx102_3)
         injection ea_ with ea_ en_ ec_
         subst ea_
         subst ec_
         clear en_
         go_wp2
         go_roundg k1
         case measure => have := HK1.out; omega
         case rel => exact ⟨(wrap64 ((wrap64 (x5_1 + (ji6))) + (ji7))), (wrap64 (x6_1 + 1)), (by first | rfl | (simp; done) | (simp only [← hji6, ← hji7] <;> (first | rfl | simp)) | (simp [*]; done)), (by first | rfl | (simp; done) | (simp [*]; done)), H', ⟨by have := HK1.out; omega⟩, ⟨by repeat (first | (with_reducible first | exact HB.out | apply below_alloc | apply pw_below_drewN | apply below_drew1) | exact HB.out)⟩⟩
       · rw [if_neg c5] at H
         exact absurd H (by simp)
     · rw [if_neg c4] at H
       have c4b0 : decide (x6_1 < (l0.length : Int)) = false := decide_eq_false c4
       clear c4
       obtain rfl := Option.some.inj H
       go_wp2
       go_ret
       exact ⟨by first | rfl | (simp [errW_none, errW_some] <;> rfl) | (simp [*, errW_none, errW_some] <;> rfl), by repeat (first | (with_reducible first | exact HB.out | apply below_alloc | apply pw_below_drewN | apply below_drew1) | exact HB.out)⟩
attribute [local go_sem] max2_int min2_int max_two min_two max_three min_three max_four min_four   -- for this text's walks alone
set_option linter.unusedVariables false
set_option linter.unusedSimpArgs false
def slices_Reverse_string_string.l0 : Nat → List ByteArray → Int → Int → Option (List ByteArray)
 | 0, _, _, _ => none
 | k + 1, x0, x2, x3 => if x2 < x3 then (if 0 ≤ x3 then (if x3 < (x0.length : Int) then (if 0 ≤ x2 then (if x2 < (x0.length : Int) then (slices_Reverse_string_string.l0 k ((x0.set (x2 : Int).toNat (rdOf ByteArray.empty x0 x3)).set (x3 : Int).toNat (rdOf ByteArray.empty x0 x2)) (wrap64 (x2 + 1)) (wrap64 (x3 - 1))) else (none)) else (none)) else (none)) else (none)) else (some x0)
def slices_Reverse_string_string.f (k : Nat) (l0 : List ByteArray) : Option (List ByteArray) := slices_Reverse_string_string.l0 k l0 0 (wrap64 ((l0.length : Int) - 1))
def slices_Reverse_string_string.T3 : Bool × List (List Nat × List Nat) := (true, [([], []), ([], []), ([], []), ([], []), ([], []), ([], []), ([4, 5], [4, 5]), ([6], [6]), ([], []), ([], []), ([8, 9], [8, 9]), ([10], [10]), ([0, 1, 0, 1, 4, 5, 6, 7, 11], [0, 1]), ([12, 7, 0, 1, 4, 5, 6, 7, 11], [7, 12]), ([2, 3, 0, 1, 2, 3, 4, 5, 6, 7, 8, 9, 10, 11, 12, 13], [2, 3]), ([14, 11, 13, 0, 1, 2, 3, 4, 5, 6, 7, 8, 9, 10, 11, 12, 13], [11, 14])])
def slices_Reverse_string_string.B3 : List Nat := [0, 0, 0, 0, 0, 0, 48, 112, 0, 0, 768, 1792, 4083, 8179, 16383, 32767]
theorem slices_Reverse_string_string.tab3 : rtab .any (opsOf Tryz.f106 3) = slices_Reverse_string_string.T3 := by kernel_rfl
theorem slices_Reverse_string_string.bits3 : waitsOk slices_Reverse_string_string.T3.2 slices_Reverse_string_string.B3 = true := by kernel_rfl
theorem slices_Reverse_string_string.calls (k : Nat) (P0_ : Nat → Prop) (u9000_ : Value) (l0 : List ByteArray) (r : List ByteArray) (w0 w : World) (hB : Below w0.heap.size w0 w) (ho0 : Kd.R Kd.string 9 w w0.heap.size P0_ u9000_ l0) (h : slices_Reverse_string_string.f k l0 = some r) :
    Calls Tryz.prog 106 #[u9000_] w fun e w' => e = .returned (.tuple #[]) ∧ Kd.R Kd.string 9 w' w0.heap.size (fun k_ => (P0_ k_ ∨ w.heap.size ≤ k_)) u9000_ r ∧ Below w0.heap.size w0 w' ∧ Kept w w' (fun k_ => P0_ k_) := by
 have HO0 := Aside0.mk (show Kd.R Kd.string 9 w w0.heap.size (fun k_ => (P0_ k_ ∨ w.heap.size ≤ k_)) u9000_ l0 from Kd.R_mono ho0 (fun k_ hk => (.inl hk)))
 have HK := Aside0.mk (Kept.refl w (fun k_ => P0_ k_))
 have HW0 := Aside0.mk hB.size
 have HB := Aside0.mk hB
 clear hB
 have H : (slices_Reverse_string_string.l0 k l0 0 (wrap64 ((l0.length : Int) - 1))) = some r := h
 clear h
 have H' := Aside0.mk H
 clear H
 obtain ⟨Ao2, co2, eo2⟩ := Kd.R_slice HO0.out
 subst eo2
 go_enter Tryz.func106, Tryz.ntmps106
 go_wp2
 go_loopg [2, 3] k (fun kq v2 v3 w' => ∃ (x0_1 : List ByteArray) (x2_1 : Int) (x3_1 : Int), v2 = .int .i64 x2_1 ∧ v3 = .int .i64 x3_1 ∧ Aside0 (slices_Reverse_string_string.l0 kq x0_1 x2_1 x3_1 = some r) ∧ Aside0 (kq ≤ k) ∧ Aside0 (Kd.R Kd.string 9 w' w0.heap.size (fun k_ => (P0_ k_ ∨ w.heap.size ≤ k_)) (.slice Ao2 l0.length co2) x0_1) ∧ Aside0 (Kept w w' (fun k_ => P0_ k_)) ∧ Aside0 (Below w0.heap.size w0 w'))
 case atStart => exact ⟨(l0), (0), (wrap64 ((l0.length : Int) - 1)), (by first | rfl | (simp; done) | (simp [*]; done)), (by first | rfl | (simp; done) | (simp [*]; done)), H', ⟨Nat.le_refl _⟩, ⟨by (with_reducible repeat (first | apply Kd.R_alloc | apply Kd.R_drewN | apply Kd.R_drew)); exact HO0.out⟩, ⟨by repeat (first | (with_reducible first | exact HK.out | apply Kept.alloc | apply Kept.drewN | apply Kept.drew) | exact HK.out)⟩, ⟨by repeat (first | (with_reducible first | exact HB.out | apply below_alloc | apply pw_below_drewN | apply below_drew1) | exact HB.out)⟩⟩
 case round =>
  clear H'
  try clear c1
  try clear p2
  obtain ⟨x0_1, x2_1, x3_1, rfl, rfl, HA, HK1, HO_0, HK, HB⟩ := hrel
  have hl0_1 := (Kd.R_reads' HO_0.out).1
  rw [hl0_1] at HO_0
  (try simp only [hl0_1])
  cases gk with
  | zero => exact absurd HA.out (by simp [slices_Reverse_string_string.l0])
  | succ k1 =>
   have H := HA.out
   clear HA
   simp only [slices_Reverse_string_string.l0] at H
   by_cases c3 : x2_1 < x3_1
   · rw [if_pos c3] at H
     have c3b0 : decide (x2_1 < x3_1) = true := decide_eq_true c3
     clear c3
     by_cases c4 : 0 ≤ x3_1
     · rw [if_pos c4] at H
       have c4b0 : decide (0 ≤ x3_1) = true := decide_eq_true c4
       clear c4
       by_cases c5 : x3_1 < (x0_1.length : Int)
       · rw [if_pos c5] at H
         have c5b0 : decide (x3_1 < (x0_1.length : Int)) = true := decide_eq_true c5
         clear c5
         by_cases c6 : 0 ≤ x2_1
         · rw [if_pos c6] at H
           have c6b0 : decide (0 ≤ x2_1) = true := decide_eq_true c6
           clear c6
           by_cases c7 : x2_1 < (x0_1.length : Int)
           · rw [if_pos c7] at H
             have c7b0 : decide (x2_1 < (x0_1.length : Int)) = true := decide_eq_true c7
             clear c7
             obtain ⟨y183, hy183⟩ : ∃ y_ : List ByteArray, y_ = (x0_1.set (x2_1 : Int).toNat (rdOf ByteArray.empty x0_1 x3_1)) := ⟨_, rfl⟩
             replace H : (slices_Reverse_string_string.l0 k1 (y183.set (x3_1 : Int).toNat (rdOf ByteArray.empty x0_1 x2_1)) (wrap64 (x2_1 + 1)) (wrap64 (x3_1 - 1))) = some r := by first | (rw [hy183]; with_reducible exact H) | (have H2_ := (Option.bind_some _ _).symm.trans H; rw [hy183]; with_reducible exact H2_) | (have H2_ := (Option.bind_some _ _).symm.trans H; with_reducible exact H2_) | with_reducible exact H | (rw [hy183]; exact H) | exact H
             have Ny183 := Aside0.mk hy183
             clear hy183
             obtain ⟨y184, hy184⟩ : ∃ y_ : List ByteArray, y_ = (y183.set (x3_1 : Int).toNat (rdOf ByteArray.empty x0_1 x2_1)) := ⟨_, rfl⟩
             replace H : (slices_Reverse_string_string.l0 k1 y184 (wrap64 (x2_1 + 1)) (wrap64 (x3_1 - 1))) = some r := by first | (rw [hy184]; with_reducible exact H) | (have H2_ := (Option.bind_some _ _).symm.trans H; rw [hy184]; with_reducible exact H2_) | (have H2_ := (Option.bind_some _ _).symm.trans H; with_reducible exact H2_) | with_reducible exact H | (rw [hy184]; exact H) | exact H
             have Ny184 := Aside0.mk hy184
             clear hy184
             have H' := Aside0.mk H
             clear H
             try go_wp2
             have n0_ := Aside0.mk (Kd.R_drew HO_0.out)
             have n1_ := Aside0.mk (Kept.drew HK.out)
             have n2_ := Aside0.mk (below_drew1 HB.out)
             clear HO_0
             clear HK
             clear HB
             have HO_0 := n0_
             have HK := n1_
             have HB := n2_
             clear n0_ n1_ n2_
             have p181 : 0 ≤ (x3_1 : Int) := of_decide_eq_true (by first | (with_reducible assumption) | assumption)
             have q181 : x3_1 < (x0_1.length : Int) := of_decide_eq_true (by first | (with_reducible assumption) | assumption)
             obtain ⟨ad181, e181, hx181_0⟩ := Kd.at_string (Kd.R_reads' HO_0.out).2.2 x3_1 p181 q181
             cases e181
             replace p181 := eq_true p181
             replace q181 := eq_true q181
             have p182 : 0 ≤ (x2_1 : Int) := of_decide_eq_true (by first | (with_reducible assumption) | assumption)
             have q182 : x2_1 < (x0_1.length : Int) := of_decide_eq_true (by first | (with_reducible assumption) | assumption)
             obtain ⟨ad182, e182, hx182_0⟩ := Kd.at_string (Kd.R_reads' HO_0.out).2.2 x2_1 p182 q182
             obtain rfl : ad181 = ad182 := (by injection e182)
             replace p182 := eq_true p182
             replace q182 := eq_true q182
             have p8 : 0 ≤ (x2_1 : Int) := of_decide_eq_true (by first | (with_reducible assumption) | assumption)
             have q8 : (x2_1 : Int) < ((x0_1.length : Int) : Int) := of_decide_eq_true (by first | (with_reducible assumption) | assumption)
             obtain ⟨go8, co8, eo8, gb8, gl8, cl8, HG8⟩ := Kd.R_form HO_0.out (by omega)
             (first | cases eo8 | (injection eo8 with ea_ en_ ec_; (first | subst ea_ | (injection ea_ with ea_; subst ea_)); subst ec_; clear en_))
             have GB8 := Aside0.mk gb8
             have GG8 := Aside0.mk HG8
             clear gb8 gl8 HG8
             have HMgo8 := Aside0.mk (show (P0_ go8 ∨ w.heap.size ≤ go8) from (HO_0.out.1 _ rfl))
             (first | simp only [add_plain] at hx181_0 | skip)
             (first | simp only [add_plain] at hx182_0 | skip)
             obtain ⟨hx8_0, hf8_0⟩ := Kd.R_celln (⟨#[]⟩ : ByteArray) HO_0.out (x2_1 : Int) p8 q8
             replace p8 := eq_true p8
             replace q8 := eq_true q8
             have HP11 := Kd.R_putn HO_0.out (x2_1 : Int) (rdOf ByteArray.empty x0_1 x3_1)
             rw [← Ny183.out] at HP11
             have HQ11 := Aside0.mk HP11
             clear HP11
             have p9 : 0 ≤ (x3_1 : Int) := of_decide_eq_true (by first | (with_reducible assumption) | assumption)
             have q9 : (x3_1 : Int) < ((x0_1.length : Int) : Int) := of_decide_eq_true (by first | (with_reducible assumption) | assumption)
             obtain ⟨hx9_0, hf9_0⟩ := Kd.R_celln (⟨#[]⟩ : ByteArray) HQ11.out (x3_1 : Int) p9 q9
             replace p9 := eq_true p9
             replace q9 := eq_true q9
             have HP12 := Kd.R_putn HQ11.out (x3_1 : Int) (rdOf ByteArray.empty x0_1 x2_1)
             rw [← Ny184.out] at HP12
             have HQ12 := Aside0.mk HP12
             clear HP12
             refine start_ (n := 16) (S := fun w' => w'.cell? ⟨go8, (x3_1).toNat, none⟩ = some (.string (rdOf ByteArray.empty x0_1 x3_1)) ∧ w'.cell? ⟨go8, (x2_1).toNat, none⟩ = some (.string (rdOf ByteArray.empty x0_1 x2_1))) (ds := [13, 15]) #[false, false, false, false, false, false, false, false, false, false, false, false, false, false, false, false] (by kernel_rfl) rfl rfl ⟨hx181_0, hx182_0⟩ (fun hHeld => ?_); refine with_tabW slices_Reverse_string_string.tab3 slices_Reverse_string_string.bits3 (fun HT_ HW_ => ?_)
             generalize wr.drew = w10 at HO_0 HK HB GG8 HQ11 HQ12 hf8_0 hf9_0 hx181_0 hx182_0 hx8_0 hx9_0 hHeld ⊢
             refine pure_ (i := 0) (N := some 14) (v := ?_) (a' := ?_) #[true, false, false, false, false, false, false, false, false, false, false, false, false, false, false, false] rfl rfl (any_of HT_.out (by kernel_rfl)) (fun _ _ _ h => h) (Or.inl ⟨by rfl, ?_⟩) ?_ ?_
             rotate_left
             · intro w'
               go_simp
               with_reducible rfl
             rotate_left
             · simp only [Act.put, List.setIfInBounds_toArray, List.set_cons_zero, List.set_cons_succ, i64_w, i32_w]
               rfl
             refine pure_ (i := 1) (N := some 15) (v := ?_) (a' := ?_) #[true, true, false, false, false, false, false, false, false, false, false, false, false, false, false, false] rfl rfl (any_of HT_.out (by kernel_rfl)) (fun _ _ _ h => h) (Or.inl ⟨by rfl, ?_⟩) ?_ ?_
             rotate_left
             · intro w'
               go_simp
               with_reducible rfl
             rotate_left
             · simp only [Act.put, List.setIfInBounds_toArray, List.set_cons_zero, List.set_cons_succ, i64_w, i32_w]
               rfl
             refine pure_ (i := 2) (N := some 16) (v := ?_) (a' := ?_) #[true, true, true, false, false, false, false, false, false, false, false, false, false, false, false, false] rfl rfl (any_of HT_.out (by kernel_rfl)) (fun _ _ _ h => h) (Or.inl ⟨by rfl, ?_⟩) ?_ ?_
             rotate_left
             · intro w'
               go_simp
               with_reducible rfl
             rotate_left
             · simp only [Act.put, List.setIfInBounds_toArray, List.set_cons_zero, List.set_cons_succ, i64_w, i32_w]
               rfl
             refine pure_ (i := 3) (N := some 17) (v := ?_) (a' := ?_) #[true, true, true, true, false, false, false, false, false, false, false, false, false, false, false, false] rfl rfl (any_of HT_.out (by kernel_rfl)) (fun _ _ _ h => h) (Or.inl ⟨by rfl, ?_⟩) ?_ ?_
             rotate_left
             · intro w'
               go_simp
               with_reducible rfl
             rotate_left
             · simp only [Act.put, List.setIfInBounds_toArray, List.set_cons_zero, List.set_cons_succ, i64_w, i32_w]
               rfl
             refine pure_ (i := 4) (N := some 18) (v := ?_) (a' := ?_) #[true, true, true, true, true, false, false, false, false, false, false, false, false, false, false, false] rfl rfl (any_of HT_.out (by kernel_rfl)) (fun _ _ _ h => h) (Or.inl ⟨by rfl, ?_⟩) ?_ ?_
             rotate_left
             · intro w'
               go_simp
               with_reducible rfl
             rotate_left
             · simp only [Act.put, List.setIfInBounds_toArray, List.set_cons_zero, List.set_cons_succ, i64_w, i32_w]
               rfl
             refine pure_ (i := 5) (N := some 19) (v := ?_) (a' := ?_) #[true, true, true, true, true, true, false, false, false, false, false, false, false, false, false, false] rfl rfl (any_of HT_.out (by kernel_rfl)) (fun _ _ _ h => h) (Or.inl ⟨by rfl, ?_⟩) ?_ ?_
             rotate_left
             · intro w'
               go_simp
               with_reducible rfl
             rotate_left
             · simp only [Act.put, List.setIfInBounds_toArray, List.set_cons_zero, List.set_cons_succ, i64_w, i32_w]
               rfl
             refine pure_ (i := 6) (N := some 20) (v := ?_) (a' := ?_) #[true, true, true, true, true, true, true, false, false, false, false, false, false, false, false, false] rfl rfl (any_of HT_.out (by kernel_rfl)) (fun _ _ _ h => h) (Or.inl ⟨by rfl, ?_⟩) ?_ ?_
             rotate_left
             · intro w'
               go_simp
               with_reducible rfl
             rotate_left
             · simp only [Act.put, List.setIfInBounds_toArray, List.set_cons_zero, List.set_cons_succ, i64_w, i32_w]
               rfl
             refine pure_ (i := 8) (N := some 22) (v := ?_) (a' := ?_) #[true, true, true, true, true, true, true, false, true, false, false, false, false, false, false, false] rfl rfl (any_of HT_.out (by kernel_rfl)) (fun _ _ _ h => h) (Or.inl ⟨by rfl, ?_⟩) ?_ ?_
             rotate_left
             · intro w'
               go_simp
               with_reducible rfl
             rotate_left
             · simp only [Act.put, List.setIfInBounds_toArray, List.set_cons_zero, List.set_cons_succ, i64_w, i32_w]
               rfl
             refine pure_ (i := 9) (N := some 23) (v := ?_) (a' := ?_) #[true, true, true, true, true, true, true, false, true, true, false, false, false, false, false, false] rfl rfl (any_of HT_.out (by kernel_rfl)) (fun _ _ _ h => h) (Or.inl ⟨by rfl, ?_⟩) ?_ ?_
             rotate_left
             · intro w'
               go_simp
               with_reducible rfl
             rotate_left
             · simp only [Act.put, List.setIfInBounds_toArray, List.set_cons_zero, List.set_cons_succ, i64_w, i32_w]
               rfl
             refine pure_ (i := 10) (N := some 24) (v := ?_) (a' := ?_) #[true, true, true, true, true, true, true, false, true, true, true, false, false, false, false, false] rfl rfl (any_of HT_.out (by kernel_rfl)) (fun _ _ _ h => h) (Or.inl ⟨by rfl, ?_⟩) ?_ ?_
             rotate_left
             · intro w'
               go_simp
               with_reducible rfl
             rotate_left
             · simp only [Act.put, List.setIfInBounds_toArray, List.set_cons_zero, List.set_cons_succ, i64_w, i32_w]
               rfl
             refine take_ (i := 7) (N := some 21) (v := ?_) (a' := ?_) #[true, true, true, true, true, true, true, true, true, true, true, false, false, false, false, false] rfl rfl (take_ofW HT_.out HW_.out (by kernel_rfl)) (fun _ _ _ h => h) (Or.inl ⟨by rfl, ?_⟩) hHeld ?_ ?_
             rotate_left
             · rintro w' ⟨s0, s1⟩
               go_simp
               with_reducible rfl
             rotate_left
             · simp only [Act.put, List.setIfInBounds_toArray, List.set_cons_zero, List.set_cons_succ, i64_w, i32_w]
               rfl
             refine take_ (i := 11) (N := some 25) (v := ?_) (a' := ?_) #[true, true, true, true, true, true, true, true, true, true, true, true, false, false, false, false] rfl rfl (take_ofW HT_.out HW_.out (by kernel_rfl)) (fun _ _ _ h => h) (Or.inl ⟨by rfl, ?_⟩) hHeld ?_ ?_
             rotate_left
             · rintro w' ⟨s0, s1⟩
               go_simp
               with_reducible rfl
             rotate_left
             · simp only [Act.put, List.setIfInBounds_toArray, List.set_cons_zero, List.set_cons_succ, i64_w, i32_w]
               rfl
             refine pure_ (i := 12) (N := some 26) (v := ?_) (a' := ?_) #[true, true, true, true, true, true, true, true, true, true, true, true, true, false, false, false] rfl rfl (any_of HT_.out (by kernel_rfl)) (fun _ _ _ h => h) (Or.inl ⟨by rfl, ?_⟩) ?_ ?_
             rotate_left
             · intro w'
               go_simp
               with_reducible rfl
             rotate_left
             · simp only [Act.put, List.setIfInBounds_toArray, List.set_cons_zero, List.set_cons_succ, i64_w, i32_w]
               rfl
             refine last_ (i := 13) (N := none) #[true, true, true, true, true, true, true, true, true, true, true, true, true, true, false, false] rfl rfl (one_of HT_.out (by kernel_rfl)) (by decide) (fun K hK => ?_)
             refine skip_ (w1 := ?_) (by rfl) rfl ?_ ?_
             rotate_left
             · go_simp
               rfl
             refine hK.out _ _ ?_
             clear hK K
             refine pure_ (i := 14) (N := some 27) (v := ?_) (a' := ?_) #[true, true, true, true, true, true, true, true, true, true, true, true, true, true, true, false] rfl rfl (any_of HT_.out (by kernel_rfl)) (fun _ _ _ h => h) (Or.inl ⟨by rfl, ?_⟩) ?_ ?_
             rotate_left
             · intro w'
               go_simp
               with_reducible rfl
             rotate_left
             · simp only [Act.put, List.setIfInBounds_toArray, List.set_cons_zero, List.set_cons_succ, i64_w, i32_w]
               rfl
             refine last_ (i := 15) (N := none) #[true, true, true, true, true, true, true, true, true, true, true, true, true, true, true, true] rfl rfl (one_of HT_.out (by kernel_rfl)) (by decide) (fun K hK => ?_)
             refine skip_ (w1 := ?_) (by rfl) rfl ?_ ?_
             rotate_left
             · go_simp
               rfl
             refine hK.out _ _ ?_
             clear hK K
             refine done_ (done_of HT_.out (by kernel_rfl)) ?_
             try go_wp2
             (try simp only [← hl0_1])
             go_roundg k1
             case measure => have := HK1.out; omega
             case rel => exact ⟨(y184), (wrap64 (x2_1 + 1)), (wrap64 (x3_1 - 1)), (by first | rfl | (simp; done) | (simp [*]; done)), (by first | rfl | (simp; done) | (simp [*]; done)), H', ⟨by have := HK1.out; omega⟩, ⟨by (try simp only [hl0_1]); (with_reducible repeat (first | apply Kd.R_alloc | apply Kd.R_drewN | apply Kd.R_drew)); exact HQ12.out⟩, ⟨by repeat (first | (with_reducible first | exact HK.out | apply Kept.alloc | apply Kept.drewN | apply Kept.drew | refine Kept.setCell ?_ HMgo8.out _ | refine Kept.setCell ?_ HMgo8.out _) | exact HK.out)⟩, ⟨by repeat (first | (with_reducible first | exact HB.out | apply below_alloc | apply pw_below_drewN | apply below_drew1 | refine below_set ?_ GB8.out | refine below_set ?_ GB8.out) | exact HB.out)⟩⟩
           · rw [if_neg c7] at H
             exact absurd H (by simp)
         · rw [if_neg c6] at H
           exact absurd H (by simp)
       · rw [if_neg c5] at H
         exact absurd H (by simp)
     · rw [if_neg c4] at H
       exact absurd H (by simp)
   · rw [if_neg c3] at H
     have c3b0 : decide (x2_1 < x3_1) = false := decide_eq_false c3
     clear c3
     obtain rfl := Option.some.inj H
     go_wp2
     first | go_end0 | ((try simp only [Exit.inBlock, Exit.then]); refine bodyPost_ret (results_none rfl _ _ _) rfl ?_)
     exact ⟨by first | rfl | (simp [errW_none, errW_some] <;> rfl) | (simp [*, errW_none, errW_some] <;> rfl), (by first | exact (by (with_reducible repeat (first | apply Kd.R_alloc | apply Kd.R_drewN | apply Kd.R_drew)); exact HO_0.out) | (simp only [hl0_1]; exact (by (with_reducible repeat (first | apply Kd.R_alloc | apply Kd.R_drewN | apply Kd.R_drew)); exact HO_0.out))), by repeat (first | (with_reducible first | exact HB.out | apply below_alloc | apply pw_below_drewN | apply below_drew1) | exact HB.out), by repeat (first | (with_reducible first | exact HK.out | apply Kept.alloc | apply Kept.drewN | apply Kept.drew) | exact HK.out)⟩
attribute [local go_sem] max2_int min2_int max_two min_two max_three min_three max_four min_four   -- for this text's walks alone
set_option linter.unusedVariables false
set_option linter.unusedSimpArgs false
def tree_path.l0 : Nat → List (S53) → Int → List ByteArray → Option (List ByteArray)
 | 0, _, _, _ => none
 | k + 1, x0, x1, x5 => if x1 = (-1) then ((slices_Reverse_string_string.f k x5).bind fun t185 => (some t185)) else (if 0 ≤ x1 then (if x1 < (x0.length : Int) then (if x5.length < 8796093022208 then (tree_path.l0 k x0 ((rd_T53 x0 x1).f0) (x5 ++ [(rd_T53 x0 x1).f1])) else (none)) else (none)) else (none))
def tree_path.f (k : Nat) (l0 : List (S53)) (a1 : Int) : Option (List ByteArray) := tree_path.l0 k l0 a1 ([] : List ByteArray)
theorem tree_path.calls (k : Nat) (A0 : Option Addr) (c0 : Nat) (l0 : List (S53)) (a1 : Int) (r : List ByteArray) (w : World) (hr0 : Kd.C k53 w A0 l0.length l0) (hc0 : l0.length ≤ c0) (h : tree_path.f k l0 a1 = some r) :
    Calls Tryz.prog 77 #[.slice A0 l0.length c0, .int .i64 a1] w fun e w' => ∃ v0_ : Value, e = .returned (v0_) ∧ Kd.R Kd.string 9 w' w.heap.size (fun _ => True) v0_ r ∧ Below w.heap.size w w' := by
 have HR0 := Aside0.mk hr0
 have HC0 := Aside0.mk hc0
 clear hr0 hc0
 have HB := Aside0.mk (Below.refl w.heap.size w)
 have H : (tree_path.l0 k l0 a1 ([] : List ByteArray)) = some r := h
 clear h
 have H' := Aside0.mk H
 clear H
 go_enter Tryz.func77, Tryz.ntmps77
 go_wp2
 go_loopg [1, 5] k (fun kq v1 v5 w' => ∃ (x1_1 : Int) (x5_1 : List ByteArray), v1 = .int .i64 x1_1 ∧ Aside0 (tree_path.l0 kq l0 x1_1 x5_1 = some r) ∧ Aside0 (kq ≤ k) ∧ Aside0 (Kd.R Kd.string 9 w' w.heap.size (fun _ => True) v5 x5_1) ∧ Aside0 (Below w.heap.size w w'))
 case atStart => exact ⟨(a1), (([] : List ByteArray)), (by first | rfl | (simp; done) | (simp [*]; done)), H', ⟨Nat.le_refl _⟩, ⟨by first | exact Kd.R_nil _ _ _ _ _ | exact Kd.N_nil _ _ _ _ _ | exact Kd.V_nil _ _ _ _ _ | exact Kd.Q_nil _ _ _ _ _ | exact Kd.S_nil _ _ _ _ _⟩, ⟨by repeat (first | (with_reducible first | exact HB.out | apply below_alloc | apply pw_below_drewN | apply below_drew1) | exact HB.out)⟩⟩
 case round =>
  clear H'
  try clear p2
  obtain ⟨x1_1, x5_1, rfl, HA, HK1, HO_5, HB⟩ := hrel
  cases gk with
  | zero => exact absurd HA.out (by simp [tree_path.l0])
  | succ k1 =>
   have H := HA.out
   clear HA
   simp only [tree_path.l0] at H
   by_cases c3 : x1_1 = (-1)
   · rw [if_pos c3] at H
     have c3b0 : (x1_1 == (-1)) = true := beq_iff_eq.mpr c3
     have c3b1 : (x1_1 != (-1)) = false := bne_eq_false_iff_eq.mpr c3
     clear c3
     replace H := Option.bind_eq_some_iff.mp H
     obtain ⟨t185, A40, H⟩ := H
     replace H : (some t185) = some r := H
     have A4 := Aside0.mk A40
     clear A40
     obtain rfl := Option.some.inj H
     obtain ⟨Ao5, co5, eo5⟩ := Kd.R_slice HO_5.out
     subst eo5
     go_wp2_with (first | ((with_reducible refine gate_callee (f := 106) rfl ?_); refine goesL_ (some 22) rfl rfl Tryz.func106 (by kernel_rfl) rfl #[.slice Ao5 x5_1.length co5] rfl (by (try simp only [List.map_toArray, List.map_cons, List.map_nil]); first | done | rfl | (simp only [List.length_drop, List.length_take]; rfl)) ?_; (with_reducible refine (slices_Reverse_string_string.calls k1 (fun k_ => some k_ = (.slice Ao5 x5_1.length co5 : Value).ownBlock) (.slice Ao5 x5_1.length co5) x5_1 t185 w _ ?side1 ?side2 A4.out).mono ?_); (case side1 => repeat (first | (with_reducible first | exact HB.out | apply below_alloc | apply pw_below_drewN | apply below_drew1) | exact HB.out)); (case side2 => exact Kd.R_tight rfl HO_5.out); rintro e w6 ⟨rfl, hy0, hb, hkp⟩; refine ⟨_, rfl, ?_⟩; have n0_ := Aside0.mk (Kd.R_reok rfl hy0 (fun k_ e_ => HO_5.out.1 k_ e_)); have n1_ := Aside0.mk (hb); clear HO_5; clear HB; have HO_5 := n0_; have HB := n1_; clear n0_ n1_; (try clear hb); (try clear hkp); (try clear hy0)))
     go_ret
     exact ⟨_, by first | rfl | (simp [errW_none, errW_some] <;> rfl) | (simp [*, errW_none, errW_some] <;> rfl), by (with_reducible repeat (first | apply Kd.R_alloc | apply Kd.R_drewN | apply Kd.R_drew)); exact HO_5.out, by repeat (first | (with_reducible first | exact HB.out | apply below_alloc | apply pw_below_drewN | apply below_drew1) | exact HB.out)⟩
   · rw [if_neg c3] at H
     have c3b0 : (x1_1 == (-1)) = false := beq_eq_false_iff_ne.mpr c3
     have c3b1 : (x1_1 != (-1)) = true := bne_iff_ne.mpr c3
     by_cases c7 : 0 ≤ x1_1
     · rw [if_pos c7] at H
       have c7b0 : decide (0 ≤ x1_1) = true := decide_eq_true c7
       clear c7
       by_cases c8 : x1_1 < (l0.length : Int)
       · rw [if_pos c8] at H
         have c8b0 : decide (x1_1 < (l0.length : Int)) = true := decide_eq_true c8
         clear c8
         by_cases c9 : x5_1.length < 8796093022208
         · rw [if_pos c9] at H
           have LMc9 := Aside0.mk c9
           clear c9
           obtain ⟨y187, hy187⟩ : ∃ y_ : List ByteArray, y_ = (x5_1 ++ [(rd_T53 l0 x1_1).f1]) := ⟨_, rfl⟩
           replace H : (tree_path.l0 k1 l0 ((rd_T53 l0 x1_1).f0) y187) = some r := by first | (rw [hy187]; with_reducible exact H) | (have H2_ := (Option.bind_some _ _).symm.trans H; rw [hy187]; with_reducible exact H2_) | (have H2_ := (Option.bind_some _ _).symm.trans H; with_reducible exact H2_) | with_reducible exact H | (rw [hy187]; exact H) | exact H
           have Ny187 := Aside0.mk hy187
           clear hy187
           have H' := Aside0.mk H
           clear H
           have p186 : 0 ≤ (x1_1 : Int) := of_decide_eq_true (by first | (with_reducible assumption) | assumption)
           have q186 : x1_1 < (l0.length : Int) := of_decide_eq_true (by first | (with_reducible assumption) | assumption)
           obtain ⟨ad186, A186_3, c186_3, e186, hx186_0, hx186_1, hx186_2, hx186_3, hl186_3, hi186_3⟩ := at_T53 HR0.out x1_1 p186 q186
           cases e186
           replace hx186_0 := (HB.out.cell (World.block_lt_of_cell? w _ hx186_0)).trans hx186_0
           replace hx186_1 := (HB.out.cell (World.block_lt_of_cell? w _ hx186_1)).trans hx186_1
           replace hx186_2 := (HB.out.cell (World.block_lt_of_cell? w _ hx186_2)).trans hx186_2
           replace hx186_3 := (HB.out.cell (World.block_lt_of_cell? w _ hx186_3)).trans hx186_3
           have HR186_3 := Aside0.mk hi186_3
           have HC186_3 := Aside0.mk hl186_3
           clear hi186_3 hl186_3
           replace p186 := eq_true p186
           replace q186 := eq_true q186
           go_wp2_with (first | ((with_reducible refine gate_builtin (b := .append) (xs := #[.tmp 13, .tmp 19]) rfl ?_); at_builtin; refine Kd.R_append Kd.string (w0 := w) w.heap.size rfl (.tmp 13) (.tmp 19) 65 9 (.string ⟨#[]⟩) 16 rfl Tryz.underlying65 info9 rfl (by decide) (by omega) u5 x5_1 ((rd_T53 l0 x1_1).f1) [.string ((rd_T53 l0 x1_1).f1)] (fun _ => True) (fun _ => False) rfl rfl ?aP (fun _ hk => hk.elim) ?aF ?aO ?aB ?aS ?aL ?_; (case aP => exact rfl); (case aB => exact (by repeat (first | (with_reducible first | exact HB.out | apply below_alloc | apply pw_below_drewN | apply below_drew1) | exact HB.out))); (case aF => exact (fun _ _ => trivial)); (case aO => exact (by (with_reducible repeat (first | apply Kd.R_alloc | apply Kd.R_drewN | apply Kd.R_drew)); exact HO_5.out)); (case aS => exact (below_size (by repeat (first | (with_reducible first | exact HB.out | apply below_alloc | apply pw_below_drewN | apply below_drew1) | exact HB.out)))); (case aL => have := LMc9.out; omega); intro v188 w10 ho hb hg hat; rw [← Ny187.out] at ho; have n0_ := Aside0.mk (hb); have n1_ := Aside0.mk (ho); clear HB; clear HO_5; have HB := n0_; have HO189 := n1_; clear n0_ n1_; clear ho hb hg hat; have p190 : 0 ≤ (x1_1 : Int) := of_decide_eq_true (by first | (with_reducible assumption) | assumption); have q190 : x1_1 < (l0.length : Int) := of_decide_eq_true (by first | (with_reducible assumption) | assumption); obtain ⟨ad190, A190_3, c190_3, e190, hx190_0, hx190_1, hx190_2, hx190_3, hl190_3, hi190_3⟩ := at_T53 HR0.out x1_1 p190 q190; obtain rfl : ad186 = ad190 := (by injection e190); replace hx190_0 := (HB.out.cell (World.block_lt_of_cell? w _ hx190_0)).trans hx190_0; replace hx190_1 := (HB.out.cell (World.block_lt_of_cell? w _ hx190_1)).trans hx190_1; replace hx190_2 := (HB.out.cell (World.block_lt_of_cell? w _ hx190_2)).trans hx190_2; replace hx190_3 := (HB.out.cell (World.block_lt_of_cell? w _ hx190_3)).trans hx190_3; have HR190_3 := Aside0.mk hi190_3; have HC190_3 := Aside0.mk hl190_3; clear hi190_3 hl190_3; replace p190 := eq_true p190; replace q190 := eq_true q190))
           go_roundg k1
           case measure => have := HK1.out; omega
           case rel => exact ⟨((rd_T53 l0 x1_1).f0), (y187), (by first | rfl | (simp; done) | (simp [*]; done)), H', ⟨by have := HK1.out; omega⟩, ⟨by (with_reducible repeat (first | apply Kd.R_alloc | apply Kd.R_drewN | apply Kd.R_drew)); exact HO189.out⟩, ⟨by repeat (first | (with_reducible first | exact HB.out | apply below_alloc | apply pw_below_drewN | apply below_drew1) | exact HB.out)⟩⟩
         · rw [if_neg c9] at H
           exact absurd H (by simp)
       · rw [if_neg c8] at H
         exact absurd H (by simp)
     · rw [if_neg c7] at H
       exact absurd H (by simp)
def gessoref13_Name.l0 : Nat → ByteArray → Int → Option (Bool)
 | 0, _, _ => none
 | k + 1, x0, x3 => if x3 < (x0.size : Int) then (if 0 ≤ x3 then (if (bt x0 x3) = 0 then (some false) else (if (bt x0 x3) = 47 then (some false) else (gessoref13_Name.l0 k x0 (wrap64 (x3 + 1))))) else (none)) else (if (x0.size : Int) ≥ 1 then (some (decide ((x0.size : Int) ≤ 64))) else (some false))
def gessoref13_Name.f (k : Nat) (a0 : ByteArray) : Option (Bool) := gessoref13_Name.l0 k a0 0
theorem gessoref13_Name.calls (k : Nat) (a0 : ByteArray) (r : Bool) (w : World) (h : gessoref13_Name.f k a0 = some r) :
    Calls Tryz.prog 120 #[.string a0] w fun e w' => e = .returned (.bool r) ∧ Drawn0 w w' := by
 have H : (gessoref13_Name.l0 k a0 0) = some r := h
 clear h
 have H' := Aside0.mk H
 clear H
 go_enter Tryz.func120, Tryz.ntmps120
 go_wp2
 go_loopg [3] k (fun kq v3 w' => ∃ (x3_1 : Int), v3 = .int .i64 x3_1 ∧ Aside0 (gessoref13_Name.l0 kq a0 x3_1 = some r) ∧ Aside0 (kq ≤ k) ∧ Drawn0 w w')
 case atStart => exact ⟨(0), (by first | rfl | (simp; done) | (simp [*]; done)), H', ⟨Nat.le_refl _⟩, by repeat (first | exact Drawn0.refl _ | apply Drawn0.step)⟩
 case round =>
  clear H'
  try clear c1
  obtain ⟨x3_1, rfl, HA, HK1, ⟨m1, rfl⟩⟩ := hrel
  cases gk with
  | zero => exact absurd HA.out (by simp [gessoref13_Name.l0])
  | succ k1 =>
   have H := HA.out
   clear HA
   simp only [gessoref13_Name.l0] at H
   by_cases c2 : x3_1 < (a0.size : Int)
   · rw [if_pos c2] at H
     have c2b0 : decide (x3_1 < (a0.size : Int)) = true := decide_eq_true c2
     clear c2
     by_cases c3 : 0 ≤ x3_1
     · rw [if_pos c3] at H
       have c3b0 : decide (0 ≤ x3_1) = true := decide_eq_true c3
       clear c3
       by_cases c5 : (bt a0 x3_1) = 0
       · rw [if_pos c5] at H
         have c5b0 : ((bt a0 x3_1) == 0) = true := beq_iff_eq.mpr c5
         have c5b1 : ((bt a0 x3_1) != 0) = false := bne_eq_false_iff_eq.mpr c5
         clear c5
         obtain rfl := Option.some.inj H
         have p4 : 0 ≤ (x3_1 : Int) := of_decide_eq_true (by first | (with_reducible assumption) | assumption)
         have q4 : x3_1 < (a0.size : Int) := of_decide_eq_true (by first | (with_reducible assumption) | assumption)
         have hx4 := bt_at a0 x3_1
         replace p4 := eq_true p4
         replace q4 := eq_true q4
         go_wp2
         go_ret
         exact ⟨by first | rfl | (simp; done) | (simp [*]; done), by repeat (first | exact Drawn0.refl _ | apply Drawn0.step)⟩
       · rw [if_neg c5] at H
         have c5b0 : ((bt a0 x3_1) == 0) = false := beq_eq_false_iff_ne.mpr c5
         have c5b1 : ((bt a0 x3_1) != 0) = true := bne_iff_ne.mpr c5
         by_cases c7 : (bt a0 x3_1) = 47
         · rw [if_pos c7] at H
           have c7b0 : ((bt a0 x3_1) == 47) = true := beq_iff_eq.mpr c7
           have c7b1 : ((bt a0 x3_1) != 47) = false := bne_eq_false_iff_eq.mpr c7
           clear c7
           obtain rfl := Option.some.inj H
           have p4 : 0 ≤ (x3_1 : Int) := of_decide_eq_true (by first | (with_reducible assumption) | assumption)
           have q4 : x3_1 < (a0.size : Int) := of_decide_eq_true (by first | (with_reducible assumption) | assumption)
           have hx4 := bt_at a0 x3_1
           replace p4 := eq_true p4
           replace q4 := eq_true q4
           have p6 : 0 ≤ (x3_1 : Int) := of_decide_eq_true (by first | (with_reducible assumption) | assumption)
           have q6 : x3_1 < (a0.size : Int) := of_decide_eq_true (by first | (with_reducible assumption) | assumption)
           have hx6 := bt_at a0 x3_1
           replace p6 := eq_true p6
           replace q6 := eq_true q6
           go_wp2
           go_ret
           exact ⟨by first | rfl | (simp; done) | (simp [*]; done), by repeat (first | exact Drawn0.refl _ | apply Drawn0.step)⟩
         · rw [if_neg c7] at H
           have c7b0 : ((bt a0 x3_1) == 47) = false := beq_eq_false_iff_ne.mpr c7
           have c7b1 : ((bt a0 x3_1) != 47) = true := bne_iff_ne.mpr c7
           have H' := Aside0.mk H
           clear H
           have p4 : 0 ≤ (x3_1 : Int) := of_decide_eq_true (by first | (with_reducible assumption) | assumption)
           have q4 : x3_1 < (a0.size : Int) := of_decide_eq_true (by first | (with_reducible assumption) | assumption)
           have hx4 := bt_at a0 x3_1
           replace p4 := eq_true p4
           replace q4 := eq_true q4
           have p6 : 0 ≤ (x3_1 : Int) := of_decide_eq_true (by first | (with_reducible assumption) | assumption)
           have q6 : x3_1 < (a0.size : Int) := of_decide_eq_true (by first | (with_reducible assumption) | assumption)
           have hx6 := bt_at a0 x3_1
           replace p6 := eq_true p6
           replace q6 := eq_true q6
           go_wp2
           go_roundg k1
           case measure => have := HK1.out; omega
           case rel => exact ⟨(wrap64 (x3_1 + 1)), (by first | rfl | (simp; done) | (simp [*]; done)), H', ⟨by have := HK1.out; omega⟩, by repeat (first | exact Drawn0.refl _ | apply Drawn0.step)⟩
     · rw [if_neg c3] at H
       exact absurd H (by simp)
   · rw [if_neg c2] at H
     have c2b0 : decide (x3_1 < (a0.size : Int)) = false := decide_eq_false c2
     clear c2
     by_cases c8 : (a0.size : Int) ≥ 1
     · rw [if_pos c8] at H
       have c8b0 : decide (1 ≤ (a0.size : Int)) = true := decide_eq_true c8
       have c8b1 : decide (1 ≤ a0.size) = true := decide_eq_true (by omega)
       clear c8
       obtain rfl := Option.some.inj H
       go_wp2
       go_ret
       exact ⟨by first | rfl | (simp; done) | (simp [*]; done), by repeat (first | exact Drawn0.refl _ | apply Drawn0.step)⟩
     · rw [if_neg c8] at H
       have c8b0 : decide (1 ≤ (a0.size : Int)) = false := decide_eq_false c8
       have c8b1 : decide (1 ≤ a0.size) = false := decide_eq_false (by omega)
       clear c8
       obtain rfl := Option.some.inj H
       go_wp2
       go_ret
       exact ⟨by first | rfl | (simp; done) | (simp [*]; done), by repeat (first | exact Drawn0.refl _ | apply Drawn0.step)⟩
def gessoref14_deep.l0 : Nat → List (S53) → Int → Int → Option (Int)
 | 0, _, _, _ => none
 | k + 1, x0, x1, x5 => if 0 ≤ x1 then (if x1 < (x0.length : Int) then (if ((rd_T53 x0 x1).f0) ≥ 0 then (gessoref14_deep.l0 k x0 ((rd_T53 x0 x1).f0) (wrap64 (x5 + 1))) else (some x5)) else (none)) else (none)
def gessoref14_deep.f (k : Nat) (l0 : List (S53)) (a1 : Int) : Option (Int) := gessoref14_deep.l0 k l0 a1 1
theorem gessoref14_deep.calls (k : Nat) (A0 : Option Addr) (c0 : Nat) (l0 : List (S53)) (a1 : Int) (r : Int) (w : World) (hr0 : Kd.C k53 w A0 l0.length l0) (hc0 : l0.length ≤ c0) (h : gessoref14_deep.f k l0 a1 = some r) :
    Calls Tryz.prog 121 #[.slice A0 l0.length c0, .int .i64 a1] w fun e w' => e = .returned (.int .i64 r) ∧ Drawn0 w w' := by
 have HR0 := Aside0.mk hr0
 have HC0 := Aside0.mk hc0
 clear hr0 hc0
 have H : (gessoref14_deep.l0 k l0 a1 1) = some r := h
 clear h
 have H' := Aside0.mk H
 clear H
 go_enter Tryz.func121, Tryz.ntmps121
 go_wp2
 go_loopg [1, 5] k (fun kq v1 v5 w' => ∃ (x1_1 : Int) (x5_1 : Int), v1 = .int .i64 x1_1 ∧ v5 = .int .i64 x5_1 ∧ Aside0 (gessoref14_deep.l0 kq l0 x1_1 x5_1 = some r) ∧ Aside0 (kq ≤ k) ∧ Drawn0 w w')
 case atStart => exact ⟨(a1), (1), (by first | rfl | (simp; done) | (simp [*]; done)), (by first | rfl | (simp; done) | (simp [*]; done)), H', ⟨Nat.le_refl _⟩, by repeat (first | exact Drawn0.refl _ | apply Drawn0.step)⟩
 case round =>
  clear H'
  try clear c1
  try clear p2
  obtain ⟨x1_1, x5_1, rfl, rfl, HA, HK1, ⟨m1, rfl⟩⟩ := hrel
  cases gk with
  | zero => exact absurd HA.out (by simp [gessoref14_deep.l0])
  | succ k1 =>
   have H := HA.out
   clear HA
   simp only [gessoref14_deep.l0] at H
   by_cases c3 : 0 ≤ x1_1
   · rw [if_pos c3] at H
     have c3b0 : decide (0 ≤ x1_1) = true := decide_eq_true c3
     clear c3
     by_cases c4 : x1_1 < (l0.length : Int)
     · rw [if_pos c4] at H
       have c4b0 : decide (x1_1 < (l0.length : Int)) = true := decide_eq_true c4
       clear c4
       by_cases c5 : ((rd_T53 l0 x1_1).f0) ≥ 0
       · rw [if_pos c5] at H
         have c5b0 : decide (0 ≤ ((rd_T53 l0 x1_1).f0)) = true := decide_eq_true c5
         clear c5
         have H' := Aside0.mk H
         clear H
         have p202 : 0 ≤ (x1_1 : Int) := of_decide_eq_true (by first | (with_reducible assumption) | assumption)
         have q202 : x1_1 < (l0.length : Int) := of_decide_eq_true (by first | (with_reducible assumption) | assumption)
         obtain ⟨ad202, A202_3, c202_3, e202, hx202_0, hx202_1, hx202_2, hx202_3, hl202_3, hi202_3⟩ := at_T53 HR0.out x1_1 p202 q202
         cases e202
         have HR202_3 := Aside0.mk hi202_3
         have HC202_3 := Aside0.mk hl202_3
         clear hi202_3 hl202_3
         replace p202 := eq_true p202
         replace q202 := eq_true q202
         have p203 : 0 ≤ (x1_1 : Int) := of_decide_eq_true (by first | (with_reducible assumption) | assumption)
         have q203 : x1_1 < (l0.length : Int) := of_decide_eq_true (by first | (with_reducible assumption) | assumption)
         obtain ⟨ad203, A203_3, c203_3, e203, hx203_0, hx203_1, hx203_2, hx203_3, hl203_3, hi203_3⟩ := at_T53 HR0.out x1_1 p203 q203
         obtain rfl : ad202 = ad203 := (by injection e203)
         have HR203_3 := Aside0.mk hi203_3
         have HC203_3 := Aside0.mk hl203_3
         clear hi203_3 hl203_3
         replace p203 := eq_true p203
         replace q203 := eq_true q203
         have ea_ := Option.some.inj (hx202_3.symm.trans hx203_3)
         injection ea_ with ea_ en_ ec_
         subst ea_
         subst ec_
         clear en_
         go_wp2
         go_roundg k1
         case measure => have := HK1.out; omega
         case rel => exact ⟨((rd_T53 l0 x1_1).f0), (wrap64 (x5_1 + 1)), (by first | rfl | (simp; done) | (simp [*]; done)), (by first | rfl | (simp; done) | (simp [*]; done)), H', ⟨by have := HK1.out; omega⟩, by repeat (first | exact Drawn0.refl _ | apply Drawn0.step)⟩
       · rw [if_neg c5] at H
         have c5b0 : decide (0 ≤ ((rd_T53 l0 x1_1).f0)) = false := decide_eq_false c5
         clear c5
         obtain rfl := Option.some.inj H
         have p202 : 0 ≤ (x1_1 : Int) := of_decide_eq_true (by first | (with_reducible assumption) | assumption)
         have q202 : x1_1 < (l0.length : Int) := of_decide_eq_true (by first | (with_reducible assumption) | assumption)
         obtain ⟨ad202, A202_3, c202_3, e202, hx202_0, hx202_1, hx202_2, hx202_3, hl202_3, hi202_3⟩ := at_T53 HR0.out x1_1 p202 q202
         cases e202
         have HR202_3 := Aside0.mk hi202_3
         have HC202_3 := Aside0.mk hl202_3
         clear hi202_3 hl202_3
         replace p202 := eq_true p202
         replace q202 := eq_true q202
         go_wp2
         go_ret
         exact ⟨by first | rfl | (simp; done) | (simp [*]; done), by repeat (first | exact Drawn0.refl _ | apply Drawn0.step)⟩
     · rw [if_neg c4] at H
       exact absurd H (by simp)
   · rw [if_neg c3] at H
     exact absurd H (by simp)
attribute [local go_sem] max2_int min2_int max_two min_two max_three min_three max_four min_four   -- for this text's walks alone
set_option linter.unusedVariables false
set_option linter.unusedSimpArgs false
mutual
 def gessoref14_one.j0 : Nat → List (S53) → Int → Bool → Int → ByteArray → Bool → List Int → Option (Bool)
  | 0, _, _, _, _, _, _, _ => none
  | k + 1, x0, x1, x33, x206000, x206001, x206002, x206003 => if x33 = true then (some false) else ((gessoref13_Name.f k x206001).bind fun t207 => (if t207 = true then (if (x206001.size : Int) > 48 then (gessoref14_one.j1 k x0 x1 true x206000 x206001 x206002 x206003) else (if x206002 = true then (if (x206003.length : Int) > 0 then (gessoref14_one.j1 k x0 x1 true x206000 x206001 x206002 x206003) else (if (x206003.length : Int) > 8192 then (gessoref14_one.j1 k x0 x1 true x206000 x206001 x206002 x206003) else ((gessoref14_deep.f k x0 x1).bind fun t208 => (gessoref14_one.j1 k x0 x1 (decide (t208 > 8)) x206000 x206001 x206002 x206003)))) else (if (x206003.length : Int) > 8192 then (gessoref14_one.j1 k x0 x1 true x206000 x206001 x206002 x206003) else ((gessoref14_deep.f k x0 x1).bind fun t209 => (gessoref14_one.j1 k x0 x1 (decide (t209 > 8)) x206000 x206001 x206002 x206003))))) else (gessoref14_one.j1 k x0 x1 true x206000 x206001 x206002 x206003)))
 def gessoref14_one.j1 : Nat → List (S53) → Int → Bool → Int → ByteArray → Bool → List Int → Option (Bool)
  | 0, _, _, _, _, _, _, _ => none
  | k + 1, x0, x1, x65, x206000, x206001, x206002, x206003 => if x65 = true then (some false) else (gessoref14_one.l0 k x0 x1 0 x206000 x206001 x206002 x206003)
 def gessoref14_one.l0 : Nat → List (S53) → Int → Int → Int → ByteArray → Bool → List Int → Option (Bool)
  | 0, _, _, _, _, _, _, _ => none
  | k + 1, x0, x1, x6, x206000, x206001, x206002, x206003 => if x6 < x1 then (if 0 ≤ x6 then (if x6 < (x0.length : Int) then (if ((rd_T53 x0 x6).f0) = x206000 then (if ((rd_T53 x0 x6).f1).toList = x206001.toList then (some false) else (gessoref14_one.l0 k x0 x1 (wrap64 (x6 + 1)) x206000 x206001 x206002 x206003)) else (gessoref14_one.l0 k x0 x1 (wrap64 (x6 + 1)) x206000 x206001 x206002 x206003)) else (none)) else (none)) else (some true)
 end
def gessoref14_one.f (k : Nat) (l0 : List (S53)) (a1 : Int) : Option (Bool) := if 0 ≤ a1 then (if a1 < (l0.length : Int) then (if ((rd_T53 l0 a1).f0) < (-1) then (gessoref14_one.j0 k l0 a1 true ((rd_T53 l0 a1).f0) ((rd_T53 l0 a1).f1) ((rd_T53 l0 a1).f2) ((rd_T53 l0 a1).f3)) else (if ((rd_T53 l0 a1).f0) ≥ a1 then (gessoref14_one.j0 k l0 a1 true ((rd_T53 l0 a1).f0) ((rd_T53 l0 a1).f1) ((rd_T53 l0 a1).f2) ((rd_T53 l0 a1).f3)) else (if ((rd_T53 l0 a1).f0) ≥ 0 then (if 0 ≤ ((rd_T53 l0 a1).f0) then (if ((rd_T53 l0 a1).f0) < (l0.length : Int) then (gessoref14_one.j0 k l0 a1 (!((rd_T53 l0 ((rd_T53 l0 a1).f0)).f2)) ((rd_T53 l0 a1).f0) ((rd_T53 l0 a1).f1) ((rd_T53 l0 a1).f2) ((rd_T53 l0 a1).f3)) else (none)) else (none)) else (gessoref14_one.j0 k l0 a1 false ((rd_T53 l0 a1).f0) ((rd_T53 l0 a1).f1) ((rd_T53 l0 a1).f2) ((rd_T53 l0 a1).f3))))) else (none)) else (none)
theorem gessoref14_one.calls (k : Nat) (A0 : Option Addr) (c0 : Nat) (l0 : List (S53)) (a1 : Int) (r : Bool) (w : World) (hr0 : Kd.C k53 w A0 l0.length l0) (hc0 : l0.length ≤ c0) (h : gessoref14_one.f k l0 a1 = some r) :
    Calls Tryz.prog 86 #[.slice A0 l0.length c0, .int .i64 a1] w fun e w' => e = .returned (.bool r) ∧ Below w.heap.size w w' := by
 have hu53 := Tryz.underlying53
 have HR0 := Aside0.mk hr0
 have HC0 := Aside0.mk hc0
 clear hr0 hc0
 have HB := Aside0.mk (Below.refl w.heap.size w)
 have H : (if 0 ≤ a1 then (if a1 < (l0.length : Int) then (if ((rd_T53 l0 a1).f0) < (-1) then (gessoref14_one.j0 k l0 a1 true ((rd_T53 l0 a1).f0) ((rd_T53 l0 a1).f1) ((rd_T53 l0 a1).f2) ((rd_T53 l0 a1).f3)) else (if ((rd_T53 l0 a1).f0) ≥ a1 then (gessoref14_one.j0 k l0 a1 true ((rd_T53 l0 a1).f0) ((rd_T53 l0 a1).f1) ((rd_T53 l0 a1).f2) ((rd_T53 l0 a1).f3)) else (if ((rd_T53 l0 a1).f0) ≥ 0 then (if 0 ≤ ((rd_T53 l0 a1).f0) then (if ((rd_T53 l0 a1).f0) < (l0.length : Int) then (gessoref14_one.j0 k l0 a1 (!((rd_T53 l0 ((rd_T53 l0 a1).f0)).f2)) ((rd_T53 l0 a1).f0) ((rd_T53 l0 a1).f1) ((rd_T53 l0 a1).f2) ((rd_T53 l0 a1).f3)) else (none)) else (none)) else (gessoref14_one.j0 k l0 a1 false ((rd_T53 l0 a1).f0) ((rd_T53 l0 a1).f1) ((rd_T53 l0 a1).f2) ((rd_T53 l0 a1).f3))))) else (none)) else (none)) = some r := h
 clear h
 by_cases c3 : 0 ≤ a1
 · rw [if_pos c3] at H
   have c3b0 : decide (0 ≤ a1) = true := decide_eq_true c3
   clear c3
   by_cases c4 : a1 < (l0.length : Int)
   · rw [if_pos c4] at H
     have c4b0 : decide (a1 < (l0.length : Int)) = true := decide_eq_true c4
     clear c4
     have HC5 := Aside0.mk H
     clear H
     have p204 : 0 ≤ (a1 : Int) := of_decide_eq_true (by first | (with_reducible assumption) | assumption)
     have q204 : a1 < (l0.length : Int) := of_decide_eq_true (by first | (with_reducible assumption) | assumption)
     obtain ⟨ad204, A204_3, c204_3, e204, hx204_0, hx204_1, hx204_2, hx204_3, hl204_3, hi204_3⟩ := at_T53 HR0.out a1 p204 q204
     cases e204
     have HR204_3 := Aside0.mk hi204_3
     have HC204_3 := Aside0.mk hl204_3
     clear hi204_3 hl204_3
     replace p204 := eq_true p204
     replace q204 := eq_true q204
     go_enter Tryz.func86, Tryz.ntmps86
     go_upto_region 2 with (first | ((with_reducible refine gate_dst (N := 5) rfl ?_); (try (refine gate_guard (by rfl) ?_; dsimp only)); refine box_event ?hg (N := 5) ?hd (cs := #[.int .i64 0, .string (⟨#[]⟩ : ByteArray), .bool false, .slice none 0 0]) (t := 53) ?hr ?_; (case hd => rfl); (case hg => rfl); (case hr => first | (go_simp; done) | (go_simp; rfl)); intro gb205 hg w6 hbox hb; have n0_ := Aside0.mk (below_step (by repeat (first | (with_reducible first | exact HB.out | apply below_alloc | apply pw_below_drewN | apply below_drew1) | exact HB.out)) hb); have n1_ := Aside0.mk (hbox); have n2_ := Aside0.mk ((by rw [hg]; exact (below_size (by repeat (first | (with_reducible first | exact HB.out | apply below_alloc | apply pw_below_drewN | apply below_drew1) | exact HB.out))) : w.heap.size ≤ gb205)); have n3_ := Aside0.mk ((by rw [hg]; exact (below_size (by repeat (first | (with_reducible first | exact HB.out | apply below_alloc | apply pw_below_drewN | apply below_drew1) | exact HB.out))) : w.heap.size ≤ gb205)); clear HB; have HB := n0_; have BK205 := n1_; have GW205 := n2_; have GE205 := n3_; clear n0_ n1_ n2_ n3_; clear hb hbox hg; have hcz7_0 : w6.cell? ⟨gb205, 0, none⟩ = some (.int .i64 0) := (blk_cell BK205.out 0).trans rfl; have hcz7_1 : w6.cell? ⟨gb205, 1, none⟩ = some (.string (⟨#[]⟩ : ByteArray)) := (blk_cell BK205.out 1).trans rfl; have hcz7_2 : w6.cell? ⟨gb205, 2, none⟩ = some (.bool false) := (blk_cell BK205.out 2).trans rfl; have hcz7_3 : w6.cell? ⟨gb205, 3, none⟩ = some (.slice none 0 0) := (blk_cell BK205.out 3).trans rfl; have hfz7_0 := blk_frozen BK205.out 0; have hfz7_1 := blk_frozen BK205.out 1; have hfz7_2 := blk_frozen BK205.out 2; have hfz7_3 := blk_frozen BK205.out 3))
     repeat (go_quiet (first | ((with_reducible refine gate_dst (N := 5) rfl ?_); (try (refine gate_guard (by rfl) ?_; dsimp only)); refine box_event ?hg (N := 5) ?hd (cs := #[.int .i64 0, .string (⟨#[]⟩ : ByteArray), .bool false, .slice none 0 0]) (t := 53) ?hr ?_; (case hd => rfl); (case hg => rfl); (case hr => first | (go_simp; done) | (go_simp; rfl)); intro gb205 hg w6 hbox hb; have n0_ := Aside0.mk (below_step (by repeat (first | (with_reducible first | exact HB.out | apply below_alloc | apply pw_below_drewN | apply below_drew1) | exact HB.out)) hb); have n1_ := Aside0.mk (hbox); have n2_ := Aside0.mk ((by rw [hg]; exact (below_size (by repeat (first | (with_reducible first | exact HB.out | apply below_alloc | apply pw_below_drewN | apply below_drew1) | exact HB.out))) : w.heap.size ≤ gb205)); have n3_ := Aside0.mk ((by rw [hg]; exact (below_size (by repeat (first | (with_reducible first | exact HB.out | apply below_alloc | apply pw_below_drewN | apply below_drew1) | exact HB.out))) : w.heap.size ≤ gb205)); clear HB; have HB := n0_; have BK205 := n1_; have GW205 := n2_; have GE205 := n3_; clear n0_ n1_ n2_ n3_; clear hb hbox hg; have hcz7_0 : w6.cell? ⟨gb205, 0, none⟩ = some (.int .i64 0) := (blk_cell BK205.out 0).trans rfl; have hcz7_1 : w6.cell? ⟨gb205, 1, none⟩ = some (.string (⟨#[]⟩ : ByteArray)) := (blk_cell BK205.out 1).trans rfl; have hcz7_2 : w6.cell? ⟨gb205, 2, none⟩ = some (.bool false) := (blk_cell BK205.out 2).trans rfl; have hcz7_3 : w6.cell? ⟨gb205, 3, none⟩ = some (.slice none 0 0) := (blk_cell BK205.out 3).trans rfl; have hfz7_0 := blk_frozen BK205.out 0; have hfz7_1 := blk_frozen BK205.out 1; have hfz7_2 := blk_frozen BK205.out 2; have hfz7_3 := blk_frozen BK205.out 3)); go_upto_region 2 with (first | ((with_reducible refine gate_dst (N := 5) rfl ?_); (try (refine gate_guard (by rfl) ?_; dsimp only)); refine box_event ?hg (N := 5) ?hd (cs := #[.int .i64 0, .string (⟨#[]⟩ : ByteArray), .bool false, .slice none 0 0]) (t := 53) ?hr ?_; (case hd => rfl); (case hg => rfl); (case hr => first | (go_simp; done) | (go_simp; rfl)); intro gb205 hg w6 hbox hb; have n0_ := Aside0.mk (below_step (by repeat (first | (with_reducible first | exact HB.out | apply below_alloc | apply pw_below_drewN | apply below_drew1) | exact HB.out)) hb); have n1_ := Aside0.mk (hbox); have n2_ := Aside0.mk ((by rw [hg]; exact (below_size (by repeat (first | (with_reducible first | exact HB.out | apply below_alloc | apply pw_below_drewN | apply below_drew1) | exact HB.out))) : w.heap.size ≤ gb205)); have n3_ := Aside0.mk ((by rw [hg]; exact (below_size (by repeat (first | (with_reducible first | exact HB.out | apply below_alloc | apply pw_below_drewN | apply below_drew1) | exact HB.out))) : w.heap.size ≤ gb205)); clear HB; have HB := n0_; have BK205 := n1_; have GW205 := n2_; have GE205 := n3_; clear n0_ n1_ n2_ n3_; clear hb hbox hg; have hcz7_0 : w6.cell? ⟨gb205, 0, none⟩ = some (.int .i64 0) := (blk_cell BK205.out 0).trans rfl; have hcz7_1 : w6.cell? ⟨gb205, 1, none⟩ = some (.string (⟨#[]⟩ : ByteArray)) := (blk_cell BK205.out 1).trans rfl; have hcz7_2 : w6.cell? ⟨gb205, 2, none⟩ = some (.bool false) := (blk_cell BK205.out 2).trans rfl; have hcz7_3 : w6.cell? ⟨gb205, 3, none⟩ = some (.slice none 0 0) := (blk_cell BK205.out 3).trans rfl; have hfz7_0 := blk_frozen BK205.out 0; have hfz7_1 := blk_frozen BK205.out 1; have hfz7_2 := blk_frozen BK205.out 2; have hfz7_3 := blk_frozen BK205.out 3)))
     (try simp only [Act.put, List.setIfInBounds_toArray, List.set_cons_zero, List.set_cons_succ])
     go_cut [33] (fun v33 wc => ∃ (kq : Nat) (x33_4 : Bool), v33 = .bool x33_4 ∧ Aside0 (gessoref14_one.j0 kq l0 a1 x33_4 ((rd_T53 l0 a1).f0) ((rd_T53 l0 a1).f1) ((rd_T53 l0 a1).f2) ((rd_T53 l0 a1).f3) = some r) ∧ Aside0 (kq ≤ k) ∧ Aside0 (wc.heap[gb205]? = some (.cells #[.int .i64 ((rd_T53 l0 a1).f0), .string ((rd_T53 l0 a1).f1), .bool ((rd_T53 l0 a1).f2), (.slice A204_3 ((rd_T53 l0 a1).f3).length c204_3)] 53 (0, 0))) ∧ Aside0 (Below w.heap.size w wc))
     case first =>
      have H := HC5.out
      clear HC5
      by_cases c8 : ((rd_T53 l0 a1).f0) < (-1)
      · rw [if_pos c8] at H
        have c8b0 : decide (((rd_T53 l0 a1).f0) < (-1)) = true := decide_eq_true c8
        clear c8
        (first | rw [c8b0] | (simp only [i64_w, i32_w]; rw [c8b0]) | skip)
        have H' := Aside0.mk H
        clear H
        have hcz9_0 : w6.cell? ⟨gb205, 0, none⟩ = some (.int .i64 0) := (blk_cell BK205.out 0).trans rfl
        have hcz9_1 : w6.cell? ⟨gb205, 1, none⟩ = some (.string (⟨#[]⟩ : ByteArray)) := (blk_cell BK205.out 1).trans rfl
        have hcz9_2 : w6.cell? ⟨gb205, 2, none⟩ = some (.bool false) := (blk_cell BK205.out 2).trans rfl
        have hcz9_3 : w6.cell? ⟨gb205, 3, none⟩ = some (.slice none 0 0) := (blk_cell BK205.out 3).trans rfl
        have hfz9_0 := blk_frozen BK205.out 0
        have hfz9_1 := blk_frozen BK205.out 1
        have hfz9_2 := blk_frozen BK205.out 2
        have hfz9_3 := blk_frozen BK205.out 3
        go_wp2
        repeat (go_quiet (fail); try go_wp2)
        go_meet
        case rel => exact ⟨_, (true), (by first | rfl | (simp; done) | (simp [*]; done)), H', ⟨by first | omega | exact Nat.le_refl _⟩, ⟨by (with_reducible repeat (first | refine blk_drewN ?_ _ | refine blk_drew ?_ | refine blk_alloc ?_ _)); refine blk_put (cs := #[.int .i64 ((rd_T53 l0 a1).f0), .string ((rd_T53 l0 a1).f1), .bool ((rd_T53 l0 a1).f2), .slice none 0 0]) ?_ 3 _ rfl; (with_reducible repeat (first | refine blk_drewN ?_ _ | refine blk_drew ?_ | refine blk_alloc ?_ _)); refine blk_put (cs := #[.int .i64 ((rd_T53 l0 a1).f0), .string ((rd_T53 l0 a1).f1), .bool false, .slice none 0 0]) ?_ 2 _ rfl; (with_reducible repeat (first | refine blk_drewN ?_ _ | refine blk_drew ?_ | refine blk_alloc ?_ _)); refine blk_put (cs := #[.int .i64 ((rd_T53 l0 a1).f0), .string (⟨#[]⟩ : ByteArray), .bool false, .slice none 0 0]) ?_ 1 _ rfl; (with_reducible repeat (first | refine blk_drewN ?_ _ | refine blk_drew ?_ | refine blk_alloc ?_ _)); refine blk_put (cs := #[.int .i64 0, .string (⟨#[]⟩ : ByteArray), .bool false, .slice none 0 0]) ?_ 0 _ rfl; (with_reducible repeat (first | refine blk_drewN ?_ _ | refine blk_drew ?_ | refine blk_alloc ?_ _)); exact BK205.out⟩, ⟨by repeat (first | (with_reducible first | exact HB.out | apply below_alloc | apply pw_below_drewN | apply below_drew1 | refine below_set ?_ GE205.out) | exact HB.out)⟩⟩
      · rw [if_neg c8] at H
        have c8b0 : decide (((rd_T53 l0 a1).f0) < (-1)) = false := decide_eq_false c8
        clear c8
        (first | rw [c8b0] | (simp only [i64_w, i32_w]; rw [c8b0]) | skip)
        by_cases c10 : ((rd_T53 l0 a1).f0) ≥ a1
        · rw [if_pos c10] at H
          have c10b0 : decide (a1 ≤ ((rd_T53 l0 a1).f0)) = true := decide_eq_true c10
          clear c10
          have H' := Aside0.mk H
          clear H
          have hcz11_0 : w6.cell? ⟨gb205, 0, none⟩ = some (.int .i64 0) := (blk_cell BK205.out 0).trans rfl
          have hcz11_1 : w6.cell? ⟨gb205, 1, none⟩ = some (.string (⟨#[]⟩ : ByteArray)) := (blk_cell BK205.out 1).trans rfl
          have hcz11_2 : w6.cell? ⟨gb205, 2, none⟩ = some (.bool false) := (blk_cell BK205.out 2).trans rfl
          have hcz11_3 : w6.cell? ⟨gb205, 3, none⟩ = some (.slice none 0 0) := (blk_cell BK205.out 3).trans rfl
          have hfz11_0 := blk_frozen BK205.out 0
          have hfz11_1 := blk_frozen BK205.out 1
          have hfz11_2 := blk_frozen BK205.out 2
          have hfz11_3 := blk_frozen BK205.out 3
          go_wp2
          repeat (go_quiet (fail); try go_wp2)
          go_meet
          case rel => exact ⟨_, (true), (by first | rfl | (simp; done) | (simp [*]; done)), H', ⟨by first | omega | exact Nat.le_refl _⟩, ⟨by (with_reducible repeat (first | refine blk_drewN ?_ _ | refine blk_drew ?_ | refine blk_alloc ?_ _)); refine blk_put (cs := #[.int .i64 ((rd_T53 l0 a1).f0), .string ((rd_T53 l0 a1).f1), .bool ((rd_T53 l0 a1).f2), .slice none 0 0]) ?_ 3 _ rfl; (with_reducible repeat (first | refine blk_drewN ?_ _ | refine blk_drew ?_ | refine blk_alloc ?_ _)); refine blk_put (cs := #[.int .i64 ((rd_T53 l0 a1).f0), .string ((rd_T53 l0 a1).f1), .bool false, .slice none 0 0]) ?_ 2 _ rfl; (with_reducible repeat (first | refine blk_drewN ?_ _ | refine blk_drew ?_ | refine blk_alloc ?_ _)); refine blk_put (cs := #[.int .i64 ((rd_T53 l0 a1).f0), .string (⟨#[]⟩ : ByteArray), .bool false, .slice none 0 0]) ?_ 1 _ rfl; (with_reducible repeat (first | refine blk_drewN ?_ _ | refine blk_drew ?_ | refine blk_alloc ?_ _)); refine blk_put (cs := #[.int .i64 0, .string (⟨#[]⟩ : ByteArray), .bool false, .slice none 0 0]) ?_ 0 _ rfl; (with_reducible repeat (first | refine blk_drewN ?_ _ | refine blk_drew ?_ | refine blk_alloc ?_ _)); exact BK205.out⟩, ⟨by repeat (first | (with_reducible first | exact HB.out | apply below_alloc | apply pw_below_drewN | apply below_drew1 | refine below_set ?_ GE205.out) | exact HB.out)⟩⟩
        · rw [if_neg c10] at H
          have c10b0 : decide (a1 ≤ ((rd_T53 l0 a1).f0)) = false := decide_eq_false c10
          clear c10
          by_cases c12 : ((rd_T53 l0 a1).f0) ≥ 0
          · rw [if_pos c12] at H
            have c12b0 : decide (0 ≤ ((rd_T53 l0 a1).f0)) = true := decide_eq_true c12
            clear c12
            by_cases c13 : 0 ≤ ((rd_T53 l0 a1).f0)
            · rw [if_pos c13] at H
              have c13b0 : decide (0 ≤ ((rd_T53 l0 a1).f0)) = true := decide_eq_true c13
              clear c13
              by_cases c14 : ((rd_T53 l0 a1).f0) < (l0.length : Int)
              · rw [if_pos c14] at H
                have c14b0 : decide (((rd_T53 l0 a1).f0) < (l0.length : Int)) = true := decide_eq_true c14
                clear c14
                have H' := Aside0.mk H
                clear H
                have hcz15_0 : w6.cell? ⟨gb205, 0, none⟩ = some (.int .i64 0) := (blk_cell BK205.out 0).trans rfl
                have hcz15_1 : w6.cell? ⟨gb205, 1, none⟩ = some (.string (⟨#[]⟩ : ByteArray)) := (blk_cell BK205.out 1).trans rfl
                have hcz15_2 : w6.cell? ⟨gb205, 2, none⟩ = some (.bool false) := (blk_cell BK205.out 2).trans rfl
                have hcz15_3 : w6.cell? ⟨gb205, 3, none⟩ = some (.slice none 0 0) := (blk_cell BK205.out 3).trans rfl
                have hfz15_0 := blk_frozen BK205.out 0
                have hfz15_1 := blk_frozen BK205.out 1
                have hfz15_2 := blk_frozen BK205.out 2
                have hfz15_3 := blk_frozen BK205.out 3
                have p206 : 0 ≤ (((rd_T53 l0 a1).f0) : Int) := of_decide_eq_true (by first | (with_reducible assumption) | assumption)
                have q206 : ((rd_T53 l0 a1).f0) < (l0.length : Int) := of_decide_eq_true (by first | (with_reducible assumption) | assumption)
                obtain ⟨ad206, A206_3, c206_3, e206, hx206_0, hx206_1, hx206_2, hx206_3, hl206_3, hi206_3⟩ := at_T53 HR0.out ((rd_T53 l0 a1).f0) p206 q206
                obtain rfl : ad204 = ad206 := (by injection e206)
                have hn206_0 : ad204.block ≠ gb205 := Nat.ne_of_lt (Nat.lt_of_lt_of_le (by have := World.block_lt_of_cell? _ _ hx206_0; first | rwa [add_block] at this | exact this) GW205.out)
                have hn206_1 : ad204.block ≠ gb205 := Nat.ne_of_lt (Nat.lt_of_lt_of_le (by have := World.block_lt_of_cell? _ _ hx206_0; first | rwa [add_block] at this | exact this) GW205.out)
                have hn206_2 : ad204.block ≠ gb205 := Nat.ne_of_lt (Nat.lt_of_lt_of_le (by have := World.block_lt_of_cell? _ _ hx206_0; first | rwa [add_block] at this | exact this) GW205.out)
                have hn206_3 : ad204.block ≠ gb205 := Nat.ne_of_lt (Nat.lt_of_lt_of_le (by have := World.block_lt_of_cell? _ _ hx206_0; first | rwa [add_block] at this | exact this) GW205.out)
                replace hx206_0 := (HB.out.cell (World.block_lt_of_cell? w _ hx206_0)).trans hx206_0
                replace hx206_1 := (HB.out.cell (World.block_lt_of_cell? w _ hx206_1)).trans hx206_1
                replace hx206_2 := (HB.out.cell (World.block_lt_of_cell? w _ hx206_2)).trans hx206_2
                replace hx206_3 := (HB.out.cell (World.block_lt_of_cell? w _ hx206_3)).trans hx206_3
                have HR206_3 := Aside0.mk hi206_3
                have HC206_3 := Aside0.mk hl206_3
                clear hi206_3 hl206_3
                replace hx206_0 := (cell_far (p := ⟨gb205, 0, none⟩) (by first | (rw [add_block]; exact hn206_0) | (show (Addr.add _ _).block ≠ _; rw [add_block]; exact hn206_0) | exact hn206_0) (.int .i64 ((rd_T53 l0 a1).f0))).trans hx206_0
                replace hx206_1 := (cell_far (p := ⟨gb205, 0, none⟩) (by first | (rw [add_block]; exact hn206_0) | (show (Addr.add _ _).block ≠ _; rw [add_block]; exact hn206_0) | exact hn206_0) (.int .i64 ((rd_T53 l0 a1).f0))).trans hx206_1
                replace hx206_2 := (cell_far (p := ⟨gb205, 0, none⟩) (by first | (rw [add_block]; exact hn206_0) | (show (Addr.add _ _).block ≠ _; rw [add_block]; exact hn206_0) | exact hn206_0) (.int .i64 ((rd_T53 l0 a1).f0))).trans hx206_2
                replace hx206_3 := (cell_far (p := ⟨gb205, 0, none⟩) (by first | (rw [add_block]; exact hn206_0) | (show (Addr.add _ _).block ≠ _; rw [add_block]; exact hn206_0) | exact hn206_0) (.int .i64 ((rd_T53 l0 a1).f0))).trans hx206_3
                replace hx206_0 := (cell_far (p := ⟨gb205, 1, none⟩) (by first | (rw [add_block]; exact hn206_1) | (show (Addr.add _ _).block ≠ _; rw [add_block]; exact hn206_1) | exact hn206_1) (.string ((rd_T53 l0 a1).f1))).trans hx206_0
                replace hx206_1 := (cell_far (p := ⟨gb205, 1, none⟩) (by first | (rw [add_block]; exact hn206_1) | (show (Addr.add _ _).block ≠ _; rw [add_block]; exact hn206_1) | exact hn206_1) (.string ((rd_T53 l0 a1).f1))).trans hx206_1
                replace hx206_2 := (cell_far (p := ⟨gb205, 1, none⟩) (by first | (rw [add_block]; exact hn206_1) | (show (Addr.add _ _).block ≠ _; rw [add_block]; exact hn206_1) | exact hn206_1) (.string ((rd_T53 l0 a1).f1))).trans hx206_2
                replace hx206_3 := (cell_far (p := ⟨gb205, 1, none⟩) (by first | (rw [add_block]; exact hn206_1) | (show (Addr.add _ _).block ≠ _; rw [add_block]; exact hn206_1) | exact hn206_1) (.string ((rd_T53 l0 a1).f1))).trans hx206_3
                replace hx206_0 := (cell_far (p := ⟨gb205, 2, none⟩) (by first | (rw [add_block]; exact hn206_2) | (show (Addr.add _ _).block ≠ _; rw [add_block]; exact hn206_2) | exact hn206_2) (.bool ((rd_T53 l0 a1).f2))).trans hx206_0
                replace hx206_1 := (cell_far (p := ⟨gb205, 2, none⟩) (by first | (rw [add_block]; exact hn206_2) | (show (Addr.add _ _).block ≠ _; rw [add_block]; exact hn206_2) | exact hn206_2) (.bool ((rd_T53 l0 a1).f2))).trans hx206_1
                replace hx206_2 := (cell_far (p := ⟨gb205, 2, none⟩) (by first | (rw [add_block]; exact hn206_2) | (show (Addr.add _ _).block ≠ _; rw [add_block]; exact hn206_2) | exact hn206_2) (.bool ((rd_T53 l0 a1).f2))).trans hx206_2
                replace hx206_3 := (cell_far (p := ⟨gb205, 2, none⟩) (by first | (rw [add_block]; exact hn206_2) | (show (Addr.add _ _).block ≠ _; rw [add_block]; exact hn206_2) | exact hn206_2) (.bool ((rd_T53 l0 a1).f2))).trans hx206_3
                replace hx206_0 := (cell_far (p := ⟨gb205, 3, none⟩) (by first | (rw [add_block]; exact hn206_3) | (show (Addr.add _ _).block ≠ _; rw [add_block]; exact hn206_3) | exact hn206_3) (.slice A204_3 ((rd_T53 l0 a1).f3).length c204_3)).trans hx206_0
                replace hx206_1 := (cell_far (p := ⟨gb205, 3, none⟩) (by first | (rw [add_block]; exact hn206_3) | (show (Addr.add _ _).block ≠ _; rw [add_block]; exact hn206_3) | exact hn206_3) (.slice A204_3 ((rd_T53 l0 a1).f3).length c204_3)).trans hx206_1
                replace hx206_2 := (cell_far (p := ⟨gb205, 3, none⟩) (by first | (rw [add_block]; exact hn206_3) | (show (Addr.add _ _).block ≠ _; rw [add_block]; exact hn206_3) | exact hn206_3) (.slice A204_3 ((rd_T53 l0 a1).f3).length c204_3)).trans hx206_2
                replace hx206_3 := (cell_far (p := ⟨gb205, 3, none⟩) (by first | (rw [add_block]; exact hn206_3) | (show (Addr.add _ _).block ≠ _; rw [add_block]; exact hn206_3) | exact hn206_3) (.slice A204_3 ((rd_T53 l0 a1).f3).length c204_3)).trans hx206_3
                (try have hy206_0 := fun (n_ : Nat) => (show ((((((w6.drewN n_).setCell ⟨gb205, 0, none⟩ (.int .i64 ((rd_T53 l0 a1).f0))).setCell ⟨gb205, 1, none⟩ (.string ((rd_T53 l0 a1).f1))).setCell ⟨gb205, 2, none⟩ (.bool ((rd_T53 l0 a1).f2))).setCell ⟨gb205, 3, none⟩ (.slice A204_3 ((rd_T53 l0 a1).f3).length c204_3))).cell? _ = some _ from hx206_0))
                (try have hy206_1 := fun (n_ : Nat) => (show ((((((w6.drewN n_).setCell ⟨gb205, 0, none⟩ (.int .i64 ((rd_T53 l0 a1).f0))).setCell ⟨gb205, 1, none⟩ (.string ((rd_T53 l0 a1).f1))).setCell ⟨gb205, 2, none⟩ (.bool ((rd_T53 l0 a1).f2))).setCell ⟨gb205, 3, none⟩ (.slice A204_3 ((rd_T53 l0 a1).f3).length c204_3))).cell? _ = some _ from hx206_1))
                (try have hy206_2 := fun (n_ : Nat) => (show ((((((w6.drewN n_).setCell ⟨gb205, 0, none⟩ (.int .i64 ((rd_T53 l0 a1).f0))).setCell ⟨gb205, 1, none⟩ (.string ((rd_T53 l0 a1).f1))).setCell ⟨gb205, 2, none⟩ (.bool ((rd_T53 l0 a1).f2))).setCell ⟨gb205, 3, none⟩ (.slice A204_3 ((rd_T53 l0 a1).f3).length c204_3))).cell? _ = some _ from hx206_2))
                (try have hy206_3 := fun (n_ : Nat) => (show ((((((w6.drewN n_).setCell ⟨gb205, 0, none⟩ (.int .i64 ((rd_T53 l0 a1).f0))).setCell ⟨gb205, 1, none⟩ (.string ((rd_T53 l0 a1).f1))).setCell ⟨gb205, 2, none⟩ (.bool ((rd_T53 l0 a1).f2))).setCell ⟨gb205, 3, none⟩ (.slice A204_3 ((rd_T53 l0 a1).f3).length c204_3))).cell? _ = some _ from hx206_3))
                clear hn206_0
                clear hn206_1
                clear hn206_2
                clear hn206_3
                replace p206 := eq_true p206
                replace q206 := eq_true q206
                go_wp2
                repeat (go_quiet (fail); try go_wp2)
                go_meet
                case rel => exact ⟨_, (!((rd_T53 l0 ((rd_T53 l0 a1).f0)).f2)), (by first | rfl | (simp; done) | (simp [*]; done)), H', ⟨by first | omega | exact Nat.le_refl _⟩, ⟨by (with_reducible repeat (first | refine blk_drewN ?_ _ | refine blk_drew ?_ | refine blk_alloc ?_ _)); refine blk_put (cs := #[.int .i64 ((rd_T53 l0 a1).f0), .string ((rd_T53 l0 a1).f1), .bool ((rd_T53 l0 a1).f2), .slice none 0 0]) ?_ 3 _ rfl; (with_reducible repeat (first | refine blk_drewN ?_ _ | refine blk_drew ?_ | refine blk_alloc ?_ _)); refine blk_put (cs := #[.int .i64 ((rd_T53 l0 a1).f0), .string ((rd_T53 l0 a1).f1), .bool false, .slice none 0 0]) ?_ 2 _ rfl; (with_reducible repeat (first | refine blk_drewN ?_ _ | refine blk_drew ?_ | refine blk_alloc ?_ _)); refine blk_put (cs := #[.int .i64 ((rd_T53 l0 a1).f0), .string (⟨#[]⟩ : ByteArray), .bool false, .slice none 0 0]) ?_ 1 _ rfl; (with_reducible repeat (first | refine blk_drewN ?_ _ | refine blk_drew ?_ | refine blk_alloc ?_ _)); refine blk_put (cs := #[.int .i64 0, .string (⟨#[]⟩ : ByteArray), .bool false, .slice none 0 0]) ?_ 0 _ rfl; (with_reducible repeat (first | refine blk_drewN ?_ _ | refine blk_drew ?_ | refine blk_alloc ?_ _)); exact BK205.out⟩, ⟨by repeat (first | (with_reducible first | exact HB.out | apply below_alloc | apply pw_below_drewN | apply below_drew1 | refine below_set ?_ GE205.out) | exact HB.out)⟩⟩
              · rw [if_neg c14] at H
                exact absurd H (by simp)
            · rw [if_neg c13] at H
              exact absurd H (by simp)
          · rw [if_neg c12] at H
            have c12b0 : decide (0 ≤ ((rd_T53 l0 a1).f0)) = false := decide_eq_false c12
            clear c12
            have H' := Aside0.mk H
            clear H
            have hcz16_0 : w6.cell? ⟨gb205, 0, none⟩ = some (.int .i64 0) := (blk_cell BK205.out 0).trans rfl
            have hcz16_1 : w6.cell? ⟨gb205, 1, none⟩ = some (.string (⟨#[]⟩ : ByteArray)) := (blk_cell BK205.out 1).trans rfl
            have hcz16_2 : w6.cell? ⟨gb205, 2, none⟩ = some (.bool false) := (blk_cell BK205.out 2).trans rfl
            have hcz16_3 : w6.cell? ⟨gb205, 3, none⟩ = some (.slice none 0 0) := (blk_cell BK205.out 3).trans rfl
            have hfz16_0 := blk_frozen BK205.out 0
            have hfz16_1 := blk_frozen BK205.out 1
            have hfz16_2 := blk_frozen BK205.out 2
            have hfz16_3 := blk_frozen BK205.out 3
            go_wp2
            repeat (go_quiet (fail); try go_wp2)
            go_meet
            case rel => exact ⟨_, (false), (by first | rfl | (simp; done) | (simp [*]; done)), H', ⟨by first | omega | exact Nat.le_refl _⟩, ⟨by (with_reducible repeat (first | refine blk_drewN ?_ _ | refine blk_drew ?_ | refine blk_alloc ?_ _)); refine blk_put (cs := #[.int .i64 ((rd_T53 l0 a1).f0), .string ((rd_T53 l0 a1).f1), .bool ((rd_T53 l0 a1).f2), .slice none 0 0]) ?_ 3 _ rfl; (with_reducible repeat (first | refine blk_drewN ?_ _ | refine blk_drew ?_ | refine blk_alloc ?_ _)); refine blk_put (cs := #[.int .i64 ((rd_T53 l0 a1).f0), .string ((rd_T53 l0 a1).f1), .bool false, .slice none 0 0]) ?_ 2 _ rfl; (with_reducible repeat (first | refine blk_drewN ?_ _ | refine blk_drew ?_ | refine blk_alloc ?_ _)); refine blk_put (cs := #[.int .i64 ((rd_T53 l0 a1).f0), .string (⟨#[]⟩ : ByteArray), .bool false, .slice none 0 0]) ?_ 1 _ rfl; (with_reducible repeat (first | refine blk_drewN ?_ _ | refine blk_drew ?_ | refine blk_alloc ?_ _)); refine blk_put (cs := #[.int .i64 0, .string (⟨#[]⟩ : ByteArray), .bool false, .slice none 0 0]) ?_ 0 _ rfl; (with_reducible repeat (first | refine blk_drewN ?_ _ | refine blk_drew ?_ | refine blk_alloc ?_ _)); exact BK205.out⟩, ⟨by repeat (first | (with_reducible first | exact HB.out | apply below_alloc | apply pw_below_drewN | apply below_drew1 | refine below_set ?_ GE205.out) | exact HB.out)⟩⟩
     case rest =>
      clear HC5
      try clear c1
      try clear c2
      try clear p2
      try clear q2
      try clear hx2
      try clear c3
      try clear c3b0
      try clear c4
      try clear c4b0
      try clear c8
      try clear c8b0
      try clear c10
      try clear c10b0
      try clear c12
      try clear c12b0
      try clear c13
      try clear c13b0
      try clear c14
      try clear c14b0
      try clear hcz11_0
      try clear hcz11_1
      try clear hcz11_2
      try clear hcz11_3
      try clear hcz15_0
      try clear hcz15_1
      try clear hcz15_2
      try clear hcz15_3
      try clear hcz16_0
      try clear hcz16_1
      try clear hcz16_2
      try clear hcz16_3
      try clear hcz7_0
      try clear hcz7_1
      try clear hcz7_2
      try clear hcz7_3
      try clear hcz9_0
      try clear hcz9_1
      try clear hcz9_2
      try clear hcz9_3
      try clear hfz11_0
      try clear hfz11_1
      try clear hfz11_2
      try clear hfz11_3
      try clear hfz15_0
      try clear hfz15_1
      try clear hfz15_2
      try clear hfz15_3
      try clear hfz16_0
      try clear hfz16_1
      try clear hfz16_2
      try clear hfz16_3
      try clear hfz7_0
      try clear hfz7_1
      try clear hfz7_2
      try clear hfz7_3
      try clear hfz9_0
      try clear hfz9_1
      try clear hfz9_2
      try clear hfz9_3
      try clear hx204_0
      try clear hx204_1
      try clear hx204_2
      try clear hx204_3
      try clear hx206_0
      try clear hx206_1
      try clear hx206_2
      try clear hx206_3
      try clear p204
      try clear p206
      try clear q204
      try clear q206
      obtain ⟨kq, x33_4, rfl, HA, HJ4, BK205, HB⟩ := hcut
      cases kq with
      | zero => exact absurd HA.out (by simp [gessoref14_one.j0])
      | succ kj4 =>
       have H := HA.out
       clear HA
       simp only [gessoref14_one.j0] at H
       by_cases c17 : x33_4 = true
       · subst c17
         have H1 : (some false) = some r := by rw [if_pos rfl] at H; exact H
         clear H
         have H := H1
         clear H1
         obtain rfl := Option.some.inj H
         go_wp2
         repeat (go_quiet (fail); try go_wp2)
         go_ret
         exact ⟨by first | rfl | (simp [errW_none, errW_some] <;> rfl) | (simp [*, errW_none, errW_some] <;> rfl), by repeat (first | (with_reducible first | exact HB.out | apply below_alloc | apply pw_below_drewN | apply below_drew1 | refine below_set ?_ GE205.out) | exact HB.out)⟩
       · replace c17 := Bool.eq_false_iff.mpr c17
         subst c17
         have H1 : ((gessoref13_Name.f kj4 ((rd_T53 l0 a1).f1)).bind fun t207 => (if t207 = true then (if (((rd_T53 l0 a1).f1).size : Int) > 48 then (gessoref14_one.j1 kj4 l0 a1 true ((rd_T53 l0 a1).f0) ((rd_T53 l0 a1).f1) ((rd_T53 l0 a1).f2) ((rd_T53 l0 a1).f3)) else (if ((rd_T53 l0 a1).f2) = true then (if (((rd_T53 l0 a1).f3).length : Int) > 0 then (gessoref14_one.j1 kj4 l0 a1 true ((rd_T53 l0 a1).f0) ((rd_T53 l0 a1).f1) ((rd_T53 l0 a1).f2) ((rd_T53 l0 a1).f3)) else (if (((rd_T53 l0 a1).f3).length : Int) > 8192 then (gessoref14_one.j1 kj4 l0 a1 true ((rd_T53 l0 a1).f0) ((rd_T53 l0 a1).f1) ((rd_T53 l0 a1).f2) ((rd_T53 l0 a1).f3)) else ((gessoref14_deep.f kj4 l0 a1).bind fun t208 => (gessoref14_one.j1 kj4 l0 a1 (decide (t208 > 8)) ((rd_T53 l0 a1).f0) ((rd_T53 l0 a1).f1) ((rd_T53 l0 a1).f2) ((rd_T53 l0 a1).f3))))) else (if (((rd_T53 l0 a1).f3).length : Int) > 8192 then (gessoref14_one.j1 kj4 l0 a1 true ((rd_T53 l0 a1).f0) ((rd_T53 l0 a1).f1) ((rd_T53 l0 a1).f2) ((rd_T53 l0 a1).f3)) else ((gessoref14_deep.f kj4 l0 a1).bind fun t209 => (gessoref14_one.j1 kj4 l0 a1 (decide (t209 > 8)) ((rd_T53 l0 a1).f0) ((rd_T53 l0 a1).f1) ((rd_T53 l0 a1).f2) ((rd_T53 l0 a1).f3)))))) else (gessoref14_one.j1 kj4 l0 a1 true ((rd_T53 l0 a1).f0) ((rd_T53 l0 a1).f1) ((rd_T53 l0 a1).f2) ((rd_T53 l0 a1).f3)))) = some r := by rw [if_neg (show ¬ (false = true) by decide)] at H; exact H
         clear H
         have H := H1
         clear H1
         have HC18 := Aside0.mk H
         clear H
         go_upto_region 4 with (fail)
         repeat (go_quiet (fail); go_upto_region 4 with (fail))
         go_cut [65] (fun v65 wc => ∃ (kq : Nat) (x65_17 : Bool), v65 = .bool x65_17 ∧ Aside0 (gessoref14_one.j1 kq l0 a1 x65_17 ((rd_T53 l0 a1).f0) ((rd_T53 l0 a1).f1) ((rd_T53 l0 a1).f2) ((rd_T53 l0 a1).f3) = some r) ∧ Aside0 (kq ≤ kj4) ∧ Aside0 (wc.heap[gb205]? = some (.cells #[.int .i64 ((rd_T53 l0 a1).f0), .string ((rd_T53 l0 a1).f1), .bool ((rd_T53 l0 a1).f2), (.slice A204_3 ((rd_T53 l0 a1).f3).length c204_3)] 53 (0, 0))) ∧ Aside0 (Below w.heap.size w wc))
         case first =>
          have H := HC18.out
          clear HC18
          replace H := Option.bind_eq_some_iff.mp H
          obtain ⟨t207, A190, H⟩ := H
          replace H : (if t207 = true then (if (((rd_T53 l0 a1).f1).size : Int) > 48 then (gessoref14_one.j1 kj4 l0 a1 true ((rd_T53 l0 a1).f0) ((rd_T53 l0 a1).f1) ((rd_T53 l0 a1).f2) ((rd_T53 l0 a1).f3)) else (if ((rd_T53 l0 a1).f2) = true then (if (((rd_T53 l0 a1).f3).length : Int) > 0 then (gessoref14_one.j1 kj4 l0 a1 true ((rd_T53 l0 a1).f0) ((rd_T53 l0 a1).f1) ((rd_T53 l0 a1).f2) ((rd_T53 l0 a1).f3)) else (if (((rd_T53 l0 a1).f3).length : Int) > 8192 then (gessoref14_one.j1 kj4 l0 a1 true ((rd_T53 l0 a1).f0) ((rd_T53 l0 a1).f1) ((rd_T53 l0 a1).f2) ((rd_T53 l0 a1).f3)) else ((gessoref14_deep.f kj4 l0 a1).bind fun t208 => (gessoref14_one.j1 kj4 l0 a1 (decide (t208 > 8)) ((rd_T53 l0 a1).f0) ((rd_T53 l0 a1).f1) ((rd_T53 l0 a1).f2) ((rd_T53 l0 a1).f3))))) else (if (((rd_T53 l0 a1).f3).length : Int) > 8192 then (gessoref14_one.j1 kj4 l0 a1 true ((rd_T53 l0 a1).f0) ((rd_T53 l0 a1).f1) ((rd_T53 l0 a1).f2) ((rd_T53 l0 a1).f3)) else ((gessoref14_deep.f kj4 l0 a1).bind fun t209 => (gessoref14_one.j1 kj4 l0 a1 (decide (t209 > 8)) ((rd_T53 l0 a1).f0) ((rd_T53 l0 a1).f1) ((rd_T53 l0 a1).f2) ((rd_T53 l0 a1).f3)))))) else (gessoref14_one.j1 kj4 l0 a1 true ((rd_T53 l0 a1).f0) ((rd_T53 l0 a1).f1) ((rd_T53 l0 a1).f2) ((rd_T53 l0 a1).f3))) = some r := H
          have A19 := Aside0.mk A190
          clear A190
          by_cases c20 : t207 = true
          · subst c20
            have H1 : (if (((rd_T53 l0 a1).f1).size : Int) > 48 then (gessoref14_one.j1 kj4 l0 a1 true ((rd_T53 l0 a1).f0) ((rd_T53 l0 a1).f1) ((rd_T53 l0 a1).f2) ((rd_T53 l0 a1).f3)) else (if ((rd_T53 l0 a1).f2) = true then (if (((rd_T53 l0 a1).f3).length : Int) > 0 then (gessoref14_one.j1 kj4 l0 a1 true ((rd_T53 l0 a1).f0) ((rd_T53 l0 a1).f1) ((rd_T53 l0 a1).f2) ((rd_T53 l0 a1).f3)) else (if (((rd_T53 l0 a1).f3).length : Int) > 8192 then (gessoref14_one.j1 kj4 l0 a1 true ((rd_T53 l0 a1).f0) ((rd_T53 l0 a1).f1) ((rd_T53 l0 a1).f2) ((rd_T53 l0 a1).f3)) else ((gessoref14_deep.f kj4 l0 a1).bind fun t208 => (gessoref14_one.j1 kj4 l0 a1 (decide (t208 > 8)) ((rd_T53 l0 a1).f0) ((rd_T53 l0 a1).f1) ((rd_T53 l0 a1).f2) ((rd_T53 l0 a1).f3))))) else (if (((rd_T53 l0 a1).f3).length : Int) > 8192 then (gessoref14_one.j1 kj4 l0 a1 true ((rd_T53 l0 a1).f0) ((rd_T53 l0 a1).f1) ((rd_T53 l0 a1).f2) ((rd_T53 l0 a1).f3)) else ((gessoref14_deep.f kj4 l0 a1).bind fun t209 => (gessoref14_one.j1 kj4 l0 a1 (decide (t209 > 8)) ((rd_T53 l0 a1).f0) ((rd_T53 l0 a1).f1) ((rd_T53 l0 a1).f2) ((rd_T53 l0 a1).f3)))))) = some r := by rw [if_pos rfl] at H; exact H
            clear H
            have H := H1
            clear H1
            by_cases c21 : (((rd_T53 l0 a1).f1).size : Int) > 48
            · rw [if_pos c21] at H
              have c21b0 : decide (48 < (((rd_T53 l0 a1).f1).size : Int)) = true := decide_eq_true c21
              have c21b1 : decide (48 < ((rd_T53 l0 a1).f1).size) = true := decide_eq_true (by omega)
              clear c21
              (first | rw [c21b0] | (simp only [i64_w, i32_w]; rw [c21b0]) | skip)
              have H' := Aside0.mk H
              clear H
              have hcz22_0 : wc.cell? ⟨gb205, 0, none⟩ = some (.int .i64 ((rd_T53 l0 a1).f0)) := (blk_cell BK205.out 0).trans rfl
              have hcz22_1 : wc.cell? ⟨gb205, 1, none⟩ = some (.string ((rd_T53 l0 a1).f1)) := (blk_cell BK205.out 1).trans rfl
              have hcz22_2 : wc.cell? ⟨gb205, 2, none⟩ = some (.bool ((rd_T53 l0 a1).f2)) := (blk_cell BK205.out 2).trans rfl
              have hcz22_3 : wc.cell? ⟨gb205, 3, none⟩ = some (.slice A204_3 ((rd_T53 l0 a1).f3).length c204_3) := (blk_cell BK205.out 3).trans rfl
              have hfz22_0 := blk_frozen BK205.out 0
              have hfz22_1 := blk_frozen BK205.out 1
              have hfz22_2 := blk_frozen BK205.out 2
              have hfz22_3 := blk_frozen BK205.out 3
              go_wp2_with (first | (go_at_call 120; (with_reducible refine (gessoref13_Name.calls kj4 ((rd_T53 l0 a1).f1) true _ A19.out).mono ?_); rintro e w' ⟨rfl, ⟨nd, rfl⟩⟩; (try first | exact ⟨rfl, _, World.drewN_drewN _ _ _⟩ | exact ⟨rfl, _, Eq.trans (World.drewN_drewN _ _ _) (congrArg (World.drewN _) (Nat.add_assoc _ _ _))⟩)))
              repeat (go_quiet (first | (go_at_call 120; (with_reducible refine (gessoref13_Name.calls kj4 ((rd_T53 l0 a1).f1) true _ A19.out).mono ?_); rintro e w' ⟨rfl, ⟨nd, rfl⟩⟩; (try first | exact ⟨rfl, _, World.drewN_drewN _ _ _⟩ | exact ⟨rfl, _, Eq.trans (World.drewN_drewN _ _ _) (congrArg (World.drewN _) (Nat.add_assoc _ _ _))⟩))); try go_wp2_with (first | (go_at_call 120; (with_reducible refine (gessoref13_Name.calls kj4 ((rd_T53 l0 a1).f1) true _ A19.out).mono ?_); rintro e w' ⟨rfl, ⟨nd, rfl⟩⟩; (try first | exact ⟨rfl, _, World.drewN_drewN _ _ _⟩ | exact ⟨rfl, _, Eq.trans (World.drewN_drewN _ _ _) (congrArg (World.drewN _) (Nat.add_assoc _ _ _))⟩))))
              go_meet
              case rel => exact ⟨_, (true), (by first | rfl | (simp; done) | (simp [*]; done)), H', ⟨by have := HJ4.out; first | omega | exact Nat.le_refl _⟩, ⟨by (with_reducible repeat (first | refine blk_drewN ?_ _ | refine blk_drew ?_ | refine blk_alloc ?_ _)); exact BK205.out⟩, ⟨by repeat (first | (with_reducible first | exact HB.out | apply below_alloc | apply pw_below_drewN | apply below_drew1 | refine below_set ?_ GE205.out) | exact HB.out)⟩⟩
            · rw [if_neg c21] at H
              have c21b0 : decide (48 < (((rd_T53 l0 a1).f1).size : Int)) = false := decide_eq_false c21
              have c21b1 : decide (48 < ((rd_T53 l0 a1).f1).size) = false := decide_eq_false (by omega)
              clear c21
              (first | rw [c21b0] | (simp only [i64_w, i32_w]; rw [c21b0]) | skip)
              by_cases c23 : ((rd_T53 l0 a1).f2) = true
              · rw [if_pos c23] at H
                have c23b0 : ((rd_T53 l0 a1).f2) = true := c23
                clear c23
                by_cases c24 : (((rd_T53 l0 a1).f3).length : Int) > 0
                · rw [if_pos c24] at H
                  have c24b0 : decide (0 < (((rd_T53 l0 a1).f3).length : Int)) = true := decide_eq_true c24
                  have c24b1 : decide (0 < ((rd_T53 l0 a1).f3).length) = true := decide_eq_true (by omega)
                  clear c24
                  have H' := Aside0.mk H
                  clear H
                  have hcz25_0 : wc.cell? ⟨gb205, 0, none⟩ = some (.int .i64 ((rd_T53 l0 a1).f0)) := (blk_cell BK205.out 0).trans rfl
                  have hcz25_1 : wc.cell? ⟨gb205, 1, none⟩ = some (.string ((rd_T53 l0 a1).f1)) := (blk_cell BK205.out 1).trans rfl
                  have hcz25_2 : wc.cell? ⟨gb205, 2, none⟩ = some (.bool ((rd_T53 l0 a1).f2)) := (blk_cell BK205.out 2).trans rfl
                  have hcz25_3 : wc.cell? ⟨gb205, 3, none⟩ = some (.slice A204_3 ((rd_T53 l0 a1).f3).length c204_3) := (blk_cell BK205.out 3).trans rfl
                  have hfz25_0 := blk_frozen BK205.out 0
                  have hfz25_1 := blk_frozen BK205.out 1
                  have hfz25_2 := blk_frozen BK205.out 2
                  have hfz25_3 := blk_frozen BK205.out 3
                  go_wp2_with (first | (go_at_call 120; (with_reducible refine (gessoref13_Name.calls kj4 ((rd_T53 l0 a1).f1) true _ A19.out).mono ?_); rintro e w' ⟨rfl, ⟨nd, rfl⟩⟩; (try first | exact ⟨rfl, _, World.drewN_drewN _ _ _⟩ | exact ⟨rfl, _, Eq.trans (World.drewN_drewN _ _ _) (congrArg (World.drewN _) (Nat.add_assoc _ _ _))⟩)))
                  repeat (go_quiet (first | (go_at_call 120; (with_reducible refine (gessoref13_Name.calls kj4 ((rd_T53 l0 a1).f1) true _ A19.out).mono ?_); rintro e w' ⟨rfl, ⟨nd, rfl⟩⟩; (try first | exact ⟨rfl, _, World.drewN_drewN _ _ _⟩ | exact ⟨rfl, _, Eq.trans (World.drewN_drewN _ _ _) (congrArg (World.drewN _) (Nat.add_assoc _ _ _))⟩))); try go_wp2_with (first | (go_at_call 120; (with_reducible refine (gessoref13_Name.calls kj4 ((rd_T53 l0 a1).f1) true _ A19.out).mono ?_); rintro e w' ⟨rfl, ⟨nd, rfl⟩⟩; (try first | exact ⟨rfl, _, World.drewN_drewN _ _ _⟩ | exact ⟨rfl, _, Eq.trans (World.drewN_drewN _ _ _) (congrArg (World.drewN _) (Nat.add_assoc _ _ _))⟩))))
                  go_meet
                  case rel => exact ⟨_, (true), (by first | rfl | (simp; done) | (simp [*]; done)), H', ⟨by have := HJ4.out; first | omega | exact Nat.le_refl _⟩, ⟨by (with_reducible repeat (first | refine blk_drewN ?_ _ | refine blk_drew ?_ | refine blk_alloc ?_ _)); exact BK205.out⟩, ⟨by repeat (first | (with_reducible first | exact HB.out | apply below_alloc | apply pw_below_drewN | apply below_drew1 | refine below_set ?_ GE205.out) | exact HB.out)⟩⟩
                · rw [if_neg c24] at H
                  have c24b0 : decide (0 < (((rd_T53 l0 a1).f3).length : Int)) = false := decide_eq_false c24
                  have c24b1 : decide (0 < ((rd_T53 l0 a1).f3).length) = false := decide_eq_false (by omega)
                  clear c24
                  by_cases c26 : (((rd_T53 l0 a1).f3).length : Int) > 8192
                  · rw [if_pos c26] at H
                    have c26b0 : decide (8192 < (((rd_T53 l0 a1).f3).length : Int)) = true := decide_eq_true c26
                    have c26b1 : decide (8192 < ((rd_T53 l0 a1).f3).length) = true := decide_eq_true (by omega)
                    clear c26
                    have H' := Aside0.mk H
                    clear H
                    have hcz27_0 : wc.cell? ⟨gb205, 0, none⟩ = some (.int .i64 ((rd_T53 l0 a1).f0)) := (blk_cell BK205.out 0).trans rfl
                    have hcz27_1 : wc.cell? ⟨gb205, 1, none⟩ = some (.string ((rd_T53 l0 a1).f1)) := (blk_cell BK205.out 1).trans rfl
                    have hcz27_2 : wc.cell? ⟨gb205, 2, none⟩ = some (.bool ((rd_T53 l0 a1).f2)) := (blk_cell BK205.out 2).trans rfl
                    have hcz27_3 : wc.cell? ⟨gb205, 3, none⟩ = some (.slice A204_3 ((rd_T53 l0 a1).f3).length c204_3) := (blk_cell BK205.out 3).trans rfl
                    have hfz27_0 := blk_frozen BK205.out 0
                    have hfz27_1 := blk_frozen BK205.out 1
                    have hfz27_2 := blk_frozen BK205.out 2
                    have hfz27_3 := blk_frozen BK205.out 3
                    go_wp2_with (first | (go_at_call 120; (with_reducible refine (gessoref13_Name.calls kj4 ((rd_T53 l0 a1).f1) true _ A19.out).mono ?_); rintro e w' ⟨rfl, ⟨nd, rfl⟩⟩; (try first | exact ⟨rfl, _, World.drewN_drewN _ _ _⟩ | exact ⟨rfl, _, Eq.trans (World.drewN_drewN _ _ _) (congrArg (World.drewN _) (Nat.add_assoc _ _ _))⟩)))
                    repeat (go_quiet (first | (go_at_call 120; (with_reducible refine (gessoref13_Name.calls kj4 ((rd_T53 l0 a1).f1) true _ A19.out).mono ?_); rintro e w' ⟨rfl, ⟨nd, rfl⟩⟩; (try first | exact ⟨rfl, _, World.drewN_drewN _ _ _⟩ | exact ⟨rfl, _, Eq.trans (World.drewN_drewN _ _ _) (congrArg (World.drewN _) (Nat.add_assoc _ _ _))⟩))); try go_wp2_with (first | (go_at_call 120; (with_reducible refine (gessoref13_Name.calls kj4 ((rd_T53 l0 a1).f1) true _ A19.out).mono ?_); rintro e w' ⟨rfl, ⟨nd, rfl⟩⟩; (try first | exact ⟨rfl, _, World.drewN_drewN _ _ _⟩ | exact ⟨rfl, _, Eq.trans (World.drewN_drewN _ _ _) (congrArg (World.drewN _) (Nat.add_assoc _ _ _))⟩))))
                    go_meet
                    case rel => exact ⟨_, (true), (by first | rfl | (simp; done) | (simp [*]; done)), H', ⟨by have := HJ4.out; first | omega | exact Nat.le_refl _⟩, ⟨by (with_reducible repeat (first | refine blk_drewN ?_ _ | refine blk_drew ?_ | refine blk_alloc ?_ _)); exact BK205.out⟩, ⟨by repeat (first | (with_reducible first | exact HB.out | apply below_alloc | apply pw_below_drewN | apply below_drew1 | refine below_set ?_ GE205.out) | exact HB.out)⟩⟩
                  · rw [if_neg c26] at H
                    have c26b0 : decide (8192 < (((rd_T53 l0 a1).f3).length : Int)) = false := decide_eq_false c26
                    have c26b1 : decide (8192 < ((rd_T53 l0 a1).f3).length) = false := decide_eq_false (by omega)
                    clear c26
                    replace H := Option.bind_eq_some_iff.mp H
                    obtain ⟨t208, A280, H⟩ := H
                    replace H : (gessoref14_one.j1 kj4 l0 a1 (decide (t208 > 8)) ((rd_T53 l0 a1).f0) ((rd_T53 l0 a1).f1) ((rd_T53 l0 a1).f2) ((rd_T53 l0 a1).f3)) = some r := H
                    have A28 := Aside0.mk A280
                    clear A280
                    have H' := Aside0.mk H
                    clear H
                    have hcz29_0 : wc.cell? ⟨gb205, 0, none⟩ = some (.int .i64 ((rd_T53 l0 a1).f0)) := (blk_cell BK205.out 0).trans rfl
                    have hcz29_1 : wc.cell? ⟨gb205, 1, none⟩ = some (.string ((rd_T53 l0 a1).f1)) := (blk_cell BK205.out 1).trans rfl
                    have hcz29_2 : wc.cell? ⟨gb205, 2, none⟩ = some (.bool ((rd_T53 l0 a1).f2)) := (blk_cell BK205.out 2).trans rfl
                    have hcz29_3 : wc.cell? ⟨gb205, 3, none⟩ = some (.slice A204_3 ((rd_T53 l0 a1).f3).length c204_3) := (blk_cell BK205.out 3).trans rfl
                    have hfz29_0 := blk_frozen BK205.out 0
                    have hfz29_1 := blk_frozen BK205.out 1
                    have hfz29_2 := blk_frozen BK205.out 2
                    have hfz29_3 := blk_frozen BK205.out 3
                    go_wp2_with (first | (go_at_call 120; (with_reducible refine (gessoref13_Name.calls kj4 ((rd_T53 l0 a1).f1) true _ A19.out).mono ?_); rintro e w' ⟨rfl, ⟨nd, rfl⟩⟩; (try first | exact ⟨rfl, _, World.drewN_drewN _ _ _⟩ | exact ⟨rfl, _, Eq.trans (World.drewN_drewN _ _ _) (congrArg (World.drewN _) (Nat.add_assoc _ _ _))⟩)) | (go_at_call 121; (with_reducible refine (gessoref14_deep.calls kj4 _ _ l0 a1 t208 _ ?side1 ?side2 A28.out).mono ?_); (case side1 => repeat (first | exact (Kd.C_below HR0.out (by repeat (first | (with_reducible first | exact HB.out | apply below_alloc | apply pw_below_drewN | apply below_drew1 | refine below_set ?_ GE205.out) | exact HB.out))) | (with_reducible refine Kd.C_alloc ?_ _) | (with_reducible refine Kd.C_drewN ?_ _) | (with_reducible refine Kd.C_drew ?_))); (case side2 => exact HC0.out); rintro e w' ⟨rfl, ⟨nd, rfl⟩⟩; (try first | exact ⟨rfl, _, World.drewN_drewN _ _ _⟩ | exact ⟨rfl, _, Eq.trans (World.drewN_drewN _ _ _) (congrArg (World.drewN _) (Nat.add_assoc _ _ _))⟩)))
                    repeat (go_quiet (first | (go_at_call 120; (with_reducible refine (gessoref13_Name.calls kj4 ((rd_T53 l0 a1).f1) true _ A19.out).mono ?_); rintro e w' ⟨rfl, ⟨nd, rfl⟩⟩; (try first | exact ⟨rfl, _, World.drewN_drewN _ _ _⟩ | exact ⟨rfl, _, Eq.trans (World.drewN_drewN _ _ _) (congrArg (World.drewN _) (Nat.add_assoc _ _ _))⟩)) | (go_at_call 121; (with_reducible refine (gessoref14_deep.calls kj4 _ _ l0 a1 t208 _ ?side1 ?side2 A28.out).mono ?_); (case side1 => repeat (first | exact (Kd.C_below HR0.out (by repeat (first | (with_reducible first | exact HB.out | apply below_alloc | apply pw_below_drewN | apply below_drew1 | refine below_set ?_ GE205.out) | exact HB.out))) | (with_reducible refine Kd.C_alloc ?_ _) | (with_reducible refine Kd.C_drewN ?_ _) | (with_reducible refine Kd.C_drew ?_))); (case side2 => exact HC0.out); rintro e w' ⟨rfl, ⟨nd, rfl⟩⟩; (try first | exact ⟨rfl, _, World.drewN_drewN _ _ _⟩ | exact ⟨rfl, _, Eq.trans (World.drewN_drewN _ _ _) (congrArg (World.drewN _) (Nat.add_assoc _ _ _))⟩))); try go_wp2_with (first | (go_at_call 120; (with_reducible refine (gessoref13_Name.calls kj4 ((rd_T53 l0 a1).f1) true _ A19.out).mono ?_); rintro e w' ⟨rfl, ⟨nd, rfl⟩⟩; (try first | exact ⟨rfl, _, World.drewN_drewN _ _ _⟩ | exact ⟨rfl, _, Eq.trans (World.drewN_drewN _ _ _) (congrArg (World.drewN _) (Nat.add_assoc _ _ _))⟩)) | (go_at_call 121; (with_reducible refine (gessoref14_deep.calls kj4 _ _ l0 a1 t208 _ ?side1 ?side2 A28.out).mono ?_); (case side1 => repeat (first | exact (Kd.C_below HR0.out (by repeat (first | (with_reducible first | exact HB.out | apply below_alloc | apply pw_below_drewN | apply below_drew1 | refine below_set ?_ GE205.out) | exact HB.out))) | (with_reducible refine Kd.C_alloc ?_ _) | (with_reducible refine Kd.C_drewN ?_ _) | (with_reducible refine Kd.C_drew ?_))); (case side2 => exact HC0.out); rintro e w' ⟨rfl, ⟨nd, rfl⟩⟩; (try first | exact ⟨rfl, _, World.drewN_drewN _ _ _⟩ | exact ⟨rfl, _, Eq.trans (World.drewN_drewN _ _ _) (congrArg (World.drewN _) (Nat.add_assoc _ _ _))⟩))))
                    go_meet
                    case rel => exact ⟨_, (decide (t208 > 8)), (by first | rfl | (simp; done) | (simp [*]; done)), H', ⟨by have := HJ4.out; first | omega | exact Nat.le_refl _⟩, ⟨by (with_reducible repeat (first | refine blk_drewN ?_ _ | refine blk_drew ?_ | refine blk_alloc ?_ _)); exact BK205.out⟩, ⟨by repeat (first | (with_reducible first | exact HB.out | apply below_alloc | apply pw_below_drewN | apply below_drew1 | refine below_set ?_ GE205.out) | exact HB.out)⟩⟩
              · rw [if_neg c23] at H
                have c23b0 : ((rd_T53 l0 a1).f2) = false := by simpa using c23
                clear c23
                by_cases c30 : (((rd_T53 l0 a1).f3).length : Int) > 8192
                · rw [if_pos c30] at H
                  have c30b0 : decide (8192 < (((rd_T53 l0 a1).f3).length : Int)) = true := decide_eq_true c30
                  have c30b1 : decide (8192 < ((rd_T53 l0 a1).f3).length) = true := decide_eq_true (by omega)
                  clear c30
                  have H' := Aside0.mk H
                  clear H
                  have hcz31_0 : wc.cell? ⟨gb205, 0, none⟩ = some (.int .i64 ((rd_T53 l0 a1).f0)) := (blk_cell BK205.out 0).trans rfl
                  have hcz31_1 : wc.cell? ⟨gb205, 1, none⟩ = some (.string ((rd_T53 l0 a1).f1)) := (blk_cell BK205.out 1).trans rfl
                  have hcz31_2 : wc.cell? ⟨gb205, 2, none⟩ = some (.bool ((rd_T53 l0 a1).f2)) := (blk_cell BK205.out 2).trans rfl
                  have hcz31_3 : wc.cell? ⟨gb205, 3, none⟩ = some (.slice A204_3 ((rd_T53 l0 a1).f3).length c204_3) := (blk_cell BK205.out 3).trans rfl
                  have hfz31_0 := blk_frozen BK205.out 0
                  have hfz31_1 := blk_frozen BK205.out 1
                  have hfz31_2 := blk_frozen BK205.out 2
                  have hfz31_3 := blk_frozen BK205.out 3
                  go_wp2_with (first | (go_at_call 120; (with_reducible refine (gessoref13_Name.calls kj4 ((rd_T53 l0 a1).f1) true _ A19.out).mono ?_); rintro e w' ⟨rfl, ⟨nd, rfl⟩⟩; (try first | exact ⟨rfl, _, World.drewN_drewN _ _ _⟩ | exact ⟨rfl, _, Eq.trans (World.drewN_drewN _ _ _) (congrArg (World.drewN _) (Nat.add_assoc _ _ _))⟩)))
                  repeat (go_quiet (first | (go_at_call 120; (with_reducible refine (gessoref13_Name.calls kj4 ((rd_T53 l0 a1).f1) true _ A19.out).mono ?_); rintro e w' ⟨rfl, ⟨nd, rfl⟩⟩; (try first | exact ⟨rfl, _, World.drewN_drewN _ _ _⟩ | exact ⟨rfl, _, Eq.trans (World.drewN_drewN _ _ _) (congrArg (World.drewN _) (Nat.add_assoc _ _ _))⟩))); try go_wp2_with (first | (go_at_call 120; (with_reducible refine (gessoref13_Name.calls kj4 ((rd_T53 l0 a1).f1) true _ A19.out).mono ?_); rintro e w' ⟨rfl, ⟨nd, rfl⟩⟩; (try first | exact ⟨rfl, _, World.drewN_drewN _ _ _⟩ | exact ⟨rfl, _, Eq.trans (World.drewN_drewN _ _ _) (congrArg (World.drewN _) (Nat.add_assoc _ _ _))⟩))))
                  go_meet
                  case rel => exact ⟨_, (true), (by first | rfl | (simp; done) | (simp [*]; done)), H', ⟨by have := HJ4.out; first | omega | exact Nat.le_refl _⟩, ⟨by (with_reducible repeat (first | refine blk_drewN ?_ _ | refine blk_drew ?_ | refine blk_alloc ?_ _)); exact BK205.out⟩, ⟨by repeat (first | (with_reducible first | exact HB.out | apply below_alloc | apply pw_below_drewN | apply below_drew1 | refine below_set ?_ GE205.out) | exact HB.out)⟩⟩
                · rw [if_neg c30] at H
                  have c30b0 : decide (8192 < (((rd_T53 l0 a1).f3).length : Int)) = false := decide_eq_false c30
                  have c30b1 : decide (8192 < ((rd_T53 l0 a1).f3).length) = false := decide_eq_false (by omega)
                  clear c30
                  replace H := Option.bind_eq_some_iff.mp H
                  obtain ⟨t209, A320, H⟩ := H
                  replace H : (gessoref14_one.j1 kj4 l0 a1 (decide (t209 > 8)) ((rd_T53 l0 a1).f0) ((rd_T53 l0 a1).f1) ((rd_T53 l0 a1).f2) ((rd_T53 l0 a1).f3)) = some r := H
                  have A32 := Aside0.mk A320
                  clear A320
                  have H' := Aside0.mk H
                  clear H
                  have hcz33_0 : wc.cell? ⟨gb205, 0, none⟩ = some (.int .i64 ((rd_T53 l0 a1).f0)) := (blk_cell BK205.out 0).trans rfl
                  have hcz33_1 : wc.cell? ⟨gb205, 1, none⟩ = some (.string ((rd_T53 l0 a1).f1)) := (blk_cell BK205.out 1).trans rfl
                  have hcz33_2 : wc.cell? ⟨gb205, 2, none⟩ = some (.bool ((rd_T53 l0 a1).f2)) := (blk_cell BK205.out 2).trans rfl
                  have hcz33_3 : wc.cell? ⟨gb205, 3, none⟩ = some (.slice A204_3 ((rd_T53 l0 a1).f3).length c204_3) := (blk_cell BK205.out 3).trans rfl
                  have hfz33_0 := blk_frozen BK205.out 0
                  have hfz33_1 := blk_frozen BK205.out 1
                  have hfz33_2 := blk_frozen BK205.out 2
                  have hfz33_3 := blk_frozen BK205.out 3
                  go_wp2_with (first | (go_at_call 120; (with_reducible refine (gessoref13_Name.calls kj4 ((rd_T53 l0 a1).f1) true _ A19.out).mono ?_); rintro e w' ⟨rfl, ⟨nd, rfl⟩⟩; (try first | exact ⟨rfl, _, World.drewN_drewN _ _ _⟩ | exact ⟨rfl, _, Eq.trans (World.drewN_drewN _ _ _) (congrArg (World.drewN _) (Nat.add_assoc _ _ _))⟩)) | (go_at_call 121; (with_reducible refine (gessoref14_deep.calls kj4 _ _ l0 a1 t209 _ ?side1 ?side2 A32.out).mono ?_); (case side1 => repeat (first | exact (Kd.C_below HR0.out (by repeat (first | (with_reducible first | exact HB.out | apply below_alloc | apply pw_below_drewN | apply below_drew1 | refine below_set ?_ GE205.out) | exact HB.out))) | (with_reducible refine Kd.C_alloc ?_ _) | (with_reducible refine Kd.C_drewN ?_ _) | (with_reducible refine Kd.C_drew ?_))); (case side2 => exact HC0.out); rintro e w' ⟨rfl, ⟨nd, rfl⟩⟩; (try first | exact ⟨rfl, _, World.drewN_drewN _ _ _⟩ | exact ⟨rfl, _, Eq.trans (World.drewN_drewN _ _ _) (congrArg (World.drewN _) (Nat.add_assoc _ _ _))⟩)))
                  repeat (go_quiet (first | (go_at_call 120; (with_reducible refine (gessoref13_Name.calls kj4 ((rd_T53 l0 a1).f1) true _ A19.out).mono ?_); rintro e w' ⟨rfl, ⟨nd, rfl⟩⟩; (try first | exact ⟨rfl, _, World.drewN_drewN _ _ _⟩ | exact ⟨rfl, _, Eq.trans (World.drewN_drewN _ _ _) (congrArg (World.drewN _) (Nat.add_assoc _ _ _))⟩)) | (go_at_call 121; (with_reducible refine (gessoref14_deep.calls kj4 _ _ l0 a1 t209 _ ?side1 ?side2 A32.out).mono ?_); (case side1 => repeat (first | exact (Kd.C_below HR0.out (by repeat (first | (with_reducible first | exact HB.out | apply below_alloc | apply pw_below_drewN | apply below_drew1 | refine below_set ?_ GE205.out) | exact HB.out))) | (with_reducible refine Kd.C_alloc ?_ _) | (with_reducible refine Kd.C_drewN ?_ _) | (with_reducible refine Kd.C_drew ?_))); (case side2 => exact HC0.out); rintro e w' ⟨rfl, ⟨nd, rfl⟩⟩; (try first | exact ⟨rfl, _, World.drewN_drewN _ _ _⟩ | exact ⟨rfl, _, Eq.trans (World.drewN_drewN _ _ _) (congrArg (World.drewN _) (Nat.add_assoc _ _ _))⟩))); try go_wp2_with (first | (go_at_call 120; (with_reducible refine (gessoref13_Name.calls kj4 ((rd_T53 l0 a1).f1) true _ A19.out).mono ?_); rintro e w' ⟨rfl, ⟨nd, rfl⟩⟩; (try first | exact ⟨rfl, _, World.drewN_drewN _ _ _⟩ | exact ⟨rfl, _, Eq.trans (World.drewN_drewN _ _ _) (congrArg (World.drewN _) (Nat.add_assoc _ _ _))⟩)) | (go_at_call 121; (with_reducible refine (gessoref14_deep.calls kj4 _ _ l0 a1 t209 _ ?side1 ?side2 A32.out).mono ?_); (case side1 => repeat (first | exact (Kd.C_below HR0.out (by repeat (first | (with_reducible first | exact HB.out | apply below_alloc | apply pw_below_drewN | apply below_drew1 | refine below_set ?_ GE205.out) | exact HB.out))) | (with_reducible refine Kd.C_alloc ?_ _) | (with_reducible refine Kd.C_drewN ?_ _) | (with_reducible refine Kd.C_drew ?_))); (case side2 => exact HC0.out); rintro e w' ⟨rfl, ⟨nd, rfl⟩⟩; (try first | exact ⟨rfl, _, World.drewN_drewN _ _ _⟩ | exact ⟨rfl, _, Eq.trans (World.drewN_drewN _ _ _) (congrArg (World.drewN _) (Nat.add_assoc _ _ _))⟩))))
                  go_meet
                  case rel => exact ⟨_, (decide (t209 > 8)), (by first | rfl | (simp; done) | (simp [*]; done)), H', ⟨by have := HJ4.out; first | omega | exact Nat.le_refl _⟩, ⟨by (with_reducible repeat (first | refine blk_drewN ?_ _ | refine blk_drew ?_ | refine blk_alloc ?_ _)); exact BK205.out⟩, ⟨by repeat (first | (with_reducible first | exact HB.out | apply below_alloc | apply pw_below_drewN | apply below_drew1 | refine below_set ?_ GE205.out) | exact HB.out)⟩⟩
          · replace c20 := Bool.eq_false_iff.mpr c20
            subst c20
            have H1 : (gessoref14_one.j1 kj4 l0 a1 true ((rd_T53 l0 a1).f0) ((rd_T53 l0 a1).f1) ((rd_T53 l0 a1).f2) ((rd_T53 l0 a1).f3)) = some r := by rw [if_neg (show ¬ (false = true) by decide)] at H; exact H
            clear H
            have H := H1
            clear H1
            have H' := Aside0.mk H
            clear H
            have hcz34_0 : wc.cell? ⟨gb205, 0, none⟩ = some (.int .i64 ((rd_T53 l0 a1).f0)) := (blk_cell BK205.out 0).trans rfl
            have hcz34_1 : wc.cell? ⟨gb205, 1, none⟩ = some (.string ((rd_T53 l0 a1).f1)) := (blk_cell BK205.out 1).trans rfl
            have hcz34_2 : wc.cell? ⟨gb205, 2, none⟩ = some (.bool ((rd_T53 l0 a1).f2)) := (blk_cell BK205.out 2).trans rfl
            have hcz34_3 : wc.cell? ⟨gb205, 3, none⟩ = some (.slice A204_3 ((rd_T53 l0 a1).f3).length c204_3) := (blk_cell BK205.out 3).trans rfl
            have hfz34_0 := blk_frozen BK205.out 0
            have hfz34_1 := blk_frozen BK205.out 1
            have hfz34_2 := blk_frozen BK205.out 2
            have hfz34_3 := blk_frozen BK205.out 3
            go_wp2_with (first | (go_at_call 120; (with_reducible refine (gessoref13_Name.calls kj4 ((rd_T53 l0 a1).f1) false _ A19.out).mono ?_); rintro e w' ⟨rfl, ⟨nd, rfl⟩⟩; (try first | exact ⟨rfl, _, World.drewN_drewN _ _ _⟩ | exact ⟨rfl, _, Eq.trans (World.drewN_drewN _ _ _) (congrArg (World.drewN _) (Nat.add_assoc _ _ _))⟩)))
            repeat (go_quiet (first | (go_at_call 120; (with_reducible refine (gessoref13_Name.calls kj4 ((rd_T53 l0 a1).f1) false _ A19.out).mono ?_); rintro e w' ⟨rfl, ⟨nd, rfl⟩⟩; (try first | exact ⟨rfl, _, World.drewN_drewN _ _ _⟩ | exact ⟨rfl, _, Eq.trans (World.drewN_drewN _ _ _) (congrArg (World.drewN _) (Nat.add_assoc _ _ _))⟩))); try go_wp2_with (first | (go_at_call 120; (with_reducible refine (gessoref13_Name.calls kj4 ((rd_T53 l0 a1).f1) false _ A19.out).mono ?_); rintro e w' ⟨rfl, ⟨nd, rfl⟩⟩; (try first | exact ⟨rfl, _, World.drewN_drewN _ _ _⟩ | exact ⟨rfl, _, Eq.trans (World.drewN_drewN _ _ _) (congrArg (World.drewN _) (Nat.add_assoc _ _ _))⟩))))
            go_meet
            case rel => exact ⟨_, (true), (by first | rfl | (simp; done) | (simp [*]; done)), H', ⟨by have := HJ4.out; first | omega | exact Nat.le_refl _⟩, ⟨by (with_reducible repeat (first | refine blk_drewN ?_ _ | refine blk_drew ?_ | refine blk_alloc ?_ _)); exact BK205.out⟩, ⟨by repeat (first | (with_reducible first | exact HB.out | apply below_alloc | apply pw_below_drewN | apply below_drew1 | refine below_set ?_ GE205.out) | exact HB.out)⟩⟩
         case rest =>
          clear HC18
          try clear c1
          try clear c2
          try clear p2
          try clear q2
          try clear hx2
          try clear c3
          try clear c3b0
          try clear c4
          try clear c4b0
          try clear c8
          try clear c8b0
          try clear c10
          try clear c10b0
          try clear c12
          try clear c12b0
          try clear c13
          try clear c13b0
          try clear c14
          try clear c14b0
          try clear c17
          try clear c20
          try clear p20
          try clear q20
          try clear hx20
          try clear c21
          try clear c21b0
          try clear c21b1
          try clear c23
          try clear c23b0
          try clear c24
          try clear c24b0
          try clear c24b1
          try clear c26
          try clear c26b0
          try clear c26b1
          try clear c30
          try clear c30b0
          try clear c30b1
          try clear hcz11_0
          try clear hcz11_1
          try clear hcz11_2
          try clear hcz11_3
          try clear hcz15_0
          try clear hcz15_1
          try clear hcz15_2
          try clear hcz15_3
          try clear hcz16_0
          try clear hcz16_1
          try clear hcz16_2
          try clear hcz16_3
          try clear hcz22_0
          try clear hcz22_1
          try clear hcz22_2
          try clear hcz22_3
          try clear hcz25_0
          try clear hcz25_1
          try clear hcz25_2
          try clear hcz25_3
          try clear hcz27_0
          try clear hcz27_1
          try clear hcz27_2
          try clear hcz27_3
          try clear hcz29_0
          try clear hcz29_1
          try clear hcz29_2
          try clear hcz29_3
          try clear hcz31_0
          try clear hcz31_1
          try clear hcz31_2
          try clear hcz31_3
          try clear hcz33_0
          try clear hcz33_1
          try clear hcz33_2
          try clear hcz33_3
          try clear hcz34_0
          try clear hcz34_1
          try clear hcz34_2
          try clear hcz34_3
          try clear hcz7_0
          try clear hcz7_1
          try clear hcz7_2
          try clear hcz7_3
          try clear hcz9_0
          try clear hcz9_1
          try clear hcz9_2
          try clear hcz9_3
          try clear hfz11_0
          try clear hfz11_1
          try clear hfz11_2
          try clear hfz11_3
          try clear hfz15_0
          try clear hfz15_1
          try clear hfz15_2
          try clear hfz15_3
          try clear hfz16_0
          try clear hfz16_1
          try clear hfz16_2
          try clear hfz16_3
          try clear hfz22_0
          try clear hfz22_1
          try clear hfz22_2
          try clear hfz22_3
          try clear hfz25_0
          try clear hfz25_1
          try clear hfz25_2
          try clear hfz25_3
          try clear hfz27_0
          try clear hfz27_1
          try clear hfz27_2
          try clear hfz27_3
          try clear hfz29_0
          try clear hfz29_1
          try clear hfz29_2
          try clear hfz29_3
          try clear hfz31_0
          try clear hfz31_1
          try clear hfz31_2
          try clear hfz31_3
          try clear hfz33_0
          try clear hfz33_1
          try clear hfz33_2
          try clear hfz33_3
          try clear hfz34_0
          try clear hfz34_1
          try clear hfz34_2
          try clear hfz34_3
          try clear hfz7_0
          try clear hfz7_1
          try clear hfz7_2
          try clear hfz7_3
          try clear hfz9_0
          try clear hfz9_1
          try clear hfz9_2
          try clear hfz9_3
          try clear hx204_0
          try clear hx204_1
          try clear hx204_2
          try clear hx204_3
          try clear hx206_0
          try clear hx206_1
          try clear hx206_2
          try clear hx206_3
          try clear p2
          try clear p204
          try clear p206
          try clear q2
          try clear q204
          try clear q206
          obtain ⟨kq, x65_17, rfl, HA, HJ17, BK205, HB⟩ := hcut
          cases kq with
          | zero => exact absurd HA.out (by simp [gessoref14_one.j1])
          | succ kj17 =>
           have H := HA.out
           clear HA
           simp only [gessoref14_one.j1] at H
           by_cases c35 : x65_17 = true
           · subst c35
             have H1 : (some false) = some r := by rw [if_pos rfl] at H; exact H
             clear H
             have H := H1
             clear H1
             obtain rfl := Option.some.inj H
             go_wp2
             repeat (go_quiet (fail); try go_wp2)
             go_ret
             exact ⟨by first | rfl | (simp [errW_none, errW_some] <;> rfl) | (simp [*, errW_none, errW_some] <;> rfl), by repeat (first | (with_reducible first | exact HB.out | apply below_alloc | apply pw_below_drewN | apply below_drew1 | refine below_set ?_ GE205.out) | exact HB.out)⟩
           · replace c35 := Bool.eq_false_iff.mpr c35
             subst c35
             have H1 : (gessoref14_one.l0 kj17 l0 a1 0 ((rd_T53 l0 a1).f0) ((rd_T53 l0 a1).f1) ((rd_T53 l0 a1).f2) ((rd_T53 l0 a1).f3)) = some r := by rw [if_neg (show ¬ (false = true) by decide)] at H; exact H
             clear H
             have H := H1
             clear H1
             have H' := Aside0.mk H
             clear H
             go_wp2
             repeat (go_quiet (fail); try go_wp2)
             go_loopg [6] kj17 (fun kq v6 w' => ∃ (x6_3 : Int), v6 = .int .i64 x6_3 ∧ Aside0 (gessoref14_one.l0 kq l0 a1 x6_3 ((rd_T53 l0 a1).f0) ((rd_T53 l0 a1).f1) ((rd_T53 l0 a1).f2) ((rd_T53 l0 a1).f3) = some r) ∧ Aside0 (kq ≤ kj17) ∧ Aside0 (w'.heap[gb205]? = some (.cells #[.int .i64 ((rd_T53 l0 a1).f0), .string ((rd_T53 l0 a1).f1), .bool ((rd_T53 l0 a1).f2), (.slice A204_3 ((rd_T53 l0 a1).f3).length c204_3)] 53 (0, 0))) ∧ Aside0 (Below w.heap.size w w'))
             case atStart => exact ⟨(0), (by first | rfl | (simp; done) | (simp [*]; done)), H', ⟨Nat.le_refl _⟩, ⟨by (with_reducible repeat (first | refine blk_drewN ?_ _ | refine blk_drew ?_ | refine blk_alloc ?_ _)); exact BK205.out⟩, ⟨by repeat (first | (with_reducible first | exact HB.out | apply below_alloc | apply pw_below_drewN | apply below_drew1 | refine below_set ?_ GE205.out) | exact HB.out)⟩⟩
             case round =>
              clear H'
              try clear c1
              try clear c2
              try clear p2
              try clear q2
              try clear hx2
              try clear c3
              try clear c3b0
              try clear c4
              try clear c4b0
              try clear c8
              try clear c8b0
              try clear c10
              try clear c10b0
              try clear c12
              try clear c12b0
              try clear c13
              try clear c13b0
              try clear c14
              try clear c14b0
              try clear c17
              try clear c20
              try clear p20
              try clear q20
              try clear hx20
              try clear c21
              try clear c21b0
              try clear c21b1
              try clear c23
              try clear c23b0
              try clear c24
              try clear c24b0
              try clear c24b1
              try clear c26
              try clear c26b0
              try clear c26b1
              try clear c30
              try clear c30b0
              try clear c30b1
              try clear c35
              try clear hcz11_0
              try clear hcz11_1
              try clear hcz11_2
              try clear hcz11_3
              try clear hcz15_0
              try clear hcz15_1
              try clear hcz15_2
              try clear hcz15_3
              try clear hcz16_0
              try clear hcz16_1
              try clear hcz16_2
              try clear hcz16_3
              try clear hcz22_0
              try clear hcz22_1
              try clear hcz22_2
              try clear hcz22_3
              try clear hcz25_0
              try clear hcz25_1
              try clear hcz25_2
              try clear hcz25_3
              try clear hcz27_0
              try clear hcz27_1
              try clear hcz27_2
              try clear hcz27_3
              try clear hcz29_0
              try clear hcz29_1
              try clear hcz29_2
              try clear hcz29_3
              try clear hcz31_0
              try clear hcz31_1
              try clear hcz31_2
              try clear hcz31_3
              try clear hcz33_0
              try clear hcz33_1
              try clear hcz33_2
              try clear hcz33_3
              try clear hcz34_0
              try clear hcz34_1
              try clear hcz34_2
              try clear hcz34_3
              try clear hcz7_0
              try clear hcz7_1
              try clear hcz7_2
              try clear hcz7_3
              try clear hcz9_0
              try clear hcz9_1
              try clear hcz9_2
              try clear hcz9_3
              try clear hfz11_0
              try clear hfz11_1
              try clear hfz11_2
              try clear hfz11_3
              try clear hfz15_0
              try clear hfz15_1
              try clear hfz15_2
              try clear hfz15_3
              try clear hfz16_0
              try clear hfz16_1
              try clear hfz16_2
              try clear hfz16_3
              try clear hfz22_0
              try clear hfz22_1
              try clear hfz22_2
              try clear hfz22_3
              try clear hfz25_0
              try clear hfz25_1
              try clear hfz25_2
              try clear hfz25_3
              try clear hfz27_0
              try clear hfz27_1
              try clear hfz27_2
              try clear hfz27_3
              try clear hfz29_0
              try clear hfz29_1
              try clear hfz29_2
              try clear hfz29_3
              try clear hfz31_0
              try clear hfz31_1
              try clear hfz31_2
              try clear hfz31_3
              try clear hfz33_0
              try clear hfz33_1
              try clear hfz33_2
              try clear hfz33_3
              try clear hfz34_0
              try clear hfz34_1
              try clear hfz34_2
              try clear hfz34_3
              try clear hfz7_0
              try clear hfz7_1
              try clear hfz7_2
              try clear hfz7_3
              try clear hfz9_0
              try clear hfz9_1
              try clear hfz9_2
              try clear hfz9_3
              try clear hx204_0
              try clear hx204_1
              try clear hx204_2
              try clear hx204_3
              try clear hx206_0
              try clear hx206_1
              try clear hx206_2
              try clear hx206_3
              try clear p2
              try clear p20
              try clear p204
              try clear p206
              try clear q2
              try clear q20
              try clear q204
              try clear q206
              obtain ⟨x6_3, rfl, HA, HK3, BK205, HB⟩ := hrel
              cases gk with
              | zero => exact absurd HA.out (by simp [gessoref14_one.l0])
              | succ k3 =>
               have H := HA.out
               clear HA
               simp only [gessoref14_one.l0] at H
               by_cases c36 : x6_3 < a1
               · rw [if_pos c36] at H
                 have c36b0 : decide (x6_3 < a1) = true := decide_eq_true c36
                 clear c36
                 by_cases c37 : 0 ≤ x6_3
                 · rw [if_pos c37] at H
                   have c37b0 : decide (0 ≤ x6_3) = true := decide_eq_true c37
                   clear c37
                   by_cases c38 : x6_3 < (l0.length : Int)
                   · rw [if_pos c38] at H
                     have c38b0 : decide (x6_3 < (l0.length : Int)) = true := decide_eq_true c38
                     clear c38
                     by_cases c39 : ((rd_T53 l0 x6_3).f0) = ((rd_T53 l0 a1).f0)
                     · rw [if_pos c39] at H
                       have c39b0 : (((rd_T53 l0 x6_3).f0) == ((rd_T53 l0 a1).f0)) = true := beq_iff_eq.mpr c39
                       have c39b1 : (((rd_T53 l0 x6_3).f0) != ((rd_T53 l0 a1).f0)) = false := bne_eq_false_iff_eq.mpr c39
                       clear c39
                       by_cases c40 : ((rd_T53 l0 x6_3).f1).toList = ((rd_T53 l0 a1).f1).toList
                       · rw [if_pos c40] at H
                         have c40b0 : (((rd_T53 l0 x6_3).f1).toList == ((rd_T53 l0 a1).f1).toList) = true := beq_iff_eq.mpr c40
                         have c40b1 : (((rd_T53 l0 x6_3).f1).toList != ((rd_T53 l0 a1).f1).toList) = false := bne_eq_false_iff_eq.mpr c40
                         clear c40
                         obtain rfl := Option.some.inj H
                         have p210 : 0 ≤ (x6_3 : Int) := of_decide_eq_true (by first | (with_reducible assumption) | assumption)
                         have q210 : x6_3 < (l0.length : Int) := of_decide_eq_true (by first | (with_reducible assumption) | assumption)
                         obtain ⟨ad210, A210_3, c210_3, e210, hx210_0, hx210_1, hx210_2, hx210_3, hl210_3, hi210_3⟩ := at_T53 HR0.out x6_3 p210 q210
                         obtain rfl : ad204 = ad210 := (by injection e210)
                         replace hx210_0 := (HB.out.cell (World.block_lt_of_cell? w _ hx210_0)).trans hx210_0
                         replace hx210_1 := (HB.out.cell (World.block_lt_of_cell? w _ hx210_1)).trans hx210_1
                         replace hx210_2 := (HB.out.cell (World.block_lt_of_cell? w _ hx210_2)).trans hx210_2
                         replace hx210_3 := (HB.out.cell (World.block_lt_of_cell? w _ hx210_3)).trans hx210_3
                         have HR210_3 := Aside0.mk hi210_3
                         have HC210_3 := Aside0.mk hl210_3
                         clear hi210_3 hl210_3
                         replace p210 := eq_true p210
                         replace q210 := eq_true q210
                         have hcz41_0 : wr.cell? ⟨gb205, 0, none⟩ = some (.int .i64 ((rd_T53 l0 a1).f0)) := (blk_cell BK205.out 0).trans rfl
                         have hcz41_1 : wr.cell? ⟨gb205, 1, none⟩ = some (.string ((rd_T53 l0 a1).f1)) := (blk_cell BK205.out 1).trans rfl
                         have hcz41_2 : wr.cell? ⟨gb205, 2, none⟩ = some (.bool ((rd_T53 l0 a1).f2)) := (blk_cell BK205.out 2).trans rfl
                         have hcz41_3 : wr.cell? ⟨gb205, 3, none⟩ = some (.slice A204_3 ((rd_T53 l0 a1).f3).length c204_3) := (blk_cell BK205.out 3).trans rfl
                         have hfz41_0 := blk_frozen BK205.out 0
                         have hfz41_1 := blk_frozen BK205.out 1
                         have hfz41_2 := blk_frozen BK205.out 2
                         have hfz41_3 := blk_frozen BK205.out 3
                         have p211 : 0 ≤ (x6_3 : Int) := of_decide_eq_true (by first | (with_reducible assumption) | assumption)
                         have q211 : x6_3 < (l0.length : Int) := of_decide_eq_true (by first | (with_reducible assumption) | assumption)
                         obtain ⟨ad211, A211_3, c211_3, e211, hx211_0, hx211_1, hx211_2, hx211_3, hl211_3, hi211_3⟩ := at_T53 HR0.out x6_3 p211 q211
                         obtain rfl : ad204 = ad211 := (by injection e211)
                         replace hx211_0 := (HB.out.cell (World.block_lt_of_cell? w _ hx211_0)).trans hx211_0
                         replace hx211_1 := (HB.out.cell (World.block_lt_of_cell? w _ hx211_1)).trans hx211_1
                         replace hx211_2 := (HB.out.cell (World.block_lt_of_cell? w _ hx211_2)).trans hx211_2
                         replace hx211_3 := (HB.out.cell (World.block_lt_of_cell? w _ hx211_3)).trans hx211_3
                         have HR211_3 := Aside0.mk hi211_3
                         have HC211_3 := Aside0.mk hl211_3
                         clear hi211_3 hl211_3
                         replace p211 := eq_true p211
                         replace q211 := eq_true q211
                         have ea_ := Option.some.inj (hx210_3.symm.trans hx211_3)
                         injection ea_ with ea_ en_ ec_
                         subst ea_
                         subst ec_
                         clear en_
                         go_wp2
                         repeat (go_quiet (fail); try go_wp2)
                         go_ret
                         exact ⟨by first | rfl | (simp [errW_none, errW_some] <;> rfl) | (simp [*, errW_none, errW_some] <;> rfl), by repeat (first | (with_reducible first | exact HB.out | apply below_alloc | apply pw_below_drewN | apply below_drew1 | refine below_set ?_ GE205.out) | exact HB.out)⟩
                       · rw [if_neg c40] at H
                         have c40b0 : (((rd_T53 l0 x6_3).f1).toList == ((rd_T53 l0 a1).f1).toList) = false := beq_eq_false_iff_ne.mpr c40
                         have c40b1 : (((rd_T53 l0 x6_3).f1).toList != ((rd_T53 l0 a1).f1).toList) = true := bne_iff_ne.mpr c40
                         have H' := Aside0.mk H
                         clear H
                         have p210 : 0 ≤ (x6_3 : Int) := of_decide_eq_true (by first | (with_reducible assumption) | assumption)
                         have q210 : x6_3 < (l0.length : Int) := of_decide_eq_true (by first | (with_reducible assumption) | assumption)
                         obtain ⟨ad210, A210_3, c210_3, e210, hx210_0, hx210_1, hx210_2, hx210_3, hl210_3, hi210_3⟩ := at_T53 HR0.out x6_3 p210 q210
                         obtain rfl : ad204 = ad210 := (by injection e210)
                         replace hx210_0 := (HB.out.cell (World.block_lt_of_cell? w _ hx210_0)).trans hx210_0
                         replace hx210_1 := (HB.out.cell (World.block_lt_of_cell? w _ hx210_1)).trans hx210_1
                         replace hx210_2 := (HB.out.cell (World.block_lt_of_cell? w _ hx210_2)).trans hx210_2
                         replace hx210_3 := (HB.out.cell (World.block_lt_of_cell? w _ hx210_3)).trans hx210_3
                         have HR210_3 := Aside0.mk hi210_3
                         have HC210_3 := Aside0.mk hl210_3
                         clear hi210_3 hl210_3
                         replace p210 := eq_true p210
                         replace q210 := eq_true q210
                         have hcz42_0 : wr.cell? ⟨gb205, 0, none⟩ = some (.int .i64 ((rd_T53 l0 a1).f0)) := (blk_cell BK205.out 0).trans rfl
                         have hcz42_1 : wr.cell? ⟨gb205, 1, none⟩ = some (.string ((rd_T53 l0 a1).f1)) := (blk_cell BK205.out 1).trans rfl
                         have hcz42_2 : wr.cell? ⟨gb205, 2, none⟩ = some (.bool ((rd_T53 l0 a1).f2)) := (blk_cell BK205.out 2).trans rfl
                         have hcz42_3 : wr.cell? ⟨gb205, 3, none⟩ = some (.slice A204_3 ((rd_T53 l0 a1).f3).length c204_3) := (blk_cell BK205.out 3).trans rfl
                         have hfz42_0 := blk_frozen BK205.out 0
                         have hfz42_1 := blk_frozen BK205.out 1
                         have hfz42_2 := blk_frozen BK205.out 2
                         have hfz42_3 := blk_frozen BK205.out 3
                         have p211 : 0 ≤ (x6_3 : Int) := of_decide_eq_true (by first | (with_reducible assumption) | assumption)
                         have q211 : x6_3 < (l0.length : Int) := of_decide_eq_true (by first | (with_reducible assumption) | assumption)
                         obtain ⟨ad211, A211_3, c211_3, e211, hx211_0, hx211_1, hx211_2, hx211_3, hl211_3, hi211_3⟩ := at_T53 HR0.out x6_3 p211 q211
                         obtain rfl : ad204 = ad211 := (by injection e211)
                         replace hx211_0 := (HB.out.cell (World.block_lt_of_cell? w _ hx211_0)).trans hx211_0
                         replace hx211_1 := (HB.out.cell (World.block_lt_of_cell? w _ hx211_1)).trans hx211_1
                         replace hx211_2 := (HB.out.cell (World.block_lt_of_cell? w _ hx211_2)).trans hx211_2
                         replace hx211_3 := (HB.out.cell (World.block_lt_of_cell? w _ hx211_3)).trans hx211_3
                         have HR211_3 := Aside0.mk hi211_3
                         have HC211_3 := Aside0.mk hl211_3
                         clear hi211_3 hl211_3
                         replace p211 := eq_true p211
                         replace q211 := eq_true q211
                         have ea_ := Option.some.inj (hx210_3.symm.trans hx211_3)
                         injection ea_ with ea_ en_ ec_
                         subst ea_
                         subst ec_
                         clear en_
                         go_wp2
                         repeat (go_quiet (fail); try go_wp2)
                         go_roundg k3
                         case measure => have := HJ4.out; have := HJ17.out; have := HK3.out; omega
                         case rel => exact ⟨(wrap64 (x6_3 + 1)), (by first | rfl | (simp; done) | (simp [*]; done)), H', ⟨by have := HJ4.out; have := HJ17.out; have := HK3.out; omega⟩, ⟨by (with_reducible repeat (first | refine blk_drewN ?_ _ | refine blk_drew ?_ | refine blk_alloc ?_ _)); exact BK205.out⟩, ⟨by repeat (first | (with_reducible first | exact HB.out | apply below_alloc | apply pw_below_drewN | apply below_drew1 | refine below_set ?_ GE205.out) | exact HB.out)⟩⟩
                     · rw [if_neg c39] at H
                       have c39b0 : (((rd_T53 l0 x6_3).f0) == ((rd_T53 l0 a1).f0)) = false := beq_eq_false_iff_ne.mpr c39
                       have c39b1 : (((rd_T53 l0 x6_3).f0) != ((rd_T53 l0 a1).f0)) = true := bne_iff_ne.mpr c39
                       have H' := Aside0.mk H
                       clear H
                       have p210 : 0 ≤ (x6_3 : Int) := of_decide_eq_true (by first | (with_reducible assumption) | assumption)
                       have q210 : x6_3 < (l0.length : Int) := of_decide_eq_true (by first | (with_reducible assumption) | assumption)
                       obtain ⟨ad210, A210_3, c210_3, e210, hx210_0, hx210_1, hx210_2, hx210_3, hl210_3, hi210_3⟩ := at_T53 HR0.out x6_3 p210 q210
                       obtain rfl : ad204 = ad210 := (by injection e210)
                       replace hx210_0 := (HB.out.cell (World.block_lt_of_cell? w _ hx210_0)).trans hx210_0
                       replace hx210_1 := (HB.out.cell (World.block_lt_of_cell? w _ hx210_1)).trans hx210_1
                       replace hx210_2 := (HB.out.cell (World.block_lt_of_cell? w _ hx210_2)).trans hx210_2
                       replace hx210_3 := (HB.out.cell (World.block_lt_of_cell? w _ hx210_3)).trans hx210_3
                       have HR210_3 := Aside0.mk hi210_3
                       have HC210_3 := Aside0.mk hl210_3
                       clear hi210_3 hl210_3
                       replace p210 := eq_true p210
                       replace q210 := eq_true q210
                       have hcz43_0 : wr.cell? ⟨gb205, 0, none⟩ = some (.int .i64 ((rd_T53 l0 a1).f0)) := (blk_cell BK205.out 0).trans rfl
                       have hcz43_1 : wr.cell? ⟨gb205, 1, none⟩ = some (.string ((rd_T53 l0 a1).f1)) := (blk_cell BK205.out 1).trans rfl
                       have hcz43_2 : wr.cell? ⟨gb205, 2, none⟩ = some (.bool ((rd_T53 l0 a1).f2)) := (blk_cell BK205.out 2).trans rfl
                       have hcz43_3 : wr.cell? ⟨gb205, 3, none⟩ = some (.slice A204_3 ((rd_T53 l0 a1).f3).length c204_3) := (blk_cell BK205.out 3).trans rfl
                       have hfz43_0 := blk_frozen BK205.out 0
                       have hfz43_1 := blk_frozen BK205.out 1
                       have hfz43_2 := blk_frozen BK205.out 2
                       have hfz43_3 := blk_frozen BK205.out 3
                       go_wp2
                       repeat (go_quiet (fail); try go_wp2)
                       go_roundg k3
                       case measure => have := HJ4.out; have := HJ17.out; have := HK3.out; omega
                       case rel => exact ⟨(wrap64 (x6_3 + 1)), (by first | rfl | (simp; done) | (simp [*]; done)), H', ⟨by have := HJ4.out; have := HJ17.out; have := HK3.out; omega⟩, ⟨by (with_reducible repeat (first | refine blk_drewN ?_ _ | refine blk_drew ?_ | refine blk_alloc ?_ _)); exact BK205.out⟩, ⟨by repeat (first | (with_reducible first | exact HB.out | apply below_alloc | apply pw_below_drewN | apply below_drew1 | refine below_set ?_ GE205.out) | exact HB.out)⟩⟩
                   · rw [if_neg c38] at H
                     exact absurd H (by simp)
                 · rw [if_neg c37] at H
                   exact absurd H (by simp)
               · rw [if_neg c36] at H
                 have c36b0 : decide (x6_3 < a1) = false := decide_eq_false c36
                 clear c36
                 obtain rfl := Option.some.inj H
                 go_wp2
                 repeat (go_quiet (fail); try go_wp2)
                 go_ret
                 exact ⟨by first | rfl | (simp [errW_none, errW_some] <;> rfl) | (simp [*, errW_none, errW_some] <;> rfl), by repeat (first | (with_reducible first | exact HB.out | apply below_alloc | apply pw_below_drewN | apply below_drew1 | refine below_set ?_ GE205.out) | exact HB.out)⟩
   · rw [if_neg c4] at H
     exact absurd H (by simp)
 · rw [if_neg c3] at H
   exact absurd H (by simp)
attribute [local go_sem] max2_int min2_int max_two min_two max_three min_three max_four min_four   -- for this text's walks alone
set_option linter.unusedVariables false
set_option linter.unusedSimpArgs false
def gessoref14_Reserved.f (a0 : ByteArray) : Option (Bool) := if a0.toList = ([46, 103, 101, 115, 115, 111] : List UInt8) then (some true) else (some (a0.toList == ([46, 103, 101, 115, 115, 111, 126] : List UInt8)))
theorem gessoref14_Reserved.calls (a0 : ByteArray) (r : Bool) (w : World) (h : gessoref14_Reserved.f a0 = some r) :
    Calls Tryz.prog 87 #[.string a0] w fun e w' => e = .returned (.bool r) ∧ Drawn0 w w' := by
 have H : (if a0.toList = ([46, 103, 101, 115, 115, 111] : List UInt8) then (some true) else (some (a0.toList == ([46, 103, 101, 115, 115, 111, 126] : List UInt8)))) = some r := h
 clear h
 by_cases c2 : a0.toList = ([46, 103, 101, 115, 115, 111] : List UInt8)
 · rw [if_pos c2] at H
   have c2b0 : (a0.toList == ([46, 103, 101, 115, 115, 111] : List UInt8)) = true := beq_iff_eq.mpr c2
   have c2b1 : (a0.toList != ([46, 103, 101, 115, 115, 111] : List UInt8)) = false := bne_eq_false_iff_eq.mpr c2
   clear c2
   obtain rfl := Option.some.inj H
   go_enter Tryz.func87, Tryz.ntmps87
   go_wp2
   go_ret
   exact ⟨by first | rfl | (simp; done) | (simp [*]; done), by repeat (first | exact Drawn0.refl _ | apply Drawn0.step)⟩
 · rw [if_neg c2] at H
   have c2b0 : (a0.toList == ([46, 103, 101, 115, 115, 111] : List UInt8)) = false := beq_eq_false_iff_ne.mpr c2
   have c2b1 : (a0.toList != ([46, 103, 101, 115, 115, 111] : List UInt8)) = true := bne_iff_ne.mpr c2
   obtain rfl := Option.some.inj H
   go_enter Tryz.func87, Tryz.ntmps87
   go_wp2
   go_ret
   exact ⟨by first | rfl | (simp; done) | (simp [*]; done), by repeat (first | exact Drawn0.refl _ | apply Drawn0.step)⟩
def gessoref14_Check.l0 : Nat → List (S53) → Bool → Int → Option (Int)
 | 0, _, _, _ => none
 | k + 1, x0, x3, x4 => if x4 < (x0.length : Int) then ((gessoref14_one.f k x0 x4).bind fun t212 => (if t212 = true then (if x3 = true then (gessoref14_Check.l0 k x0 true (wrap64 (x4 + 1))) else (if 0 ≤ x4 then ((gessoref14_Reserved.f ((rd_T53 x0 x4).f1)).bind fun t214 => (gessoref14_Check.l0 k x0 t214 (wrap64 (x4 + 1)))) else (none))) else (some 14))) else (if x3 = true then (some 15) else (some 0))
def gessoref14_Check.f (k : Nat) (l0 : List (S53)) : Option (Int) := if (l0.length : Int) > 64 then (some 14) else (gessoref14_Check.l0 k l0 false 0)
theorem gessoref14_Check.calls (k : Nat) (A0 : Option Addr) (c0 : Nat) (l0 : List (S53)) (r : Int) (w : World) (hr0 : Kd.C k53 w A0 l0.length l0) (hc0 : l0.length ≤ c0) (h : gessoref14_Check.f k l0 = some r) :
    Calls Tryz.prog 58 #[.slice A0 l0.length c0] w fun e w' => e = .returned (.int .i64 r) ∧ Below w.heap.size w w' := by
 have HR0 := Aside0.mk hr0
 have HC0 := Aside0.mk hc0
 clear hr0 hc0
 have HB := Aside0.mk (Below.refl w.heap.size w)
 have H : (if (l0.length : Int) > 64 then (some 14) else (gessoref14_Check.l0 k l0 false 0)) = some r := h
 clear h
 by_cases c2 : (l0.length : Int) > 64
 · rw [if_pos c2] at H
   have c2b0 : decide (64 < (l0.length : Int)) = true := decide_eq_true c2
   have c2b1 : decide (64 < l0.length) = true := decide_eq_true (by omega)
   clear c2
   obtain rfl := Option.some.inj H
   go_enter Tryz.func58, Tryz.ntmps58
   go_wp2
   go_ret
   exact ⟨by first | rfl | (simp [errW_none, errW_some] <;> rfl) | (simp [*, errW_none, errW_some] <;> rfl), by repeat (first | (with_reducible first | exact HB.out | apply below_alloc | apply pw_below_drewN | apply below_drew1) | exact HB.out)⟩
 · rw [if_neg c2] at H
   have c2b0 : decide (64 < (l0.length : Int)) = false := decide_eq_false c2
   have c2b1 : decide (64 < l0.length) = false := decide_eq_false (by omega)
   clear c2
   have H' := Aside0.mk H
   clear H
   go_enter Tryz.func58, Tryz.ntmps58
   go_wp2
   go_loopg [3, 4] k (fun kq v3 v4 w' => ∃ (x3_1 : Bool) (x4_1 : Int), v3 = .bool x3_1 ∧ v4 = .int .i64 x4_1 ∧ Aside0 (gessoref14_Check.l0 kq l0 x3_1 x4_1 = some r) ∧ Aside0 (kq ≤ k) ∧ Aside0 (Below w.heap.size w w'))
   case atStart => exact ⟨(false), (0), (by first | rfl | (simp; done) | (simp [*]; done)), (by first | rfl | (simp; done) | (simp [*]; done)), H', ⟨Nat.le_refl _⟩, ⟨by repeat (first | (with_reducible first | exact HB.out | apply below_alloc | apply pw_below_drewN | apply below_drew1) | exact HB.out)⟩⟩
   case round =>
    clear H'
    try clear c2
    try clear c2b0
    try clear c2b1
    try clear p2
    obtain ⟨x3_1, x4_1, rfl, rfl, HA, HK1, HB⟩ := hrel
    cases gk with
    | zero => exact absurd HA.out (by simp [gessoref14_Check.l0])
    | succ k1 =>
     have H := HA.out
     clear HA
     simp only [gessoref14_Check.l0] at H
     by_cases c3 : x4_1 < (l0.length : Int)
     · rw [if_pos c3] at H
       have c3b0 : decide (x4_1 < (l0.length : Int)) = true := decide_eq_true c3
       clear c3
       replace H := Option.bind_eq_some_iff.mp H
       obtain ⟨t212, A40, H⟩ := H
       replace H : (if t212 = true then (if x3_1 = true then (gessoref14_Check.l0 k1 l0 true (wrap64 (x4_1 + 1))) else (if 0 ≤ x4_1 then ((gessoref14_Reserved.f ((rd_T53 l0 x4_1).f1)).bind fun t214 => (gessoref14_Check.l0 k1 l0 t214 (wrap64 (x4_1 + 1)))) else (none))) else (some 14)) = some r := H
       have A4 := Aside0.mk A40
       clear A40
       by_cases c5 : t212 = true
       · subst c5
         have H1 : (if x3_1 = true then (gessoref14_Check.l0 k1 l0 true (wrap64 (x4_1 + 1))) else (if 0 ≤ x4_1 then ((gessoref14_Reserved.f ((rd_T53 l0 x4_1).f1)).bind fun t214 => (gessoref14_Check.l0 k1 l0 t214 (wrap64 (x4_1 + 1)))) else (none))) = some r := by rw [if_pos rfl] at H; exact H
         clear H
         have H := H1
         clear H1
         by_cases c6 : x3_1 = true
         · subst c6
           have H1 : (gessoref14_Check.l0 k1 l0 true (wrap64 (x4_1 + 1))) = some r := by rw [if_pos rfl] at H; exact H
           clear H
           have H := H1
           clear H1
           have H' := Aside0.mk H
           clear H
           go_wp2_with (first | ((with_reducible refine gate_callee (f := 86) rfl ?_); refine goesL_ (some 16) rfl rfl Tryz.func86 (by kernel_rfl) rfl #[.slice A0 l0.length c0, .int .i64 x4_1] rfl (by (try simp only [List.map_toArray, List.map_cons, List.map_nil]); first | done | rfl | (simp only [List.length_drop, List.length_take]; rfl)) ?_; (with_reducible refine (gessoref14_one.calls k1 _ _ l0 x4_1 true _ ?side1 ?side2 A4.out).mono ?_); (case side1 => repeat (first | exact (Kd.C_below HR0.out HB.out) | (with_reducible refine Kd.C_alloc ?_ _) | (with_reducible refine Kd.C_drewN ?_ _) | (with_reducible refine Kd.C_drew ?_))); (case side2 => exact HC0.out); rintro e w7 ⟨rfl, hb⟩; refine ⟨_, rfl, ?_⟩; have n0_ := Aside0.mk (below_step (by repeat (first | (with_reducible first | exact HB.out | apply below_alloc | apply pw_below_drewN | apply below_drew1) | exact HB.out)) hb); clear HB; have HB := n0_; clear n0_; (try clear hb); (try clear hb2); (try clear hk); (try clear hi)))
           go_roundg k1
           case measure => have := HK1.out; omega
           case rel => exact ⟨(true), (wrap64 (x4_1 + 1)), (by first | rfl | (simp; done) | (simp [*]; done)), (by first | rfl | (simp; done) | (simp [*]; done)), H', ⟨by have := HK1.out; omega⟩, ⟨by repeat (first | (with_reducible first | exact HB.out | apply below_alloc | apply pw_below_drewN | apply below_drew1) | exact HB.out)⟩⟩
         · replace c6 := Bool.eq_false_iff.mpr c6
           subst c6
           have H1 : (if 0 ≤ x4_1 then ((gessoref14_Reserved.f ((rd_T53 l0 x4_1).f1)).bind fun t214 => (gessoref14_Check.l0 k1 l0 t214 (wrap64 (x4_1 + 1)))) else (none)) = some r := by rw [if_neg (show ¬ (false = true) by decide)] at H; exact H
           clear H
           have H := H1
           clear H1
           by_cases c8 : 0 ≤ x4_1
           · rw [if_pos c8] at H
             have c8b0 : decide (0 ≤ x4_1) = true := decide_eq_true c8
             clear c8
             replace H := Option.bind_eq_some_iff.mp H
             obtain ⟨t214, A90, H⟩ := H
             replace H : (gessoref14_Check.l0 k1 l0 t214 (wrap64 (x4_1 + 1))) = some r := H
             have A9 := Aside0.mk A90
             clear A90
             have H' := Aside0.mk H
             clear H
             go_wp2_with (first | ((with_reducible refine gate_callee (f := 86) rfl ?_); refine goesL_ (some 16) rfl rfl Tryz.func86 (by kernel_rfl) rfl #[.slice A0 l0.length c0, .int .i64 x4_1] rfl (by (try simp only [List.map_toArray, List.map_cons, List.map_nil]); first | done | rfl | (simp only [List.length_drop, List.length_take]; rfl)) ?_; (with_reducible refine (gessoref14_one.calls k1 _ _ l0 x4_1 true _ ?side1 ?side2 A4.out).mono ?_); (case side1 => repeat (first | exact (Kd.C_below HR0.out HB.out) | (with_reducible refine Kd.C_alloc ?_ _) | (with_reducible refine Kd.C_drewN ?_ _) | (with_reducible refine Kd.C_drew ?_))); (case side2 => exact HC0.out); rintro e w10 ⟨rfl, hb⟩; refine ⟨_, rfl, ?_⟩; have n0_ := Aside0.mk (below_step (by repeat (first | (with_reducible first | exact HB.out | apply below_alloc | apply pw_below_drewN | apply below_drew1) | exact HB.out)) hb); clear HB; have HB := n0_; clear n0_; (try clear hb); (try clear hb2); (try clear hk); (try clear hi); have p213 : 0 ≤ (x4_1 : Int) := of_decide_eq_true (by first | (with_reducible assumption) | assumption); have q213 : x4_1 < (l0.length : Int) := of_decide_eq_true (by first | (with_reducible assumption) | assumption); obtain ⟨ad213, A213_3, c213_3, e213, hx213_0, hx213_1, hx213_2, hx213_3, hl213_3, hi213_3⟩ := at_T53 HR0.out x4_1 p213 q213; cases e213; replace hx213_0 := (HB.out.cell (World.block_lt_of_cell? w _ hx213_0)).trans hx213_0; replace hx213_1 := (HB.out.cell (World.block_lt_of_cell? w _ hx213_1)).trans hx213_1; replace hx213_2 := (HB.out.cell (World.block_lt_of_cell? w _ hx213_2)).trans hx213_2; replace hx213_3 := (HB.out.cell (World.block_lt_of_cell? w _ hx213_3)).trans hx213_3; have HR213_3 := Aside0.mk hi213_3; have HC213_3 := Aside0.mk hl213_3; clear hi213_3 hl213_3; replace p213 := eq_true p213; replace q213 := eq_true q213) | (go_at_call 87; (with_reducible refine (gessoref14_Reserved.calls ((rd_T53 l0 x4_1).f1) t214 _ A9.out).mono ?_); rintro e w' ⟨rfl, ⟨nd, rfl⟩⟩))
             go_roundg k1
             case measure => have := HK1.out; omega
             case rel => exact ⟨(t214), (wrap64 (x4_1 + 1)), (by first | rfl | (simp; done) | (simp [*]; done)), (by first | rfl | (simp; done) | (simp [*]; done)), H', ⟨by have := HK1.out; omega⟩, ⟨by repeat (first | (with_reducible first | exact HB.out | apply below_alloc | apply pw_below_drewN | apply below_drew1) | exact HB.out)⟩⟩
           · rw [if_neg c8] at H
             exact absurd H (by simp)
       · replace c5 := Bool.eq_false_iff.mpr c5
         subst c5
         have H1 : (some 14) = some r := by rw [if_neg (show ¬ (false = true) by decide)] at H; exact H
         clear H
         have H := H1
         clear H1
         obtain rfl := Option.some.inj H
         go_wp2_with (first | ((with_reducible refine gate_callee (f := 86) rfl ?_); refine goesL_ (some 16) rfl rfl Tryz.func86 (by kernel_rfl) rfl #[.slice A0 l0.length c0, .int .i64 x4_1] rfl (by (try simp only [List.map_toArray, List.map_cons, List.map_nil]); first | done | rfl | (simp only [List.length_drop, List.length_take]; rfl)) ?_; (with_reducible refine (gessoref14_one.calls k1 _ _ l0 x4_1 false _ ?side1 ?side2 A4.out).mono ?_); (case side1 => repeat (first | exact (Kd.C_below HR0.out HB.out) | (with_reducible refine Kd.C_alloc ?_ _) | (with_reducible refine Kd.C_drewN ?_ _) | (with_reducible refine Kd.C_drew ?_))); (case side2 => exact HC0.out); rintro e w11 ⟨rfl, hb⟩; refine ⟨_, rfl, ?_⟩; have n0_ := Aside0.mk (below_step (by repeat (first | (with_reducible first | exact HB.out | apply below_alloc | apply pw_below_drewN | apply below_drew1) | exact HB.out)) hb); clear HB; have HB := n0_; clear n0_; (try clear hb); (try clear hb2); (try clear hk); (try clear hi)))
         go_ret
         exact ⟨by first | rfl | (simp [errW_none, errW_some] <;> rfl) | (simp [*, errW_none, errW_some] <;> rfl), by repeat (first | (with_reducible first | exact HB.out | apply below_alloc | apply pw_below_drewN | apply below_drew1) | exact HB.out)⟩
     · rw [if_neg c3] at H
       have c3b0 : decide (x4_1 < (l0.length : Int)) = false := decide_eq_false c3
       clear c3
       by_cases c12 : x3_1 = true
       · subst c12
         have H1 : (some 15) = some r := by rw [if_pos rfl] at H; exact H
         clear H
         have H := H1
         clear H1
         obtain rfl := Option.some.inj H
         go_wp2
         go_ret
         exact ⟨by first | rfl | (simp [errW_none, errW_some] <;> rfl) | (simp [*, errW_none, errW_some] <;> rfl), by repeat (first | (with_reducible first | exact HB.out | apply below_alloc | apply pw_below_drewN | apply below_drew1) | exact HB.out)⟩
       · replace c12 := Bool.eq_false_iff.mpr c12
         subst c12
         have H1 : (some 0) = some r := by rw [if_neg (show ¬ (false = true) by decide)] at H; exact H
         clear H
         have H := H1
         clear H1
         obtain rfl := Option.some.inj H
         go_wp2
         go_ret
         exact ⟨by first | rfl | (simp [errW_none, errW_some] <;> rfl) | (simp [*, errW_none, errW_some] <;> rfl), by repeat (first | (with_reducible first | exact HB.out | apply below_alloc | apply pw_below_drewN | apply below_drew1) | exact HB.out)⟩
attribute [local go_sem] max2_int min2_int max_two min_two max_three min_three max_four min_four   -- for this text's walks alone
set_option linter.unusedVariables false
set_option linter.unusedSimpArgs false
attribute [local go_sem] max2_int min2_int max_two min_two max_three min_three max_four min_four   -- for this text's walks alone
set_option linter.unusedVariables false
set_option linter.unusedSimpArgs false
attribute [local go_sem] max2_int min2_int max_two min_two max_three min_three max_four min_four   -- for this text's walks alone
set_option linter.unusedVariables false
set_option linter.unusedSimpArgs false
end Go.Proofs.YthlflglkdaainaaGreatDoor.Prt
