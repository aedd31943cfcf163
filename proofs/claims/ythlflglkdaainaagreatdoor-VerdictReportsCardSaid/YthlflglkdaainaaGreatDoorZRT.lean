import Derived.Test.YthlflglkdaainaaGreatDoorProg
import Derived.Below
import Derived.Deep.Draws
import Derived.Deep.AppendLies
import Derived.Maps.AppendAt
import Derived.OwnWalk
import Derived.Laws.BytesArg
import Derived.Laws.MakeOwn
import Derived.Laws.OwnMore
import Derived.Deep.OwnRows
import Derived.Tactics
import Derived.Lib.ConvBytes
import Derived.Laws.Slices
import Derived.WalkKit
import Derived.KernelRfl
import Derived.RowKit3
import Derived.Deep.LoopGhost
import Derived.Deep.QuietTactic
import Derived.BigQuiet
import Derived.WideLaws
import Derived.Deep.DeepCutAuto
import Derived.Deep.CutBlock
import Derived.Deep.RegionHeld3
import Derived.Laws.Rows
import Derived.Lib.AppendStr
import Derived.ArgAppend
import Derived.Laws.IdiomCopy
import Derived.OrdersHeld
import Derived.Laws.BitsLemmas
import Derived.RowKit
import Derived.Test.YthlflglkdaainaaGreatDoorZRW
/- Texts of this seat: T0, TEqual, T1, T2, T3, T4, T5, T11, T12, T13. -/
set_option maxRecDepth 100000
set_option maxHeartbeats 16000000
namespace Go.Proofs.YthlflglkdaainaaGreatDoor.Prt
open Go.RowKit Go.Proofs.YthlflglkdaainaaGreatDoorW.aN Go.Proofs.YthlflglkdaainaaGreatDoorW.bI Go.Proofs.YthlflglkdaainaaGreatDoorW.cZ
attribute [local go_sem] kU kV nM nN jq jr kW kX   -- for this text's walks alone
set_option linter.unusedVariables false
set_option linter.unusedSimpArgs false
def errW : Option Int → Value
 | none => .nilIface
 | some c => .iface 0 (.int .i64 c)
theorem ahV : errW none = .nilIface := rfl
theorem ahW (c : Int) : errW (some c) = .iface 0 (.int .i64 c) := rfl
theorem info3 : (Tryz.prog.info? 3).map (fun i => (i.zero, i.size, i.bytes)) = some (some (.int .i64 0), 1, 8) := by kernel_rfl
theorem info5 : (Tryz.prog.info? 5).map (fun i => (i.zero, i.size, i.bytes)) = some (some (.int .u8 0), 1, 1) := by kernel_rfl
theorem info9 : (Tryz.prog.info? 9).map (fun i => (i.zero, i.size, i.bytes)) = some (some (.string ⟨#[]⟩), 1, 16) := by kernel_rfl
theorem uX : (Tryz.prog.info? 53).map (fun i => (i.zero, i.size, i.bytes)) = some (some (.agg #[(.int .i64 0), (.string ⟨#[]⟩), (.bool false), (.slice none 0 0)]), 4, 56) := by kernel_rfl
structure S53 where
 f0 : Int
 f1 : ByteArray
 f2 : Bool
 f3 : (List Int)
def z53 : S53 := ⟨(0 : Int), (⟨#[]⟩ : ByteArray), false, ([] : List Int)⟩
def k53 : Kd S53 := Kd.iso (Kd.pair (Kd.int .i64) (Kd.pair Kd.string (Kd.pair Kd.bool (Kd.slice 5 (Kd.int .u8))))) (fun x : S53 => (x.f0, x.f1, x.f2, x.f3))
theorem Oc {w : World} {x : S53} {cs : List Value} (h : k53.K w x cs) : ∃ A3 c3, cs = [.int .i64 x.f0, .string x.f1, .bool x.f2, .slice A3 x.f3.length c3] ∧ x.f3.length ≤ c3 ∧ (Kd.int .u8).C w A3 x.f3.length x.f3 := by
 obtain ⟨_, _, rfl, rfl, ⟨_, _, rfl, rfl, ⟨_, _, rfl, rfl, ⟨A3, c3, rfl, l3, g3⟩⟩⟩⟩ := h
 exact ⟨A3, c3, rfl, l3, g3⟩
theorem BK {w : World} {base : Nat} {ok : Nat → Prop} {x : S53} {cs : List Value} (h : k53.M w base ok x cs) : ∃ v3, cs = [.int .i64 x.f0, .string x.f1, .bool x.f2, v3] ∧ (Kd.int .u8).R 5 w base ok v3 x.f3 := by
 obtain ⟨_, _, rfl, rfl, ⟨_, _, rfl, rfl, ⟨_, _, rfl, rfl, ⟨v3, rfl, g3⟩⟩⟩⟩ := h
 exact ⟨v3, rfl, g3⟩
theorem JW (w : World) (x : S53) {A3 : Option Addr} {c3 : Nat} (l3 : x.f3.length ≤ c3) (g3 : (Kd.int .u8).C w A3 x.f3.length x.f3) : k53.K w x [.int .i64 x.f0, .string x.f1, .bool x.f2, .slice A3 x.f3.length c3] := ⟨[.int .i64 x.f0], [.string x.f1, .bool x.f2, .slice A3 x.f3.length c3], rfl, rfl, ⟨[.string x.f1], [.bool x.f2, .slice A3 x.f3.length c3], rfl, rfl, ⟨[.bool x.f2], [.slice A3 x.f3.length c3], rfl, rfl, ⟨A3, c3, rfl, l3, g3⟩⟩⟩⟩
theorem tN (w : World) (base : Nat) (ok : Nat → Prop) (x : S53) {v3 : Value} (g3 : (Kd.int .u8).R 5 w base ok v3 x.f3) : k53.M w base ok x [.int .i64 x.f0, .string x.f1, .bool x.f2, v3] := ⟨[.int .i64 x.f0], [.string x.f1, .bool x.f2, v3], rfl, rfl, ⟨[.string x.f1], [.bool x.f2, v3], rfl, rfl, ⟨[.bool x.f2], [v3], rfl, rfl, ⟨v3, rfl, g3⟩⟩⟩⟩
theorem Tv (W : World) (ok : Nat → Prop) (x : S53) {A3 : Option Addr} {c3 : Nat} (l3 : x.f3.length ≤ c3) (g3 : Kd.F (Kd.int .u8) W ok A3 x.f3.length x.f3) : Kd.FK k53 W ok x [.int .i64 x.f0, .string x.f1, .bool x.f2, .slice A3 x.f3.length c3] := fun W2 hW => JW W2 x l3 (g3 W2 hW)
def aj (xs : List S53) (i : Int) : S53 := xs.getD i.toNat z53
theorem bC {w : World} {A : Option Addr} {n : Nat} {xs : List S53} (h : Kd.C k53 w A n xs) (i : Int) (h0 : 0 ≤ i) (h1 : i < n) : ∃ ad A3 c3, A = some ad ∧ w.cell? (ad.add (i.toNat * 4)) = some (.int .i64 (aj xs i).f0) ∧ w.cell? ⟨(ad.add (i.toNat * 4)).block, (ad.add (i.toNat * 4)).off + 1, none⟩ = some (.string (aj xs i).f1) ∧ w.cell? ⟨(ad.add (i.toNat * 4)).block, (ad.add (i.toNat * 4)).off + 2, none⟩ = some (.bool (aj xs i).f2) ∧ w.cell? ⟨(ad.add (i.toNat * 4)).block, (ad.add (i.toNat * 4)).off + 3, none⟩ = some (.slice A3 (aj xs i).f3.length c3) ∧ (aj xs i).f3.length ≤ c3 ∧ (Kd.int .u8).C w A3 (aj xs i).f3.length (aj xs i).f3 := by
 obtain ⟨ad, c, e, _, hK, hc0⟩ := Kd.Df h z53 i h0 h1
 have hc : ∀ j u, c[j]? = some u → w.cell? (ad.add (i.toNat * 4 + j)) = some u := hc0
 obtain ⟨A3, c3, rfl, l3, g3⟩ := Oc hK
 exact ⟨ad, A3, c3, e, hc 0 _ rfl, by rw [← kG _ _ 1 (by omega)]; exact hc 1 _ rfl, by rw [← kG _ _ 2 (by omega)]; exact hc 2 _ rfl, by rw [← kG _ _ 3 (by omega)]; exact hc 3 _ rfl, l3, g3⟩
structure S49 where
 f0 : ByteArray
 f1 : Int
 f2 : (List Int)
 f3 : Int
def z49 : S49 := ⟨(⟨#[]⟩ : ByteArray), (0 : Int), ([] : List Int), (0 : Int)⟩
def k49 : Kd S49 := Kd.iso (Kd.pair Kd.string (Kd.pair (Kd.int .u8) (Kd.pair (Kd.slice 5 (Kd.int .u8)) (Kd.int .u8)))) (fun x : S49 => (x.f0, x.f1, x.f2, x.f3))
theorem EF {w : World} {x : S49} {cs : List Value} (h : k49.K w x cs) : ∃ A2 c2, cs = [.string x.f0, .int .u8 x.f1, .slice A2 x.f2.length c2, .int .u8 x.f3] ∧ x.f2.length ≤ c2 ∧ (Kd.int .u8).C w A2 x.f2.length x.f2 := by
 obtain ⟨_, _, rfl, rfl, ⟨_, _, rfl, rfl, ⟨_, _, rfl, ⟨A2, c2, rfl, l2, g2⟩, rfl⟩⟩⟩ := h
 exact ⟨A2, c2, rfl, l2, g2⟩
theorem rV {w : World} {base : Nat} {ok : Nat → Prop} {x : S49} {cs : List Value} (h : k49.M w base ok x cs) : ∃ v2, cs = [.string x.f0, .int .u8 x.f1, v2, .int .u8 x.f3] ∧ (Kd.int .u8).R 5 w base ok v2 x.f2 := by
 obtain ⟨_, _, rfl, rfl, ⟨_, _, rfl, rfl, ⟨_, _, rfl, ⟨v2, rfl, g2⟩, rfl⟩⟩⟩ := h
 exact ⟨v2, rfl, g2⟩
theorem afM (w : World) (x : S49) {A2 : Option Addr} {c2 : Nat} (l2 : x.f2.length ≤ c2) (g2 : (Kd.int .u8).C w A2 x.f2.length x.f2) : k49.K w x [.string x.f0, .int .u8 x.f1, .slice A2 x.f2.length c2, .int .u8 x.f3] := ⟨[.string x.f0], [.int .u8 x.f1, .slice A2 x.f2.length c2, .int .u8 x.f3], rfl, rfl, ⟨[.int .u8 x.f1], [.slice A2 x.f2.length c2, .int .u8 x.f3], rfl, rfl, ⟨[.slice A2 x.f2.length c2], [.int .u8 x.f3], rfl, ⟨A2, c2, rfl, l2, g2⟩, rfl⟩⟩⟩
theorem zn (w : World) (base : Nat) (ok : Nat → Prop) (x : S49) {v2 : Value} (g2 : (Kd.int .u8).R 5 w base ok v2 x.f2) : k49.M w base ok x [.string x.f0, .int .u8 x.f1, v2, .int .u8 x.f3] := ⟨[.string x.f0], [.int .u8 x.f1, v2, .int .u8 x.f3], rfl, rfl, ⟨[.int .u8 x.f1], [v2, .int .u8 x.f3], rfl, rfl, ⟨[v2], [.int .u8 x.f3], rfl, ⟨v2, rfl, g2⟩, rfl⟩⟩⟩
theorem BL {W : World} {ok : Nat → Prop} {x : S49} {cs : List Value} (h : Kd.FK k49 W ok x cs) : ∃ A2 c2, cs = [.string x.f0, .int .u8 x.f1, .slice A2 x.f2.length c2, .int .u8 x.f3] ∧ x.f2.length ≤ c2 ∧ Kd.F (Kd.int .u8) W ok A2 x.f2.length x.f2 := by
 obtain ⟨A2, c2, rfl, l2, _⟩ := EF (Kd.yC h)
 exact ⟨A2, c2, rfl, l2, (fun W' hW => by obtain ⟨A2_, c2_, he, l2_, g2_⟩ := EF (h W' hW); injection (Option.some.inj (show some (Value.slice A2 x.f2.length c2) = some (Value.slice A2_ x.f2.length c2_) from congrArg (fun l => l[2]?) he)) with ha_ _ _; rw [ha_]; exact g2_)⟩
theorem acv (W : World) (ok : Nat → Prop) (x : S49) {A2 : Option Addr} {c2 : Nat} (l2 : x.f2.length ≤ c2) (g2 : Kd.F (Kd.int .u8) W ok A2 x.f2.length x.f2) : Kd.FK k49 W ok x [.string x.f0, .int .u8 x.f1, .slice A2 x.f2.length c2, .int .u8 x.f3] := fun W2 hW => afM W2 x l2 (g2 W2 hW)
def dV (xs : List S49) (i : Int) : S49 := xs.getD i.toNat z49
theorem QA {w : World} {A : Option Addr} {n : Nat} {xs : List S49} (h : Kd.C k49 w A n xs) (i : Int) (h0 : 0 ≤ i) (h1 : i < n) : ∃ ad A2 c2, A = some ad ∧ w.cell? (ad.add (i.toNat * 4)) = some (.string (dV xs i).f0) ∧ w.cell? ⟨(ad.add (i.toNat * 4)).block, (ad.add (i.toNat * 4)).off + 1, none⟩ = some (.int .u8 (dV xs i).f1) ∧ w.cell? ⟨(ad.add (i.toNat * 4)).block, (ad.add (i.toNat * 4)).off + 2, none⟩ = some (.slice A2 (dV xs i).f2.length c2) ∧ w.cell? ⟨(ad.add (i.toNat * 4)).block, (ad.add (i.toNat * 4)).off + 3, none⟩ = some (.int .u8 (dV xs i).f3) ∧ (dV xs i).f2.length ≤ c2 ∧ (Kd.int .u8).C w A2 (dV xs i).f2.length (dV xs i).f2 := by
 obtain ⟨ad, c, e, _, hK, hc0⟩ := Kd.Df h z49 i h0 h1
 have hc : ∀ j u, c[j]? = some u → w.cell? (ad.add (i.toNat * 4 + j)) = some u := hc0
 obtain ⟨A2, c2, rfl, l2, g2⟩ := EF hK
 exact ⟨ad, A2, c2, e, hc 0 _ rfl, by rw [← kG _ _ 1 (by omega)]; exact hc 1 _ rfl, by rw [← kG _ _ 2 (by omega)]; exact hc 2 _ rfl, by rw [← kG _ _ 3 (by omega)]; exact hc 3 _ rfl, l2, g2⟩
structure S90 where
 f0 : (List ByteArray)
 f1 : Int
def z90 : S90 := ⟨([] : List ByteArray), (0 : Int)⟩
def k90 : Kd S90 := Kd.iso (Kd.pair (Kd.slice 9 Kd.string) (Kd.int .u8)) (fun x : S90 => (x.f0, x.f1))
theorem EG {w : World} {x : S90} {cs : List Value} (h : k90.K w x cs) : ∃ A0 c0, cs = [.slice A0 x.f0.length c0, .int .u8 x.f1] ∧ x.f0.length ≤ c0 ∧ Kd.string.C w A0 x.f0.length x.f0 := by
 obtain ⟨_, _, rfl, ⟨A0, c0, rfl, l0, g0⟩, rfl⟩ := h
 exact ⟨A0, c0, rfl, l0, g0⟩
theorem afN (w : World) (x : S90) {A0 : Option Addr} {c0 : Nat} (l0 : x.f0.length ≤ c0) (g0 : Kd.string.C w A0 x.f0.length x.f0) : k90.K w x [.slice A0 x.f0.length c0, .int .u8 x.f1] := ⟨[.slice A0 x.f0.length c0], [.int .u8 x.f1], rfl, ⟨A0, c0, rfl, l0, g0⟩, rfl⟩
theorem acw (w : World) (base : Nat) (ok : Nat → Prop) (x : S90) {v0 : Value} (g0 : Kd.string.R 9 w base ok v0 x.f0) : k90.M w base ok x [v0, .int .u8 x.f1] := ⟨[v0], [.int .u8 x.f1], rfl, ⟨v0, rfl, g0⟩, rfl⟩
theorem Ws {W : World} {ok : Nat → Prop} {x : S90} {cs : List Value} (h : Kd.FK k90 W ok x cs) : ∃ A0 c0, cs = [.slice A0 x.f0.length c0, .int .u8 x.f1] ∧ x.f0.length ≤ c0 ∧ Kd.F Kd.string W ok A0 x.f0.length x.f0 := by
 obtain ⟨A0, c0, rfl, l0, _⟩ := EG (Kd.yC h)
 exact ⟨A0, c0, rfl, l0, (fun W' hW => by obtain ⟨A0_, c0_, he, l0_, g0_⟩ := EG (h W' hW); injection (Option.some.inj (show some (Value.slice A0 x.f0.length c0) = some (Value.slice A0_ x.f0.length c0_) from congrArg (fun l => l[0]?) he)) with ha_ _ _; rw [ha_]; exact g0_)⟩
theorem acy (W : World) (ok : Nat → Prop) (x : S90) {A0 : Option Addr} {c0 : Nat} (l0 : x.f0.length ≤ c0) (g0 : Kd.F Kd.string W ok A0 x.f0.length x.f0) : Kd.FK k90 W ok x [.slice A0 x.f0.length c0, .int .u8 x.f1] := fun W2 hW => afN W2 x l0 (g0 W2 hW)
def EH (xs : List S90) (i : Int) : S90 := xs.getD i.toNat z90
theorem YE {w : World} {A : Option Addr} {n : Nat} {xs : List S90} (h : Kd.C k90 w A n xs) (i : Int) (h0 : 0 ≤ i) (h1 : i < n) : ∃ ad A0 c0, A = some ad ∧ w.cell? (ad.add (i.toNat * 2)) = some (.slice A0 (EH xs i).f0.length c0) ∧ w.cell? ⟨(ad.add (i.toNat * 2)).block, (ad.add (i.toNat * 2)).off + 1, none⟩ = some (.int .u8 (EH xs i).f1) ∧ (EH xs i).f0.length ≤ c0 ∧ Kd.string.C w A0 (EH xs i).f0.length (EH xs i).f0 := by
 obtain ⟨ad, c, e, _, hK, hc0⟩ := Kd.Df h z90 i h0 h1
 have hc : ∀ j u, c[j]? = some u → w.cell? (ad.add (i.toNat * 2 + j)) = some u := hc0
 obtain ⟨A0, c0, rfl, l0, g0⟩ := EG hK
 exact ⟨ad, A0, c0, e, hc 0 _ rfl, by rw [← kG _ _ 1 (by omega)]; exact hc 1 _ rfl, l0, g0⟩
attribute [local go_sem] kU kV nM nN jq jr kW kX   -- for this text's walks alone
set_option linter.unusedVariables false
set_option linter.unusedSimpArgs false
attribute [local go_sem] kU kV nM nN jq jr kW kX   -- for this text's walks alone
set_option linter.unusedVariables false
set_option linter.unusedSimpArgs false
def bn.l0 : Nat → List (S53) → Int → Int → Int → Option (Bool)
 | 0, _, _, _, _ => none
 | k + 1, x0, x1, x5, x6 => if x6 < (x0.length : Int) then (if 0 ≤ x6 then (bn.l0 k x0 x1 (wrap64 ((wrap64 (x5 + (mn (((aj x0 x6).f3).length : Int) (wrap64 (x1 + 1))))) + (mn (((aj x0 x6).f1).size : Int) (wrap64 (x1 + 1))))) (wrap64 (x6 + 1))) else (none)) else (some (decide (x5 ≤ x1)))
def bn.f (k : Nat) (l0 : List (S53)) (a1 : Int) : Option (Bool) := if (l0.length : Int) > 70 then (some false) else (bn.l0 k l0 a1 0 0)
theorem bn.calls (k : Nat) (A0 : Option Addr) (c0 : Nat) (l0 : List (S53)) (a1 : Int) (r : Bool) (w : World) (hr0 : Kd.C k53 w A0 l0.length l0) (hc0 : l0.length ≤ c0) (h : bn.f k l0 a1 = some r) :
    Calls Tryz.prog 15 #[.slice A0 l0.length c0, .int .i64 a1] w fun e w' => e = .returned (.bool r) ∧ Below w.heap.size w w' := by
 have HR0 := ah.mk hr0
 have HC0 := ah.mk hc0
 clear hr0 hc0
 have HB := ah.mk (Below.refl w.heap.size w)
 have H : (if (l0.length : Int) > 70 then (some false) else (bn.l0 k l0 a1 0 0)) = some r := h
 clear h
 by_cases c3 : (l0.length : Int) > 70
 · rw [if_pos c3] at H
   have uY : decide (70 < (l0.length : Int)) = true := decide_eq_true c3
   have QB : decide (70 < l0.length) = true := decide_eq_true (by omega)
   clear c3
   obtain rfl := Option.some.inj H
   go_enter Tryz.func15, Tryz.ntmps15
   go_wp2
   go_ret
   exact ⟨by first | rfl , by exact HB.out⟩
 · rw [if_neg c3] at H
   have uY : decide (70 < (l0.length : Int)) = false := decide_eq_false c3
   have QB : decide (70 < l0.length) = false := decide_eq_false (by omega)
   clear c3
   have H' := ah.mk H
   clear H
   go_enter Tryz.func15, Tryz.ntmps15
   go_wp2
   go_loopg [5, 6] k (fun kq v5 v6 w' => ∃ (aG : Int) (bF : Int), v5 = .int .i64 aG ∧ v6 = .int .i64 bF ∧ ah (bn.l0 kq l0 a1 aG bF = some r) ∧ ah (kq ≤ k) ∧ ah (Below w.heap.size w w'))
   case atStart => exact ⟨(0), (0), (by first | rfl), (by first | rfl), H', ⟨Nat.le_refl _⟩, ⟨by exact HB.out⟩⟩
   case round =>
    clear H'
    try clear c1
    try clear p2
    try clear c3
    try clear uY
    try clear QB
    obtain ⟨aG, bF, rfl, rfl, HA, HK1, HB⟩ := hrel
    cases gk with
    | zero => exact absurd HA.out (by simp [bn.l0])
    | succ k1 =>
     have H := HA.out
     clear HA
     simp only [bn.l0] at H
     by_cases c4 : bF < (l0.length : Int)
     · rw [if_pos c4] at H
       have yD : decide (bF < (l0.length : Int)) = true := decide_eq_true c4
       clear c4
       by_cases c5 : 0 ≤ bF
       · rw [if_pos c5] at H
         have EI : decide (0 ≤ bF) = true := decide_eq_true c5
         clear c5
         obtain ⟨ji6, hji6⟩ : ∃ j_ : Int, (mn (((aj l0 bF).f3).length : Int) (wrap64 (a1 + 1))) = j_ := ⟨_, rfl⟩
         replace H : (bn.l0 k1 l0 a1 (wrap64 ((wrap64 (aG + (ji6))) + (mn (((aj l0 bF).f1).size : Int) (wrap64 (a1 + 1))))) (wrap64 (bF + 1))) = some r := by first | (rw [hji6] at H; exact H)
         have hji6_ : (if (wrap64 (a1 + 1)) < (((aj l0 bF).f3).length : Int) then (wrap64 (a1 + 1)) else (((aj l0 bF).f3).length : Int)) = ji6 := hji6
         obtain ⟨ji7, hji7⟩ : ∃ j_ : Int, (mn (((aj l0 bF).f1).size : Int) (wrap64 (a1 + 1))) = j_ := ⟨_, rfl⟩
         replace H : (bn.l0 k1 l0 a1 (wrap64 ((wrap64 (aG + (ji6))) + (ji7))) (wrap64 (bF + 1))) = some r := by first | (rw [hji7] at H; exact H)
         have hji7_ : (if (wrap64 (a1 + 1)) < (((aj l0 bF).f1).size : Int) then (wrap64 (a1 + 1)) else (((aj l0 bF).f1).size : Int)) = ji7 := hji7
         have H' := ah.mk H
         clear H
         have p101 : 0 ≤ (bF : Int) := of_decide_eq_true (by with_reducible assumption)
         have q101 : bF < (l0.length : Int) := of_decide_eq_true (by with_reducible assumption)
         obtain ⟨ad101, A101_3, c101_3, e101, KE, KF, KG, Eb, TP, TQ⟩ := bC HR0.out bF p101 q101
         cases e101
         replace KE := (HB.out.cell (World.block_lt_of_cell? w _ KE)).trans KE
         replace KF := (HB.out.cell (World.block_lt_of_cell? w _ KF)).trans KF
         replace KG := (HB.out.cell (World.block_lt_of_cell? w _ KG)).trans KG
         replace Eb := (HB.out.cell (World.block_lt_of_cell? w _ Eb)).trans Eb
         have ajE := ah.mk TQ
         have ajF := ah.mk TP
         clear TQ TP
         replace p101 := eq_true p101
         replace q101 := eq_true q101
         have p102 : 0 ≤ (bF : Int) := of_decide_eq_true (by with_reducible assumption)
         have q102 : bF < (l0.length : Int) := of_decide_eq_true (by with_reducible assumption)
         obtain ⟨ad102, A102_3, c102_3, e102, KH, KI, KJ, Ec, TR, TS⟩ := bC HR0.out bF p102 q102
         obtain rfl : ad101 = ad102 := (by injection e102)
         replace KH := (HB.out.cell (World.block_lt_of_cell? w _ KH)).trans KH
         replace KI := (HB.out.cell (World.block_lt_of_cell? w _ KI)).trans KI
         replace KJ := (HB.out.cell (World.block_lt_of_cell? w _ KJ)).trans KJ
         replace Ec := (HB.out.cell (World.block_lt_of_cell? w _ Ec)).trans Ec
         have ajG := ah.mk TS
         have ajH := ah.mk TR
         clear TS TR
         replace p102 := eq_true p102
         replace q102 := eq_true q102
         have ea_ := Option.some.inj (Eb.symm.trans Ec)
         injection ea_ with ea_ en_ ec_
         subst ea_
         subst ec_
         clear en_
         go_wp2
         go_roundg k1
         case measure => have := HK1.out; omega
         case rel => exact ⟨(wrap64 ((wrap64 (aG + (ji6))) + (ji7))), (wrap64 (bF + 1)), (by first | rfl), (by first | rfl), H', ⟨by have := HK1.out; omega⟩, ⟨by exact HB.out⟩⟩
       · rw [if_neg c5] at H
         exact absurd H (by simp)
     · rw [if_neg c4] at H
       have yD : decide (bF < (l0.length : Int)) = false := decide_eq_false c4
       clear c4
       obtain rfl := Option.some.inj H
       go_wp2
       go_ret
       exact ⟨by first | rfl , by exact HB.out⟩
attribute [local go_sem] kU kV nM nN jq jr kW kX   -- for this text's walks alone
set_option linter.unusedVariables false
set_option linter.unusedSimpArgs false
def ay.l0 : Nat → List ByteArray → Int → Int → Option (List ByteArray)
 | 0, _, _, _ => none
 | k + 1, x0, x2, x3 => if x2 < x3 then (if 0 ≤ x3 then (if x3 < (x0.length : Int) then (if 0 ≤ x2 then (if x2 < (x0.length : Int) then (ay.l0 k ((x0.set (x2 : Int).toNat (fQ ByteArray.empty x0 x3)).set (x3 : Int).toNat (fQ ByteArray.empty x0 x2)) (wrap64 (x2 + 1)) (wrap64 (x3 - 1))) else (none)) else (none)) else (none)) else (none)) else (some x0)
def ay.f (k : Nat) (l0 : List ByteArray) : Option (List ByteArray) := ay.l0 k l0 0 (wrap64 ((l0.length : Int) - 1))
def ay.T3 : Bool × List (List Nat × List Nat) := (true, [([], []), ([], []), ([], []), ([], []), ([], []), ([], []), ([4, 5], [4, 5]), ([6], [6]), ([], []), ([], []), ([8, 9], [8, 9]), ([10], [10]), ([0, 1, 0, 1, 4, 5, 6, 7, 11], [0, 1]), ([12, 7, 0, 1, 4, 5, 6, 7, 11], [7, 12]), ([2, 3, 0, 1, 2, 3, 4, 5, 6, 7, 8, 9, 10, 11, 12, 13], [2, 3]), ([14, 11, 13, 0, 1, 2, 3, 4, 5, 6, 7, 8, 9, 10, 11, 12, 13], [11, 14])])
def ay.B3 : List Nat := [0, 0, 0, 0, 0, 0, 48, 112, 0, 0, 768, 1792, 4083, 8179, 16383, 32767]
theorem ay.tab3 : qE .any (opsOf Tryz.f106 3) = ay.T3 := by kernel_rfl
theorem ay.aie : wP ay.T3.2 ay.B3 = true := by kernel_rfl
theorem ay.calls (k : Nat) (P0_ : Nat → Prop) (KQ : Value) (l0 : List ByteArray) (r : List ByteArray) (w0 w : World) (hB : Below w0.heap.size w0 w) (ho0 : Kd.R Kd.string 9 w w0.heap.size P0_ KQ l0) (h : ay.f k l0 = some r) :
    Calls Tryz.prog 106 #[KQ] w fun e w' => e = .returned (.tuple #[]) ∧ Kd.R Kd.string 9 w' w0.heap.size (fun k_ => (P0_ k_ ∨ w.heap.size ≤ k_)) KQ r ∧ Below w0.heap.size w0 w' ∧ Kept w w' (fun k_ => P0_ k_) := by
 have HO0 := ah.mk (show Kd.R Kd.string 9 w w0.heap.size (fun k_ => (P0_ k_ ∨ w.heap.size ≤ k_)) KQ l0 from Kd.dF ho0 (fun k_ hk => (.inl hk)))
 have HK := ah.mk (Kept.refl w (fun k_ => P0_ k_))
 have HW0 := ah.mk hB.size
 have HB := ah.mk hB
 clear hB
 have H : (ay.l0 k l0 0 (wrap64 ((l0.length : Int) - 1))) = some r := h
 clear h
 have H' := ah.mk H
 clear H
 obtain ⟨Ao2, co2, eo2⟩ := Kd.bW HO0.out
 subst eo2
 go_enter Tryz.func106, Tryz.ntmps106
 go_wp2
 go_loopg [2, 3] k (fun kq v2 v3 w' => ∃ (tY : List ByteArray) (nV : Int) (dG : Int), v2 = .int .i64 nV ∧ v3 = .int .i64 dG ∧ ah (ay.l0 kq tY nV dG = some r) ∧ ah (kq ≤ k) ∧ ah (Kd.R Kd.string 9 w' w0.heap.size (fun k_ => (P0_ k_ ∨ w.heap.size ≤ k_)) (.slice Ao2 l0.length co2) tY) ∧ ah (Kept w w' (fun k_ => P0_ k_)) ∧ ah (Below w0.heap.size w0 w'))
 case atStart => exact ⟨(l0), (0), (wrap64 ((l0.length : Int) - 1)), (by first | rfl), (by first | rfl), H', ⟨Nat.le_refl _⟩, ⟨by exact HO0.out⟩, ⟨by exact HK.out⟩, ⟨by exact HB.out⟩⟩
 case round =>
  clear H'
  try clear c1
  try clear p2
  obtain ⟨tY, nV, dG, rfl, rfl, HA, HK1, BM, HK, HB⟩ := hrel
  have TT := (Kd.bJ BM.out).1
  rw [TT] at BM
  (try simp only [TT])
  cases gk with
  | zero => exact absurd HA.out (by simp [ay.l0])
  | succ k1 =>
   have H := HA.out
   clear HA
   simp only [ay.l0] at H
   by_cases c3 : nV < dG
   · rw [if_pos c3] at H
     have uY : decide (nV < dG) = true := decide_eq_true c3
     clear c3
     by_cases c4 : 0 ≤ dG
     · rw [if_pos c4] at H
       have yD : decide (0 ≤ dG) = true := decide_eq_true c4
       clear c4
       by_cases c5 : dG < (tY.length : Int)
       · rw [if_pos c5] at H
         have EI : decide (dG < (tY.length : Int)) = true := decide_eq_true c5
         clear c5
         by_cases c6 : 0 ≤ nV
         · rw [if_pos c6] at H
           have ang : decide (0 ≤ nV) = true := decide_eq_true c6
           clear c6
           by_cases c7 : nV < (tY.length : Int)
           · rw [if_pos c7] at H
             have Wu : decide (nV < (tY.length : Int)) = true := decide_eq_true c7
             clear c7
             obtain ⟨y183, hy183⟩ : ∃ y_ : List ByteArray, y_ = (tY.set (nV : Int).toNat (fQ ByteArray.empty tY dG)) := ⟨_, rfl⟩
             replace H : (ay.l0 k1 (y183.set (dG : Int).toNat (fQ ByteArray.empty tY nV)) (wrap64 (nV + 1)) (wrap64 (dG - 1))) = some r := by first | (rw [hy183]; with_reducible exact H) 
             have Ny183 := ah.mk hy183
             clear hy183
             obtain ⟨y184, hy184⟩ : ∃ y_ : List ByteArray, y_ = (y183.set (dG : Int).toNat (fQ ByteArray.empty tY nV)) := ⟨_, rfl⟩
             replace H : (ay.l0 k1 y184 (wrap64 (nV + 1)) (wrap64 (dG - 1))) = some r := by first | (rw [hy184]; with_reducible exact H) 
             have Ny184 := ah.mk hy184
             clear hy184
             have H' := ah.mk H
             clear H
             try go_wp2
             have n0_ := ah.mk (Kd.afV BM.out)
             have n1_ := ah.mk (Kept.drew HK.out)
             have n2_ := ah.mk (Dh HB.out)
             clear BM
             clear HK
             clear HB
             have BM := n0_
             have HK := n1_
             have HB := n2_
             clear n0_ n1_ n2_
             have p181 : 0 ≤ (dG : Int) := of_decide_eq_true (by with_reducible assumption)
             have q181 : dG < (tY.length : Int) := of_decide_eq_true (by with_reducible assumption)
             obtain ⟨ad181, e181, KT⟩ := Kd.jv (Kd.bJ BM.out).2.2 dG p181 q181
             cases e181
             replace p181 := eq_true p181
             replace q181 := eq_true q181
             have p182 : 0 ≤ (nV : Int) := of_decide_eq_true (by with_reducible assumption)
             have q182 : nV < (tY.length : Int) := of_decide_eq_true (by with_reducible assumption)
             obtain ⟨ad182, e182, KU⟩ := Kd.jv (Kd.bJ BM.out).2.2 nV p182 q182
             obtain rfl : ad181 = ad182 := (by injection e182)
             replace p182 := eq_true p182
             replace q182 := eq_true q182
             have p8 : 0 ≤ (nV : Int) := of_decide_eq_true (by with_reducible assumption)
             have q8 : (nV : Int) < ((tY.length : Int) : Int) := of_decide_eq_true (by with_reducible assumption)
             obtain ⟨go8, co8, eo8, gb8, gl8, cl8, HG8⟩ := Kd.jf BM.out (by omega)
             (cases eo8)
             have GB8 := ah.mk gb8
             have GG8 := ah.mk HG8
             clear gb8 gl8 HG8
             have aif := ah.mk (show (P0_ go8 ∨ w.heap.size ≤ go8) from (BM.out.1 _ rfl))
             (simp only [add_plain] at KT)
             (simp only [add_plain] at KU)
             obtain ⟨aii, aij⟩ := Kd.iD (⟨#[]⟩ : ByteArray) BM.out (nV : Int) p8 q8
             replace p8 := eq_true p8
             replace q8 := eq_true q8
             have HP11 := Kd.YK BM.out (nV : Int) (fQ ByteArray.empty tY dG)
             rw [← Ny183.out] at HP11
             have HQ11 := ah.mk HP11
             clear HP11
             have p9 : 0 ≤ (dG : Int) := of_decide_eq_true (by with_reducible assumption)
             have q9 : (dG : Int) < ((tY.length : Int) : Int) := of_decide_eq_true (by with_reducible assumption)
             obtain ⟨aik, ail⟩ := Kd.iD (⟨#[]⟩ : ByteArray) HQ11.out (dG : Int) p9 q9
             replace p9 := eq_true p9
             replace q9 := eq_true q9
             have HP12 := Kd.YK HQ11.out (dG : Int) (fQ ByteArray.empty tY nV)
             rw [← Ny184.out] at HP12
             have HQ12 := ah.mk HP12
             clear HP12
             refine YL (n := 16) (S := fun w' => w'.cell? ⟨go8, (dG).toNat, none⟩ = some (.string (fQ ByteArray.empty tY dG)) ∧ w'.cell? ⟨go8, (nV).toNat, none⟩ = some (.string (fQ ByteArray.empty tY nV))) (ds := [13, 15]) #[false, false, false, false, false, false, false, false, false, false, false, false, false, false, false, false] (by kernel_rfl) rfl rfl ⟨KT, KU⟩ (fun hHeld => ?_); refine IX ay.tab3 ay.aie (fun HT_ HW_ => ?_)
             generalize wr.drew = w10 at BM HK HB GG8 HQ11 HQ12 aij ail KT KU aii aik hHeld ⊢
             refine gu (i := 0) (N := some 14) (v := ?_) (a' := ?_) #[true, false, false, false, false, false, false, false, false, false, false, false, false, false, false, false] rfl rfl (dN HT_.out (by kernel_rfl)) (fun _ _ _ h => h) (Or.inl ⟨by rfl, ?_⟩) ?_ ?_
             rotate_left
             · intro w'
               go_simp
               with_reducible rfl
             rotate_left
             · simp only [Act.put, List.setIfInBounds_toArray, List.set_cons_zero, List.set_cons_succ, dW, dX]
               rfl
             refine gu (i := 1) (N := some 15) (v := ?_) (a' := ?_) #[true, true, false, false, false, false, false, false, false, false, false, false, false, false, false, false] rfl rfl (dN HT_.out (by kernel_rfl)) (fun _ _ _ h => h) (Or.inl ⟨by rfl, ?_⟩) ?_ ?_
             rotate_left
             · intro w'
               go_simp
               with_reducible rfl
             rotate_left
             · simp only [Act.put, List.setIfInBounds_toArray, List.set_cons_zero, List.set_cons_succ, dW, dX]
               rfl
             refine gu (i := 2) (N := some 16) (v := ?_) (a' := ?_) #[true, true, true, false, false, false, false, false, false, false, false, false, false, false, false, false] rfl rfl (dN HT_.out (by kernel_rfl)) (fun _ _ _ h => h) (Or.inl ⟨by rfl, ?_⟩) ?_ ?_
             rotate_left
             · intro w'
               go_simp
               with_reducible rfl
             rotate_left
             · simp only [Act.put, List.setIfInBounds_toArray, List.set_cons_zero, List.set_cons_succ, dW, dX]
               rfl
             refine gu (i := 3) (N := some 17) (v := ?_) (a' := ?_) #[true, true, true, true, false, false, false, false, false, false, false, false, false, false, false, false] rfl rfl (dN HT_.out (by kernel_rfl)) (fun _ _ _ h => h) (Or.inl ⟨by rfl, ?_⟩) ?_ ?_
             rotate_left
             · intro w'
               go_simp
               with_reducible rfl
             rotate_left
             · simp only [Act.put, List.setIfInBounds_toArray, List.set_cons_zero, List.set_cons_succ, dW, dX]
               rfl
             refine gu (i := 4) (N := some 18) (v := ?_) (a' := ?_) #[true, true, true, true, true, false, false, false, false, false, false, false, false, false, false, false] rfl rfl (dN HT_.out (by kernel_rfl)) (fun _ _ _ h => h) (Or.inl ⟨by rfl, ?_⟩) ?_ ?_
             rotate_left
             · intro w'
               go_simp
               with_reducible rfl
             rotate_left
             · simp only [Act.put, List.setIfInBounds_toArray, List.set_cons_zero, List.set_cons_succ, dW, dX]
               rfl
             refine gu (i := 5) (N := some 19) (v := ?_) (a' := ?_) #[true, true, true, true, true, true, false, false, false, false, false, false, false, false, false, false] rfl rfl (dN HT_.out (by kernel_rfl)) (fun _ _ _ h => h) (Or.inl ⟨by rfl, ?_⟩) ?_ ?_
             rotate_left
             · intro w'
               go_simp
               with_reducible rfl
             rotate_left
             · simp only [Act.put, List.setIfInBounds_toArray, List.set_cons_zero, List.set_cons_succ, dW, dX]
               rfl
             refine gu (i := 6) (N := some 20) (v := ?_) (a' := ?_) #[true, true, true, true, true, true, true, false, false, false, false, false, false, false, false, false] rfl rfl (dN HT_.out (by kernel_rfl)) (fun _ _ _ h => h) (Or.inl ⟨by rfl, ?_⟩) ?_ ?_
             rotate_left
             · intro w'
               go_simp
               with_reducible rfl
             rotate_left
             · simp only [Act.put, List.setIfInBounds_toArray, List.set_cons_zero, List.set_cons_succ, dW, dX]
               rfl
             refine gu (i := 8) (N := some 22) (v := ?_) (a' := ?_) #[true, true, true, true, true, true, true, false, true, false, false, false, false, false, false, false] rfl rfl (dN HT_.out (by kernel_rfl)) (fun _ _ _ h => h) (Or.inl ⟨by rfl, ?_⟩) ?_ ?_
             rotate_left
             · intro w'
               go_simp
               with_reducible rfl
             rotate_left
             · simp only [Act.put, List.setIfInBounds_toArray, List.set_cons_zero, List.set_cons_succ, dW, dX]
               rfl
             refine gu (i := 9) (N := some 23) (v := ?_) (a' := ?_) #[true, true, true, true, true, true, true, false, true, true, false, false, false, false, false, false] rfl rfl (dN HT_.out (by kernel_rfl)) (fun _ _ _ h => h) (Or.inl ⟨by rfl, ?_⟩) ?_ ?_
             rotate_left
             · intro w'
               go_simp
               with_reducible rfl
             rotate_left
             · simp only [Act.put, List.setIfInBounds_toArray, List.set_cons_zero, List.set_cons_succ, dW, dX]
               rfl
             refine gu (i := 10) (N := some 24) (v := ?_) (a' := ?_) #[true, true, true, true, true, true, true, false, true, true, true, false, false, false, false, false] rfl rfl (dN HT_.out (by kernel_rfl)) (fun _ _ _ h => h) (Or.inl ⟨by rfl, ?_⟩) ?_ ?_
             rotate_left
             · intro w'
               go_simp
               with_reducible rfl
             rotate_left
             · simp only [Act.put, List.setIfInBounds_toArray, List.set_cons_zero, List.set_cons_succ, dW, dX]
               rfl
             refine IY (i := 7) (N := some 21) (v := ?_) (a' := ?_) #[true, true, true, true, true, true, true, true, true, true, true, false, false, false, false, false] rfl rfl (rW HT_.out HW_.out (by kernel_rfl)) (fun _ _ _ h => h) (Or.inl ⟨by rfl, ?_⟩) hHeld ?_ ?_
             rotate_left
             · rintro w' ⟨s0, s1⟩
               go_simp
               with_reducible rfl
             rotate_left
             · simp only [Act.put, List.setIfInBounds_toArray, List.set_cons_zero, List.set_cons_succ, dW, dX]
               rfl
             refine IY (i := 11) (N := some 25) (v := ?_) (a' := ?_) #[true, true, true, true, true, true, true, true, true, true, true, true, false, false, false, false] rfl rfl (rW HT_.out HW_.out (by kernel_rfl)) (fun _ _ _ h => h) (Or.inl ⟨by rfl, ?_⟩) hHeld ?_ ?_
             rotate_left
             · rintro w' ⟨s0, s1⟩
               go_simp
               with_reducible rfl
             rotate_left
             · simp only [Act.put, List.setIfInBounds_toArray, List.set_cons_zero, List.set_cons_succ, dW, dX]
               rfl
             refine gu (i := 12) (N := some 26) (v := ?_) (a' := ?_) #[true, true, true, true, true, true, true, true, true, true, true, true, true, false, false, false] rfl rfl (dN HT_.out (by kernel_rfl)) (fun _ _ _ h => h) (Or.inl ⟨by rfl, ?_⟩) ?_ ?_
             rotate_left
             · intro w'
               go_simp
               with_reducible rfl
             rotate_left
             · simp only [Act.put, List.setIfInBounds_toArray, List.set_cons_zero, List.set_cons_succ, dW, dX]
               rfl
             refine TU (i := 13) (N := none) #[true, true, true, true, true, true, true, true, true, true, true, true, true, true, false, false] rfl rfl (KW HT_.out (by kernel_rfl)) (by decide) (fun K hK => ?_)
             refine afk (w1 := ?_) (by rfl) rfl ?_ ?_
             rotate_left
             · go_simp
               rfl
             refine hK.out _ _ ?_
             clear hK K
             refine gu (i := 14) (N := some 27) (v := ?_) (a' := ?_) #[true, true, true, true, true, true, true, true, true, true, true, true, true, true, true, false] rfl rfl (dN HT_.out (by kernel_rfl)) (fun _ _ _ h => h) (Or.inl ⟨by rfl, ?_⟩) ?_ ?_
             rotate_left
             · intro w'
               go_simp
               with_reducible rfl
             rotate_left
             · simp only [Act.put, List.setIfInBounds_toArray, List.set_cons_zero, List.set_cons_succ, dW, dX]
               rfl
             refine TU (i := 15) (N := none) #[true, true, true, true, true, true, true, true, true, true, true, true, true, true, true, true] rfl rfl (KW HT_.out (by kernel_rfl)) (by decide) (fun K hK => ?_)
             refine afk (w1 := ?_) (by rfl) rfl ?_ ?_
             rotate_left
             · go_simp
               rfl
             refine hK.out _ _ ?_
             clear hK K
             refine afl (TV HT_.out (by kernel_rfl)) ?_
             try go_wp2
             (try simp only [← TT])
             go_roundg k1
             case measure => have := HK1.out; omega
             case rel => exact ⟨(y184), (wrap64 (nV + 1)), (wrap64 (dG - 1)), (by first | rfl), (by first | rfl), H', ⟨by have := HK1.out; omega⟩, ⟨by (try simp only [TT]); exact HQ12.out⟩, ⟨by repeat (first | (with_reducible first | exact HK.out | refine Kept.setCell ?_ aif.out _))⟩, ⟨by repeat (first | (with_reducible first | exact HB.out | refine lV ?_ GB8.out))⟩⟩
           · rw [if_neg c7] at H
             exact absurd H (by simp)
         · rw [if_neg c6] at H
           exact absurd H (by simp)
       · rw [if_neg c5] at H
         exact absurd H (by simp)
     · rw [if_neg c4] at H
       exact absurd H (by simp)
   · rw [if_neg c3] at H
     have uY : decide (nV < dG) = false := decide_eq_false c3
     clear c3
     obtain rfl := Option.some.inj H
     go_wp2
     first | go_end0
     exact ⟨by first | rfl , (by first | exact BM.out), by exact HB.out, by exact HK.out⟩
attribute [local go_sem] kU kV nM nN jq jr kW kX   -- for this text's walks alone
set_option linter.unusedVariables false
set_option linter.unusedSimpArgs false
def eY.l0 : Nat → List (S53) → Int → List ByteArray → Option (List ByteArray)
 | 0, _, _, _ => none
 | k + 1, x0, x1, x5 => if x1 = (-1) then ((ay.f k x5).bind fun t185 => (some t185)) else (if 0 ≤ x1 then (if x1 < (x0.length : Int) then (if x5.length < 8796093022208 then (eY.l0 k x0 ((aj x0 x1).f0) (x5 ++ [(aj x0 x1).f1])) else (none)) else (none)) else (none))
def eY.f (k : Nat) (l0 : List (S53)) (a1 : Int) : Option (List ByteArray) := eY.l0 k l0 a1 ([] : List ByteArray)
theorem eY.calls (k : Nat) (A0 : Option Addr) (c0 : Nat) (l0 : List (S53)) (a1 : Int) (r : List ByteArray) (w : World) (hr0 : Kd.C k53 w A0 l0.length l0) (hc0 : l0.length ≤ c0) (h : eY.f k l0 a1 = some r) :
    Calls Tryz.prog 77 #[.slice A0 l0.length c0, .int .i64 a1] w fun e w' => ∃ v0_ : Value, e = .returned (v0_) ∧ Kd.R Kd.string 9 w' w.heap.size (fun _ => True) v0_ r ∧ Below w.heap.size w w' := by
 have HR0 := ah.mk hr0
 have HC0 := ah.mk hc0
 clear hr0 hc0
 have HB := ah.mk (Below.refl w.heap.size w)
 have H : (eY.l0 k l0 a1 ([] : List ByteArray)) = some r := h
 clear h
 have H' := ah.mk H
 clear H
 go_enter Tryz.func77, Tryz.ntmps77
 go_wp2
 go_loopg [1, 5] k (fun kq v1 v5 w' => ∃ (iE : Int) (aG : List ByteArray), v1 = .int .i64 iE ∧ ah (eY.l0 kq l0 iE aG = some r) ∧ ah (kq ≤ k) ∧ ah (Kd.R Kd.string 9 w' w.heap.size (fun _ => True) v5 aG) ∧ ah (Below w.heap.size w w'))
 case atStart => exact ⟨(a1), (([] : List ByteArray)), (by first | rfl), H', ⟨Nat.le_refl _⟩, ⟨by first | exact Kd.mP _ _ _ _ _ ⟩, ⟨by exact HB.out⟩⟩
 case round =>
  clear H'
  try clear p2
  obtain ⟨iE, aG, rfl, HA, HK1, nC, HB⟩ := hrel
  cases gk with
  | zero => exact absurd HA.out (by simp [eY.l0])
  | succ k1 =>
   have H := HA.out
   clear HA
   simp only [eY.l0] at H
   by_cases c3 : iE = (-1)
   · rw [if_pos c3] at H
     have uY : (iE == (-1)) = true := beq_iff_eq.mpr c3
     have QB : (iE != (-1)) = false := bne_eq_false_iff_eq.mpr c3
     clear c3
     replace H := Option.bind_eq_some_iff.mp H
     obtain ⟨t185, A40, H⟩ := H
     replace H : (some t185) = some r := H
     have A4 := ah.mk A40
     clear A40
     obtain rfl := Option.some.inj H
     obtain ⟨Ao5, co5, eo5⟩ := Kd.bW nC.out
     subst eo5
     go_wp2_with (first | ((with_reducible refine qK (f := 106) rfl ?_); refine KX (some 22) rfl rfl Tryz.func106 (by kernel_rfl) rfl #[.slice Ao5 aG.length co5] rfl (by (try simp only [List.map_toArray, List.map_cons, List.map_nil]); first | rfl) ?_; (with_reducible refine (ay.calls k1 (fun k_ => some k_ = (.slice Ao5 aG.length co5 : Value).ownBlock) (.slice Ao5 aG.length co5) aG t185 w _ ?rX ?rY A4.out).mono ?_); (case rX => repeat (with_reducible exact HB.out)); (case rY => exact Kd.KY rfl nC.out); rintro e w6 ⟨rfl, hy0, hb, hkp⟩; refine ⟨_, rfl, ?_⟩; have n0_ := ah.mk (Kd.afW rfl hy0 (fun k_ e_ => nC.out.1 k_ e_)); have n1_ := ah.mk (hb); clear nC HB; have nC := n0_; have HB := n1_; clear n0_ n1_; (try clear hb); (try clear hkp); (try clear hy0)))
     go_ret
     exact ⟨_, by first | rfl , by exact nC.out, by exact HB.out⟩
   · rw [if_neg c3] at H
     have uY : (iE == (-1)) = false := beq_eq_false_iff_ne.mpr c3
     have QB : (iE != (-1)) = true := bne_iff_ne.mpr c3
     by_cases c7 : 0 ≤ iE
     · rw [if_pos c7] at H
       have Wu : decide (0 ≤ iE) = true := decide_eq_true c7
       clear c7
       by_cases c8 : iE < (l0.length : Int)
       · rw [if_pos c8] at H
         have Oe : decide (iE < (l0.length : Int)) = true := decide_eq_true c8
         clear c8
         by_cases c9 : aG.length < 8796093022208
         · rw [if_pos c9] at H
           have LMc9 := ah.mk c9
           clear c9
           obtain ⟨y187, hy187⟩ : ∃ y_ : List ByteArray, y_ = (aG ++ [(aj l0 iE).f1]) := ⟨_, rfl⟩
           replace H : (eY.l0 k1 l0 ((aj l0 iE).f0) y187) = some r := by first | (rw [hy187]; with_reducible exact H) 
           have Ny187 := ah.mk hy187
           clear hy187
           have H' := ah.mk H
           clear H
           have p186 : 0 ≤ (iE : Int) := of_decide_eq_true (by with_reducible assumption)
           have q186 : iE < (l0.length : Int) := of_decide_eq_true (by with_reducible assumption)
           obtain ⟨ad186, A186_3, c186_3, e186, KZ, La, Lc, Ld, TW, TY⟩ := bC HR0.out iE p186 q186
           cases e186
           replace KZ := (HB.out.cell (World.block_lt_of_cell? w _ KZ)).trans KZ
           replace La := (HB.out.cell (World.block_lt_of_cell? w _ La)).trans La
           replace Lc := (HB.out.cell (World.block_lt_of_cell? w _ Lc)).trans Lc
           replace Ld := (HB.out.cell (World.block_lt_of_cell? w _ Ld)).trans Ld
           have ajI := ah.mk TY
           have ajJ := ah.mk TW
           clear TY TW
           replace p186 := eq_true p186
           replace q186 := eq_true q186
           go_wp2_with (first | ((with_reducible refine dH (b := .append) (xs := #[.tmp 13, .tmp 19]) rfl ?_); at_builtin; refine Kd.nX Kd.string (w0 := w) w.heap.size rfl (.tmp 13) (.tmp 19) 65 9 (.string ⟨#[]⟩) 16 rfl Tryz.underlying65 info9 rfl (by decide) (by omega) u5 aG ((aj l0 iE).f1) [.string ((aj l0 iE).f1)] (fun _ => True) (fun _ => False) rfl rfl ?aP (fun _ hk => hk.elim) ?aF ?aO ?aB ?aS ?aL ?_; (case aP => exact rfl); (case aB => exact HB.out); (case aF => exact (fun _ _ => trivial)); (case aO => exact nC.out); (case aS => exact (lQ HB.out)); (case aL => have := LMc9.out; omega); intro v188 w10 ho hb hg hat; rw [← Ny187.out] at ho; have n0_ := ah.mk (hb); have n1_ := ah.mk (ho); clear HB nC; have HB := n0_; have HO189 := n1_; clear n0_ n1_ ho hb hg hat; have p190 : 0 ≤ (iE : Int) := of_decide_eq_true (by with_reducible assumption); have q190 : iE < (l0.length : Int) := of_decide_eq_true (by with_reducible assumption); obtain ⟨ad190, A190_3, c190_3, e190, Le, Lh, Lj, Ll, Ua, Ub⟩ := bC HR0.out iE p190 q190; obtain rfl : ad186 = ad190 := (by injection e190); replace Le := (HB.out.cell (World.block_lt_of_cell? w _ Le)).trans Le; replace Lh := (HB.out.cell (World.block_lt_of_cell? w _ Lh)).trans Lh; replace Lj := (HB.out.cell (World.block_lt_of_cell? w _ Lj)).trans Lj; replace Ll := (HB.out.cell (World.block_lt_of_cell? w _ Ll)).trans Ll; have ajK := ah.mk Ub; have ajL := ah.mk Ua; clear Ub Ua; replace p190 := eq_true p190; replace q190 := eq_true q190))
           go_roundg k1
           case measure => have := HK1.out; omega
           case rel => exact ⟨((aj l0 iE).f0), (y187), (by first | rfl), H', ⟨by have := HK1.out; omega⟩, ⟨by exact HO189.out⟩, ⟨by exact HB.out⟩⟩
         · rw [if_neg c9] at H
           exact absurd H (by simp)
       · rw [if_neg c8] at H
         exact absurd H (by simp)
     · rw [if_neg c7] at H
       exact absurd H (by simp)
def aX.l0 : Nat → ByteArray → Int → Option (Bool)
 | 0, _, _ => none
 | k + 1, x0, x3 => if x3 < (x0.size : Int) then (if 0 ≤ x3 then (if (bt x0 x3) = 0 then (some false) else (if (bt x0 x3) = 47 then (some false) else (aX.l0 k x0 (wrap64 (x3 + 1))))) else (none)) else (if (x0.size : Int) ≥ 1 then (some (decide ((x0.size : Int) ≤ 64))) else (some false))
def aX.f (k : Nat) (a0 : ByteArray) : Option (Bool) := aX.l0 k a0 0
theorem aX.calls (k : Nat) (a0 : ByteArray) (r : Bool) (w : World) (h : aX.f k a0 = some r) :
    Calls Tryz.prog 120 #[.string a0] w fun e w' => e = .returned (.bool r) ∧ aY w w' := by
 have H : (aX.l0 k a0 0) = some r := h
 clear h
 have H' := ah.mk H
 clear H
 go_enter Tryz.func120, Tryz.ntmps120
 go_wp2
 go_loopg [3] k (fun kq v3 w' => ∃ (dG : Int), v3 = .int .i64 dG ∧ ah (aX.l0 kq a0 dG = some r) ∧ ah (kq ≤ k) ∧ aY w w')
 case atStart => exact ⟨(0), (by first | rfl), H', ⟨Nat.le_refl _⟩, by repeat (exact aY.refl _)⟩
 case round =>
  clear H'
  try clear c1
  obtain ⟨dG, rfl, HA, HK1, ⟨m1, rfl⟩⟩ := hrel
  cases gk with
  | zero => exact absurd HA.out (by simp [aX.l0])
  | succ k1 =>
   have H := HA.out
   clear HA
   simp only [aX.l0] at H
   by_cases c2 : dG < (a0.size : Int)
   · rw [if_pos c2] at H
     have Wv : decide (dG < (a0.size : Int)) = true := decide_eq_true c2
     clear c2
     by_cases c3 : 0 ≤ dG
     · rw [if_pos c3] at H
       have uY : decide (0 ≤ dG) = true := decide_eq_true c3
       clear c3
       by_cases c5 : (bt a0 dG) = 0
       · rw [if_pos c5] at H
         have EI : ((bt a0 dG) == 0) = true := beq_iff_eq.mpr c5
         have c5b1 : ((bt a0 dG) != 0) = false := bne_eq_false_iff_eq.mpr c5
         clear c5
         obtain rfl := Option.some.inj H
         have p4 : 0 ≤ (dG : Int) := of_decide_eq_true (by with_reducible assumption)
         have q4 : dG < (a0.size : Int) := of_decide_eq_true (by with_reducible assumption)
         have hx4 := Og a0 dG
         replace p4 := eq_true p4
         replace q4 := eq_true q4
         go_wp2
         go_ret
         exact ⟨by first | rfl , by repeat (first | exact aY.refl _ | apply aY.step)⟩
       · rw [if_neg c5] at H
         have EI : ((bt a0 dG) == 0) = false := beq_eq_false_iff_ne.mpr c5
         have c5b1 : ((bt a0 dG) != 0) = true := bne_iff_ne.mpr c5
         by_cases c7 : (bt a0 dG) = 47
         · rw [if_pos c7] at H
           have Wu : ((bt a0 dG) == 47) = true := beq_iff_eq.mpr c7
           have afO : ((bt a0 dG) != 47) = false := bne_eq_false_iff_eq.mpr c7
           clear c7
           obtain rfl := Option.some.inj H
           have p4 : 0 ≤ (dG : Int) := of_decide_eq_true (by with_reducible assumption)
           have q4 : dG < (a0.size : Int) := of_decide_eq_true (by with_reducible assumption)
           have hx4 := Og a0 dG
           replace p4 := eq_true p4
           replace q4 := eq_true q4
           have p6 : 0 ≤ (dG : Int) := of_decide_eq_true (by with_reducible assumption)
           have q6 : dG < (a0.size : Int) := of_decide_eq_true (by with_reducible assumption)
           have hx6 := Og a0 dG
           replace p6 := eq_true p6
           replace q6 := eq_true q6
           go_wp2
           go_ret
           exact ⟨by first | rfl , by repeat (first | exact aY.refl _ | apply aY.step)⟩
         · rw [if_neg c7] at H
           have Wu : ((bt a0 dG) == 47) = false := beq_eq_false_iff_ne.mpr c7
           have afO : ((bt a0 dG) != 47) = true := bne_iff_ne.mpr c7
           have H' := ah.mk H
           clear H
           have p4 : 0 ≤ (dG : Int) := of_decide_eq_true (by with_reducible assumption)
           have q4 : dG < (a0.size : Int) := of_decide_eq_true (by with_reducible assumption)
           have hx4 := Og a0 dG
           replace p4 := eq_true p4
           replace q4 := eq_true q4
           have p6 : 0 ≤ (dG : Int) := of_decide_eq_true (by with_reducible assumption)
           have q6 : dG < (a0.size : Int) := of_decide_eq_true (by with_reducible assumption)
           have hx6 := Og a0 dG
           replace p6 := eq_true p6
           replace q6 := eq_true q6
           go_wp2
           go_roundg k1
           case measure => have := HK1.out; omega
           case rel => exact ⟨(wrap64 (dG + 1)), (by first | rfl), H', ⟨by have := HK1.out; omega⟩, by repeat (first | exact aY.refl _ | apply aY.step)⟩
     · rw [if_neg c3] at H
       exact absurd H (by simp)
   · rw [if_neg c2] at H
     have Wv : decide (dG < (a0.size : Int)) = false := decide_eq_false c2
     clear c2
     by_cases c8 : (a0.size : Int) ≥ 1
     · rw [if_pos c8] at H
       have Oe : decide (1 ≤ (a0.size : Int)) = true := decide_eq_true c8
       have afP : decide (1 ≤ a0.size) = true := decide_eq_true (by omega)
       clear c8
       obtain rfl := Option.some.inj H
       go_wp2
       go_ret
       exact ⟨by first | rfl , by repeat (first | exact aY.refl _ | apply aY.step)⟩
     · rw [if_neg c8] at H
       have Oe : decide (1 ≤ (a0.size : Int)) = false := decide_eq_false c8
       have afP : decide (1 ≤ a0.size) = false := decide_eq_false (by omega)
       clear c8
       obtain rfl := Option.some.inj H
       go_wp2
       go_ret
       exact ⟨by first | rfl , by repeat (first | exact aY.refl _ | apply aY.step)⟩
def aW.l0 : Nat → List (S53) → Int → Int → Option (Int)
 | 0, _, _, _ => none
 | k + 1, x0, x1, x5 => if 0 ≤ x1 then (if x1 < (x0.length : Int) then (if ((aj x0 x1).f0) ≥ 0 then (aW.l0 k x0 ((aj x0 x1).f0) (wrap64 (x5 + 1))) else (some x5)) else (none)) else (none)
def aW.f (k : Nat) (l0 : List (S53)) (a1 : Int) : Option (Int) := aW.l0 k l0 a1 1
theorem aW.calls (k : Nat) (A0 : Option Addr) (c0 : Nat) (l0 : List (S53)) (a1 : Int) (r : Int) (w : World) (hr0 : Kd.C k53 w A0 l0.length l0) (hc0 : l0.length ≤ c0) (h : aW.f k l0 a1 = some r) :
    Calls Tryz.prog 121 #[.slice A0 l0.length c0, .int .i64 a1] w fun e w' => e = .returned (.int .i64 r) ∧ aY w w' := by
 have HR0 := ah.mk hr0
 have HC0 := ah.mk hc0
 clear hr0 hc0
 have H : (aW.l0 k l0 a1 1) = some r := h
 clear h
 have H' := ah.mk H
 clear H
 go_enter Tryz.func121, Tryz.ntmps121
 go_wp2
 go_loopg [1, 5] k (fun kq v1 v5 w' => ∃ (iE : Int) (aG : Int), v1 = .int .i64 iE ∧ v5 = .int .i64 aG ∧ ah (aW.l0 kq l0 iE aG = some r) ∧ ah (kq ≤ k) ∧ aY w w')
 case atStart => exact ⟨(a1), (1), (by first | rfl), (by first | rfl), H', ⟨Nat.le_refl _⟩, by repeat (exact aY.refl _)⟩
 case round =>
  clear H'
  try clear c1
  try clear p2
  obtain ⟨iE, aG, rfl, rfl, HA, HK1, ⟨m1, rfl⟩⟩ := hrel
  cases gk with
  | zero => exact absurd HA.out (by simp [aW.l0])
  | succ k1 =>
   have H := HA.out
   clear HA
   simp only [aW.l0] at H
   by_cases c3 : 0 ≤ iE
   · rw [if_pos c3] at H
     have uY : decide (0 ≤ iE) = true := decide_eq_true c3
     clear c3
     by_cases c4 : iE < (l0.length : Int)
     · rw [if_pos c4] at H
       have yD : decide (iE < (l0.length : Int)) = true := decide_eq_true c4
       clear c4
       by_cases c5 : ((aj l0 iE).f0) ≥ 0
       · rw [if_pos c5] at H
         have EI : decide (0 ≤ ((aj l0 iE).f0)) = true := decide_eq_true c5
         clear c5
         have H' := ah.mk H
         clear H
         have p202 : 0 ≤ (iE : Int) := of_decide_eq_true (by with_reducible assumption)
         have q202 : iE < (l0.length : Int) := of_decide_eq_true (by with_reducible assumption)
         obtain ⟨ad202, afX, afY, e202, acH, acI, acJ, Uc, zD, zF⟩ := bC HR0.out iE p202 q202
         cases e202
         have acK := ah.mk zF
         have acL := ah.mk zD
         clear zF zD
         replace p202 := eq_true p202
         replace q202 := eq_true q202
         have p203 : 0 ≤ (iE : Int) := of_decide_eq_true (by with_reducible assumption)
         have q203 : iE < (l0.length : Int) := of_decide_eq_true (by with_reducible assumption)
         obtain ⟨ad203, A203_3, c203_3, e203, ajM, ajN, ajO, acM, Ud, Ue⟩ := bC HR0.out iE p203 q203
         obtain rfl : ad202 = ad203 := (by injection e203)
         have ajP := ah.mk Ue
         have ajQ := ah.mk Ud
         clear Ue Ud
         replace p203 := eq_true p203
         replace q203 := eq_true q203
         have ea_ := Option.some.inj (Uc.symm.trans acM)
         injection ea_ with ea_ en_ ec_
         subst ea_
         subst ec_
         clear en_
         go_wp2
         go_roundg k1
         case measure => have := HK1.out; omega
         case rel => exact ⟨((aj l0 iE).f0), (wrap64 (aG + 1)), (by first | rfl), (by first | rfl), H', ⟨by have := HK1.out; omega⟩, by repeat (first | exact aY.refl _ | apply aY.step)⟩
       · rw [if_neg c5] at H
         have EI : decide (0 ≤ ((aj l0 iE).f0)) = false := decide_eq_false c5
         clear c5
         obtain rfl := Option.some.inj H
         have p202 : 0 ≤ (iE : Int) := of_decide_eq_true (by with_reducible assumption)
         have q202 : iE < (l0.length : Int) := of_decide_eq_true (by with_reducible assumption)
         obtain ⟨ad202, afX, afY, e202, acH, acI, acJ, Uc, zD, zF⟩ := bC HR0.out iE p202 q202
         cases e202
         have acK := ah.mk zF
         have acL := ah.mk zD
         clear zF zD
         replace p202 := eq_true p202
         replace q202 := eq_true q202
         go_wp2
         go_ret
         exact ⟨by first | rfl , by repeat (first | exact aY.refl _ | apply aY.step)⟩
     · rw [if_neg c4] at H
       exact absurd H (by simp)
   · rw [if_neg c3] at H
     exact absurd H (by simp)
attribute [local go_sem] kU kV nM nN jq jr kW kX   -- for this text's walks alone
set_option linter.unusedVariables false
set_option linter.unusedSimpArgs false
mutual
 def ak.j0 : Nat → List (S53) → Int → Bool → Int → ByteArray → Bool → List Int → Option (Bool)
  | 0, _, _, _, _, _, _, _ => none
  | k + 1, x0, x1, x33, x206000, x206001, x206002, x206003 => if x33 = true then (some false) else ((aX.f k x206001).bind fun t207 => (if t207 = true then (if (x206001.size : Int) > 48 then (ak.j1 k x0 x1 true x206000 x206001 x206002 x206003) else (if x206002 = true then (if (x206003.length : Int) > 0 then (ak.j1 k x0 x1 true x206000 x206001 x206002 x206003) else (if (x206003.length : Int) > 8192 then (ak.j1 k x0 x1 true x206000 x206001 x206002 x206003) else ((aW.f k x0 x1).bind fun t208 => (ak.j1 k x0 x1 (decide (t208 > 8)) x206000 x206001 x206002 x206003)))) else (if (x206003.length : Int) > 8192 then (ak.j1 k x0 x1 true x206000 x206001 x206002 x206003) else ((aW.f k x0 x1).bind fun t209 => (ak.j1 k x0 x1 (decide (t209 > 8)) x206000 x206001 x206002 x206003))))) else (ak.j1 k x0 x1 true x206000 x206001 x206002 x206003)))
 def ak.j1 : Nat → List (S53) → Int → Bool → Int → ByteArray → Bool → List Int → Option (Bool)
  | 0, _, _, _, _, _, _, _ => none
  | k + 1, x0, x1, x65, x206000, x206001, x206002, x206003 => if x65 = true then (some false) else (ak.l0 k x0 x1 0 x206000 x206001 x206002 x206003)
 def ak.l0 : Nat → List (S53) → Int → Int → Int → ByteArray → Bool → List Int → Option (Bool)
  | 0, _, _, _, _, _, _, _ => none
  | k + 1, x0, x1, x6, x206000, x206001, x206002, x206003 => if x6 < x1 then (if 0 ≤ x6 then (if x6 < (x0.length : Int) then (if ((aj x0 x6).f0) = x206000 then (if ((aj x0 x6).f1).toList = x206001.toList then (some false) else (ak.l0 k x0 x1 (wrap64 (x6 + 1)) x206000 x206001 x206002 x206003)) else (ak.l0 k x0 x1 (wrap64 (x6 + 1)) x206000 x206001 x206002 x206003)) else (none)) else (none)) else (some true)
 end
def ak.f (k : Nat) (l0 : List (S53)) (a1 : Int) : Option (Bool) := if 0 ≤ a1 then (if a1 < (l0.length : Int) then (if ((aj l0 a1).f0) < (-1) then (ak.j0 k l0 a1 true ((aj l0 a1).f0) ((aj l0 a1).f1) ((aj l0 a1).f2) ((aj l0 a1).f3)) else (if ((aj l0 a1).f0) ≥ a1 then (ak.j0 k l0 a1 true ((aj l0 a1).f0) ((aj l0 a1).f1) ((aj l0 a1).f2) ((aj l0 a1).f3)) else (if ((aj l0 a1).f0) ≥ 0 then (if 0 ≤ ((aj l0 a1).f0) then (if ((aj l0 a1).f0) < (l0.length : Int) then (ak.j0 k l0 a1 (!((aj l0 ((aj l0 a1).f0)).f2)) ((aj l0 a1).f0) ((aj l0 a1).f1) ((aj l0 a1).f2) ((aj l0 a1).f3)) else (none)) else (none)) else (ak.j0 k l0 a1 false ((aj l0 a1).f0) ((aj l0 a1).f1) ((aj l0 a1).f2) ((aj l0 a1).f3))))) else (none)) else (none)
theorem ak.calls (k : Nat) (A0 : Option Addr) (c0 : Nat) (l0 : List (S53)) (a1 : Int) (r : Bool) (w : World) (hr0 : Kd.C k53 w A0 l0.length l0) (hc0 : l0.length ≤ c0) (h : ak.f k l0 a1 = some r) :
    Calls Tryz.prog 86 #[.slice A0 l0.length c0, .int .i64 a1] w fun e w' => e = .returned (.bool r) ∧ Below w.heap.size w w' := by
 have hu53 := Tryz.underlying53
 have HR0 := ah.mk hr0
 have HC0 := ah.mk hc0
 clear hr0 hc0
 have HB := ah.mk (Below.refl w.heap.size w)
 have H : (if 0 ≤ a1 then (if a1 < (l0.length : Int) then (if ((aj l0 a1).f0) < (-1) then (ak.j0 k l0 a1 true ((aj l0 a1).f0) ((aj l0 a1).f1) ((aj l0 a1).f2) ((aj l0 a1).f3)) else (if ((aj l0 a1).f0) ≥ a1 then (ak.j0 k l0 a1 true ((aj l0 a1).f0) ((aj l0 a1).f1) ((aj l0 a1).f2) ((aj l0 a1).f3)) else (if ((aj l0 a1).f0) ≥ 0 then (if 0 ≤ ((aj l0 a1).f0) then (if ((aj l0 a1).f0) < (l0.length : Int) then (ak.j0 k l0 a1 (!((aj l0 ((aj l0 a1).f0)).f2)) ((aj l0 a1).f0) ((aj l0 a1).f1) ((aj l0 a1).f2) ((aj l0 a1).f3)) else (none)) else (none)) else (ak.j0 k l0 a1 false ((aj l0 a1).f0) ((aj l0 a1).f1) ((aj l0 a1).f2) ((aj l0 a1).f3))))) else (none)) else (none)) = some r := h
 clear h
 by_cases c3 : 0 ≤ a1
 · rw [if_pos c3] at H
   have uY : decide (0 ≤ a1) = true := decide_eq_true c3
   clear c3
   by_cases c4 : a1 < (l0.length : Int)
   · rw [if_pos c4] at H
     have yD : decide (a1 < (l0.length : Int)) = true := decide_eq_true c4
     clear c4
     have HC5 := ah.mk H
     clear H
     have p204 : 0 ≤ (a1 : Int) := of_decide_eq_true (by with_reducible assumption)
     have q204 : a1 < (l0.length : Int) := of_decide_eq_true (by with_reducible assumption)
     obtain ⟨ad204, iI, iJ, e204, acN, acO, acP, acQ, Uf, Ug⟩ := bC HR0.out a1 p204 q204
     cases e204
     have ajR := ah.mk Ug
     have ajS := ah.mk Uf
     clear Ug Uf
     replace p204 := eq_true p204
     replace q204 := eq_true q204
     go_enter Tryz.func86, Tryz.ntmps86
     go_upto_region 2 with (first | ((with_reducible refine dA (N := 5) rfl ?_); (try (refine yE (by rfl) ?_; dsimp only)); refine Wx ?hg (N := 5) ?hd (cs := #[.int .i64 0, .string (⟨#[]⟩ : ByteArray), .bool false, .slice none 0 0]) (t := 53) ?hr ?_; (case hd => rfl); (case hg => rfl); (case hr => go_simp; done); intro gb205 hg w6 hbox hb; have n0_ := ah.mk (dK HB.out hb); have n1_ := ah.mk (hbox); have n2_ := ah.mk ((by rw [hg]; exact (lQ HB.out) : w.heap.size ≤ gb205)); have n3_ := ah.mk ((by rw [hg]; exact (lQ HB.out) : w.heap.size ≤ gb205)); clear HB; have HB := n0_; have BK205 := n1_; have GW205 := n2_; have GE205 := n3_; clear n0_ n1_ n2_ n3_ hb hbox hg; have afZ : w6.cell? ⟨gb205, 0, none⟩ = some (.int .i64 0) := (aV BK205.out 0).trans rfl; have aga : w6.cell? ⟨gb205, 1, none⟩ = some (.string (⟨#[]⟩ : ByteArray)) := (aV BK205.out 1).trans rfl; have agb : w6.cell? ⟨gb205, 2, none⟩ = some (.bool false) := (aV BK205.out 2).trans rfl; have agc : w6.cell? ⟨gb205, 3, none⟩ = some (.slice none 0 0) := (aV BK205.out 3).trans rfl; have agd := aA BK205.out 0; have agf := aA BK205.out 1; have agh := aA BK205.out 2; have agi := aA BK205.out 3))
     skip
     (try simp only [Act.put, List.setIfInBounds_toArray, List.set_cons_zero, List.set_cons_succ])
     go_cut [33] (fun v33 wc => ∃ (kq : Nat) (Uh : Bool), v33 = .bool Uh ∧ ah (ak.j0 kq l0 a1 Uh ((aj l0 a1).f0) ((aj l0 a1).f1) ((aj l0 a1).f2) ((aj l0 a1).f3) = some r) ∧ ah (kq ≤ k) ∧ ah (wc.heap[gb205]? = some (.cells #[.int .i64 ((aj l0 a1).f0), .string ((aj l0 a1).f1), .bool ((aj l0 a1).f2), (.slice iI ((aj l0 a1).f3).length iJ)] 53 (0, 0))) ∧ ah (Below w.heap.size w wc))
     case first =>
      have H := HC5.out
      clear HC5
      by_cases c8 : ((aj l0 a1).f0) < (-1)
      · rw [if_pos c8] at H
        have Oe : decide (((aj l0 a1).f0) < (-1)) = true := decide_eq_true c8
        clear c8
        (skip)
        have H' := ah.mk H
        clear H
        have hcz9_0 : w6.cell? ⟨gb205, 0, none⟩ = some (.int .i64 0) := (aV BK205.out 0).trans rfl
        have hcz9_1 : w6.cell? ⟨gb205, 1, none⟩ = some (.string (⟨#[]⟩ : ByteArray)) := (aV BK205.out 1).trans rfl
        have hcz9_2 : w6.cell? ⟨gb205, 2, none⟩ = some (.bool false) := (aV BK205.out 2).trans rfl
        have hcz9_3 : w6.cell? ⟨gb205, 3, none⟩ = some (.slice none 0 0) := (aV BK205.out 3).trans rfl
        have hfz9_0 := aA BK205.out 0
        have hfz9_1 := aA BK205.out 1
        have hfz9_2 := aA BK205.out 2
        have hfz9_3 := aA BK205.out 3
        go_wp2
        skip
        go_meet
        case rel => exact ⟨_, (true), (by first | rfl), H', ⟨by first | omega⟩, ⟨by refine iQ (cs := #[.int .i64 ((aj l0 a1).f0), .string ((aj l0 a1).f1), .bool ((aj l0 a1).f2), .slice none 0 0]) ?_ 3 _ rfl; refine iQ (cs := #[.int .i64 ((aj l0 a1).f0), .string ((aj l0 a1).f1), .bool false, .slice none 0 0]) ?_ 2 _ rfl; refine iQ (cs := #[.int .i64 ((aj l0 a1).f0), .string (⟨#[]⟩ : ByteArray), .bool false, .slice none 0 0]) ?_ 1 _ rfl; refine iQ (cs := #[.int .i64 0, .string (⟨#[]⟩ : ByteArray), .bool false, .slice none 0 0]) ?_ 0 _ rfl; exact BK205.out⟩, ⟨by repeat (first | (with_reducible first | exact HB.out | refine lV ?_ GE205.out))⟩⟩
      · rw [if_neg c8] at H
        have Oe : decide (((aj l0 a1).f0) < (-1)) = false := decide_eq_false c8
        clear c8
        (skip)
        by_cases c10 : ((aj l0 a1).f0) ≥ a1
        · rw [if_pos c10] at H
          have TN : decide (a1 ≤ ((aj l0 a1).f0)) = true := decide_eq_true c10
          clear c10
          have H' := ah.mk H
          clear H
          have ajT : w6.cell? ⟨gb205, 0, none⟩ = some (.int .i64 0) := (aV BK205.out 0).trans rfl
          have ajU : w6.cell? ⟨gb205, 1, none⟩ = some (.string (⟨#[]⟩ : ByteArray)) := (aV BK205.out 1).trans rfl
          have ajV : w6.cell? ⟨gb205, 2, none⟩ = some (.bool false) := (aV BK205.out 2).trans rfl
          have ajW : w6.cell? ⟨gb205, 3, none⟩ = some (.slice none 0 0) := (aV BK205.out 3).trans rfl
          have ajX := aA BK205.out 0
          have ajY := aA BK205.out 1
          have ajZ := aA BK205.out 2
          have akb := aA BK205.out 3
          go_wp2
          skip
          go_meet
          case rel => exact ⟨_, (true), (by first | rfl), H', ⟨by first | omega⟩, ⟨by refine iQ (cs := #[.int .i64 ((aj l0 a1).f0), .string ((aj l0 a1).f1), .bool ((aj l0 a1).f2), .slice none 0 0]) ?_ 3 _ rfl; refine iQ (cs := #[.int .i64 ((aj l0 a1).f0), .string ((aj l0 a1).f1), .bool false, .slice none 0 0]) ?_ 2 _ rfl; refine iQ (cs := #[.int .i64 ((aj l0 a1).f0), .string (⟨#[]⟩ : ByteArray), .bool false, .slice none 0 0]) ?_ 1 _ rfl; refine iQ (cs := #[.int .i64 0, .string (⟨#[]⟩ : ByteArray), .bool false, .slice none 0 0]) ?_ 0 _ rfl; exact BK205.out⟩, ⟨by repeat (first | (with_reducible first | exact HB.out | refine lV ?_ GE205.out))⟩⟩
        · rw [if_neg c10] at H
          have TN : decide (a1 ≤ ((aj l0 a1).f0)) = false := decide_eq_false c10
          clear c10
          by_cases c12 : ((aj l0 a1).f0) ≥ 0
          · rw [if_pos c12] at H
            have ain : decide (0 ≤ ((aj l0 a1).f0)) = true := decide_eq_true c12
            clear c12
            by_cases c13 : 0 ≤ ((aj l0 a1).f0)
            · rw [if_pos c13] at H
              have c13b0 : decide (0 ≤ ((aj l0 a1).f0)) = true := decide_eq_true c13
              clear c13
              by_cases c14 : ((aj l0 a1).f0) < (l0.length : Int)
              · rw [if_pos c14] at H
                have c14b0 : decide (((aj l0 a1).f0) < (l0.length : Int)) = true := decide_eq_true c14
                clear c14
                have H' := ah.mk H
                clear H
                have akc : w6.cell? ⟨gb205, 0, none⟩ = some (.int .i64 0) := (aV BK205.out 0).trans rfl
                have akd : w6.cell? ⟨gb205, 1, none⟩ = some (.string (⟨#[]⟩ : ByteArray)) := (aV BK205.out 1).trans rfl
                have ake : w6.cell? ⟨gb205, 2, none⟩ = some (.bool false) := (aV BK205.out 2).trans rfl
                have akf : w6.cell? ⟨gb205, 3, none⟩ = some (.slice none 0 0) := (aV BK205.out 3).trans rfl
                have akg := aA BK205.out 0
                have akh := aA BK205.out 1
                have aki := aA BK205.out 2
                have akj := aA BK205.out 3
                have p206 : 0 ≤ (((aj l0 a1).f0) : Int) := of_decide_eq_true (by with_reducible assumption)
                have q206 : ((aj l0 a1).f0) < (l0.length : Int) := of_decide_eq_true (by with_reducible assumption)
                obtain ⟨ad206, A206_3, c206_3, e206, iR, lJ, lK, lM, Ui, Uj⟩ := bC HR0.out ((aj l0 a1).f0) p206 q206
                obtain rfl : ad204 = ad206 := (by injection e206)
                have zG : ad204.block ≠ gb205 := Nat.ne_of_lt (Nat.lt_of_lt_of_le (by have := World.block_lt_of_cell? _ _ iR; first | rwa [add_block] at this) GW205.out)
                have zH : ad204.block ≠ gb205 := Nat.ne_of_lt (Nat.lt_of_lt_of_le (by have := World.block_lt_of_cell? _ _ iR; first | rwa [add_block] at this) GW205.out)
                have zI : ad204.block ≠ gb205 := Nat.ne_of_lt (Nat.lt_of_lt_of_le (by have := World.block_lt_of_cell? _ _ iR; first | rwa [add_block] at this) GW205.out)
                have zJ : ad204.block ≠ gb205 := Nat.ne_of_lt (Nat.lt_of_lt_of_le (by have := World.block_lt_of_cell? _ _ iR; first | rwa [add_block] at this) GW205.out)
                replace iR := (HB.out.cell (World.block_lt_of_cell? w _ iR)).trans iR
                replace lJ := (HB.out.cell (World.block_lt_of_cell? w _ lJ)).trans lJ
                replace lK := (HB.out.cell (World.block_lt_of_cell? w _ lK)).trans lK
                replace lM := (HB.out.cell (World.block_lt_of_cell? w _ lM)).trans lM
                have akk := ah.mk Uj
                have akl := ah.mk Ui
                clear Uj Ui
                replace iR := (cell_far (p := ⟨gb205, 0, none⟩) (by rw [add_block]; exact zG) (.int .i64 ((aj l0 a1).f0))).trans iR
                replace lJ := (cell_far (p := ⟨gb205, 0, none⟩) (by rw [add_block]; exact zG) (.int .i64 ((aj l0 a1).f0))).trans lJ
                replace lK := (cell_far (p := ⟨gb205, 0, none⟩) (by rw [add_block]; exact zG) (.int .i64 ((aj l0 a1).f0))).trans lK
                replace lM := (cell_far (p := ⟨gb205, 0, none⟩) (by rw [add_block]; exact zG) (.int .i64 ((aj l0 a1).f0))).trans lM
                replace iR := (cell_far (p := ⟨gb205, 1, none⟩) (by rw [add_block]; exact zH) (.string ((aj l0 a1).f1))).trans iR
                replace lJ := (cell_far (p := ⟨gb205, 1, none⟩) (by rw [add_block]; exact zH) (.string ((aj l0 a1).f1))).trans lJ
                replace lK := (cell_far (p := ⟨gb205, 1, none⟩) (by rw [add_block]; exact zH) (.string ((aj l0 a1).f1))).trans lK
                replace lM := (cell_far (p := ⟨gb205, 1, none⟩) (by rw [add_block]; exact zH) (.string ((aj l0 a1).f1))).trans lM
                replace iR := (cell_far (p := ⟨gb205, 2, none⟩) (by rw [add_block]; exact zI) (.bool ((aj l0 a1).f2))).trans iR
                replace lJ := (cell_far (p := ⟨gb205, 2, none⟩) (by rw [add_block]; exact zI) (.bool ((aj l0 a1).f2))).trans lJ
                replace lK := (cell_far (p := ⟨gb205, 2, none⟩) (by rw [add_block]; exact zI) (.bool ((aj l0 a1).f2))).trans lK
                replace lM := (cell_far (p := ⟨gb205, 2, none⟩) (by rw [add_block]; exact zI) (.bool ((aj l0 a1).f2))).trans lM
                replace iR := (cell_far (p := ⟨gb205, 3, none⟩) (by rw [add_block]; exact zJ) (.slice iI ((aj l0 a1).f3).length iJ)).trans iR
                replace lJ := (cell_far (p := ⟨gb205, 3, none⟩) (by rw [add_block]; exact zJ) (.slice iI ((aj l0 a1).f3).length iJ)).trans lJ
                replace lK := (cell_far (p := ⟨gb205, 3, none⟩) (by rw [add_block]; exact zJ) (.slice iI ((aj l0 a1).f3).length iJ)).trans lK
                replace lM := (cell_far (p := ⟨gb205, 3, none⟩) (by rw [add_block]; exact zJ) (.slice iI ((aj l0 a1).f3).length iJ)).trans lM
                (try have akm := fun (n_ : Nat) => (show ((((((w6.drewN n_).setCell ⟨gb205, 0, none⟩ (.int .i64 ((aj l0 a1).f0))).setCell ⟨gb205, 1, none⟩ (.string ((aj l0 a1).f1))).setCell ⟨gb205, 2, none⟩ (.bool ((aj l0 a1).f2))).setCell ⟨gb205, 3, none⟩ (.slice iI ((aj l0 a1).f3).length iJ))).cell? _ = some _ from iR))
                (try have akn := fun (n_ : Nat) => (show ((((((w6.drewN n_).setCell ⟨gb205, 0, none⟩ (.int .i64 ((aj l0 a1).f0))).setCell ⟨gb205, 1, none⟩ (.string ((aj l0 a1).f1))).setCell ⟨gb205, 2, none⟩ (.bool ((aj l0 a1).f2))).setCell ⟨gb205, 3, none⟩ (.slice iI ((aj l0 a1).f3).length iJ))).cell? _ = some _ from lJ))
                (try have ako := fun (n_ : Nat) => (show ((((((w6.drewN n_).setCell ⟨gb205, 0, none⟩ (.int .i64 ((aj l0 a1).f0))).setCell ⟨gb205, 1, none⟩ (.string ((aj l0 a1).f1))).setCell ⟨gb205, 2, none⟩ (.bool ((aj l0 a1).f2))).setCell ⟨gb205, 3, none⟩ (.slice iI ((aj l0 a1).f3).length iJ))).cell? _ = some _ from lK))
                (try have akp := fun (n_ : Nat) => (show ((((((w6.drewN n_).setCell ⟨gb205, 0, none⟩ (.int .i64 ((aj l0 a1).f0))).setCell ⟨gb205, 1, none⟩ (.string ((aj l0 a1).f1))).setCell ⟨gb205, 2, none⟩ (.bool ((aj l0 a1).f2))).setCell ⟨gb205, 3, none⟩ (.slice iI ((aj l0 a1).f3).length iJ))).cell? _ = some _ from lM))
                clear zG
                clear zH
                clear zI
                clear zJ
                replace p206 := eq_true p206
                replace q206 := eq_true q206
                go_wp2
                skip
                go_meet
                case rel => exact ⟨_, (!((aj l0 ((aj l0 a1).f0)).f2)), (by first | rfl), H', ⟨by first | omega⟩, ⟨by refine iQ (cs := #[.int .i64 ((aj l0 a1).f0), .string ((aj l0 a1).f1), .bool ((aj l0 a1).f2), .slice none 0 0]) ?_ 3 _ rfl; refine iQ (cs := #[.int .i64 ((aj l0 a1).f0), .string ((aj l0 a1).f1), .bool false, .slice none 0 0]) ?_ 2 _ rfl; refine iQ (cs := #[.int .i64 ((aj l0 a1).f0), .string (⟨#[]⟩ : ByteArray), .bool false, .slice none 0 0]) ?_ 1 _ rfl; refine iQ (cs := #[.int .i64 0, .string (⟨#[]⟩ : ByteArray), .bool false, .slice none 0 0]) ?_ 0 _ rfl; exact BK205.out⟩, ⟨by repeat (first | (with_reducible first | exact HB.out | refine lV ?_ GE205.out))⟩⟩
              · rw [if_neg c14] at H
                exact absurd H (by simp)
            · rw [if_neg c13] at H
              exact absurd H (by simp)
          · rw [if_neg c12] at H
            have ain : decide (0 ≤ ((aj l0 a1).f0)) = false := decide_eq_false c12
            clear c12
            have H' := ah.mk H
            clear H
            have akq : w6.cell? ⟨gb205, 0, none⟩ = some (.int .i64 0) := (aV BK205.out 0).trans rfl
            have akr : w6.cell? ⟨gb205, 1, none⟩ = some (.string (⟨#[]⟩ : ByteArray)) := (aV BK205.out 1).trans rfl
            have aks : w6.cell? ⟨gb205, 2, none⟩ = some (.bool false) := (aV BK205.out 2).trans rfl
            have akt : w6.cell? ⟨gb205, 3, none⟩ = some (.slice none 0 0) := (aV BK205.out 3).trans rfl
            have aku := aA BK205.out 0
            have akv := aA BK205.out 1
            have akw := aA BK205.out 2
            have akx := aA BK205.out 3
            go_wp2
            skip
            go_meet
            case rel => exact ⟨_, (false), (by first | rfl), H', ⟨by first | omega⟩, ⟨by refine iQ (cs := #[.int .i64 ((aj l0 a1).f0), .string ((aj l0 a1).f1), .bool ((aj l0 a1).f2), .slice none 0 0]) ?_ 3 _ rfl; refine iQ (cs := #[.int .i64 ((aj l0 a1).f0), .string ((aj l0 a1).f1), .bool false, .slice none 0 0]) ?_ 2 _ rfl; refine iQ (cs := #[.int .i64 ((aj l0 a1).f0), .string (⟨#[]⟩ : ByteArray), .bool false, .slice none 0 0]) ?_ 1 _ rfl; refine iQ (cs := #[.int .i64 0, .string (⟨#[]⟩ : ByteArray), .bool false, .slice none 0 0]) ?_ 0 _ rfl; exact BK205.out⟩, ⟨by repeat (first | (with_reducible first | exact HB.out | refine lV ?_ GE205.out))⟩⟩
     case rest =>
      clear HC5
      try clear uY
      try clear yD
      try clear afZ
      try clear aga
      try clear agb
      try clear agc
      try clear agd
      try clear agf
      try clear agh
      try clear agi
      try clear acN
      try clear acO
      try clear acP
      try clear acQ
      try clear p204
      try clear q204
      obtain ⟨kq, Uh, rfl, HA, HJ4, BK205, HB⟩ := hcut
      cases kq with
      | zero => exact absurd HA.out (by simp [ak.j0])
      | succ kj4 =>
       have H := HA.out
       clear HA
       simp only [ak.j0] at H
       by_cases c17 : Uh = true
       · subst c17
         have H1 : (some false) = some r := by rw [if_pos rfl] at H; exact H
         clear H
         have H := H1
         clear H1
         obtain rfl := Option.some.inj H
         go_wp2
         skip
         go_ret
         exact ⟨by first | rfl , by exact HB.out⟩
       · replace c17 := Bool.eq_false_iff.mpr c17
         subst c17
         have H1 : ((aX.f kj4 ((aj l0 a1).f1)).bind fun t207 => (if t207 = true then (if (((aj l0 a1).f1).size : Int) > 48 then (ak.j1 kj4 l0 a1 true ((aj l0 a1).f0) ((aj l0 a1).f1) ((aj l0 a1).f2) ((aj l0 a1).f3)) else (if ((aj l0 a1).f2) = true then (if (((aj l0 a1).f3).length : Int) > 0 then (ak.j1 kj4 l0 a1 true ((aj l0 a1).f0) ((aj l0 a1).f1) ((aj l0 a1).f2) ((aj l0 a1).f3)) else (if (((aj l0 a1).f3).length : Int) > 8192 then (ak.j1 kj4 l0 a1 true ((aj l0 a1).f0) ((aj l0 a1).f1) ((aj l0 a1).f2) ((aj l0 a1).f3)) else ((aW.f kj4 l0 a1).bind fun t208 => (ak.j1 kj4 l0 a1 (decide (t208 > 8)) ((aj l0 a1).f0) ((aj l0 a1).f1) ((aj l0 a1).f2) ((aj l0 a1).f3))))) else (if (((aj l0 a1).f3).length : Int) > 8192 then (ak.j1 kj4 l0 a1 true ((aj l0 a1).f0) ((aj l0 a1).f1) ((aj l0 a1).f2) ((aj l0 a1).f3)) else ((aW.f kj4 l0 a1).bind fun t209 => (ak.j1 kj4 l0 a1 (decide (t209 > 8)) ((aj l0 a1).f0) ((aj l0 a1).f1) ((aj l0 a1).f2) ((aj l0 a1).f3)))))) else (ak.j1 kj4 l0 a1 true ((aj l0 a1).f0) ((aj l0 a1).f1) ((aj l0 a1).f2) ((aj l0 a1).f3)))) = some r := by rw [if_neg (show ¬ (false = true) by decide)] at H; exact H
         clear H
         have H := H1
         clear H1
         have HC18 := ah.mk H
         clear H
         go_upto_region 4 with (fail)
         skip
         go_cut [65] (fun v65 wc => ∃ (kq : Nat) (Lm : Bool), v65 = .bool Lm ∧ ah (ak.j1 kq l0 a1 Lm ((aj l0 a1).f0) ((aj l0 a1).f1) ((aj l0 a1).f2) ((aj l0 a1).f3) = some r) ∧ ah (kq ≤ kj4) ∧ ah (wc.heap[gb205]? = some (.cells #[.int .i64 ((aj l0 a1).f0), .string ((aj l0 a1).f1), .bool ((aj l0 a1).f2), (.slice iI ((aj l0 a1).f3).length iJ)] 53 (0, 0))) ∧ ah (Below w.heap.size w wc))
         case first =>
          have H := HC18.out
          clear HC18
          replace H := Option.bind_eq_some_iff.mp H
          obtain ⟨t207, A190, H⟩ := H
          replace H : (if t207 = true then (if (((aj l0 a1).f1).size : Int) > 48 then (ak.j1 kj4 l0 a1 true ((aj l0 a1).f0) ((aj l0 a1).f1) ((aj l0 a1).f2) ((aj l0 a1).f3)) else (if ((aj l0 a1).f2) = true then (if (((aj l0 a1).f3).length : Int) > 0 then (ak.j1 kj4 l0 a1 true ((aj l0 a1).f0) ((aj l0 a1).f1) ((aj l0 a1).f2) ((aj l0 a1).f3)) else (if (((aj l0 a1).f3).length : Int) > 8192 then (ak.j1 kj4 l0 a1 true ((aj l0 a1).f0) ((aj l0 a1).f1) ((aj l0 a1).f2) ((aj l0 a1).f3)) else ((aW.f kj4 l0 a1).bind fun t208 => (ak.j1 kj4 l0 a1 (decide (t208 > 8)) ((aj l0 a1).f0) ((aj l0 a1).f1) ((aj l0 a1).f2) ((aj l0 a1).f3))))) else (if (((aj l0 a1).f3).length : Int) > 8192 then (ak.j1 kj4 l0 a1 true ((aj l0 a1).f0) ((aj l0 a1).f1) ((aj l0 a1).f2) ((aj l0 a1).f3)) else ((aW.f kj4 l0 a1).bind fun t209 => (ak.j1 kj4 l0 a1 (decide (t209 > 8)) ((aj l0 a1).f0) ((aj l0 a1).f1) ((aj l0 a1).f2) ((aj l0 a1).f3)))))) else (ak.j1 kj4 l0 a1 true ((aj l0 a1).f0) ((aj l0 a1).f1) ((aj l0 a1).f2) ((aj l0 a1).f3))) = some r := H
          have A19 := ah.mk A190
          clear A190
          by_cases c20 : t207 = true
          · subst c20
            have H1 : (if (((aj l0 a1).f1).size : Int) > 48 then (ak.j1 kj4 l0 a1 true ((aj l0 a1).f0) ((aj l0 a1).f1) ((aj l0 a1).f2) ((aj l0 a1).f3)) else (if ((aj l0 a1).f2) = true then (if (((aj l0 a1).f3).length : Int) > 0 then (ak.j1 kj4 l0 a1 true ((aj l0 a1).f0) ((aj l0 a1).f1) ((aj l0 a1).f2) ((aj l0 a1).f3)) else (if (((aj l0 a1).f3).length : Int) > 8192 then (ak.j1 kj4 l0 a1 true ((aj l0 a1).f0) ((aj l0 a1).f1) ((aj l0 a1).f2) ((aj l0 a1).f3)) else ((aW.f kj4 l0 a1).bind fun t208 => (ak.j1 kj4 l0 a1 (decide (t208 > 8)) ((aj l0 a1).f0) ((aj l0 a1).f1) ((aj l0 a1).f2) ((aj l0 a1).f3))))) else (if (((aj l0 a1).f3).length : Int) > 8192 then (ak.j1 kj4 l0 a1 true ((aj l0 a1).f0) ((aj l0 a1).f1) ((aj l0 a1).f2) ((aj l0 a1).f3)) else ((aW.f kj4 l0 a1).bind fun t209 => (ak.j1 kj4 l0 a1 (decide (t209 > 8)) ((aj l0 a1).f0) ((aj l0 a1).f1) ((aj l0 a1).f2) ((aj l0 a1).f3)))))) = some r := by rw [if_pos rfl] at H; exact H
            clear H
            have H := H1
            clear H1
            by_cases c21 : (((aj l0 a1).f1).size : Int) > 48
            · rw [if_pos c21] at H
              have aio : decide (48 < (((aj l0 a1).f1).size : Int)) = true := decide_eq_true c21
              have aip : decide (48 < ((aj l0 a1).f1).size) = true := decide_eq_true (by omega)
              clear c21
              (skip)
              have H' := ah.mk H
              clear H
              have aky : wc.cell? ⟨gb205, 0, none⟩ = some (.int .i64 ((aj l0 a1).f0)) := (aV BK205.out 0).trans rfl
              have akz : wc.cell? ⟨gb205, 1, none⟩ = some (.string ((aj l0 a1).f1)) := (aV BK205.out 1).trans rfl
              have akA : wc.cell? ⟨gb205, 2, none⟩ = some (.bool ((aj l0 a1).f2)) := (aV BK205.out 2).trans rfl
              have akB : wc.cell? ⟨gb205, 3, none⟩ = some (.slice iI ((aj l0 a1).f3).length iJ) := (aV BK205.out 3).trans rfl
              have akC := aA BK205.out 0
              have akD := aA BK205.out 1
              have akE := aA BK205.out 2
              have akF := aA BK205.out 3
              go_wp2_with (first | (go_at_call 120; (with_reducible refine (aX.calls kj4 ((aj l0 a1).f1) true _ A19.out).mono ?_); rintro e w' ⟨rfl, ⟨nd, rfl⟩⟩; (try first | exact ⟨rfl, _, World.drewN_drewN _ _ _⟩ | exact ⟨rfl, _, Eq.trans (World.drewN_drewN _ _ _) (congrArg (World.drewN _) (Nat.add_assoc _ _ _))⟩)))
              skip
              go_meet
              case rel => exact ⟨_, (true), (by first | rfl), H', ⟨by have := HJ4.out; first | omega⟩, ⟨by (with_reducible repeat (refine kK ?_ _)); exact BK205.out⟩, ⟨by repeat (first | (with_reducible first | exact HB.out | apply bG))⟩⟩
            · rw [if_neg c21] at H
              have aio : decide (48 < (((aj l0 a1).f1).size : Int)) = false := decide_eq_false c21
              have aip : decide (48 < ((aj l0 a1).f1).size) = false := decide_eq_false (by omega)
              clear c21
              (skip)
              by_cases c23 : ((aj l0 a1).f2) = true
              · rw [if_pos c23] at H
                have aiq : ((aj l0 a1).f2) = true := c23
                clear c23
                by_cases c24 : (((aj l0 a1).f3).length : Int) > 0
                · rw [if_pos c24] at H
                  have air : decide (0 < (((aj l0 a1).f3).length : Int)) = true := decide_eq_true c24
                  have ais : decide (0 < ((aj l0 a1).f3).length) = true := decide_eq_true (by omega)
                  clear c24
                  have H' := ah.mk H
                  clear H
                  have akG : wc.cell? ⟨gb205, 0, none⟩ = some (.int .i64 ((aj l0 a1).f0)) := (aV BK205.out 0).trans rfl
                  have akH : wc.cell? ⟨gb205, 1, none⟩ = some (.string ((aj l0 a1).f1)) := (aV BK205.out 1).trans rfl
                  have akI : wc.cell? ⟨gb205, 2, none⟩ = some (.bool ((aj l0 a1).f2)) := (aV BK205.out 2).trans rfl
                  have akJ : wc.cell? ⟨gb205, 3, none⟩ = some (.slice iI ((aj l0 a1).f3).length iJ) := (aV BK205.out 3).trans rfl
                  have akK := aA BK205.out 0
                  have akL := aA BK205.out 1
                  have akM := aA BK205.out 2
                  have akN := aA BK205.out 3
                  go_wp2_with (first | (go_at_call 120; (with_reducible refine (aX.calls kj4 ((aj l0 a1).f1) true _ A19.out).mono ?_); rintro e w' ⟨rfl, ⟨nd, rfl⟩⟩; (try first | exact ⟨rfl, _, World.drewN_drewN _ _ _⟩ | exact ⟨rfl, _, Eq.trans (World.drewN_drewN _ _ _) (congrArg (World.drewN _) (Nat.add_assoc _ _ _))⟩)))
                  skip
                  go_meet
                  case rel => exact ⟨_, (true), (by first | rfl), H', ⟨by have := HJ4.out; first | omega⟩, ⟨by (with_reducible repeat (refine kK ?_ _)); exact BK205.out⟩, ⟨by repeat (first | (with_reducible first | exact HB.out | apply bG))⟩⟩
                · rw [if_neg c24] at H
                  have air : decide (0 < (((aj l0 a1).f3).length : Int)) = false := decide_eq_false c24
                  have ais : decide (0 < ((aj l0 a1).f3).length) = false := decide_eq_false (by omega)
                  clear c24
                  by_cases c26 : (((aj l0 a1).f3).length : Int) > 8192
                  · rw [if_pos c26] at H
                    have ait : decide (8192 < (((aj l0 a1).f3).length : Int)) = true := decide_eq_true c26
                    have aiu : decide (8192 < ((aj l0 a1).f3).length) = true := decide_eq_true (by omega)
                    clear c26
                    have H' := ah.mk H
                    clear H
                    have akO : wc.cell? ⟨gb205, 0, none⟩ = some (.int .i64 ((aj l0 a1).f0)) := (aV BK205.out 0).trans rfl
                    have akP : wc.cell? ⟨gb205, 1, none⟩ = some (.string ((aj l0 a1).f1)) := (aV BK205.out 1).trans rfl
                    have akQ : wc.cell? ⟨gb205, 2, none⟩ = some (.bool ((aj l0 a1).f2)) := (aV BK205.out 2).trans rfl
                    have akR : wc.cell? ⟨gb205, 3, none⟩ = some (.slice iI ((aj l0 a1).f3).length iJ) := (aV BK205.out 3).trans rfl
                    have akS := aA BK205.out 0
                    have akT := aA BK205.out 1
                    have akU := aA BK205.out 2
                    have akV := aA BK205.out 3
                    go_wp2_with (first | (go_at_call 120; (with_reducible refine (aX.calls kj4 ((aj l0 a1).f1) true _ A19.out).mono ?_); rintro e w' ⟨rfl, ⟨nd, rfl⟩⟩; (try first | exact ⟨rfl, _, World.drewN_drewN _ _ _⟩ | exact ⟨rfl, _, Eq.trans (World.drewN_drewN _ _ _) (congrArg (World.drewN _) (Nat.add_assoc _ _ _))⟩)))
                    skip
                    go_meet
                    case rel => exact ⟨_, (true), (by first | rfl), H', ⟨by have := HJ4.out; first | omega⟩, ⟨by (with_reducible repeat (refine kK ?_ _)); exact BK205.out⟩, ⟨by repeat (first | (with_reducible first | exact HB.out | apply bG))⟩⟩
                  · rw [if_neg c26] at H
                    have ait : decide (8192 < (((aj l0 a1).f3).length : Int)) = false := decide_eq_false c26
                    have aiu : decide (8192 < ((aj l0 a1).f3).length) = false := decide_eq_false (by omega)
                    clear c26
                    replace H := Option.bind_eq_some_iff.mp H
                    obtain ⟨t208, A280, H⟩ := H
                    replace H : (ak.j1 kj4 l0 a1 (decide (t208 > 8)) ((aj l0 a1).f0) ((aj l0 a1).f1) ((aj l0 a1).f2) ((aj l0 a1).f3)) = some r := H
                    have A28 := ah.mk A280
                    clear A280
                    have H' := ah.mk H
                    clear H
                    have akW : wc.cell? ⟨gb205, 0, none⟩ = some (.int .i64 ((aj l0 a1).f0)) := (aV BK205.out 0).trans rfl
                    have akX : wc.cell? ⟨gb205, 1, none⟩ = some (.string ((aj l0 a1).f1)) := (aV BK205.out 1).trans rfl
                    have akY : wc.cell? ⟨gb205, 2, none⟩ = some (.bool ((aj l0 a1).f2)) := (aV BK205.out 2).trans rfl
                    have akZ : wc.cell? ⟨gb205, 3, none⟩ = some (.slice iI ((aj l0 a1).f3).length iJ) := (aV BK205.out 3).trans rfl
                    have ala := aA BK205.out 0
                    have alb := aA BK205.out 1
                    have alc := aA BK205.out 2
                    have ald := aA BK205.out 3
                    go_wp2_with (first | (go_at_call 120; (with_reducible refine (aX.calls kj4 ((aj l0 a1).f1) true _ A19.out).mono ?_); rintro e w' ⟨rfl, ⟨nd, rfl⟩⟩; (try first | exact ⟨rfl, _, World.drewN_drewN _ _ _⟩ | exact ⟨rfl, _, Eq.trans (World.drewN_drewN _ _ _) (congrArg (World.drewN _) (Nat.add_assoc _ _ _))⟩)) | (go_at_call 121; (with_reducible refine (aW.calls kj4 _ _ l0 a1 t208 _ ?rX ?rY A28.out).mono ?_); (case rX => repeat (first | exact (Kd.aT HR0.out (by repeat (first | (with_reducible first | exact HB.out | apply bG)))))); (case rY => exact HC0.out); rintro e w' ⟨rfl, ⟨nd, rfl⟩⟩; (try first | exact ⟨rfl, _, World.drewN_drewN _ _ _⟩ | exact ⟨rfl, _, Eq.trans (World.drewN_drewN _ _ _) (congrArg (World.drewN _) (Nat.add_assoc _ _ _))⟩)))
                    skip
                    go_meet
                    case rel => exact ⟨_, (decide (t208 > 8)), (by first | rfl), H', ⟨by have := HJ4.out; first | omega⟩, ⟨by (with_reducible repeat (refine kK ?_ _)); exact BK205.out⟩, ⟨by repeat (first | (with_reducible first | exact HB.out | apply bG))⟩⟩
              · rw [if_neg c23] at H
                have aiq : ((aj l0 a1).f2) = false := by simpa using c23
                clear c23
                by_cases c30 : (((aj l0 a1).f3).length : Int) > 8192
                · rw [if_pos c30] at H
                  have aiv : decide (8192 < (((aj l0 a1).f3).length : Int)) = true := decide_eq_true c30
                  have aiw : decide (8192 < ((aj l0 a1).f3).length) = true := decide_eq_true (by omega)
                  clear c30
                  have H' := ah.mk H
                  clear H
                  have ale : wc.cell? ⟨gb205, 0, none⟩ = some (.int .i64 ((aj l0 a1).f0)) := (aV BK205.out 0).trans rfl
                  have alf : wc.cell? ⟨gb205, 1, none⟩ = some (.string ((aj l0 a1).f1)) := (aV BK205.out 1).trans rfl
                  have alg : wc.cell? ⟨gb205, 2, none⟩ = some (.bool ((aj l0 a1).f2)) := (aV BK205.out 2).trans rfl
                  have alh : wc.cell? ⟨gb205, 3, none⟩ = some (.slice iI ((aj l0 a1).f3).length iJ) := (aV BK205.out 3).trans rfl
                  have ali := aA BK205.out 0
                  have alj := aA BK205.out 1
                  have alk := aA BK205.out 2
                  have alm := aA BK205.out 3
                  go_wp2_with (first | (go_at_call 120; (with_reducible refine (aX.calls kj4 ((aj l0 a1).f1) true _ A19.out).mono ?_); rintro e w' ⟨rfl, ⟨nd, rfl⟩⟩; (try first | exact ⟨rfl, _, World.drewN_drewN _ _ _⟩ | exact ⟨rfl, _, Eq.trans (World.drewN_drewN _ _ _) (congrArg (World.drewN _) (Nat.add_assoc _ _ _))⟩)))
                  skip
                  go_meet
                  case rel => exact ⟨_, (true), (by first | rfl), H', ⟨by have := HJ4.out; first | omega⟩, ⟨by (with_reducible repeat (refine kK ?_ _)); exact BK205.out⟩, ⟨by repeat (first | (with_reducible first | exact HB.out | apply bG))⟩⟩
                · rw [if_neg c30] at H
                  have aiv : decide (8192 < (((aj l0 a1).f3).length : Int)) = false := decide_eq_false c30
                  have aiw : decide (8192 < ((aj l0 a1).f3).length) = false := decide_eq_false (by omega)
                  clear c30
                  replace H := Option.bind_eq_some_iff.mp H
                  obtain ⟨t209, A320, H⟩ := H
                  replace H : (ak.j1 kj4 l0 a1 (decide (t209 > 8)) ((aj l0 a1).f0) ((aj l0 a1).f1) ((aj l0 a1).f2) ((aj l0 a1).f3)) = some r := H
                  have A32 := ah.mk A320
                  clear A320
                  have H' := ah.mk H
                  clear H
                  have aln : wc.cell? ⟨gb205, 0, none⟩ = some (.int .i64 ((aj l0 a1).f0)) := (aV BK205.out 0).trans rfl
                  have alo : wc.cell? ⟨gb205, 1, none⟩ = some (.string ((aj l0 a1).f1)) := (aV BK205.out 1).trans rfl
                  have alp : wc.cell? ⟨gb205, 2, none⟩ = some (.bool ((aj l0 a1).f2)) := (aV BK205.out 2).trans rfl
                  have alq : wc.cell? ⟨gb205, 3, none⟩ = some (.slice iI ((aj l0 a1).f3).length iJ) := (aV BK205.out 3).trans rfl
                  have alr := aA BK205.out 0
                  have als := aA BK205.out 1
                  have alu := aA BK205.out 2
                  have alv := aA BK205.out 3
                  go_wp2_with (first | (go_at_call 120; (with_reducible refine (aX.calls kj4 ((aj l0 a1).f1) true _ A19.out).mono ?_); rintro e w' ⟨rfl, ⟨nd, rfl⟩⟩; (try first | exact ⟨rfl, _, World.drewN_drewN _ _ _⟩ | exact ⟨rfl, _, Eq.trans (World.drewN_drewN _ _ _) (congrArg (World.drewN _) (Nat.add_assoc _ _ _))⟩)) | (go_at_call 121; (with_reducible refine (aW.calls kj4 _ _ l0 a1 t209 _ ?rX ?rY A32.out).mono ?_); (case rX => repeat (first | exact (Kd.aT HR0.out (by repeat (first | (with_reducible first | exact HB.out | apply bG)))))); (case rY => exact HC0.out); rintro e w' ⟨rfl, ⟨nd, rfl⟩⟩; (try first | exact ⟨rfl, _, World.drewN_drewN _ _ _⟩ | exact ⟨rfl, _, Eq.trans (World.drewN_drewN _ _ _) (congrArg (World.drewN _) (Nat.add_assoc _ _ _))⟩)))
                  skip
                  go_meet
                  case rel => exact ⟨_, (decide (t209 > 8)), (by first | rfl), H', ⟨by have := HJ4.out; first | omega⟩, ⟨by (with_reducible repeat (refine kK ?_ _)); exact BK205.out⟩, ⟨by repeat (first | (with_reducible first | exact HB.out | apply bG))⟩⟩
          · replace c20 := Bool.eq_false_iff.mpr c20
            subst c20
            have H1 : (ak.j1 kj4 l0 a1 true ((aj l0 a1).f0) ((aj l0 a1).f1) ((aj l0 a1).f2) ((aj l0 a1).f3)) = some r := by rw [if_neg (show ¬ (false = true) by decide)] at H; exact H
            clear H
            have H := H1
            clear H1
            have H' := ah.mk H
            clear H
            have alx : wc.cell? ⟨gb205, 0, none⟩ = some (.int .i64 ((aj l0 a1).f0)) := (aV BK205.out 0).trans rfl
            have aly : wc.cell? ⟨gb205, 1, none⟩ = some (.string ((aj l0 a1).f1)) := (aV BK205.out 1).trans rfl
            have alz : wc.cell? ⟨gb205, 2, none⟩ = some (.bool ((aj l0 a1).f2)) := (aV BK205.out 2).trans rfl
            have alA : wc.cell? ⟨gb205, 3, none⟩ = some (.slice iI ((aj l0 a1).f3).length iJ) := (aV BK205.out 3).trans rfl
            have alB := aA BK205.out 0
            have alC := aA BK205.out 1
            have alD := aA BK205.out 2
            have alE := aA BK205.out 3
            go_wp2_with (first | (go_at_call 120; (with_reducible refine (aX.calls kj4 ((aj l0 a1).f1) false _ A19.out).mono ?_); rintro e w' ⟨rfl, ⟨nd, rfl⟩⟩; (try first | exact ⟨rfl, _, World.drewN_drewN _ _ _⟩ | exact ⟨rfl, _, Eq.trans (World.drewN_drewN _ _ _) (congrArg (World.drewN _) (Nat.add_assoc _ _ _))⟩)))
            skip
            go_meet
            case rel => exact ⟨_, (true), (by first | rfl), H', ⟨by have := HJ4.out; first | omega⟩, ⟨by (with_reducible repeat (refine kK ?_ _)); exact BK205.out⟩, ⟨by repeat (first | (with_reducible first | exact HB.out | apply bG))⟩⟩
         case rest =>
          clear HC18
          obtain ⟨kq, Lm, rfl, HA, HJ17, BK205, HB⟩ := hcut
          cases kq with
          | zero => exact absurd HA.out (by simp [ak.j1])
          | succ kj17 =>
           have H := HA.out
           clear HA
           simp only [ak.j1] at H
           by_cases c35 : Lm = true
           · subst c35
             have H1 : (some false) = some r := by rw [if_pos rfl] at H; exact H
             clear H
             have H := H1
             clear H1
             obtain rfl := Option.some.inj H
             go_wp2
             skip
             go_ret
             exact ⟨by first | rfl , by exact HB.out⟩
           · replace c35 := Bool.eq_false_iff.mpr c35
             subst c35
             have H1 : (ak.l0 kj17 l0 a1 0 ((aj l0 a1).f0) ((aj l0 a1).f1) ((aj l0 a1).f2) ((aj l0 a1).f3)) = some r := by rw [if_neg (show ¬ (false = true) by decide)] at H; exact H
             clear H
             have H := H1
             clear H1
             have H' := ah.mk H
             clear H
             go_wp2
             skip
             go_loopg [6] kj17 (fun kq v6 w' => ∃ (jA : Int), v6 = .int .i64 jA ∧ ah (ak.l0 kq l0 a1 jA ((aj l0 a1).f0) ((aj l0 a1).f1) ((aj l0 a1).f2) ((aj l0 a1).f3) = some r) ∧ ah (kq ≤ kj17) ∧ ah (w'.heap[gb205]? = some (.cells #[.int .i64 ((aj l0 a1).f0), .string ((aj l0 a1).f1), .bool ((aj l0 a1).f2), (.slice iI ((aj l0 a1).f3).length iJ)] 53 (0, 0))) ∧ ah (Below w.heap.size w w'))
             case atStart => exact ⟨(0), (by first | rfl), H', ⟨Nat.le_refl _⟩, ⟨by exact BK205.out⟩, ⟨by exact HB.out⟩⟩
             case round =>
              clear H'
              obtain ⟨jA, rfl, HA, HK3, BK205, HB⟩ := hrel
              cases gk with
              | zero => exact absurd HA.out (by simp [ak.l0])
              | succ k3 =>
               have H := HA.out
               clear HA
               simp only [ak.l0] at H
               by_cases c36 : jA < a1
               · rw [if_pos c36] at H
                 have aix : decide (jA < a1) = true := decide_eq_true c36
                 clear c36
                 by_cases c37 : 0 ≤ jA
                 · rw [if_pos c37] at H
                   have c37b0 : decide (0 ≤ jA) = true := decide_eq_true c37
                   clear c37
                   by_cases c38 : jA < (l0.length : Int)
                   · rw [if_pos c38] at H
                     have c38b0 : decide (jA < (l0.length : Int)) = true := decide_eq_true c38
                     clear c38
                     by_cases c39 : ((aj l0 jA).f0) = ((aj l0 a1).f0)
                     · rw [if_pos c39] at H
                       have aiy : (((aj l0 jA).f0) == ((aj l0 a1).f0)) = true := beq_iff_eq.mpr c39
                       have aiz : (((aj l0 jA).f0) != ((aj l0 a1).f0)) = false := bne_eq_false_iff_eq.mpr c39
                       clear c39
                       by_cases c40 : ((aj l0 jA).f1).toList = ((aj l0 a1).f1).toList
                       · rw [if_pos c40] at H
                         have aiA : (((aj l0 jA).f1).toList == ((aj l0 a1).f1).toList) = true := beq_iff_eq.mpr c40
                         have aiB : (((aj l0 jA).f1).toList != ((aj l0 a1).f1).toList) = false := bne_eq_false_iff_eq.mpr c40
                         clear c40
                         obtain rfl := Option.some.inj H
                         have p210 : 0 ≤ (jA : Int) := of_decide_eq_true (by with_reducible assumption)
                         have q210 : jA < (l0.length : Int) := of_decide_eq_true (by with_reducible assumption)
                         obtain ⟨ad210, YM, YN, e210, mQ, mV, mW, kL, qL, qM⟩ := bC HR0.out jA p210 q210
                         obtain rfl : ad204 = ad210 := (by injection e210)
                         replace mQ := (HB.out.cell (World.block_lt_of_cell? w _ mQ)).trans mQ
                         replace mV := (HB.out.cell (World.block_lt_of_cell? w _ mV)).trans mV
                         replace mW := (HB.out.cell (World.block_lt_of_cell? w _ mW)).trans mW
                         replace kL := (HB.out.cell (World.block_lt_of_cell? w _ kL)).trans kL
                         have Uk := ah.mk qM
                         have Ul := ah.mk qL
                         clear qM qL
                         replace p210 := eq_true p210
                         replace q210 := eq_true q210
                         have alF : wr.cell? ⟨gb205, 0, none⟩ = some (.int .i64 ((aj l0 a1).f0)) := (aV BK205.out 0).trans rfl
                         have alG : wr.cell? ⟨gb205, 1, none⟩ = some (.string ((aj l0 a1).f1)) := (aV BK205.out 1).trans rfl
                         have alH : wr.cell? ⟨gb205, 2, none⟩ = some (.bool ((aj l0 a1).f2)) := (aV BK205.out 2).trans rfl
                         have alI : wr.cell? ⟨gb205, 3, none⟩ = some (.slice iI ((aj l0 a1).f3).length iJ) := (aV BK205.out 3).trans rfl
                         have alJ := aA BK205.out 0
                         have alK := aA BK205.out 1
                         have alL := aA BK205.out 2
                         have alM := aA BK205.out 3
                         have p211 : 0 ≤ (jA : Int) := of_decide_eq_true (by with_reducible assumption)
                         have q211 : jA < (l0.length : Int) := of_decide_eq_true (by with_reducible assumption)
                         obtain ⟨ad211, agj, agk, e211, tZ, uf, ug, oO, zK, zL⟩ := bC HR0.out jA p211 q211
                         obtain rfl : ad204 = ad211 := (by injection e211)
                         replace tZ := (HB.out.cell (World.block_lt_of_cell? w _ tZ)).trans tZ
                         replace uf := (HB.out.cell (World.block_lt_of_cell? w _ uf)).trans uf
                         replace ug := (HB.out.cell (World.block_lt_of_cell? w _ ug)).trans ug
                         replace oO := (HB.out.cell (World.block_lt_of_cell? w _ oO)).trans oO
                         have acR := ah.mk zL
                         have acS := ah.mk zK
                         clear zL zK
                         replace p211 := eq_true p211
                         replace q211 := eq_true q211
                         have ea_ := Option.some.inj (kL.symm.trans oO)
                         injection ea_ with ea_ en_ ec_
                         subst ea_
                         subst ec_
                         clear en_
                         go_wp2
                         repeat (go_quiet (fail); try go_wp2)
                         go_ret
                         exact ⟨by first | rfl , by repeat (first | (with_reducible first | exact HB.out | apply bG))⟩
                       · rw [if_neg c40] at H
                         have aiA : (((aj l0 jA).f1).toList == ((aj l0 a1).f1).toList) = false := beq_eq_false_iff_ne.mpr c40
                         have aiB : (((aj l0 jA).f1).toList != ((aj l0 a1).f1).toList) = true := bne_iff_ne.mpr c40
                         have H' := ah.mk H
                         clear H
                         have p210 : 0 ≤ (jA : Int) := of_decide_eq_true (by with_reducible assumption)
                         have q210 : jA < (l0.length : Int) := of_decide_eq_true (by with_reducible assumption)
                         obtain ⟨ad210, YM, YN, e210, mQ, mV, mW, kL, qL, qM⟩ := bC HR0.out jA p210 q210
                         obtain rfl : ad204 = ad210 := (by injection e210)
                         replace mQ := (HB.out.cell (World.block_lt_of_cell? w _ mQ)).trans mQ
                         replace mV := (HB.out.cell (World.block_lt_of_cell? w _ mV)).trans mV
                         replace mW := (HB.out.cell (World.block_lt_of_cell? w _ mW)).trans mW
                         replace kL := (HB.out.cell (World.block_lt_of_cell? w _ kL)).trans kL
                         have Uk := ah.mk qM
                         have Ul := ah.mk qL
                         clear qM qL
                         replace p210 := eq_true p210
                         replace q210 := eq_true q210
                         have alN : wr.cell? ⟨gb205, 0, none⟩ = some (.int .i64 ((aj l0 a1).f0)) := (aV BK205.out 0).trans rfl
                         have alO : wr.cell? ⟨gb205, 1, none⟩ = some (.string ((aj l0 a1).f1)) := (aV BK205.out 1).trans rfl
                         have alP : wr.cell? ⟨gb205, 2, none⟩ = some (.bool ((aj l0 a1).f2)) := (aV BK205.out 2).trans rfl
                         have alQ : wr.cell? ⟨gb205, 3, none⟩ = some (.slice iI ((aj l0 a1).f3).length iJ) := (aV BK205.out 3).trans rfl
                         have alR := aA BK205.out 0
                         have alS := aA BK205.out 1
                         have alT := aA BK205.out 2
                         have alU := aA BK205.out 3
                         have p211 : 0 ≤ (jA : Int) := of_decide_eq_true (by with_reducible assumption)
                         have q211 : jA < (l0.length : Int) := of_decide_eq_true (by with_reducible assumption)
                         obtain ⟨ad211, agj, agk, e211, tZ, uf, ug, oO, zK, zL⟩ := bC HR0.out jA p211 q211
                         obtain rfl : ad204 = ad211 := (by injection e211)
                         replace tZ := (HB.out.cell (World.block_lt_of_cell? w _ tZ)).trans tZ
                         replace uf := (HB.out.cell (World.block_lt_of_cell? w _ uf)).trans uf
                         replace ug := (HB.out.cell (World.block_lt_of_cell? w _ ug)).trans ug
                         replace oO := (HB.out.cell (World.block_lt_of_cell? w _ oO)).trans oO
                         have acR := ah.mk zL
                         have acS := ah.mk zK
                         clear zL zK
                         replace p211 := eq_true p211
                         replace q211 := eq_true q211
                         have ea_ := Option.some.inj (kL.symm.trans oO)
                         injection ea_ with ea_ en_ ec_
                         subst ea_
                         subst ec_
                         clear en_
                         go_wp2
                         repeat (go_quiet (fail); try go_wp2)
                         go_roundg k3
                         case measure => have := HJ4.out; have := HJ17.out; have := HK3.out; omega
                         case rel => exact ⟨(wrap64 (jA + 1)), (by first | rfl), H', ⟨by have := HJ4.out; have := HJ17.out; have := HK3.out; omega⟩, ⟨by (with_reducible repeat (refine kK ?_ _)); exact BK205.out⟩, ⟨by repeat (first | (with_reducible first | exact HB.out | apply bG))⟩⟩
                     · rw [if_neg c39] at H
                       have aiy : (((aj l0 jA).f0) == ((aj l0 a1).f0)) = false := beq_eq_false_iff_ne.mpr c39
                       have aiz : (((aj l0 jA).f0) != ((aj l0 a1).f0)) = true := bne_iff_ne.mpr c39
                       have H' := ah.mk H
                       clear H
                       have p210 : 0 ≤ (jA : Int) := of_decide_eq_true (by with_reducible assumption)
                       have q210 : jA < (l0.length : Int) := of_decide_eq_true (by with_reducible assumption)
                       obtain ⟨ad210, YM, YN, e210, mQ, mV, mW, kL, qL, qM⟩ := bC HR0.out jA p210 q210
                       obtain rfl : ad204 = ad210 := (by injection e210)
                       replace mQ := (HB.out.cell (World.block_lt_of_cell? w _ mQ)).trans mQ
                       replace mV := (HB.out.cell (World.block_lt_of_cell? w _ mV)).trans mV
                       replace mW := (HB.out.cell (World.block_lt_of_cell? w _ mW)).trans mW
                       replace kL := (HB.out.cell (World.block_lt_of_cell? w _ kL)).trans kL
                       have Uk := ah.mk qM
                       have Ul := ah.mk qL
                       clear qM qL
                       replace p210 := eq_true p210
                       replace q210 := eq_true q210
                       have alV : wr.cell? ⟨gb205, 0, none⟩ = some (.int .i64 ((aj l0 a1).f0)) := (aV BK205.out 0).trans rfl
                       have alW : wr.cell? ⟨gb205, 1, none⟩ = some (.string ((aj l0 a1).f1)) := (aV BK205.out 1).trans rfl
                       have alX : wr.cell? ⟨gb205, 2, none⟩ = some (.bool ((aj l0 a1).f2)) := (aV BK205.out 2).trans rfl
                       have alY : wr.cell? ⟨gb205, 3, none⟩ = some (.slice iI ((aj l0 a1).f3).length iJ) := (aV BK205.out 3).trans rfl
                       have alZ := aA BK205.out 0
                       have ama := aA BK205.out 1
                       have amb := aA BK205.out 2
                       have amc := aA BK205.out 3
                       go_wp2
                       repeat (go_quiet (fail); try go_wp2)
                       go_roundg k3
                       case measure => have := HJ4.out; have := HJ17.out; have := HK3.out; omega
                       case rel => exact ⟨(wrap64 (jA + 1)), (by first | rfl), H', ⟨by have := HJ4.out; have := HJ17.out; have := HK3.out; omega⟩, ⟨by (with_reducible repeat (refine kK ?_ _)); exact BK205.out⟩, ⟨by repeat (first | (with_reducible first | exact HB.out | apply bG))⟩⟩
                   · rw [if_neg c38] at H
                     exact absurd H (by simp)
                 · rw [if_neg c37] at H
                   exact absurd H (by simp)
               · rw [if_neg c36] at H
                 have aix : decide (jA < a1) = false := decide_eq_false c36
                 clear c36
                 obtain rfl := Option.some.inj H
                 go_wp2
                 skip
                 go_ret
                 exact ⟨by first | rfl , by exact HB.out⟩
   · rw [if_neg c4] at H
     exact absurd H (by simp)
 · rw [if_neg c3] at H
   exact absurd H (by simp)
attribute [local go_sem] kU kV nM nN jq jr kW kX   -- for this text's walks alone
set_option linter.unusedVariables false
set_option linter.unusedSimpArgs false
def bY.f (a0 : ByteArray) : Option (Bool) := if a0.toList = ([46, 103, 101, 115, 115, 111] : List UInt8) then (some true) else (some (a0.toList == ([46, 103, 101, 115, 115, 111, 126] : List UInt8)))
theorem bY.calls (a0 : ByteArray) (r : Bool) (w : World) (h : bY.f a0 = some r) :
    Calls Tryz.prog 87 #[.string a0] w fun e w' => e = .returned (.bool r) ∧ aY w w' := by
 have H : (if a0.toList = ([46, 103, 101, 115, 115, 111] : List UInt8) then (some true) else (some (a0.toList == ([46, 103, 101, 115, 115, 111, 126] : List UInt8)))) = some r := h
 clear h
 by_cases c2 : a0.toList = ([46, 103, 101, 115, 115, 111] : List UInt8)
 · rw [if_pos c2] at H
   have Wv : (a0.toList == ([46, 103, 101, 115, 115, 111] : List UInt8)) = true := beq_iff_eq.mpr c2
   have acT : (a0.toList != ([46, 103, 101, 115, 115, 111] : List UInt8)) = false := bne_eq_false_iff_eq.mpr c2
   clear c2
   obtain rfl := Option.some.inj H
   go_enter Tryz.func87, Tryz.ntmps87
   go_wp2
   go_ret
   exact ⟨by first | rfl , by repeat (exact aY.refl _)⟩
 · rw [if_neg c2] at H
   have Wv : (a0.toList == ([46, 103, 101, 115, 115, 111] : List UInt8)) = false := beq_eq_false_iff_ne.mpr c2
   have acT : (a0.toList != ([46, 103, 101, 115, 115, 111] : List UInt8)) = true := bne_iff_ne.mpr c2
   obtain rfl := Option.some.inj H
   go_enter Tryz.func87, Tryz.ntmps87
   go_wp2
   go_ret
   exact ⟨by first | rfl , by repeat (exact aY.refl _)⟩
def aC.l0 : Nat → List (S53) → Bool → Int → Option (Int)
 | 0, _, _, _ => none
 | k + 1, x0, x3, x4 => if x4 < (x0.length : Int) then ((ak.f k x0 x4).bind fun t212 => (if t212 = true then (if x3 = true then (aC.l0 k x0 true (wrap64 (x4 + 1))) else (if 0 ≤ x4 then ((bY.f ((aj x0 x4).f1)).bind fun t214 => (aC.l0 k x0 t214 (wrap64 (x4 + 1)))) else (none))) else (some 14))) else (if x3 = true then (some 15) else (some 0))
def aC.f (k : Nat) (l0 : List (S53)) : Option (Int) := if (l0.length : Int) > 64 then (some 14) else (aC.l0 k l0 false 0)
theorem aC.calls (k : Nat) (A0 : Option Addr) (c0 : Nat) (l0 : List (S53)) (r : Int) (w : World) (hr0 : Kd.C k53 w A0 l0.length l0) (hc0 : l0.length ≤ c0) (h : aC.f k l0 = some r) :
    Calls Tryz.prog 58 #[.slice A0 l0.length c0] w fun e w' => e = .returned (.int .i64 r) ∧ Below w.heap.size w w' := by
 have HR0 := ah.mk hr0
 have HC0 := ah.mk hc0
 clear hr0 hc0
 have HB := ah.mk (Below.refl w.heap.size w)
 have H : (if (l0.length : Int) > 64 then (some 14) else (aC.l0 k l0 false 0)) = some r := h
 clear h
 by_cases c2 : (l0.length : Int) > 64
 · rw [if_pos c2] at H
   have Wv : decide (64 < (l0.length : Int)) = true := decide_eq_true c2
   have acT : decide (64 < l0.length) = true := decide_eq_true (by omega)
   clear c2
   obtain rfl := Option.some.inj H
   go_enter Tryz.func58, Tryz.ntmps58
   go_wp2
   go_ret
   exact ⟨by first | rfl , by exact HB.out⟩
 · rw [if_neg c2] at H
   have Wv : decide (64 < (l0.length : Int)) = false := decide_eq_false c2
   have acT : decide (64 < l0.length) = false := decide_eq_false (by omega)
   clear c2
   have H' := ah.mk H
   clear H
   go_enter Tryz.func58, Tryz.ntmps58
   go_wp2
   go_loopg [3, 4] k (fun kq v3 v4 w' => ∃ (dG : Bool) (kQ : Int), v3 = .bool dG ∧ v4 = .int .i64 kQ ∧ ah (aC.l0 kq l0 dG kQ = some r) ∧ ah (kq ≤ k) ∧ ah (Below w.heap.size w w'))
   case atStart => exact ⟨(false), (0), (by first | rfl), (by first | rfl), H', ⟨Nat.le_refl _⟩, ⟨by exact HB.out⟩⟩
   case round =>
    clear H'
    try clear c2
    try clear Wv
    try clear acT
    try clear p2
    obtain ⟨dG, kQ, rfl, rfl, HA, HK1, HB⟩ := hrel
    cases gk with
    | zero => exact absurd HA.out (by simp [aC.l0])
    | succ k1 =>
     have H := HA.out
     clear HA
     simp only [aC.l0] at H
     by_cases c3 : kQ < (l0.length : Int)
     · rw [if_pos c3] at H
       have uY : decide (kQ < (l0.length : Int)) = true := decide_eq_true c3
       clear c3
       replace H := Option.bind_eq_some_iff.mp H
       obtain ⟨t212, A40, H⟩ := H
       replace H : (if t212 = true then (if dG = true then (aC.l0 k1 l0 true (wrap64 (kQ + 1))) else (if 0 ≤ kQ then ((bY.f ((aj l0 kQ).f1)).bind fun t214 => (aC.l0 k1 l0 t214 (wrap64 (kQ + 1)))) else (none))) else (some 14)) = some r := H
       have A4 := ah.mk A40
       clear A40
       by_cases c5 : t212 = true
       · subst c5
         have H1 : (if dG = true then (aC.l0 k1 l0 true (wrap64 (kQ + 1))) else (if 0 ≤ kQ then ((bY.f ((aj l0 kQ).f1)).bind fun t214 => (aC.l0 k1 l0 t214 (wrap64 (kQ + 1)))) else (none))) = some r := by rw [if_pos rfl] at H; exact H
         clear H
         have H := H1
         clear H1
         by_cases c6 : dG = true
         · subst c6
           have H1 : (aC.l0 k1 l0 true (wrap64 (kQ + 1))) = some r := by rw [if_pos rfl] at H; exact H
           clear H
           have H := H1
           clear H1
           have H' := ah.mk H
           clear H
           go_wp2_with (first | ((with_reducible refine qK (f := 86) rfl ?_); refine KX (some 16) rfl rfl Tryz.func86 (by kernel_rfl) rfl #[.slice A0 l0.length c0, .int .i64 kQ] rfl (by (try simp only [List.map_toArray, List.map_cons, List.map_nil]); first | rfl) ?_; (with_reducible refine (ak.calls k1 _ _ l0 kQ true _ ?rX ?rY A4.out).mono ?_); (case rX => exact (Kd.aT HR0.out HB.out)); (case rY => exact HC0.out); rintro e w7 ⟨rfl, hb⟩; refine ⟨_, rfl, ?_⟩; have n0_ := ah.mk (dK HB.out hb); clear HB; have HB := n0_; clear n0_; (try clear hb); (try clear hb2); (try clear hk); (try clear hi)))
           go_roundg k1
           case measure => have := HK1.out; omega
           case rel => exact ⟨(true), (wrap64 (kQ + 1)), (by first | rfl), (by first | rfl), H', ⟨by have := HK1.out; omega⟩, ⟨by exact HB.out⟩⟩
         · replace c6 := Bool.eq_false_iff.mpr c6
           subst c6
           have H1 : (if 0 ≤ kQ then ((bY.f ((aj l0 kQ).f1)).bind fun t214 => (aC.l0 k1 l0 t214 (wrap64 (kQ + 1)))) else (none)) = some r := by rw [if_neg (show ¬ (false = true) by decide)] at H; exact H
           clear H
           have H := H1
           clear H1
           by_cases c8 : 0 ≤ kQ
           · rw [if_pos c8] at H
             have Oe : decide (0 ≤ kQ) = true := decide_eq_true c8
             clear c8
             replace H := Option.bind_eq_some_iff.mp H
             obtain ⟨t214, A90, H⟩ := H
             replace H : (aC.l0 k1 l0 t214 (wrap64 (kQ + 1))) = some r := H
             have A9 := ah.mk A90
             clear A90
             have H' := ah.mk H
             clear H
             go_wp2_with (first | ((with_reducible refine qK (f := 86) rfl ?_); refine KX (some 16) rfl rfl Tryz.func86 (by kernel_rfl) rfl #[.slice A0 l0.length c0, .int .i64 kQ] rfl (by (try simp only [List.map_toArray, List.map_cons, List.map_nil]); first | rfl) ?_; (with_reducible refine (ak.calls k1 _ _ l0 kQ true _ ?rX ?rY A4.out).mono ?_); (case rX => exact (Kd.aT HR0.out HB.out)); (case rY => exact HC0.out); rintro e w10 ⟨rfl, hb⟩; refine ⟨_, rfl, ?_⟩; have n0_ := ah.mk (dK HB.out hb); clear HB; have HB := n0_; clear n0_; (try clear hb); (try clear hb2); (try clear hk); (try clear hi); have p213 : 0 ≤ (kQ : Int) := of_decide_eq_true (by with_reducible assumption); have q213 : kQ < (l0.length : Int) := of_decide_eq_true (by with_reducible assumption); obtain ⟨ad213, A213_3, c213_3, e213, Lp, Lr, Ls, Lu, Um, Un⟩ := bC HR0.out kQ p213 q213; cases e213; replace Lp := (HB.out.cell (World.block_lt_of_cell? w _ Lp)).trans Lp; replace Lr := (HB.out.cell (World.block_lt_of_cell? w _ Lr)).trans Lr; replace Ls := (HB.out.cell (World.block_lt_of_cell? w _ Ls)).trans Ls; replace Lu := (HB.out.cell (World.block_lt_of_cell? w _ Lu)).trans Lu; have amd := ah.mk Un; have ame := ah.mk Um; clear Un Um; replace p213 := eq_true p213; replace q213 := eq_true q213) | (go_at_call 87; (with_reducible refine (bY.calls ((aj l0 kQ).f1) t214 _ A9.out).mono ?_); rintro e w' ⟨rfl, ⟨nd, rfl⟩⟩))
             go_roundg k1
             case measure => have := HK1.out; omega
             case rel => exact ⟨(t214), (wrap64 (kQ + 1)), (by first | rfl), (by first | rfl), H', ⟨by have := HK1.out; omega⟩, ⟨by repeat (first | (with_reducible first | exact HB.out | apply bG))⟩⟩
           · rw [if_neg c8] at H
             exact absurd H (by simp)
       · replace c5 := Bool.eq_false_iff.mpr c5
         subst c5
         have H1 : (some 14) = some r := by rw [if_neg (show ¬ (false = true) by decide)] at H; exact H
         clear H
         have H := H1
         clear H1
         obtain rfl := Option.some.inj H
         go_wp2_with (first | ((with_reducible refine qK (f := 86) rfl ?_); refine KX (some 16) rfl rfl Tryz.func86 (by kernel_rfl) rfl #[.slice A0 l0.length c0, .int .i64 kQ] rfl (by (try simp only [List.map_toArray, List.map_cons, List.map_nil]); first | rfl) ?_; (with_reducible refine (ak.calls k1 _ _ l0 kQ false _ ?rX ?rY A4.out).mono ?_); (case rX => exact (Kd.aT HR0.out HB.out)); (case rY => exact HC0.out); rintro e w11 ⟨rfl, hb⟩; refine ⟨_, rfl, ?_⟩; have n0_ := ah.mk (dK HB.out hb); clear HB; have HB := n0_; clear n0_; (try clear hb); (try clear hb2); (try clear hk); (try clear hi)))
         go_ret
         exact ⟨by first | rfl , by exact HB.out⟩
     · rw [if_neg c3] at H
       have uY : decide (kQ < (l0.length : Int)) = false := decide_eq_false c3
       clear c3
       by_cases c12 : dG = true
       · subst c12
         have H1 : (some 15) = some r := by rw [if_pos rfl] at H; exact H
         clear H
         have H := H1
         clear H1
         obtain rfl := Option.some.inj H
         go_wp2
         go_ret
         exact ⟨by first | rfl , by exact HB.out⟩
       · replace c12 := Bool.eq_false_iff.mpr c12
         subst c12
         have H1 : (some 0) = some r := by rw [if_neg (show ¬ (false = true) by decide)] at H; exact H
         clear H
         have H := H1
         clear H1
         obtain rfl := Option.some.inj H
         go_wp2
         go_ret
         exact ⟨by first | rfl , by exact HB.out⟩
attribute [local go_sem] kU kV nM nN jq jr kW kX   -- for this text's walks alone
set_option linter.unusedVariables false
set_option linter.unusedSimpArgs false
def Ad.l0 : Nat → List ByteArray → List ByteArray → Int → Option (Bool)
 | 0, _, _, _ => none
 | k + 1, x0, x1, x5 => if x5 < (x0.length : Int) then (if 0 ≤ x5 then (if x5 < (x1.length : Int) then (if (fQ ByteArray.empty x0 x5).toList = (fQ ByteArray.empty x1 x5).toList then (Ad.l0 k x0 x1 (wrap64 (x5 + 1))) else (some false)) else (none)) else (none)) else (some true)
def Ad.f (k : Nat) (l0 : List ByteArray) (l1 : List ByteArray) : Option (Bool) := if (l0.length : Int) = (l1.length : Int) then (Ad.l0 k l0 l1 0) else (some false)
theorem Ad.calls (k : Nat) (A0 : Option Addr) (c0 : Nat) (l0 : List ByteArray) (A1 : Option Addr) (c1 : Nat) (l1 : List ByteArray) (r : Bool) (w : World) (hr0 : Kd.C Kd.string w A0 l0.length l0) (hc0 : l0.length ≤ c0) (hr1 : Kd.C Kd.string w A1 l1.length l1) (hc1 : l1.length ≤ c1) (h : Ad.f k l0 l1 = some r) :
    Calls Tryz.prog 52 #[.slice A0 l0.length c0, .slice A1 l1.length c1] w fun e w' => e = .returned (.bool r) ∧ aY w w' := by
 have HR0 := ah.mk hr0
 have HC0 := ah.mk hc0
 clear hr0 hc0
 have HR1 := ah.mk hr1
 have HC1 := ah.mk hc1
 clear hr1 hc1
 have H : (if (l0.length : Int) = (l1.length : Int) then (Ad.l0 k l0 l1 0) else (some false)) = some r := h
 clear h
 by_cases c3 : (l0.length : Int) = (l1.length : Int)
 · rw [if_pos c3] at H
   have uY : ((l0.length : Int) == (l1.length : Int)) = true := beq_iff_eq.mpr c3
   have QB : ((l0.length : Int) != (l1.length : Int)) = false := bne_eq_false_iff_eq.mpr c3
   have amP : (l0.length == l1.length) = true := by first | (simp at c3 ⊢; omega)
   clear c3
   have H' := ah.mk H
   clear H
   go_enter Tryz.func52, Tryz.ntmps52
   go_wp2
   skip
   go_loopg [5] k (fun kq v5 w' => ∃ (aG : Int), v5 = .int .i64 aG ∧ ah (Ad.l0 kq l0 l1 aG = some r) ∧ ah (kq ≤ k) ∧ aY w w')
   case atStart => exact ⟨(0), (by first | rfl ), H', ⟨Nat.le_refl _⟩, by repeat (exact aY.refl _)⟩
   case round =>
    clear H'
    try clear c1
    try clear p2
    try clear c3
    try clear uY
    try clear QB
    try clear amP
    obtain ⟨aG, rfl, HA, HK1, ⟨m1, rfl⟩⟩ := hrel
    cases gk with
    | zero => exact absurd HA.out (by simp [Ad.l0])
    | succ k1 =>
     have H := HA.out
     clear HA
     simp only [Ad.l0] at H
     by_cases c4 : aG < (l0.length : Int)
     · rw [if_pos c4] at H
       have yD : decide (aG < (l0.length : Int)) = true := decide_eq_true c4
       clear c4
       by_cases c5 : 0 ≤ aG
       · rw [if_pos c5] at H
         have EI : decide (0 ≤ aG) = true := decide_eq_true c5
         clear c5
         by_cases c6 : aG < (l1.length : Int)
         · rw [if_pos c6] at H
           have ang : decide (aG < (l1.length : Int)) = true := decide_eq_true c6
           clear c6
           by_cases c7 : (fQ ByteArray.empty l0 aG).toList = (fQ ByteArray.empty l1 aG).toList
           · rw [if_pos c7] at H
             have Wu : ((fQ ByteArray.empty l0 aG).toList == (fQ ByteArray.empty l1 aG).toList) = true := beq_iff_eq.mpr c7
             have afO : ((fQ ByteArray.empty l0 aG).toList != (fQ ByteArray.empty l1 aG).toList) = false := bne_eq_false_iff_eq.mpr c7
             clear c7
             have H' := ah.mk H
             clear H
             have p397 : 0 ≤ (aG : Int) := of_decide_eq_true (by first | (with_reducible assumption))
             have q397 : aG < (l0.length : Int) := of_decide_eq_true (by first | (with_reducible assumption))
             obtain ⟨ad397, e397, amY⟩ := Kd.jv HR0.out aG p397 q397
             cases e397
             replace p397 := eq_true p397
             replace q397 := eq_true q397
             have p398 : 0 ≤ (aG : Int) := of_decide_eq_true (by first | (with_reducible assumption))
             have q398 : aG < (l1.length : Int) := of_decide_eq_true (by first | (with_reducible assumption))
             obtain ⟨ad398, e398, amZ⟩ := Kd.jv HR1.out aG p398 q398
             cases e398
             replace p398 := eq_true p398
             replace q398 := eq_true q398
             go_wp2
             repeat (go_quiet (fail); try go_wp2)
             go_roundg k1
             case measure => have := HK1.out; omega
             case rel => exact ⟨(wrap64 (aG + 1)), (by first | rfl ), H', ⟨by have := HK1.out; omega⟩, by repeat (first | exact aY.refl _ | apply aY.step)⟩
           · rw [if_neg c7] at H
             have Wu : ((fQ ByteArray.empty l0 aG).toList == (fQ ByteArray.empty l1 aG).toList) = false := beq_eq_false_iff_ne.mpr c7
             have afO : ((fQ ByteArray.empty l0 aG).toList != (fQ ByteArray.empty l1 aG).toList) = true := bne_iff_ne.mpr c7
             obtain rfl := Option.some.inj H
             have p397 : 0 ≤ (aG : Int) := of_decide_eq_true (by first | (with_reducible assumption))
             have q397 : aG < (l0.length : Int) := of_decide_eq_true (by first | (with_reducible assumption))
             obtain ⟨ad397, e397, amY⟩ := Kd.jv HR0.out aG p397 q397
             cases e397
             replace p397 := eq_true p397
             replace q397 := eq_true q397
             have p398 : 0 ≤ (aG : Int) := of_decide_eq_true (by first | (with_reducible assumption))
             have q398 : aG < (l1.length : Int) := of_decide_eq_true (by first | (with_reducible assumption))
             obtain ⟨ad398, e398, amZ⟩ := Kd.jv HR1.out aG p398 q398
             cases e398
             replace p398 := eq_true p398
             replace q398 := eq_true q398
             go_wp2
             repeat (go_quiet (fail); try go_wp2)
             go_ret
             exact ⟨by first | rfl , by repeat (first | exact aY.refl _ | apply aY.step)⟩
         · rw [if_neg c6] at H
           exact absurd H (by simp)
       · rw [if_neg c5] at H
         exact absurd H (by simp)
     · rw [if_neg c4] at H
       have yD : decide (aG < (l0.length : Int)) = false := decide_eq_false c4
       clear c4
       obtain rfl := Option.some.inj H
       go_wp2
       skip
       go_ret
       exact ⟨by first | rfl , by repeat (first | exact aY.refl _ | apply aY.step)⟩
 · rw [if_neg c3] at H
   have uY : ((l0.length : Int) == (l1.length : Int)) = false := beq_eq_false_iff_ne.mpr c3
   have QB : ((l0.length : Int) != (l1.length : Int)) = true := bne_iff_ne.mpr c3
   have amP : (l0.length == l1.length) = false := by first | (simp at c3 ⊢; omega)
   obtain rfl := Option.some.inj H
   go_enter Tryz.func52, Tryz.ntmps52
   go_wp2
   skip
   go_ret
   exact ⟨by first | rfl , by repeat (exact aY.refl _)⟩
mutual
 def aH.j0 : Nat → List (S53) → Int → Bool → Option (List ByteArray)
  | 0, _, _, _ => none
  | k + 1, x0, x1, x18 => if x18 = true then (some ([] : List ByteArray)) else (aH.l0 k x0 x1 ([] : List ByteArray))
 def aH.l0 : Nat → List (S53) → Int → List ByteArray → Option (List ByteArray)
  | 0, _, _, _ => none
  | k + 1, x0, x1, x5 => if x1 ≥ 0 then (if 0 ≤ x1 then (if x1 < (x0.length : Int) then ((some (([(aj x0 x1).f1] : List ByteArray) : List ByteArray)).bind fun y401 => (if y401.length + x5.length < 8796093022208 then (aH.l0 k x0 ((aj x0 x1).f0) (y401 ++ x5)) else (none))) else (none)) else (none)) else (some x5)
 end
def aH.f (k : Nat) (l0 : List (S53)) (a1 : Int) : Option (List ByteArray) := if a1 < 0 then (aH.j0 k l0 a1 true) else (if a1 ≥ (l0.length : Int) then (aH.j0 k l0 a1 true) else ((aC.f k l0).bind fun t399 => (aH.j0 k l0 a1 (t399 == 14))))
theorem aH.calls (k : Nat) (A0 : Option Addr) (c0 : Nat) (l0 : List (S53)) (a1 : Int) (r : List ByteArray) (w : World) (hr0 : Kd.C k53 w A0 l0.length l0) (hc0 : l0.length ≤ c0) (h : aH.f k l0 a1 = some r) :
    Calls Tryz.prog 55 #[.slice A0 l0.length c0, .int .i64 a1] w fun e w' => ∃ v0_ : Value, e = .returned (v0_) ∧ Kd.R Kd.string 9 w' w.heap.size (fun _ => True) v0_ r ∧ Below w.heap.size w w' := by
 have HR0 := ah.mk hr0
 have HC0 := ah.mk hc0
 clear hr0 hc0
 have HB := ah.mk (Below.refl w.heap.size w)
 have H : (if a1 < 0 then (aH.j0 k l0 a1 true) else (if a1 ≥ (l0.length : Int) then (aH.j0 k l0 a1 true) else ((aC.f k l0).bind fun t399 => (aH.j0 k l0 a1 (t399 == 14))))) = some r := h
 clear h
 have HC3 := ah.mk H
 clear H
 go_enter Tryz.func55, Tryz.ntmps55
 go_upto_region 1 with (fail)
 go_cut [18] (fun v18 wc => ∃ (kq : Nat) (Uo : Bool), v18 = .bool Uo ∧ ah (aH.j0 kq l0 a1 Uo = some r) ∧ ah (kq ≤ k) ∧ ah (Below w.heap.size w wc))
 case first =>
  have H := HC3.out
  clear HC3
  by_cases c4 : a1 < 0
  · rw [if_pos c4] at H
    have yD : decide (a1 < 0) = true := decide_eq_true c4
    clear c4
    (skip)
    have H' := ah.mk H
    clear H
    go_wp2
    go_meet
    case rel => exact ⟨_, (true), (by first | rfl ), H', ⟨by first | omega⟩, ⟨by repeat (first | (with_reducible first | exact HB.out ))⟩⟩
  · rw [if_neg c4] at H
    have yD : decide (a1 < 0) = false := decide_eq_false c4
    clear c4
    (skip)
    by_cases c5 : a1 ≥ (l0.length : Int)
    · rw [if_pos c5] at H
      have EI : decide ((l0.length : Int) ≤ a1) = true := decide_eq_true c5
      clear c5
      have H' := ah.mk H
      clear H
      go_wp2
      go_meet
      case rel => exact ⟨_, (true), (by first | rfl ), H', ⟨by first | omega⟩, ⟨by repeat (first | (with_reducible first | exact HB.out ))⟩⟩
    · rw [if_neg c5] at H
      have EI : decide ((l0.length : Int) ≤ a1) = false := decide_eq_false c5
      clear c5
      replace H := Option.bind_eq_some_iff.mp H
      obtain ⟨t399, A60, H⟩ := H
      replace H : (aH.j0 k l0 a1 (t399 == 14)) = some r := H
      have A6 := ah.mk A60
      clear A60
      have H' := ah.mk H
      clear H
      go_wp2_with (first | (go_at_call 58; (with_reducible refine (aC.calls k _ _ l0 t399 _ ?rX ?rY A6.out).mono ?_); (case rX => repeat (exact (Kd.aT HR0.out HB.out) )); (case rY => exact HC0.out); rintro e w7 ⟨rfl, hb⟩; have n0_ := ah.mk (dK (by repeat (first | (with_reducible first | exact HB.out ))) hb); clear HB; have HB := n0_; clear n0_; (try clear hb); (try clear hb2); (try clear hk); (try clear hi)))
      go_meet
      case rel => exact ⟨_, ((t399 == 14)), (by first | rfl ), H', ⟨by first | omega⟩, ⟨by repeat (first | (with_reducible first | exact HB.out ))⟩⟩
 case rest =>
  clear HC3
  try clear p2
  try clear c4
  try clear yD
  try clear c5
  try clear EI
  obtain ⟨kq, Uo, rfl, HA, HJ2, HB⟩ := hcut
  cases kq with
  | zero => exact absurd HA.out (by simp [aH.j0])
  | succ kj2 =>
   have H := HA.out
   clear HA
   simp only [aH.j0] at H
   by_cases c8 : Uo = true
   · subst c8
     have H1 : (some ([] : List ByteArray)) = some r := by rw [if_pos rfl] at H; exact H
     clear H
     have H := H1
     clear H1
     obtain rfl := Option.some.inj H
     go_wp2
     go_ret
     exact ⟨_, by first | rfl , by first | exact Kd.mP _ _ _ _ _ , by repeat (first | (with_reducible first | exact HB.out ))⟩
   · replace c8 := Bool.eq_false_iff.mpr c8
     subst c8
     have H1 : (aH.l0 kj2 l0 a1 ([] : List ByteArray)) = some r := by rw [if_neg (show ¬ (false = true) by decide)] at H; exact H
     clear H
     have H := H1
     clear H1
     have H' := ah.mk H
     clear H
     go_wp2
     go_loopg [1, 5] kj2 (fun kq v1 v5 w' => ∃ (oP : Int) (LC : List ByteArray), v1 = .int .i64 oP ∧ ah (aH.l0 kq l0 oP LC = some r) ∧ ah (kq ≤ kj2) ∧ ah (Kd.R Kd.string 9 w' w.heap.size (fun _ => True) v5 LC) ∧ ah (Below w.heap.size w w'))
     case atStart => exact ⟨(a1), (([] : List ByteArray)), (by first | rfl ), H', ⟨Nat.le_refl _⟩, ⟨by first | exact Kd.mP _ _ _ _ _ ⟩, ⟨by repeat (first | (with_reducible first | exact HB.out ))⟩⟩
     case round =>
      clear H'
      try clear p2
      try clear c4
      try clear yD
      try clear c5
      try clear EI
      try clear c8
      try clear p2
      obtain ⟨oP, LC, rfl, HA, HK2, nC, HB⟩ := hrel
      cases gk with
      | zero => exact absurd HA.out (by simp [aH.l0])
      | succ k2 =>
       have H := HA.out
       clear HA
       simp only [aH.l0] at H
       by_cases c9 : oP ≥ 0
       · rw [if_pos c9] at H
         have YF : decide (0 ≤ oP) = true := decide_eq_true c9
         clear c9
         by_cases c10 : 0 ≤ oP
         · rw [if_pos c10] at H
           have TN : decide (0 ≤ oP) = true := decide_eq_true c10
           clear c10
           by_cases c11 : oP < (l0.length : Int)
           · rw [if_pos c11] at H
             have c11b0 : decide (oP < (l0.length : Int)) = true := decide_eq_true c11
             clear c11
             obtain ⟨y401, hy401⟩ : ∃ y_ : List ByteArray, y_ = (([(aj l0 oP).f1] : List ByteArray)) := ⟨_, rfl⟩
             replace H : (if y401.length + LC.length < 8796093022208 then (aH.l0 k2 l0 ((aj l0 oP).f0) (y401 ++ LC)) else (none)) = some r := by first | (have H2_ := (Option.bind_some _ _).symm.trans H; rw [hy401]; with_reducible exact H2_) 
             have Ny401 := ah.mk hy401
             clear hy401
             by_cases c12 : y401.length + LC.length < 8796093022208
             · rw [if_pos c12] at H
               have LMc12 := ah.mk c12
               clear c12
               obtain ⟨y404, hy404⟩ : ∃ y_ : List ByteArray, y_ = (y401 ++ LC) := ⟨_, rfl⟩
               replace H : (aH.l0 k2 l0 ((aj l0 oP).f0) y404) = some r := by first | (rw [hy404]; with_reducible exact H) 
               have Ny404 := ah.mk hy404
               clear hy404
               have H' := ah.mk H
               clear H
               have p400 : 0 ≤ (oP : Int) := of_decide_eq_true (by first | (with_reducible assumption))
               have q400 : oP < (l0.length : Int) := of_decide_eq_true (by first | (with_reducible assumption))
               obtain ⟨ad400, A400_3, c400_3, e400, LG, LH, LJ, LK, Ur, Us⟩ := bC HR0.out oP p400 q400
               cases e400
               replace LG := (HB.out.cell (World.block_lt_of_cell? w _ LG)).trans LG
               replace LH := (HB.out.cell (World.block_lt_of_cell? w _ LH)).trans LH
               replace LJ := (HB.out.cell (World.block_lt_of_cell? w _ LJ)).trans LJ
               replace LK := (HB.out.cell (World.block_lt_of_cell? w _ LK)).trans LK
               have amf := ah.mk Us
               have amg := ah.mk Ur
               clear Us Ur
               replace p400 := eq_true p400
               replace q400 := eq_true q400
               go_wp2_with (first | ((with_reducible refine dA (N := 26) rfl ?_); (try (refine yE (by rfl) ?_; dsimp only)); refine Kd.Uu Kd.string _ 9 ?hg (N := 26) ?hd (xs := ([(aj l0 oP).f1] : List ByteArray)) (inner := [.string ((aj l0 oP).f1)]) (ok := fun _ => True) (okp := fun _ => True) ?hr ?hp (fun _ hk => hk) trivial (Below.refl _ _) (Nat.le_refl _) (by simp) ?_; (case hd => rfl); (case hg => rfl); (case hr => first | (go_simp; done)); (case hp => exact (kY.one (show Kd.M Kd.string _ _ _ ((aj l0 oP).f1) [.string ((aj l0 oP).f1)] from rfl) (kY.none _ _))); intro v402 w13 ho14 hb hg_ aiC; clear hg_ aiC; (rw [← Ny401.out] at ho14); have n0_ := ah.mk (Kd.YO (by (with_reducible skip); exact nC.out) (Kd.YP ho14) hb); have n1_ := ah.mk (Kd.dY (Kd.agl ho14 (Kd.Ip (by (with_reducible skip); exact nC.out))) (lQ (by repeat (first | (with_reducible first | exact HB.out ))))); have n2_ := ah.mk (dK (by repeat (first | (with_reducible first | exact HB.out ))) hb); clear nC; clear HB; have nC := n0_; have HO403 := n1_; have HB := n2_; clear n0_ n1_ n2_; clear hb ho14; obtain ⟨Ao16, co16, eo16⟩ := Kd.bW nC.out; subst eo16) | ((with_reducible refine dH (b := .append) (xs := #[.tmp 26, .tmp 27]) rfl ?_); (try (refine yE (by rfl) ?_; dsimp only)); at_builtin; refine Kd.kZ Kd.string (w0 := w) w.heap.size rfl (.tmp 26) (.tmp 27) 65 9 (.string ⟨#[]⟩) 16 rfl Tryz.underlying65 info9 rfl (by decide) (by omega) v402 y401 LC _ _ _ (fun k_ => some k_ ≠ (.slice Ao16 LC.length co16 : Value).ownBlock) (fun _ => False) rfl rfl ?aO ?aR (fun _ _ h => h) (fun _ h => h.elim) ?aF ?aB ?aS ?aL ?_; (case aR => repeat (exact (Kd.bJ nC.out).2.2 )); (case aB => exact (by repeat (first | (with_reducible first | exact HB.out )))); (case aF => exact (fun k_ hk => Kd.fresh' (Kd.Ip (by (with_reducible skip); exact nC.out)) k_ hk)); (case aO => exact (by (with_reducible skip); exact Kd.dF HO403.out (fun _ hk => hk.2))); (case aS => exact (lQ (by repeat (first | (with_reducible first | exact HB.out ))))); (case aL => have := LMc12.out; omega); intro v405 w15 ho hb hg hat; rw [← Ny404.out] at ho; have n0_ := ah.mk (Kd.Ed (ok := (fun _ => True)) (by (with_reducible skip); exact nC.out) hg hat); have n1_ := ah.mk (hb); have n2_ := ah.mk (ho); clear nC; clear HB; clear HO403; have nC := n0_; have HB := n1_; have HO406 := n2_; clear n0_ n1_ n2_; clear ho hb hg hat; have p407 : 0 ≤ (oP : Int) := of_decide_eq_true (by first | (with_reducible assumption)); have q407 : oP < (l0.length : Int) := of_decide_eq_true (by first | (with_reducible assumption)); obtain ⟨ad407, A407_3, c407_3, e407, LM, LP, LQ, LU, Uw, Ux⟩ := bC HR0.out oP p407 q407; obtain rfl : ad400 = ad407 := (by injection e407); replace LM := (HB.out.cell (World.block_lt_of_cell? w _ LM)).trans LM; replace LP := (HB.out.cell (World.block_lt_of_cell? w _ LP)).trans LP; replace LQ := (HB.out.cell (World.block_lt_of_cell? w _ LQ)).trans LQ; replace LU := (HB.out.cell (World.block_lt_of_cell? w _ LU)).trans LU; have amh := ah.mk Ux; have ami := ah.mk Uw; clear Ux Uw; replace p407 := eq_true p407; replace q407 := eq_true q407))
               go_roundg k2
               case measure => have := HJ2.out; have := HK2.out; omega
               case rel => exact ⟨((aj l0 oP).f0), (y404), (by first | rfl ), H', ⟨by have := HJ2.out; have := HK2.out; omega⟩, ⟨by (with_reducible skip); exact Kd.dF HO406.out (fun _ hk => trivial)⟩, ⟨by repeat (first | (with_reducible first | exact HB.out ))⟩⟩
             · rw [if_neg c12] at H
               exact absurd H (by simp)
           · rw [if_neg c11] at H
             exact absurd H (by simp)
         · rw [if_neg c10] at H
           exact absurd H (by simp)
       · rw [if_neg c9] at H
         have YF : decide (0 ≤ oP) = false := decide_eq_false c9
         clear c9
         obtain rfl := Option.some.inj H
         go_wp2
         go_ret
         exact ⟨_, by first | rfl , by (with_reducible skip); exact nC.out, by repeat (first | (with_reducible first | exact HB.out ))⟩
mutual
 def aJ.l0 : Nat → List ByteArray → List ByteArray → Int → Option (Bool)
  | 0, _, _, _ => none
  | k + 1, x0, x1, x5 => if x5 < (x0.length : Int) then (aJ.j1 k x0 x1 x5 (decide (x5 < (x1.length : Int)))) else (aJ.j1 k x0 x1 x5 false)
 def aJ.j1 : Nat → List ByteArray → List ByteArray → Int → Bool → Option (Bool)
  | 0, _, _, _, _ => none
  | k + 1, x0, x1, x5, x15 => if x15 = true then (if 0 ≤ x5 then (if x5 < (x0.length : Int) then (if x5 < (x1.length : Int) then (if (fQ ByteArray.empty x0 x5).toList = (fQ ByteArray.empty x1 x5).toList then (aJ.l0 k x0 x1 (wrap64 (x5 + 1))) else (some (Op.bytesLess ((fQ ByteArray.empty x0 x5).toList) ((fQ ByteArray.empty x1 x5).toList)))) else (none)) else (none)) else (none)) else (some (decide ((x0.length : Int) < (x1.length : Int))))
 end
def aJ.f (k : Nat) (l0 : List ByteArray) (l1 : List ByteArray) : Option (Bool) := aJ.l0 k l0 l1 0
theorem aJ.calls (k : Nat) (A0 : Option Addr) (c0 : Nat) (l0 : List ByteArray) (A1 : Option Addr) (c1 : Nat) (l1 : List ByteArray) (r : Bool) (w : World) (hr0 : Kd.C Kd.string w A0 l0.length l0) (hc0 : l0.length ≤ c0) (hr1 : Kd.C Kd.string w A1 l1.length l1) (hc1 : l1.length ≤ c1) (h : aJ.f k l0 l1 = some r) :
    Calls Tryz.prog 89 #[.slice A0 l0.length c0, .slice A1 l1.length c1] w fun e w' => e = .returned (.bool r) ∧ aY w w' := by
 have HR0 := ah.mk hr0
 have HC0 := ah.mk hc0
 clear hr0 hc0
 have HR1 := ah.mk hr1
 have HC1 := ah.mk hc1
 clear hr1 hc1
 have H : (aJ.l0 k l0 l1 0) = some r := h
 clear h
 have H' := ah.mk H
 clear H
 go_enter Tryz.func89, Tryz.ntmps89
 go_wp2
 skip
 go_loopg [5] k (fun kq v5 w' => ∃ (aG : Int), v5 = .int .i64 aG ∧ ah (aJ.l0 kq l0 l1 aG = some r) ∧ ah (kq ≤ k) ∧ aY w w')
 case atStart => exact ⟨(0), (by first | rfl ), H', ⟨Nat.le_refl _⟩, by repeat (exact aY.refl _)⟩
 case round =>
  clear H'
  try clear c1
  try clear p2
  obtain ⟨aG, rfl, HA, HK1, ⟨m1, rfl⟩⟩ := hrel
  cases gk with
  | zero => exact absurd HA.out (by simp [aJ.l0])
  | succ k1 =>
   have H := HA.out
   clear HA
   simp only [aJ.l0] at H
   have HC3 := ah.mk H
   clear H
   go_upto_region 2 with (fail)
   skip
   go_cut [15] (fun v15 wc => ∃ (kq : Nat) (Uy : Bool), v15 = .bool Uy ∧ ah (aJ.j1 kq l0 l1 aG Uy = some r) ∧ ah (kq ≤ k1) ∧ aY w wc)
   case first =>
    have H := HC3.out
    clear HC3
    by_cases c4 : aG < (l0.length : Int)
    · rw [if_pos c4] at H
      have yD : decide (aG < (l0.length : Int)) = true := decide_eq_true c4
      clear c4
      (skip)
      have H' := ah.mk H
      clear H
      go_wp2
      skip
      go_meet
      case rel => exact ⟨_, (decide (aG < (l1.length : Int))), (by first | rfl ), H', ⟨by have := HK1.out; first | omega⟩, by repeat (first | exact aY.refl _ | apply aY.step)⟩
    · rw [if_neg c4] at H
      have yD : decide (aG < (l0.length : Int)) = false := decide_eq_false c4
      clear c4
      (skip)
      have H' := ah.mk H
      clear H
      go_wp2
      skip
      go_meet
      case rel => exact ⟨_, (false), (by first | rfl ), H', ⟨by have := HK1.out; first | omega⟩, by repeat (first | exact aY.refl _ | apply aY.step)⟩
   case rest =>
    clear HC3
    try clear c1
    try clear p2
    try clear c4
    try clear yD
    try clear p2
    obtain ⟨kq, Uy, rfl, HA, HJ2, ⟨mc2, rfl⟩⟩ := hcut
    cases kq with
    | zero => exact absurd HA.out (by simp [aJ.j1])
    | succ kj2 =>
     have H := HA.out
     clear HA
     simp only [aJ.j1] at H
     by_cases c5 : Uy = true
     · subst c5
       have H1 : (if 0 ≤ aG then (if aG < (l0.length : Int) then (if aG < (l1.length : Int) then (if (fQ ByteArray.empty l0 aG).toList = (fQ ByteArray.empty l1 aG).toList then (aJ.l0 kj2 l0 l1 (wrap64 (aG + 1))) else (some (Op.bytesLess ((fQ ByteArray.empty l0 aG).toList) ((fQ ByteArray.empty l1 aG).toList)))) else (none)) else (none)) else (none)) = some r := by rw [if_pos rfl] at H; exact H
       clear H
       have H := H1
       clear H1
       by_cases c6 : 0 ≤ aG
       · rw [if_pos c6] at H
         have ang : decide (0 ≤ aG) = true := decide_eq_true c6
         clear c6
         by_cases c7 : aG < (l0.length : Int)
         · rw [if_pos c7] at H
           have Wu : decide (aG < (l0.length : Int)) = true := decide_eq_true c7
           clear c7
           by_cases c8 : aG < (l1.length : Int)
           · rw [if_pos c8] at H
             have Oe : decide (aG < (l1.length : Int)) = true := decide_eq_true c8
             clear c8
             by_cases c9 : (fQ ByteArray.empty l0 aG).toList = (fQ ByteArray.empty l1 aG).toList
             · rw [if_pos c9] at H
               have YF : ((fQ ByteArray.empty l0 aG).toList == (fQ ByteArray.empty l1 aG).toList) = true := beq_iff_eq.mpr c9
               have afQ : ((fQ ByteArray.empty l0 aG).toList != (fQ ByteArray.empty l1 aG).toList) = false := bne_eq_false_iff_eq.mpr c9
               clear c9
               have H' := ah.mk H
               clear H
               have p408 : 0 ≤ (aG : Int) := of_decide_eq_true (by first | (with_reducible assumption))
               have q408 : aG < (l0.length : Int) := of_decide_eq_true (by first | (with_reducible assumption))
               obtain ⟨ad408, e408, acU⟩ := Kd.jv HR0.out aG p408 q408
               cases e408
               replace p408 := eq_true p408
               replace q408 := eq_true q408
               have p409 : 0 ≤ (aG : Int) := of_decide_eq_true (by first | (with_reducible assumption))
               have q409 : aG < (l1.length : Int) := of_decide_eq_true (by first | (with_reducible assumption))
               obtain ⟨ad409, e409, acV⟩ := Kd.jv HR1.out aG p409 q409
               cases e409
               replace p409 := eq_true p409
               replace q409 := eq_true q409
               go_wp2
               repeat (go_quiet (fail); try go_wp2)
               go_roundg kj2
               case measure => have := HK1.out; have := HJ2.out; omega
               case rel => exact ⟨(wrap64 (aG + 1)), (by first | rfl ), H', ⟨by have := HK1.out; have := HJ2.out; omega⟩, by repeat (first | exact aY.refl _ | apply aY.step)⟩
             · rw [if_neg c9] at H
               have YF : ((fQ ByteArray.empty l0 aG).toList == (fQ ByteArray.empty l1 aG).toList) = false := beq_eq_false_iff_ne.mpr c9
               have afQ : ((fQ ByteArray.empty l0 aG).toList != (fQ ByteArray.empty l1 aG).toList) = true := bne_iff_ne.mpr c9
               obtain rfl := Option.some.inj H
               have p408 : 0 ≤ (aG : Int) := of_decide_eq_true (by first | (with_reducible assumption))
               have q408 : aG < (l0.length : Int) := of_decide_eq_true (by first | (with_reducible assumption))
               obtain ⟨ad408, e408, acU⟩ := Kd.jv HR0.out aG p408 q408
               cases e408
               replace p408 := eq_true p408
               replace q408 := eq_true q408
               have p409 : 0 ≤ (aG : Int) := of_decide_eq_true (by first | (with_reducible assumption))
               have q409 : aG < (l1.length : Int) := of_decide_eq_true (by first | (with_reducible assumption))
               obtain ⟨ad409, e409, acV⟩ := Kd.jv HR1.out aG p409 q409
               cases e409
               replace p409 := eq_true p409
               replace q409 := eq_true q409
               have p410 : 0 ≤ (aG : Int) := of_decide_eq_true (by first | (with_reducible assumption))
               have q410 : aG < (l0.length : Int) := of_decide_eq_true (by first | (with_reducible assumption))
               obtain ⟨ad410, e410, amj⟩ := Kd.jv HR0.out aG p410 q410
               obtain rfl : ad408 = ad410 := (by injection e410)
               replace p410 := eq_true p410
               replace q410 := eq_true q410
               have p411 : 0 ≤ (aG : Int) := of_decide_eq_true (by first | (with_reducible assumption))
               have q411 : aG < (l1.length : Int) := of_decide_eq_true (by first | (with_reducible assumption))
               obtain ⟨ad411, e411, amk⟩ := Kd.jv HR1.out aG p411 q411
               obtain rfl : ad409 = ad411 := (by injection e411)
               replace p411 := eq_true p411
               replace q411 := eq_true q411
               go_wp2
               repeat (go_quiet (fail); try go_wp2)
               go_ret
               exact ⟨by first | rfl , by repeat (first | exact aY.refl _ | apply aY.step)⟩
           · rw [if_neg c8] at H
             exact absurd H (by simp)
         · rw [if_neg c7] at H
           exact absurd H (by simp)
       · rw [if_neg c6] at H
         exact absurd H (by simp)
     · replace c5 := Bool.eq_false_iff.mpr c5
       subst c5
       have H1 : (some (decide ((l0.length : Int) < (l1.length : Int)))) = some r := by rw [if_neg (show ¬ (false = true) by decide)] at H; exact H
       clear H
       have H := H1
       clear H1
       obtain rfl := Option.some.inj H
       go_wp2
       skip
       go_ret
       exact ⟨by first | rfl , by repeat (first | exact aY.refl _ | apply aY.step)⟩
attribute [local go_sem] kU kV nM nN jq jr kW kX   -- for this text's walks alone
set_option linter.unusedVariables false
set_option linter.unusedSimpArgs false
attribute [local go_sem] kU kV nM nN jq jr kW kX   -- for this text's walks alone
set_option linter.unusedVariables false
set_option linter.unusedSimpArgs false
def aQ.l0 : Nat → List (S53) → List (S49) → List (S53) → Int → Option ((List (S53)))
 | 0, _, _, _, _ => none
 | k + 1, x0, x1, x5, x6 => if x6 < (x0.length : Int) then (if 0 ≤ x6 then (if x6 < (x1.length : Int) then (if x5.length < 2513169434916 then (aQ.l0 k x0 x1 (x5 ++ [(⟨(aj x0 x6).f0, (dV x1 x6).f0, (aj x0 x6).f2, (dV x1 x6).f2⟩ : S53)]) (wrap64 (x6 + 1))) else (none)) else (none)) else (none)) else (some x5)
def aQ.f (k : Nat) (l0 : List (S53)) (l1 : List (S49)) : Option ((List (S53))) := aQ.l0 k l0 l1 ([] : List (S53)) 0
def aQ.T5 : Bool × List (List Nat × List Nat) := (true, [([], []), ([], []), ([], []), ([1, 2], [1, 2]), ([3], [3]), ([4], [4]), ([], []), ([], []), ([6, 7], [6, 7]), ([8], [8]), ([9], [9]), ([], []), ([], []), ([11, 12], [11, 12]), ([13], [13]), ([14], [14]), ([], []), ([], []), ([16, 17], [16, 17]), ([18], [18]), ([19], [19]), ([5, 10, 15, 20], [5, 10, 15, 20]), ([21], [21]), ([0, 22], [0, 22]), ([23, 23, 0, 1, 2, 3, 4, 5, 6, 7, 8, 9, 10, 11, 12, 13, 14, 15, 16, 17, 18, 19, 20, 21, 22, 23], [0, 23])])
def aQ.B5 : List Nat := [0, 0, 0, 6, 14, 30, 0, 0, 192, 448, 960, 0, 0, 6144, 14336, 30720, 0, 0, 196608, 458752, 983040, 2097150, 4194302, 8388607, 16777215]
theorem aQ.tab5 : qE .any (opsOf Tryz.f62 5) = aQ.T5 := by kernel_rfl
theorem aQ.aiD : wP aQ.T5.2 aQ.B5 = true := by kernel_rfl
theorem aQ.calls (k : Nat) (A0 : Option Addr) (c0 : Nat) (l0 : List (S53)) (P1_ : Nat → Prop) (A1 : Option Addr) (c1 : Nat) (l1 : List (S49)) (r : List (S53)) (w : World) (hr0 : Kd.C k53 w A0 l0.length l0) (hc0 : l0.length ≤ c0) (hs1 : Kd.V k49 49 w w.heap.size (fun k_ => P1_ k_) (.slice A1 l1.length c1) l1) (h : aQ.f k l0 l1 = some r) :
    Calls Tryz.prog 62 #[.slice A0 l0.length c0, .slice A1 l1.length c1] w fun e w' => ∃ v0_ : Value, e = .returned (v0_) ∧ Kd.N k53 53 w' w.heap.size (fun k_ => (P1_ k_ ∨ w.heap.size ≤ k_)) v0_ r ∧ Below w.heap.size w w' := by
 have hu53 := Tryz.underlying53
 have HR0 := ah.mk hr0
 have HC0 := ah.mk hc0
 clear hr0 hc0
 have HO1 := ah.mk (show Kd.V k49 49 w w.heap.size (fun k_ => (P1_ k_ ∨ w.heap.size ≤ k_)) (.slice A1 l1.length c1) l1 from Kd.LW hs1 (fun k_ hk => .inl hk))
 have HB := ah.mk (Below.refl w.heap.size w)
 have H : (aQ.l0 k l0 l1 ([] : List (S53)) 0) = some r := h
 clear h
 have H' := ah.mk H
 clear H
 go_enter Tryz.func62, Tryz.ntmps62
 go_wp2
 go_loopg [5, 6] k (fun kq v5 v6 w' => ∃ (aG : List (S53)) (bF : Int), v6 = .int .i64 bF ∧ ah (aQ.l0 kq l0 l1 aG bF = some r) ∧ ah (kq ≤ k) ∧ ah (Kd.V k49 49 w' w.heap.size (fun k_ => (P1_ k_ ∨ w.heap.size ≤ k_) ∧ some k_ ≠ (v5 : Value).ownBlock) (.slice A1 l1.length c1) l1) ∧ ah (Kd.N k53 53 w' w.heap.size (fun k_ => (P1_ k_ ∨ w.heap.size ≤ k_)) v5 aG) ∧ ah (Below w.heap.size w w'))
 case atStart => exact ⟨(([] : List (S53))), (0), (by first | rfl), H', ⟨Nat.le_refl _⟩, ⟨by exact Kd.LW HO1.out (fun _ hk => ⟨hk, (by simp [Value.ownBlock])⟩)⟩, ⟨by first | exact Kd.YQ _ _ _ _ _ ⟩, ⟨by exact HB.out⟩⟩
 case round =>
  clear H'
  obtain ⟨aG, bF, rfl, HA, HK1, Dz, nC, HB⟩ := hrel
  cases gk with
  | zero => exact absurd HA.out (by simp [aQ.l0])
  | succ k1 =>
   have H := HA.out
   clear HA
   simp only [aQ.l0] at H
   by_cases c3 : bF < (l0.length : Int)
   · rw [if_pos c3] at H
     have uY : decide (bF < (l0.length : Int)) = true := decide_eq_true c3
     clear c3
     by_cases c4 : 0 ≤ bF
     · rw [if_pos c4] at H
       have yD : decide (0 ≤ bF) = true := decide_eq_true c4
       clear c4
       by_cases c5 : bF < (l1.length : Int)
       · rw [if_pos c5] at H
         have EI : decide (bF < (l1.length : Int)) = true := decide_eq_true c5
         clear c5
         by_cases c6 : aG.length < 2513169434916
         · rw [if_pos c6] at H
           have LMc6 := ah.mk c6
           clear c6
           obtain ⟨y486, hy486⟩ : ∃ y_ : List (S53), y_ = (aG ++ [(⟨(aj l0 bF).f0, (dV l1 bF).f0, (aj l0 bF).f2, (dV l1 bF).f2⟩ : S53)]) := ⟨_, rfl⟩
           replace H : (aQ.l0 k1 l0 l1 y486 (wrap64 (bF + 1))) = some r := by first | (rw [hy486]; with_reducible exact H) 
           have Ny486 := ah.mk hy486
           clear hy486
           have H' := ah.mk H
           clear H
           try go_wp2
           have n0_ := ah.mk (Kd.agm Dz.out)
           have n1_ := ah.mk (Kd.agn nC.out)
           have n2_ := ah.mk (Dh HB.out)
           clear Dz
           clear nC
           clear HB
           have Dz := n0_
           have nC := n1_
           have HB := n2_
           clear n0_ n1_ n2_
           have p482 : 0 ≤ (bF : Int) := of_decide_eq_true (by with_reducible assumption)
           have q482 : bF < (l0.length : Int) := of_decide_eq_true (by with_reducible assumption)
           obtain ⟨ad482, YR, YS, e482, zM, zN, zO, wQ, Uz, UA⟩ := bC HR0.out bF p482 q482
           have UC := wQ
           have UD := zO
           have UE := zN
           have UF := zM
           cases e482
           replace zM := (HB.out.cell (World.block_lt_of_cell? w _ zM)).trans zM
           replace zN := (HB.out.cell (World.block_lt_of_cell? w _ zN)).trans zN
           replace zO := (HB.out.cell (World.block_lt_of_cell? w _ zO)).trans zO
           replace wQ := (HB.out.cell (World.block_lt_of_cell? w _ wQ)).trans wQ
           have acW := ah.mk UA
           have aml := ah.mk Uz
           clear UA Uz
           replace p482 := eq_true p482
           replace q482 := eq_true q482
           have p483 : 0 ≤ (bF : Int) := of_decide_eq_true (by with_reducible assumption)
           have q483 : bF < (l1.length : Int) := of_decide_eq_true (by with_reducible assumption)
           obtain ⟨ad483, QG, QH, e483, UG, UH, Ee, UJ, UK, UL⟩ := QA (Kd.EJ Dz.out).2.2 bF p483 q483
           cases e483
           obtain ⟨ce483, hce483, hMe483, hcc483⟩ := Kd.afm Dz.out z49 bF p483 (by first | exact q483)
           obtain ⟨amm, amn, rfl, LX, LY⟩ := BL hMe483
           have Ef := hcc483 2 _ rfl
           rw [kG _ _ 2 (by omega)] at Ef
           replace Ef := Option.some.inj (Ef.symm.trans Ee)
           injection Ef with YT agp YU
           rw [YT] at LY
           rw [YU] at LX
           have Eh := ah.mk (show Kd.V (Kd.int .u8) 5 _ w.heap.size _ _ ((dV l1 bF).f2) from Kd.V_mk LX LY)
           clear YT agp YU LY LX
           clear hcc483 hce483
           have acX := ah.mk UL
           have amo := ah.mk UK
           clear UL UK
           replace p483 := eq_true p483
           replace q483 := eq_true q483
           have p484 : 0 ≤ (bF : Int) := of_decide_eq_true (by with_reducible assumption)
           have q484 : bF < (l0.length : Int) := of_decide_eq_true (by with_reducible assumption)
           obtain ⟨ad484, A484_3, c484_3, e484, zQ, zS, zT, wR, UM, UN⟩ := bC HR0.out bF p484 q484
           have UO := wR
           have UQ := zT
           have UR := zS
           have UU := zQ
           obtain rfl : ad482 = ad484 := (by injection e484)
           replace zQ := (HB.out.cell (World.block_lt_of_cell? w _ zQ)).trans zQ
           replace zS := (HB.out.cell (World.block_lt_of_cell? w _ zS)).trans zS
           replace zT := (HB.out.cell (World.block_lt_of_cell? w _ zT)).trans zT
           replace wR := (HB.out.cell (World.block_lt_of_cell? w _ wR)).trans wR
           have acY := ah.mk UN
           have amq := ah.mk UM
           clear UN UM
           replace p484 := eq_true p484
           replace q484 := eq_true q484
           have ea_ := Option.some.inj (wQ.symm.trans wR)
           injection ea_ with ea_ en_ ec_
           subst ea_
           subst ec_
           clear en_
           have p485 : 0 ≤ (bF : Int) := of_decide_eq_true (by with_reducible assumption)
           have q485 : bF < (l1.length : Int) := of_decide_eq_true (by with_reducible assumption)
           obtain ⟨ad485, A485_2, c485_2, e485, UW, UY, Ei, UZ, Va, Vb⟩ := QA (Kd.EJ Dz.out).2.2 bF p485 q485
           obtain rfl : ad483 = ad485 := (by injection e485)
           obtain ⟨ce485, hce485, hMe485, hcc485⟩ := Kd.afm Dz.out z49 bF p485 (by first | exact q485)
           obtain ⟨amr, ams, rfl, LZ, Mc⟩ := BL hMe485
           have Ej := hcc485 2 _ rfl
           rw [kG _ _ 2 (by omega)] at Ej
           replace Ej := Option.some.inj (Ej.symm.trans Ei)
           injection Ej with YT agp YU
           rw [YT] at Mc
           rw [YU] at LZ
           have wS := ah.mk (show Kd.V (Kd.int .u8) 5 _ w.heap.size _ _ ((dV l1 bF).f2) from Kd.V_mk LZ Mc)
           clear YT agp YU Mc LZ
           clear hcc485 hce485
           have acZ := ah.mk Vb
           have amu := ah.mk Va
           clear Vb Va
           replace p485 := eq_true p485
           replace q485 := eq_true q485
           have ea_ := Option.some.inj (Ee.symm.trans Ei)
           injection ea_ with ea_ en_ ec_
           subst ea_
           subst ec_
           clear en_
           refine YL (n := 25) (S := fun w' => w'.cell? (ad482.add ((bF).toNat * 4)) = some (.int .i64 ((aj l0 bF).f0)) ∧ w'.cell? ⟨(ad482.add ((bF).toNat * 4)).block, (ad482.add ((bF).toNat * 4)).off + 1, none⟩ = some (.string ((aj l0 bF).f1)) ∧ w'.cell? ⟨(ad482.add ((bF).toNat * 4)).block, (ad482.add ((bF).toNat * 4)).off + 2, none⟩ = some (.bool ((aj l0 bF).f2)) ∧ w'.cell? ⟨(ad482.add ((bF).toNat * 4)).block, (ad482.add ((bF).toNat * 4)).off + 3, none⟩ = some (.slice YR ((aj l0 bF).f3).length YS) ∧ w'.cell? (ad483.add ((bF).toNat * 4)) = some (.string ((dV l1 bF).f0)) ∧ w'.cell? ⟨(ad483.add ((bF).toNat * 4)).block, (ad483.add ((bF).toNat * 4)).off + 1, none⟩ = some (.int .u8 ((dV l1 bF).f1)) ∧ w'.cell? ⟨(ad483.add ((bF).toNat * 4)).block, (ad483.add ((bF).toNat * 4)).off + 2, none⟩ = some (.slice QG ((dV l1 bF).f2).length QH) ∧ w'.cell? ⟨(ad483.add ((bF).toNat * 4)).block, (ad483.add ((bF).toNat * 4)).off + 3, none⟩ = some (.int .u8 ((dV l1 bF).f3)) ∧ w'.cell? (ad482.add ((bF).toNat * 4)) = some (.int .i64 ((aj l0 bF).f0)) ∧ w'.cell? ⟨(ad482.add ((bF).toNat * 4)).block, (ad482.add ((bF).toNat * 4)).off + 1, none⟩ = some (.string ((aj l0 bF).f1)) ∧ w'.cell? ⟨(ad482.add ((bF).toNat * 4)).block, (ad482.add ((bF).toNat * 4)).off + 2, none⟩ = some (.bool ((aj l0 bF).f2)) ∧ w'.cell? ⟨(ad482.add ((bF).toNat * 4)).block, (ad482.add ((bF).toNat * 4)).off + 3, none⟩ = some (.slice YR ((aj l0 bF).f3).length YS) ∧ w'.cell? (ad483.add ((bF).toNat * 4)) = some (.string ((dV l1 bF).f0)) ∧ w'.cell? ⟨(ad483.add ((bF).toNat * 4)).block, (ad483.add ((bF).toNat * 4)).off + 1, none⟩ = some (.int .u8 ((dV l1 bF).f1)) ∧ w'.cell? ⟨(ad483.add ((bF).toNat * 4)).block, (ad483.add ((bF).toNat * 4)).off + 2, none⟩ = some (.slice QG ((dV l1 bF).f2).length QH) ∧ w'.cell? ⟨(ad483.add ((bF).toNat * 4)).block, (ad483.add ((bF).toNat * 4)).off + 3, none⟩ = some (.int .u8 ((dV l1 bF).f3))) (ds := [22, 23]) #[false, false, false, false, false, false, false, false, false, false, false, false, false, false, false, false, false, false, false, false, false, false, false, false, false] (by kernel_rfl) rfl rfl ⟨((HB.out.cell (World.block_lt_of_cell? w _ UF)).trans UF), ((HB.out.cell (World.block_lt_of_cell? w _ UE)).trans UE), ((HB.out.cell (World.block_lt_of_cell? w _ UD)).trans UD), ((HB.out.cell (World.block_lt_of_cell? w _ UC)).trans UC), UG, UH, Ee, UJ, ((HB.out.cell (World.block_lt_of_cell? w _ UU)).trans UU), ((HB.out.cell (World.block_lt_of_cell? w _ UR)).trans UR), ((HB.out.cell (World.block_lt_of_cell? w _ UQ)).trans UQ), ((HB.out.cell (World.block_lt_of_cell? w _ UO)).trans UO), UW, UY, Ei, UZ⟩ (fun hHeld => ?_); refine IX aQ.tab5 aQ.aiD (fun HT_ HW_ => ?_)
           generalize wr.drew = w7 at Dz nC HB Eh wS acW acX acY acZ zM zN zO wQ UG UH Ee UJ zQ zS zT wR UW UY Ei UZ hHeld ⊢
           refine gu (i := 0) (N := some 13) (v := ?_) (a' := ?_) #[true, false, false, false, false, false, false, false, false, false, false, false, false, false, false, false, false, false, false, false, false, false, false, false, false] rfl rfl (dN HT_.out (by kernel_rfl)) (fun _ _ _ h => h) (Or.inl ⟨by rfl, ?_⟩) ?_ ?_
           rotate_left
           · intro w'
             go_simp
             with_reducible rfl
           rotate_left
           · simp only [Act.put, List.setIfInBounds_toArray, List.set_cons_zero, List.set_cons_succ, dW, dX]
             rfl
           refine gu (i := 1) (N := some 14) (v := ?_) (a' := ?_) #[true, true, false, false, false, false, false, false, false, false, false, false, false, false, false, false, false, false, false, false, false, false, false, false, false] rfl rfl (dN HT_.out (by kernel_rfl)) (fun _ _ _ h => h) (Or.inl ⟨by rfl, ?_⟩) ?_ ?_
           rotate_left
           · intro w'
             go_simp
             with_reducible rfl
           rotate_left
           · simp only [Act.put, List.setIfInBounds_toArray, List.set_cons_zero, List.set_cons_succ, dW, dX]
             rfl
           refine gu (i := 2) (N := some 15) (v := ?_) (a' := ?_) #[true, true, true, false, false, false, false, false, false, false, false, false, false, false, false, false, false, false, false, false, false, false, false, false, false] rfl rfl (dN HT_.out (by kernel_rfl)) (fun _ _ _ h => h) (Or.inl ⟨by rfl, ?_⟩) ?_ ?_
           rotate_left
           · intro w'
             go_simp
             with_reducible rfl
           rotate_left
           · simp only [Act.put, List.setIfInBounds_toArray, List.set_cons_zero, List.set_cons_succ, dW, dX]
             rfl
           refine gu (i := 3) (N := some 16) (v := ?_) (a' := ?_) #[true, true, true, true, false, false, false, false, false, false, false, false, false, false, false, false, false, false, false, false, false, false, false, false, false] rfl rfl (dN HT_.out (by kernel_rfl)) (fun _ _ _ h => h) (Or.inl ⟨by rfl, ?_⟩) ?_ ?_
           rotate_left
           · intro w'
             go_simp
             with_reducible rfl
           rotate_left
           · simp only [Act.put, List.setIfInBounds_toArray, List.set_cons_zero, List.set_cons_succ, dW, dX]
             rfl
           refine gu (i := 4) (N := some 17) (v := ?_) (a' := ?_) #[true, true, true, true, true, false, false, false, false, false, false, false, false, false, false, false, false, false, false, false, false, false, false, false, false] rfl rfl (dN HT_.out (by kernel_rfl)) (fun _ _ _ h => h) (Or.inl ⟨by rfl, ?_⟩) ?_ ?_
           rotate_left
           · intro w'
             go_simp
             with_reducible rfl
           rotate_left
           · simp only [Act.put, List.setIfInBounds_toArray, List.set_cons_zero, List.set_cons_succ, dW, dX]
             rfl
           refine gu (i := 6) (N := some 19) (v := ?_) (a' := ?_) #[true, true, true, true, true, false, true, false, false, false, false, false, false, false, false, false, false, false, false, false, false, false, false, false, false] rfl rfl (dN HT_.out (by kernel_rfl)) (fun _ _ _ h => h) (Or.inl ⟨by rfl, ?_⟩) ?_ ?_
           rotate_left
           · intro w'
             go_simp
             with_reducible rfl
           rotate_left
           · simp only [Act.put, List.setIfInBounds_toArray, List.set_cons_zero, List.set_cons_succ, dW, dX]
             rfl
           refine gu (i := 7) (N := some 20) (v := ?_) (a' := ?_) #[true, true, true, true, true, false, true, true, false, false, false, false, false, false, false, false, false, false, false, false, false, false, false, false, false] rfl rfl (dN HT_.out (by kernel_rfl)) (fun _ _ _ h => h) (Or.inl ⟨by rfl, ?_⟩) ?_ ?_
           rotate_left
           · intro w'
             go_simp
             with_reducible rfl
           rotate_left
           · simp only [Act.put, List.setIfInBounds_toArray, List.set_cons_zero, List.set_cons_succ, dW, dX]
             rfl
           refine gu (i := 8) (N := some 21) (v := ?_) (a' := ?_) #[true, true, true, true, true, false, true, true, true, false, false, false, false, false, false, false, false, false, false, false, false, false, false, false, false] rfl rfl (dN HT_.out (by kernel_rfl)) (fun _ _ _ h => h) (Or.inl ⟨by rfl, ?_⟩) ?_ ?_
           rotate_left
           · intro w'
             go_simp
             with_reducible rfl
           rotate_left
           · simp only [Act.put, List.setIfInBounds_toArray, List.set_cons_zero, List.set_cons_succ, dW, dX]
             rfl
           refine gu (i := 9) (N := some 22) (v := ?_) (a' := ?_) #[true, true, true, true, true, false, true, true, true, true, false, false, false, false, false, false, false, false, false, false, false, false, false, false, false] rfl rfl (dN HT_.out (by kernel_rfl)) (fun _ _ _ h => h) (Or.inl ⟨by rfl, ?_⟩) ?_ ?_
           rotate_left
           · intro w'
             go_simp
             with_reducible rfl
           rotate_left
           · simp only [Act.put, List.setIfInBounds_toArray, List.set_cons_zero, List.set_cons_succ, dW, dX]
             rfl
           refine gu (i := 11) (N := some 24) (v := ?_) (a' := ?_) #[true, true, true, true, true, false, true, true, true, true, false, true, false, false, false, false, false, false, false, false, false, false, false, false, false] rfl rfl (dN HT_.out (by kernel_rfl)) (fun _ _ _ h => h) (Or.inl ⟨by rfl, ?_⟩) ?_ ?_
           rotate_left
           · intro w'
             go_simp
             with_reducible rfl
           rotate_left
           · simp only [Act.put, List.setIfInBounds_toArray, List.set_cons_zero, List.set_cons_succ, dW, dX]
             rfl
           refine gu (i := 12) (N := some 25) (v := ?_) (a' := ?_) #[true, true, true, true, true, false, true, true, true, true, false, true, true, false, false, false, false, false, false, false, false, false, false, false, false] rfl rfl (dN HT_.out (by kernel_rfl)) (fun _ _ _ h => h) (Or.inl ⟨by rfl, ?_⟩) ?_ ?_
           rotate_left
           · intro w'
             go_simp
             with_reducible rfl
           rotate_left
           · simp only [Act.put, List.setIfInBounds_toArray, List.set_cons_zero, List.set_cons_succ, dW, dX]
             rfl
           refine gu (i := 13) (N := some 26) (v := ?_) (a' := ?_) #[true, true, true, true, true, false, true, true, true, true, false, true, true, true, false, false, false, false, false, false, false, false, false, false, false] rfl rfl (dN HT_.out (by kernel_rfl)) (fun _ _ _ h => h) (Or.inl ⟨by rfl, ?_⟩) ?_ ?_
           rotate_left
           · intro w'
             go_simp
             with_reducible rfl
           rotate_left
           · simp only [Act.put, List.setIfInBounds_toArray, List.set_cons_zero, List.set_cons_succ, dW, dX]
             rfl
           refine gu (i := 14) (N := some 27) (v := ?_) (a' := ?_) #[true, true, true, true, true, false, true, true, true, true, false, true, true, true, true, false, false, false, false, false, false, false, false, false, false] rfl rfl (dN HT_.out (by kernel_rfl)) (fun _ _ _ h => h) (Or.inl ⟨by rfl, ?_⟩) ?_ ?_
           rotate_left
           · intro w'
             go_simp
             with_reducible rfl
           rotate_left
           · simp only [Act.put, List.setIfInBounds_toArray, List.set_cons_zero, List.set_cons_succ, dW, dX]
             rfl
           refine gu (i := 16) (N := some 29) (v := ?_) (a' := ?_) #[true, true, true, true, true, false, true, true, true, true, false, true, true, true, true, false, true, false, false, false, false, false, false, false, false] rfl rfl (dN HT_.out (by kernel_rfl)) (fun _ _ _ h => h) (Or.inl ⟨by rfl, ?_⟩) ?_ ?_
           rotate_left
           · intro w'
             go_simp
             with_reducible rfl
           rotate_left
           · simp only [Act.put, List.setIfInBounds_toArray, List.set_cons_zero, List.set_cons_succ, dW, dX]
             rfl
           refine gu (i := 17) (N := some 30) (v := ?_) (a' := ?_) #[true, true, true, true, true, false, true, true, true, true, false, true, true, true, true, false, true, true, false, false, false, false, false, false, false] rfl rfl (dN HT_.out (by kernel_rfl)) (fun _ _ _ h => h) (Or.inl ⟨by rfl, ?_⟩) ?_ ?_
           rotate_left
           · intro w'
             go_simp
             with_reducible rfl
           rotate_left
           · simp only [Act.put, List.setIfInBounds_toArray, List.set_cons_zero, List.set_cons_succ, dW, dX]
             rfl
           refine gu (i := 18) (N := some 31) (v := ?_) (a' := ?_) #[true, true, true, true, true, false, true, true, true, true, false, true, true, true, true, false, true, true, true, false, false, false, false, false, false] rfl rfl (dN HT_.out (by kernel_rfl)) (fun _ _ _ h => h) (Or.inl ⟨by rfl, ?_⟩) ?_ ?_
           rotate_left
           · intro w'
             go_simp
             with_reducible rfl
           rotate_left
           · simp only [Act.put, List.setIfInBounds_toArray, List.set_cons_zero, List.set_cons_succ, dW, dX]
             rfl
           refine gu (i := 19) (N := some 32) (v := ?_) (a' := ?_) #[true, true, true, true, true, false, true, true, true, true, false, true, true, true, true, false, true, true, true, true, false, false, false, false, false] rfl rfl (dN HT_.out (by kernel_rfl)) (fun _ _ _ h => h) (Or.inl ⟨by rfl, ?_⟩) ?_ ?_
           rotate_left
           · intro w'
             go_simp
             with_reducible rfl
           rotate_left
           · simp only [Act.put, List.setIfInBounds_toArray, List.set_cons_zero, List.set_cons_succ, dW, dX]
             rfl
           refine IY (i := 5) (N := some 18) (v := ?_) (a' := ?_) #[true, true, true, true, true, true, true, true, true, true, false, true, true, true, true, false, true, true, true, true, false, false, false, false, false] rfl rfl (rW HT_.out HW_.out (by kernel_rfl)) (fun _ _ _ h => h) (Or.inl ⟨by rfl, ?_⟩) hHeld ?_ ?_
           rotate_left
           · rintro w' ⟨s0, s1, s2, s3, s4, s5, s6, s7, s8, s9, s10, s11, s12, s13, s14, s15⟩
             go_simp
             with_reducible rfl
           rotate_left
           · simp only [Act.put, List.setIfInBounds_toArray, List.set_cons_zero, List.set_cons_succ, dW, dX]
             rfl
           refine IY (i := 10) (N := some 23) (v := ?_) (a' := ?_) #[true, true, true, true, true, true, true, true, true, true, true, true, true, true, true, false, true, true, true, true, false, false, false, false, false] rfl rfl (rW HT_.out HW_.out (by kernel_rfl)) (fun _ _ _ h => h) (Or.inl ⟨by rfl, ?_⟩) hHeld ?_ ?_
           rotate_left
           · rintro w' ⟨s0, s1, s2, s3, s4, s5, s6, s7, s8, s9, s10, s11, s12, s13, s14, s15⟩
             go_simp
             with_reducible rfl
           rotate_left
           · simp only [Act.put, List.setIfInBounds_toArray, List.set_cons_zero, List.set_cons_succ, dW, dX]
             rfl
           refine IY (i := 15) (N := some 28) (v := ?_) (a' := ?_) #[true, true, true, true, true, true, true, true, true, true, true, true, true, true, true, true, true, true, true, true, false, false, false, false, false] rfl rfl (rW HT_.out HW_.out (by kernel_rfl)) (fun _ _ _ h => h) (Or.inl ⟨by rfl, ?_⟩) hHeld ?_ ?_
           rotate_left
           · rintro w' ⟨s0, s1, s2, s3, s4, s5, s6, s7, s8, s9, s10, s11, s12, s13, s14, s15⟩
             go_simp
             with_reducible rfl
           rotate_left
           · simp only [Act.put, List.setIfInBounds_toArray, List.set_cons_zero, List.set_cons_succ, dW, dX]
             rfl
           refine IY (i := 20) (N := some 33) (v := ?_) (a' := ?_) #[true, true, true, true, true, true, true, true, true, true, true, true, true, true, true, true, true, true, true, true, true, false, false, false, false] rfl rfl (rW HT_.out HW_.out (by kernel_rfl)) (fun _ _ _ h => h) (Or.inl ⟨by rfl, ?_⟩) hHeld ?_ ?_
           rotate_left
           · rintro w' ⟨s0, s1, s2, s3, s4, s5, s6, s7, s8, s9, s10, s11, s12, s13, s14, s15⟩
             go_simp
             with_reducible rfl
           rotate_left
           · simp only [Act.put, List.setIfInBounds_toArray, List.set_cons_zero, List.set_cons_succ, dW, dX]
             rfl
           refine gu (i := 21) (N := some 34) (v := ?_) (a' := ?_) #[true, true, true, true, true, true, true, true, true, true, true, true, true, true, true, true, true, true, true, true, true, true, false, false, false] rfl rfl (dN HT_.out (by kernel_rfl)) (fun _ _ _ h => h) (Or.inl ⟨by rfl, ?_⟩) ?_ ?_
           rotate_left
           · intro w'
             go_simp
             with_reducible rfl
           rotate_left
           · simp only [Act.put, List.setIfInBounds_toArray, List.set_cons_zero, List.set_cons_succ, dW, dX]
             rfl
           refine TU (i := 22) (N := some 35) #[true, true, true, true, true, true, true, true, true, true, true, true, true, true, true, true, true, true, true, true, true, true, true, false, false] rfl rfl (KW HT_.out (by kernel_rfl)) (by decide) (fun K hK => ?_)
           refine agq (w1 := ?_) (v := ?_) (by rfl) rfl ?_ ?_
           rotate_left 2
           · go_simp
             constructor
             · rfl
             · rfl
           refine hK.out _ _ ?_
           clear hK K
           refine afn (a' := ?_) ?_ ?_
           rotate_left
           · show Act.put _ (some 35) _ = _
             simp only [Act.put, List.setIfInBounds_toArray, List.set_cons_zero, List.set_cons_succ, dW, dX]
             rfl
           refine TU (i := 23) (N := some 36) #[true, true, true, true, true, true, true, true, true, true, true, true, true, true, true, true, true, true, true, true, true, true, true, true, false] rfl rfl (KW HT_.out (by kernel_rfl)) (by decide) (fun K hK => ?_)
           refine Kd.Iq k53 (w0 := w) w.heap.size (by rfl) (.tmp 13) (.tmp 35) 22 53 (.agg #[(.int .i64 0), (.string ⟨#[]⟩), (.bool false), (.slice none 0 0)]) 56 rfl Tryz.underlying22 uX rfl (by decide) (by omega) u5 aG (⟨(aj l0 bF).f0, (dV l1 bF).f0, (aj l0 bF).f2, (dV l1 bF).f2⟩ : S53) [.int .i64 ((aj l0 bF).f0), .string ((dV l1 bF).f0), .bool ((aj l0 bF).f2), .slice QG ((dV l1 bF).f2).length QH] (fun k_ => (P1_ k_ ∨ w.heap.size ≤ k_)) (fun k_ => ((fun k_ => (P1_ k_ ∨ w.heap.size ≤ k_))) k_ ∧ some k_ ≠ (u5 : Value).ownBlock) rfl rfl ?aP (fun _ hk => hk) ?aF ?aO ?aB ?aS ?aL ?_
           (case aP => exact (Tv _ _ (⟨(aj l0 bF).f0, (dV l1 bF).f0, (aj l0 bF).f2, (dV l1 bF).f2⟩ : S53) (Kd.EJ (Kd.LW (ok' := (fun k_ => ((fun k_ => (P1_ k_ ∨ w.heap.size ≤ k_))) k_ ∧ some k_ ≠ (u5 : Value).ownBlock)) (wS.out) (fun k_ hk => ⟨hk.1, hk.2⟩))).2.1 (Kd.V_F (Kd.LW (ok' := (fun k_ => ((fun k_ => (P1_ k_ ∨ w.heap.size ≤ k_))) k_ ∧ some k_ ≠ (u5 : Value).ownBlock)) (wS.out) (fun k_ hk => ⟨hk.1, hk.2⟩)))))
           (case aB => exact HB.out)
           (case aF => exact (fun k_ hk => (.inr (Nat.le_trans (lQ HB.out) hk))))
           (case aO => exact nC.out)
           (case aS => exact (lQ HB.out))
           (case aL => have := LMc6.out; omega)
           intro v487 w8 ho hb hg hat
           rw [← Ny486.out] at ho
           have n0_ := ah.mk (Kd.EK (ok := (fun k_ => (P1_ k_ ∨ w.heap.size ≤ k_))) Dz.out hg hat)
           have n1_ := ah.mk (Kd.EK (ok := (fun k_ => (P1_ k_ ∨ w.heap.size ≤ k_))) Eh.out hg hat)
           have n2_ := ah.mk (Kd.EK (ok := (fun k_ => (P1_ k_ ∨ w.heap.size ≤ k_))) wS.out hg hat)
           have n3_ := ah.mk (hb)
           have n4_ := ah.mk (ho)
           clear Dz
           clear Eh
           clear wS
           clear HB
           clear nC
           have Dz := n0_
           have Eh := n1_
           have wS := n2_
           have HB := n3_
           have HO488 := n4_
           clear n0_ n1_ n2_ n3_ n4_
           clear ho hb hg hat
           refine hK.out _ _ ?_
           clear hK K
           refine afn (a' := ?_) ?_ ?_
           rotate_left
           · show Act.put _ (some 36) _ = _
             simp only [Act.put, List.setIfInBounds_toArray, List.set_cons_zero, List.set_cons_succ, dW, dX]
             rfl
           refine gu (i := 24) (N := some 5) (v := ?_) (a' := ?_) #[true, true, true, true, true, true, true, true, true, true, true, true, true, true, true, true, true, true, true, true, true, true, true, true, true] rfl rfl (dN HT_.out (by kernel_rfl)) (fun _ _ _ h => h) (Or.inl ⟨by rfl, ?_⟩) ?_ ?_
           rotate_left
           · intro w'
             go_simp
             with_reducible rfl
           rotate_left
           · simp only [Act.put, List.setIfInBounds_toArray, List.set_cons_zero, List.set_cons_succ, dW, dX]
             rfl
           refine afl (TV HT_.out (by kernel_rfl)) ?_
           try go_wp2
           go_roundg k1
           case measure => have := HK1.out; omega
           case rel => exact ⟨(y486), (wrap64 (bF + 1)), (by first | rfl), H', ⟨by have := HK1.out; omega⟩, ⟨by exact Dz.out⟩, ⟨by exact HO488.out⟩, ⟨by exact HB.out⟩⟩
         · rw [if_neg c6] at H
           exact absurd H (by simp)
       · rw [if_neg c5] at H
         exact absurd H (by simp)
     · rw [if_neg c4] at H
       exact absurd H (by simp)
   · rw [if_neg c3] at H
     have uY : decide (bF < (l0.length : Int)) = false := decide_eq_false c3
     clear c3
     obtain rfl := Option.some.inj H
     go_wp2
     go_ret
     exact ⟨_, by first | rfl , by exact nC.out, by exact HB.out⟩
def ahZ.l0 : Nat → List (S90) → List (S90) → Int → Option (Bool)
 | 0, _, _, _ => none
 | k + 1, x0, x1, x5 => if x5 < (x0.length : Int) then (if 0 ≤ x5 then (if x5 < (x1.length : Int) then (if ((EH x0 x5).f1) = ((EH x1 x5).f1) then ((Ad.f k ((EH x0 x5).f0) ((EH x1 x5).f0)).bind fun t493 => (if t493 = true then (ahZ.l0 k x0 x1 (wrap64 (x5 + 1))) else (some false))) else (some false)) else (none)) else (none)) else (some true)
def ahZ.f (k : Nat) (l0 : List (S90)) (l1 : List (S90)) : Option (Bool) := if (l0.length : Int) = (l1.length : Int) then (ahZ.l0 k l0 l1 0) else (some false)
theorem ahZ.calls (k : Nat) (A0 : Option Addr) (c0 : Nat) (l0 : List (S90)) (A1 : Option Addr) (c1 : Nat) (l1 : List (S90)) (r : Bool) (w : World) (hr0 : Kd.C k90 w A0 l0.length l0) (hc0 : l0.length ≤ c0) (hr1 : Kd.C k90 w A1 l1.length l1) (hc1 : l1.length ≤ c1) (h : ahZ.f k l0 l1 = some r) :
    Calls Tryz.prog 31 #[.slice A0 l0.length c0, .slice A1 l1.length c1] w fun e w' => e = .returned (.bool r) ∧ aY w w' := by
 have HR0 := ah.mk hr0
 have HC0 := ah.mk hc0
 clear hr0 hc0
 have HR1 := ah.mk hr1
 have HC1 := ah.mk hc1
 clear hr1 hc1
 have H : (if (l0.length : Int) = (l1.length : Int) then (ahZ.l0 k l0 l1 0) else (some false)) = some r := h
 clear h
 by_cases c3 : (l0.length : Int) = (l1.length : Int)
 · rw [if_pos c3] at H
   have uY : ((l0.length : Int) == (l1.length : Int)) = true := beq_iff_eq.mpr c3
   have QB : ((l0.length : Int) != (l1.length : Int)) = false := bne_eq_false_iff_eq.mpr c3
   have amP : (l0.length == l1.length) = true := by first | (simp at c3 ⊢; omega)
   clear c3
   have H' := ah.mk H
   clear H
   go_enter Tryz.func31, Tryz.ntmps31
   go_wp2
   skip
   go_loopg [5] k (fun kq v5 w' => ∃ (aG : Int), v5 = .int .i64 aG ∧ ah (ahZ.l0 kq l0 l1 aG = some r) ∧ ah (kq ≤ k) ∧ aY w w')
   case atStart => exact ⟨(0), (by first | rfl), H', ⟨Nat.le_refl _⟩, by repeat (exact aY.refl _)⟩
   case round =>
    clear H'
    try clear uY
    try clear QB
    try clear amP
    obtain ⟨aG, rfl, HA, HK1, ⟨m1, rfl⟩⟩ := hrel
    cases gk with
    | zero => exact absurd HA.out (by simp [ahZ.l0])
    | succ k1 =>
     have H := HA.out
     clear HA
     simp only [ahZ.l0] at H
     by_cases c4 : aG < (l0.length : Int)
     · rw [if_pos c4] at H
       have yD : decide (aG < (l0.length : Int)) = true := decide_eq_true c4
       clear c4
       by_cases c5 : 0 ≤ aG
       · rw [if_pos c5] at H
         have EI : decide (0 ≤ aG) = true := decide_eq_true c5
         clear c5
         by_cases c6 : aG < (l1.length : Int)
         · rw [if_pos c6] at H
           have ang : decide (aG < (l1.length : Int)) = true := decide_eq_true c6
           clear c6
           by_cases c7 : ((EH l0 aG).f1) = ((EH l1 aG).f1)
           · rw [if_pos c7] at H
             have Wu : (((EH l0 aG).f1) == ((EH l1 aG).f1)) = true := beq_iff_eq.mpr c7
             have afO : (((EH l0 aG).f1) != ((EH l1 aG).f1)) = false := bne_eq_false_iff_eq.mpr c7
             clear c7
             replace H := Option.bind_eq_some_iff.mp H
             obtain ⟨t493, A80, H⟩ := H
             replace H : (if t493 = true then (ahZ.l0 k1 l0 l1 (wrap64 (aG + 1))) else (some false)) = some r := H
             have A8 := ah.mk A80
             clear A80
             by_cases c9 : t493 = true
             · subst c9
               have H1 : (ahZ.l0 k1 l0 l1 (wrap64 (aG + 1))) = some r := by rw [if_pos rfl] at H; exact H
               clear H
               have H := H1
               clear H1
               have H' := ah.mk H
               clear H
               have p489 : 0 ≤ (aG : Int) := of_decide_eq_true (by with_reducible assumption)
               have q489 : aG < (l0.length : Int) := of_decide_eq_true (by with_reducible assumption)
               obtain ⟨ad489, amQ, amR, e489, ajp, amG, aia, aib⟩ := YE HR0.out aG p489 q489
               cases e489
               have amH := ah.mk aib
               have amI := ah.mk aia
               clear aib aia
               replace p489 := eq_true p489
               replace q489 := eq_true q489
               have p490 : 0 ≤ (aG : Int) := of_decide_eq_true (by with_reducible assumption)
               have q490 : aG < (l1.length : Int) := of_decide_eq_true (by with_reducible assumption)
               obtain ⟨ad490, amS, amT, e490, ajs, amJ, aiE, aiF⟩ := YE HR1.out aG p490 q490
               cases e490
               have amK := ah.mk aiF
               have amL := ah.mk aiE
               clear aiF aiE
               replace p490 := eq_true p490
               replace q490 := eq_true q490
               have p491 : 0 ≤ (aG : Int) := of_decide_eq_true (by with_reducible assumption)
               have q491 : aG < (l0.length : Int) := of_decide_eq_true (by with_reducible assumption)
               obtain ⟨ad491, anh, ani, e491, ajD, ana, aiZ, aja⟩ := YE HR0.out aG p491 q491
               obtain rfl : ad489 = ad491 := (by injection e491)
               have amx := ah.mk aja
               have aiJ := ah.mk aiZ
               clear aja aiZ
               replace p491 := eq_true p491
               replace q491 := eq_true q491
               have ea_ := Option.some.inj (ajp.symm.trans ajD)
               injection ea_ with ea_ en_ ec_
               subst ea_
               subst ec_
               clear en_
               have p492 : 0 ≤ (aG : Int) := of_decide_eq_true (by with_reducible assumption)
               have q492 : aG < (l1.length : Int) := of_decide_eq_true (by with_reducible assumption)
               obtain ⟨ad492, anj, ank, e492, amy, anb, ajg, ajo⟩ := YE HR1.out aG p492 q492
               obtain rfl : ad490 = ad492 := (by injection e492)
               have amA := ah.mk ajo
               have aiQ := ah.mk ajg
               clear ajo ajg
               replace p492 := eq_true p492
               replace q492 := eq_true q492
               have ea_ := Option.some.inj (ajs.symm.trans amy)
               injection ea_ with ea_ en_ ec_
               subst ea_
               subst ec_
               clear en_
               go_wp2_with (first | (go_at_call 52; (with_reducible refine (Ad.calls k1 _ _ ((EH l0 aG).f0) _ _ ((EH l1 aG).f0) true _ ?rX ?rY ?aiR ?aiU A8.out).mono ?_); (case rX => skip); (case rY => exact aiJ.out); (case aiR => skip); (case aiU => exact aiQ.out); rintro e w' ⟨rfl, ⟨nd, rfl⟩⟩; (try first | exact ⟨rfl, _, World.drewN_drewN _ _ _⟩ | exact ⟨rfl, _, Eq.trans (World.drewN_drewN _ _ _) (congrArg (World.drewN _) (Nat.add_assoc _ _ _))⟩)))
               repeat (go_quiet (first | (go_at_call 52; (with_reducible refine (Ad.calls k1 _ _ ((EH l0 aG).f0) _ _ ((EH l1 aG).f0) true _ ?rX ?rY ?aiR ?aiU A8.out).mono ?_); (case rX => repeat (exact amx.out)); (case rY => exact aiJ.out); (case aiR => repeat (exact amA.out)); (case aiU => exact aiQ.out); rintro e w' ⟨rfl, ⟨nd, rfl⟩⟩; (try first | exact ⟨rfl, _, Eq.trans (World.drewN_drewN _ _ _) (congrArg (World.drewN _) (Nat.add_assoc _ _ _))⟩))); try go_wp2_with (first | (go_at_call 52; (with_reducible refine (Ad.calls k1 _ _ ((EH l0 aG).f0) _ _ ((EH l1 aG).f0) true _ ?rX ?rY ?aiR ?aiU A8.out).mono ?_); (case rX => skip); (case rY => exact aiJ.out); (case aiR => skip); (case aiU => exact aiQ.out); rintro e w' ⟨rfl, ⟨nd, rfl⟩⟩; (try first | exact ⟨rfl, _, World.drewN_drewN _ _ _⟩ | exact ⟨rfl, _, Eq.trans (World.drewN_drewN _ _ _) (congrArg (World.drewN _) (Nat.add_assoc _ _ _))⟩))))
               go_roundg k1
               case measure => have := HK1.out; omega
               case rel => exact ⟨(wrap64 (aG + 1)), (by first | rfl), H', ⟨by have := HK1.out; omega⟩, by repeat (first | exact aY.refl _ | apply aY.step)⟩
             · replace c9 := Bool.eq_false_iff.mpr c9
               subst c9
               have H1 : (some false) = some r := by rw [if_neg (show ¬ (false = true) by decide)] at H; exact H
               clear H
               have H := H1
               clear H1
               obtain rfl := Option.some.inj H
               have p489 : 0 ≤ (aG : Int) := of_decide_eq_true (by with_reducible assumption)
               have q489 : aG < (l0.length : Int) := of_decide_eq_true (by with_reducible assumption)
               obtain ⟨ad489, amQ, amR, e489, ajp, amG, aia, aib⟩ := YE HR0.out aG p489 q489
               cases e489
               have amH := ah.mk aib
               have amI := ah.mk aia
               clear aib aia
               replace p489 := eq_true p489
               replace q489 := eq_true q489
               have p490 : 0 ≤ (aG : Int) := of_decide_eq_true (by with_reducible assumption)
               have q490 : aG < (l1.length : Int) := of_decide_eq_true (by with_reducible assumption)
               obtain ⟨ad490, amS, amT, e490, ajs, amJ, aiE, aiF⟩ := YE HR1.out aG p490 q490
               cases e490
               have amK := ah.mk aiF
               have amL := ah.mk aiE
               clear aiF aiE
               replace p490 := eq_true p490
               replace q490 := eq_true q490
               have p491 : 0 ≤ (aG : Int) := of_decide_eq_true (by with_reducible assumption)
               have q491 : aG < (l0.length : Int) := of_decide_eq_true (by with_reducible assumption)
               obtain ⟨ad491, anh, ani, e491, ajD, ana, aiZ, aja⟩ := YE HR0.out aG p491 q491
               obtain rfl : ad489 = ad491 := (by injection e491)
               have amx := ah.mk aja
               have aiJ := ah.mk aiZ
               clear aja aiZ
               replace p491 := eq_true p491
               replace q491 := eq_true q491
               have ea_ := Option.some.inj (ajp.symm.trans ajD)
               injection ea_ with ea_ en_ ec_
               subst ea_
               subst ec_
               clear en_
               have p492 : 0 ≤ (aG : Int) := of_decide_eq_true (by with_reducible assumption)
               have q492 : aG < (l1.length : Int) := of_decide_eq_true (by with_reducible assumption)
               obtain ⟨ad492, anj, ank, e492, amy, anb, ajg, ajo⟩ := YE HR1.out aG p492 q492
               obtain rfl : ad490 = ad492 := (by injection e492)
               have amA := ah.mk ajo
               have aiQ := ah.mk ajg
               clear ajo ajg
               replace p492 := eq_true p492
               replace q492 := eq_true q492
               have ea_ := Option.some.inj (ajs.symm.trans amy)
               injection ea_ with ea_ en_ ec_
               subst ea_
               subst ec_
               clear en_
               go_wp2_with (first | (go_at_call 52; (with_reducible refine (Ad.calls k1 _ _ ((EH l0 aG).f0) _ _ ((EH l1 aG).f0) false _ ?rX ?rY ?aiR ?aiU A8.out).mono ?_); (case rX => skip); (case rY => exact aiJ.out); (case aiR => skip); (case aiU => exact aiQ.out); rintro e w' ⟨rfl, ⟨nd, rfl⟩⟩; (try first | exact ⟨rfl, _, World.drewN_drewN _ _ _⟩ | exact ⟨rfl, _, Eq.trans (World.drewN_drewN _ _ _) (congrArg (World.drewN _) (Nat.add_assoc _ _ _))⟩)))
               repeat (go_quiet (first | (go_at_call 52; (with_reducible refine (Ad.calls k1 _ _ ((EH l0 aG).f0) _ _ ((EH l1 aG).f0) false _ ?rX ?rY ?aiR ?aiU A8.out).mono ?_); (case rX => repeat (exact amx.out)); (case rY => exact aiJ.out); (case aiR => repeat (exact amA.out)); (case aiU => exact aiQ.out); rintro e w' ⟨rfl, ⟨nd, rfl⟩⟩; (try first | exact ⟨rfl, _, Eq.trans (World.drewN_drewN _ _ _) (congrArg (World.drewN _) (Nat.add_assoc _ _ _))⟩))); try go_wp2_with (first | (go_at_call 52; (with_reducible refine (Ad.calls k1 _ _ ((EH l0 aG).f0) _ _ ((EH l1 aG).f0) false _ ?rX ?rY ?aiR ?aiU A8.out).mono ?_); (case rX => skip); (case rY => exact aiJ.out); (case aiR => skip); (case aiU => exact aiQ.out); rintro e w' ⟨rfl, ⟨nd, rfl⟩⟩; (try first | exact ⟨rfl, _, World.drewN_drewN _ _ _⟩ | exact ⟨rfl, _, Eq.trans (World.drewN_drewN _ _ _) (congrArg (World.drewN _) (Nat.add_assoc _ _ _))⟩))))
               go_ret
               exact ⟨by first | rfl , by repeat (first | exact aY.refl _ | apply aY.step)⟩
           · rw [if_neg c7] at H
             have Wu : (((EH l0 aG).f1) == ((EH l1 aG).f1)) = false := beq_eq_false_iff_ne.mpr c7
             have afO : (((EH l0 aG).f1) != ((EH l1 aG).f1)) = true := bne_iff_ne.mpr c7
             obtain rfl := Option.some.inj H
             have p489 : 0 ≤ (aG : Int) := of_decide_eq_true (by with_reducible assumption)
             have q489 : aG < (l0.length : Int) := of_decide_eq_true (by with_reducible assumption)
             obtain ⟨ad489, amQ, amR, e489, ajp, amG, aia, aib⟩ := YE HR0.out aG p489 q489
             cases e489
             have amH := ah.mk aib
             have amI := ah.mk aia
             clear aib aia
             replace p489 := eq_true p489
             replace q489 := eq_true q489
             have p490 : 0 ≤ (aG : Int) := of_decide_eq_true (by with_reducible assumption)
             have q490 : aG < (l1.length : Int) := of_decide_eq_true (by with_reducible assumption)
             obtain ⟨ad490, amS, amT, e490, ajs, amJ, aiE, aiF⟩ := YE HR1.out aG p490 q490
             cases e490
             have amK := ah.mk aiF
             have amL := ah.mk aiE
             clear aiF aiE
             replace p490 := eq_true p490
             replace q490 := eq_true q490
             go_wp2
             repeat (go_quiet (fail); try go_wp2)
             go_ret
             exact ⟨by first | rfl , by repeat (first | exact aY.refl _ | apply aY.step)⟩
         · rw [if_neg c6] at H
           exact absurd H (by simp)
       · rw [if_neg c5] at H
         exact absurd H (by simp)
     · rw [if_neg c4] at H
       have yD : decide (aG < (l0.length : Int)) = false := decide_eq_false c4
       clear c4
       obtain rfl := Option.some.inj H
       go_wp2
       skip
       go_ret
       exact ⟨by first | rfl , by repeat (first | exact aY.refl _ | apply aY.step)⟩
 · rw [if_neg c3] at H
   have uY : ((l0.length : Int) == (l1.length : Int)) = false := beq_eq_false_iff_ne.mpr c3
   have QB : ((l0.length : Int) != (l1.length : Int)) = true := bne_iff_ne.mpr c3
   have amP : (l0.length == l1.length) = false := by first | (simp at c3 ⊢; omega)
   obtain rfl := Option.some.inj H
   go_enter Tryz.func31, Tryz.ntmps31
   go_wp2
   skip
   go_ret
   exact ⟨by first | rfl , by repeat (exact aY.refl _)⟩
end Go.Proofs.YthlflglkdaainaaGreatDoor.Prt
