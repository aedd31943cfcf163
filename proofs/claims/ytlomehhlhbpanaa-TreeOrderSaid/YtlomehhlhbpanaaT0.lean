import Derived.Test.YtlomehhlhbpanaaProg
import Derived.Below
import Derived.Deep.Draws
import Derived.Deep.AppendLies
import Derived.Maps.AppendAt
import Derived.OwnWalk
import Derived.Laws.BytesArg
import Derived.Laws.MakeOwn
import Derived.Laws.OwnMore
import Derived.Deep.OwnRows
import Derived.Tactics
import Derived.Lib.ConvBytes
import Derived.Laws.Slices
import Derived.WalkKit
import Derived.KernelRfl
import Derived.RowKit3
import Derived.Deep.LoopGhost
import Derived.Deep.QuietTactic
import Derived.BigQuiet
import Derived.WideLaws
import Derived.Deep.DeepCutAuto
import Derived.Deep.CutBlock
import Derived.Deep.RegionHeld3
import Derived.Laws.Rows
import Derived.Lib.AppendStr
import Derived.ArgAppend
import Derived.Laws.IdiomCopy
import Derived.OrdersHeld
import Derived.Laws.BitsLemmas
import Derived.RowKit
import Derived.Test.YtlomehhlhbpanaaWWords
import Derived.Test.YtlomehhlhbpanaaWLast
import Derived.Test.YtlomehhlhbpanaaWTab
import Derived.Test.YtlomehhlhbpanaaWFour
import Derived.Test.YtlomehhlhbpanaaWQPut
import Derived.Test.YtlomehhlhbpanaaWApart
import Derived.Test.YtlomehhlhbpanaaWArr
import Derived.Test.YtlomehhlhbpanaaWZeros
import Derived.Test.YtlomehhlhbpanaaWFoot
import Derived.Test.YtlomehhlhbpanaaWKept
import Derived.Test.YtlomehhlhbpanaaWShare
import Derived.Test.YtlomehhlhbpanaaWN
import Derived.Test.YtlomehhlhbpanaaWFootNe
import Derived.Test.YtlomehhlhbpanaaWAt
import Derived.Test.YtlomehhlhbpanaaWEqStruct
import Derived.Test.YtlomehhlhbpanaaWRepsOne
import Derived.Test.YtlomehhlhbpanaaWInv
import Derived.Test.YtlomehhlhbpanaaWInvWords
import Derived.Test.YtlomehhlhbpanaaWGuard
import Derived.Test.YtlomehhlhbpanaaWNEv
import Derived.Test.YtlomehhlhbpanaaWMore
namespace Go.Proofs.Ytlomehhlhbpanaa.Prt
open Go.RowKit Go.Proofs.YtlomehhlhbpanaaW.PrintWords Go.Proofs.YtlomehhlhbpanaaW.PrintLast Go.Proofs.YtlomehhlhbpanaaW.PrintMore
attribute [local go_sem] max2_int min2_int max_two min_two max_three min_three max_four min_four   -- for this text's walks alone
set_option linter.unusedVariables false
set_option linter.unusedSimpArgs false



def errW : Option Int → Value
  | none => .nilIface
  | some c => .iface 0 (.int .i64 c)
theorem errW_none : errW none = .nilIface := rfl
theorem errW_some (c : Int) : errW (some c) = .iface 0 (.int .i64 c) := rfl

theorem info3 : (Try.prog.info? 3).map (fun i => (i.zero, i.size, i.bytes)) = some (some (.int .i64 0), 1, 8) := by kernel_rfl
theorem info5 : (Try.prog.info? 5).map (fun i => (i.zero, i.size, i.bytes)) = some (some (.int .u8 0), 1, 1) := by kernel_rfl
theorem info9 : (Try.prog.info? 9).map (fun i => (i.zero, i.size, i.bytes)) = some (some (.string ⟨#[]⟩), 1, 16) := by kernel_rfl
theorem info41 : (Try.prog.info? 41).map (fun i => (i.zero, i.size, i.bytes)) = some (some (.agg #[(.int .i64 0), (.string ⟨#[]⟩), (.bool false), (.slice none 0 0)]), 4, 56) := by kernel_rfl
-- the values' own types
def rd_L4 (xs : List (List Int)) (i : Int) : (List Int) := xs.getD i.toNat ([] : List Int)
theorem at_L4 {w : World} {A : Option Addr} {n : Nat} {xs : List (List Int)} (h : Kd.C (Kd.slice 5 (Kd.int .u8)) w A n xs) (i : Int) (h0 : 0 ≤ i) (h1 : i < n) : ∃ ad A0 c0, A = some ad ∧ w.cell? (ad.add i.toNat) = some (.slice A0 (rd_L4 xs i).length c0) ∧ (rd_L4 xs i).length ≤ c0 ∧ (Kd.int .u8).C w A0 (rd_L4 xs i).length (rd_L4 xs i) := by
  obtain ⟨ad, c, e, _, hK, hc0⟩ := Kd.C_get h ([] : List Int) i h0 h1
  have hc : ∀ j u, c[j]? = some u → w.cell? (ad.add (i.toNat * 1 + j)) = some u := hc0
  obtain ⟨A0, c0, rfl, l0, g0⟩ := hK
  exact ⟨ad, A0, c0, e, by have hq := hc 0 _ rfl; rwa [Nat.mul_one, Nat.add_zero] at hq, l0, g0⟩

/-! #### struct type 41 -/
structure S41 where
  f0 : Int
  f1 : ByteArray
  f2 : Bool
  f3 : (List Int)
def z41 : S41 := ⟨(0 : Int), (⟨#[]⟩ : ByteArray), false, ([] : List Int)⟩
def k41 : Kd S41 := Kd.iso (Kd.pair (Kd.int .i64) (Kd.pair Kd.string (Kd.pair Kd.bool (Kd.slice 5 (Kd.int .u8))))) (fun x : S41 => (x.f0, x.f1, x.f2, x.f3))
theorem k41_open {w : World} {x : S41} {cs : List Value} (h : k41.K w x cs) : ∃ A3 c3, cs = [.int .i64 x.f0, .string x.f1, .bool x.f2, .slice A3 x.f3.length c3] ∧ x.f3.length ≤ c3 ∧ (Kd.int .u8).C w A3 x.f3.length x.f3 := by
  obtain ⟨_, _, rfl, rfl, ⟨_, _, rfl, rfl, ⟨_, _, rfl, rfl, ⟨A3, c3, rfl, l3, g3⟩⟩⟩⟩ := h
  exact ⟨A3, c3, rfl, l3, g3⟩
theorem k41_openM {w : World} {base : Nat} {ok : Nat → Prop} {x : S41} {cs : List Value} (h : k41.M w base ok x cs) : ∃ v3, cs = [.int .i64 x.f0, .string x.f1, .bool x.f2, v3] ∧ (Kd.int .u8).R 5 w base ok v3 x.f3 := by
  obtain ⟨_, _, rfl, rfl, ⟨_, _, rfl, rfl, ⟨_, _, rfl, rfl, ⟨v3, rfl, g3⟩⟩⟩⟩ := h
  exact ⟨v3, rfl, g3⟩
theorem k41_mk (w : World) (x : S41) {A3 : Option Addr} {c3 : Nat} (l3 : x.f3.length ≤ c3) (g3 : (Kd.int .u8).C w A3 x.f3.length x.f3) : k41.K w x [.int .i64 x.f0, .string x.f1, .bool x.f2, .slice A3 x.f3.length c3] := ⟨[.int .i64 x.f0], [.string x.f1, .bool x.f2, .slice A3 x.f3.length c3], rfl, rfl, ⟨[.string x.f1], [.bool x.f2, .slice A3 x.f3.length c3], rfl, rfl, ⟨[.bool x.f2], [.slice A3 x.f3.length c3], rfl, rfl, ⟨A3, c3, rfl, l3, g3⟩⟩⟩⟩
theorem k41_mkM (w : World) (base : Nat) (ok : Nat → Prop) (x : S41) {v3 : Value} (g3 : (Kd.int .u8).R 5 w base ok v3 x.f3) : k41.M w base ok x [.int .i64 x.f0, .string x.f1, .bool x.f2, v3] := ⟨[.int .i64 x.f0], [.string x.f1, .bool x.f2, v3], rfl, rfl, ⟨[.string x.f1], [.bool x.f2, v3], rfl, rfl, ⟨[.bool x.f2], [v3], rfl, rfl, ⟨v3, rfl, g3⟩⟩⟩⟩
theorem k41_openF {W : World} {ok : Nat → Prop} {x : S41} {cs : List Value} (h : Kd.FK k41 W ok x cs) : ∃ A3 c3, cs = [.int .i64 x.f0, .string x.f1, .bool x.f2, .slice A3 x.f3.length c3] ∧ x.f3.length ≤ c3 ∧ Kd.F (Kd.int .u8) W ok A3 x.f3.length x.f3 := by
  obtain ⟨A3, c3, rfl, l3, _⟩ := k41_open (Kd.FK_now h)
  exact ⟨A3, c3, rfl, l3, (fun W' hW => by obtain ⟨A3_, c3_, he, l3_, g3_⟩ := k41_open (h W' hW); injection (Option.some.inj (show some (Value.slice A3 x.f3.length c3) = some (Value.slice A3_ x.f3.length c3_) from congrArg (fun l => l[3]?) he)) with ha_ _ _; rw [ha_]; exact g3_)⟩
theorem k41_mkF (W : World) (ok : Nat → Prop) (x : S41) {A3 : Option Addr} {c3 : Nat} (l3 : x.f3.length ≤ c3) (g3 : Kd.F (Kd.int .u8) W ok A3 x.f3.length x.f3) : Kd.FK k41 W ok x [.int .i64 x.f0, .string x.f1, .bool x.f2, .slice A3 x.f3.length c3] := fun W2 hW => k41_mk W2 x l3 (g3 W2 hW)
def rd_T41 (xs : List S41) (i : Int) : S41 := xs.getD i.toNat z41
theorem at_T41 {w : World} {A : Option Addr} {n : Nat} {xs : List S41} (h : Kd.C k41 w A n xs) (i : Int) (h0 : 0 ≤ i) (h1 : i < n) : ∃ ad A3 c3, A = some ad ∧ w.cell? (ad.add (i.toNat * 4)) = some (.int .i64 (rd_T41 xs i).f0) ∧ w.cell? ⟨(ad.add (i.toNat * 4)).block, (ad.add (i.toNat * 4)).off + 1, none⟩ = some (.string (rd_T41 xs i).f1) ∧ w.cell? ⟨(ad.add (i.toNat * 4)).block, (ad.add (i.toNat * 4)).off + 2, none⟩ = some (.bool (rd_T41 xs i).f2) ∧ w.cell? ⟨(ad.add (i.toNat * 4)).block, (ad.add (i.toNat * 4)).off + 3, none⟩ = some (.slice A3 (rd_T41 xs i).f3.length c3) ∧ (rd_T41 xs i).f3.length ≤ c3 ∧ (Kd.int .u8).C w A3 (rd_T41 xs i).f3.length (rd_T41 xs i).f3 := by
  obtain ⟨ad, c, e, _, hK, hc0⟩ := Kd.C_get h z41 i h0 h1
  have hc : ∀ j u, c[j]? = some u → w.cell? (ad.add (i.toNat * 4 + j)) = some u := hc0
  obtain ⟨A3, c3, rfl, l3, g3⟩ := k41_open hK
  exact ⟨ad, A3, c3, e, hc 0 _ rfl, by rw [← add_field _ _ 1 (by omega)]; exact hc 1 _ rfl, by rw [← add_field _ _ 2 (by omega)]; exact hc 2 _ rfl, by rw [← add_field _ _ 3 (by omega)]; exact hc 3 _ rfl, l3, g3⟩

end Go.Proofs.Ytlomehhlhbpanaa.Prt
