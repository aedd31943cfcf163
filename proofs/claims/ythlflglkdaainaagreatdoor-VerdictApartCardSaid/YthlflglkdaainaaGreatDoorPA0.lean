import Derived.Below
import Derived.Deep.Draws
import Derived.Deep.AppendLies
import Derived.Maps.AppendAt
import Derived.OwnWalk
import Derived.Laws.BytesArg
import Derived.Laws.MakeOwn
import Derived.Laws.OwnMore
import Derived.Deep.OwnRows
import Derived.Tactics
import Derived.Lib.ConvBytes
import Derived.Laws.Slices
import Derived.WalkKit
import Derived.KernelRfl
import Derived.RowKit3
import Derived.Deep.LoopGhost
import Derived.Deep.QuietTactic
import Derived.BigQuiet
import Derived.WideLaws
import Derived.Deep.DeepCutAuto
import Derived.Deep.CutBlock
import Derived.Deep.RegionHeld3
import Derived.Laws.Rows
import Derived.Lib.AppendStr
import Derived.ArgAppend
import Derived.Laws.IdiomCopy
import Derived.RowKit
import Derived.OrdersHeld
import Derived.Laws.BitsLemmas
import Derived.Laws.StructEq
import Derived.Test.YthlflglkdaainaaGreatDoorProg
import Derived.Deep.Slices
import Derived.Lib.SmallJoins
import Derived.ChangeSlices
import Derived.Lib.SlBytesConst
import Derived.Lib.IndexLaws
import Derived.Shelf.Small.Strs
import Derived.Maps.OwnSet
import Derived.DeepKeys4
import Derived.Test.YthlflglkdaainaaGreatDoorChecked
import Derived.Ground.SlsfProg
import Derived.Shelf.SlSortCmp.NoneTotal
import Derived.Shelf.SlicesE.Clone
import Derived.Laws.CopyRow
import Derived.Laws.CopyOwn
import Derived.Shelf.SlSorted.Search
import Derived.Test.YthlflglkdaainaaGreatDoorRows
import Derived.WalkSpells
import Derived.WalkLawsBesides
import Derived.Laws.EntriesVeiled
import Derived.IntWalk
import Derived.Laws.Bits64b
import Derived.Lib.ItoaWalk
import Derived.Laws.BitsAllLaws
import Derived.RangeFuncBox
import Derived.RangeFuncLeaves
import Derived.RangeFuncKeeps
import Derived.RangeFuncBound
import Derived.Shelf.Abstract
import Derived.OwnWalkIn
import Derived.TacticsInMore
import Derived.LoopNIn
import Derived.LoopIn
import Derived.ProofKit
import Derived.LaidMore
import Derived.OpenShut
import Derived.Stop.Joined
import Derived.Stop.LaidErr
import Derived.Lib.LaidTab
import Derived.MakeChecks
import Derived.Laws.AppendOwnNone
import Derived.Test.YthlflglkdaainaaGreatDoorCards
import Derived.SevenTiedAt
import Derived.Sort.LotA
import Derived.Shelf.SlSortCmp.KitK
import Derived.Sort.WalkB2
import Derived.Sort.WalkB12
import Derived.BigRegion
import Derived.Deep.CutRange
import Derived.RegionTactic
import Derived.Deep.RegionLaw
import Derived.Lib.EndianBits
import Derived.Lib.ValidAsc
import Derived.Shelf.Unicode.DecodeSlow
import Derived.Deep.DeepMust
import Derived.Deep.DeepBigQuietO
import Derived.Lib.RuneBytes
import Derived.Laws.AppendOwn
import Derived.Lib.OthersKept
import Derived.RangeFuncCalls
import Derived.Lay
import Derived.PinnedBridge
import Derived.LaidOnce
import Derived.Lib.LaidU8T
import Derived.WideKeyEntry
import Derived.Lib.AtoiErrMem
import Derived.Test.YthlflglkdaainaaGreatDoorPA
import Derived.Test.YthlflglkdaainaaGreatDoorPB
import Derived.Test.YthlflglkdaainaaGreatDoorPC
import Derived.Test.YthlflglkdaainaaGreatDoorPD
import Derived.Test.YthlflglkdaainaaGreatDoorPL
import Derived.Test.YthlflglkdaainaaGreatDoorPM
import Derived.Test.YthlflglkdaainaaGreatDoorPN
import Derived.Test.YthlflglkdaainaaGreatDoorPO
import Derived.Test.YthlflglkdaainaaGreatDoorPP
import Derived.Test.YthlflglkdaainaaGreatDoorPR
import Derived.Test.YthlflglkdaainaaGreatDoorPS
import Derived.Test.YthlflglkdaainaaGreatDoorPT
import Derived.Test.YthlflglkdaainaaGreatDoorPV
import Derived.Test.YthlflglkdaainaaGreatDoorPW
import Derived.Test.YthlflglkdaainaaGreatDoorPX
import Derived.Test.YthlflglkdaainaaGreatDoorPY
import Derived.Test.YthlflglkdaainaaGreatDoorPZ
/- Texts of this seat: WWords, WLast, WTab, WFour, WQPut, WApart, WArr, WZeros, WFoot, WKept, WShare, WN, WFootNe, WAt, WEqStruct, WRepsOne, WInv, WInvWords, WGuard, WNEv, WMore, T0, TEqual, T1, T2, T3, T4, T5, T11, T12, T13, TIt, TThree, TRight, TCont, TDep, TDepW, TCheck, TPath, TRs, TCmp, TClos, TLayS, TOrd, TSortF, TInj, TSrt, TSo, TMk, TRef, TRef2, TRef3, TLess, TClone, TCopy, TSort, TEq, TEqF, TSame, TRSort, TREq, TLight, TAw14, TCon, KA, KB, KD, KR, KL, KS, KO, KC, KV, KN, KM, VIt, VData, TOrdr, Vd0, VMap, VJ1, KP, VRf, TRk, VJ2, VAp, VAp2, VSW, VS1, VS2, VS3, VST, Vd1, Vd2, Vd3, VLn, VJ3, VJudge, VRn, VRd, VRj, VTu, Vd4, VTg, VRp, VRq, VLight, VAx, VAw, VLt, Seq, VApW, VApX. -/
set_option maxRecDepth 100000
set_option maxHeartbeats 8000000
set_option linter.unusedVariables false
set_option linter.unusedSimpArgs false
namespace Go.Proofs.YthlflglkdaainaaGreatDoorW.PrintWords
open Go.RowKit
namespace Kd
end Kd
namespace Kd
end Kd
namespace Kd
end Kd
namespace Kd
end Kd
namespace Kd
end Kd
namespace Kd
end Kd
namespace Kd
end Kd
namespace Kd
end Kd
namespace Kd
end Kd
namespace Kd
end Kd
namespace Kd
end Kd
namespace Kd
end Kd
namespace Kd
end Kd
namespace Kd
end Kd
namespace Kd
end Kd
section
variable {P : Program} {ops : Array Oper} {o : Oper} {a : Act} {Q : Exit → Act → World → Prop} {Kc : Act → World → Prop}
namespace Kd
variable {α : Type}
end Kd
end
namespace Kd
end Kd
end Go.Proofs.YthlflglkdaainaaGreatDoorW.PrintWords
namespace Go.Proofs.YthlflglkdaainaaGreatDoorW.PrintLast
end Go.Proofs.YthlflglkdaainaaGreatDoorW.PrintLast
namespace Go.Proofs.YthlflglkdaainaaGreatDoorW.PrintLast
open Go.Proofs.YthlflglkdaainaaGreatDoorW.PrintWords (Aside0)
end Go.Proofs.YthlflglkdaainaaGreatDoorW.PrintLast
namespace Go.Proofs.YthlflglkdaainaaGreatDoorW.PrintLast
end Go.Proofs.YthlflglkdaainaaGreatDoorW.PrintLast
namespace Go.Proofs.YthlflglkdaainaaGreatDoorW.PrintWords
open Go.RowKit
namespace Kd
end Kd
namespace Kd
end Kd
namespace Kd
end Kd
namespace Kd
end Kd
namespace Kd
end Kd
namespace Kd
end Kd
end Go.Proofs.YthlflglkdaainaaGreatDoorW.PrintWords
namespace Go.Proofs.YthlflglkdaainaaGreatDoorW.PrintWords
open Go.RowKit
namespace Foot
variable {P Q : World → Prop} {W W1 : World} {ok ok' : Nat → Prop}
end Foot
namespace Kd
end Kd
end Go.Proofs.YthlflglkdaainaaGreatDoorW.PrintWords
namespace Go.Proofs.YthlflglkdaainaaGreatDoorW.PrintWords
open Go.RowKit
namespace Kd
section
variable {α : Type} {d : Kd α} {e base n cc g : Nat} {ok ok' okp S : Nat → Prop} {w w1 W W1 : World} {A : Option Addr} {u v v1 : Value} {xs : List α} {x : α} {c : List Value}
theorem N_slice (h : N d e w base ok v xs) : ∃ A c, v = .slice A xs.length c := by
 obtain ⟨_, rows, hl, hR, _⟩ := h
 obtain ⟨A, c, he⟩ := R_slice hR
 exact ⟨A, c, by rw [he, hl]⟩
theorem N_reads (h : N d e w base ok v xs) : ∃ A c, v = .slice A xs.length c ∧ xs.length ≤ c ∧ d.C w A xs.length xs := by
 obtain ⟨A, c, rfl⟩ := N_slice h
 exact ⟨A, c, rfl, (N_reads' h).2⟩
end
end Kd
namespace Kd
end Kd
namespace Kd
end Kd
end Go.Proofs.YthlflglkdaainaaGreatDoorW.PrintWords
namespace Go.Proofs.YthlflglkdaainaaGreatDoorW.PrintWords
end Go.Proofs.YthlflglkdaainaaGreatDoorW.PrintWords
namespace Go.Proofs.YthlflglkdaainaaGreatDoorW.PrintLast
end Go.Proofs.YthlflglkdaainaaGreatDoorW.PrintLast
namespace Go.Proofs.YthlflglkdaainaaGreatDoorW.PrintWords
open Go.RowKit
end Go.Proofs.YthlflglkdaainaaGreatDoorW.PrintWords
namespace Go.Proofs.YthlflglkdaainaaGreatDoorW.PrintLast
end Go.Proofs.YthlflglkdaainaaGreatDoorW.PrintLast
namespace Go.Proofs.YthlflglkdaainaaGreatDoorW.PrintWords
open Go.RowKit
namespace Kd
section
variable {α : Type} {d : Kd α} {e base n cap g : Nat} {ok ok' okp : Nat → Prop} {w w1 W : World} {v v1 : Value} {xs ys : List α}
theorem N_appended {rows news : List (List Value)} (h0 : ∀ k, v.ownBlock = some k → ok k) (hl : rows.length = xs.length) (hf : ∀ (j : Nat) (x : α) (c : List Value), xs[j]? = some x → rows[j]? = some c → FK d W (fun k => ok k ∧ some k ≠ v.ownBlock) x c)
    (hl2 : news.length = ys.length) (hf2 : ∀ (j : Nat) (x : α) (c : List Value), ys[j]? = some x → news[j]? = some c → FK d W okp x c) (hokp : ∀ k, okp k → ok k ∧ some k ≠ v.ownBlock) (hfresh : ∀ k, W.heap.size ≤ k → ok k)
    (hR : (raw d.sz).R e w1 base (fun _ => True) v1 (rows ++ news)) (hg : W.grownBy w1 v.ownBlock) (hat : v1.ownBlock = v.ownBlock ∨ ∃ b, v1.ownBlock = some b ∧ W.heap.size ≤ b) : N d e w1 base ok v1 (xs ++ ys) := by
 have hne : ∀ k, some k ≠ v.ownBlock → k < W.heap.size → some k ≠ v1.ownBlock := by
  intro k hk hlt
  rcases hat with hat | ⟨b, hb, hle⟩
  · rw [hat]; exact hk
  · rw [hb]
    intro he
    injection he with he
    omega
 have step : ∀ {x : α} {c : List Value} {o : Nat → Prop}, FK d W o x c → (∀ k, o k → ok k ∧ some k ≠ v.ownBlock) → FK d w1 (fun k => ok k ∧ some k ≠ v1.ownBlock) x c := by
  intro x c o hq ho
  exact FK_mono (FK_step (FK_bound hq) (fun k hk hlt => hg.block k hlt (ho k hk.1).2)) (fun k hk => ⟨(ho k hk.1).1, hne k (ho k hk.1).2 hk.2⟩)
 refine ⟨fun k hk => ?_, rows ++ news, by rw [List.length_append, List.length_append, hl, hl2], raw_tight hR, fun j x c hx hc => ?_⟩
 · rcases hat with hat | ⟨b, hb, hle⟩
   · exact h0 k (hat ▸ hk)
   · rw [hb] at hk
     injection hk with hk
     exact hfresh k (by omega)
 · rcases Nat.lt_or_ge j xs.length with hlt | hge
   · rw [List.getElem?_append_left hlt] at hx
     rw [List.getElem?_append_left (by omega)] at hc
     exact step (hf j x c hx hc) (fun _ hk => hk)
   · rw [List.getElem?_append_right hge] at hx
     rw [List.getElem?_append_right (by omega), hl] at hc
     exact step (hf2 _ x c hx hc) hokp
theorem FK_raw {x : α} {c : List Value} (h : FK d W ok x c) : c = c ∧ c.length = d.sz ∧ ∀ u ∈ c, u.oneCell' = true := ⟨rfl, d.K_len (FK_now h), d.K_one (FK_now h)⟩
end
end Kd
end Go.Proofs.YthlflglkdaainaaGreatDoorW.PrintWords
namespace Go.Proofs.YthlflglkdaainaaGreatDoorW.PrintMore
open Go.RowKit Go.Proofs.YthlflglkdaainaaGreatDoorW.PrintWords
namespace Kd
open Go.Proofs.YthlflglkdaainaaGreatDoorW.PrintWords.Kd
end Kd
namespace Kd
open Go.Proofs.YthlflglkdaainaaGreatDoorW.PrintWords.Kd
end Kd
end Go.Proofs.YthlflglkdaainaaGreatDoorW.PrintMore
namespace Go.Proofs.YthlflglkdaainaaGreatDoorW.PrintWords
open Go.RowKit
namespace Kd
end Kd
end Go.Proofs.YthlflglkdaainaaGreatDoorW.PrintWords
namespace Go.Proofs.YthlflglkdaainaaGreatDoorW.PrintWords
open Go.RowKit
namespace Kd
end Kd
end Go.Proofs.YthlflglkdaainaaGreatDoorW.PrintWords
namespace Go.Proofs.YthlflglkdaainaaGreatDoor.Prt
open Go.RowKit Go.Proofs.YthlflglkdaainaaGreatDoorW.PrintWords Go.Proofs.YthlflglkdaainaaGreatDoorW.PrintLast Go.Proofs.YthlflglkdaainaaGreatDoorW.PrintMore
attribute [local go_sem] max2_int min2_int max_two min_two max_three min_three max_four min_four   -- for this text's walks alone
set_option linter.unusedVariables false
set_option linter.unusedSimpArgs false
attribute [local go_sem] max2_int min2_int max_two min_two max_three min_three max_four min_four   -- for this text's walks alone
set_option linter.unusedVariables false
set_option linter.unusedSimpArgs false
attribute [local go_sem] max2_int min2_int max_two min_two max_three min_three max_four min_four   -- for this text's walks alone
set_option linter.unusedVariables false
set_option linter.unusedSimpArgs false
attribute [local go_sem] max2_int min2_int max_two min_two max_three min_three max_four min_four   -- for this text's walks alone
set_option linter.unusedVariables false
set_option linter.unusedSimpArgs false
attribute [local go_sem] max2_int min2_int max_two min_two max_three min_three max_four min_four   -- for this text's walks alone
set_option linter.unusedVariables false
set_option linter.unusedSimpArgs false
attribute [local go_sem] max2_int min2_int max_two min_two max_three min_three max_four min_four   -- for this text's walks alone
set_option linter.unusedVariables false
set_option linter.unusedSimpArgs false
attribute [local go_sem] max2_int min2_int max_two min_two max_three min_three max_four min_four   -- for this text's walks alone
set_option linter.unusedVariables false
set_option linter.unusedSimpArgs false
attribute [local go_sem] max2_int min2_int max_two min_two max_three min_three max_four min_four   -- for this text's walks alone
set_option linter.unusedVariables false
set_option linter.unusedSimpArgs false
attribute [local go_sem] max2_int min2_int max_two min_two max_three min_three max_four min_four   -- for this text's walks alone
set_option linter.unusedVariables false
set_option linter.unusedSimpArgs false
attribute [local go_sem] max2_int min2_int max_two min_two max_three min_three max_four min_four   -- for this text's walks alone
set_option linter.unusedVariables false
set_option linter.unusedSimpArgs false
end Go.Proofs.YthlflglkdaainaaGreatDoor.Prt
namespace Go.Proofs.YthlflglkdaainaaGreatDoor.Tr
open Go.RowKit Go.Lib Go.Joins Go.ChangeShapes Go.Deep Go.Proofs.YthlflglkdaainaaGreatDoorW.PrintWords Go.Proofs.YthlflglkdaainaaGreatDoor.Prt
end Go.Proofs.YthlflglkdaainaaGreatDoor.Tr
namespace Go.Proofs.YthlflglkdaainaaGreatDoor.Tr
open Go.RowKit Go.Lib Go.Proofs.YthlflglkdaainaaGreatDoorW.PrintWords Go.Proofs.YthlflglkdaainaaGreatDoor.Prt
end Go.Proofs.YthlflglkdaainaaGreatDoor.Tr
namespace Go.Proofs.YthlflglkdaainaaGreatDoor.Tr
open Go.RowKit Go.Lib Go.Maps Go.Proofs.YthlflglkdaainaaGreatDoorW.PrintWords Go.Proofs.YthlflglkdaainaaGreatDoor.Prt
end Go.Proofs.YthlflglkdaainaaGreatDoor.Tr
namespace Go.Proofs.YthlflglkdaainaaGreatDoor.Tr
open Go.RowKit Go.Lib Go.Maps Go.Proofs.YthlflglkdaainaaGreatDoorW.PrintWords Go.Proofs.YthlflglkdaainaaGreatDoorW.PrintLast Go.Proofs.YthlflglkdaainaaGreatDoorW.PrintMore Go.Proofs.YthlflglkdaainaaGreatDoor.Prt
end Go.Proofs.YthlflglkdaainaaGreatDoor.Tr
namespace Go.Proofs.YthlflglkdaainaaGreatDoor.Tr
open Go.RowKit Go.Lib Go.Proofs.YthlflglkdaainaaGreatDoorW.PrintWords Go.Proofs.YthlflglkdaainaaGreatDoorW.PrintLast Go.Proofs.YthlflglkdaainaaGreatDoorW.PrintMore Go.Proofs.YthlflglkdaainaaGreatDoor.Prt
attribute [local go_sem] gtr_s
end Go.Proofs.YthlflglkdaainaaGreatDoor.Tr
namespace Go.Proofs.YthlflglkdaainaaGreatDoor.Tr
open Go.RowKit
end Go.Proofs.YthlflglkdaainaaGreatDoor.Tr
namespace Go.Proofs.YthlflglkdaainaaGreatDoor.Tr
open Go.RowKit Go.Lib
end Go.Proofs.YthlflglkdaainaaGreatDoor.Tr
namespace Go.Proofs.YthlflglkdaainaaGreatDoor.Tr
open Go.RowKit Go.Lib Go.Sort Go.Shelf Go.Proofs.YthlflglkdaainaaGreatDoorW.PrintWords Go.Proofs.YthlflglkdaainaaGreatDoorW.PrintLast Go.Proofs.YthlflglkdaainaaGreatDoorW.PrintMore Go.Proofs.YthlflglkdaainaaGreatDoor.Prt
end Go.Proofs.YthlflglkdaainaaGreatDoor.Tr
namespace Go.Proofs.YthlflglkdaainaaGreatDoor.Tr
open Go.RowKit Go.Lib
end Go.Proofs.YthlflglkdaainaaGreatDoor.Tr
namespace Go.Proofs.YthlflglkdaainaaGreatDoor.Tr
open Go.RowKit Go.Lib Go.Sort Go.Shelf Go.Proofs.YthlflglkdaainaaGreatDoorW.PrintWords Go.Proofs.YthlflglkdaainaaGreatDoorW.PrintLast Go.Proofs.YthlflglkdaainaaGreatDoorW.PrintMore Go.Proofs.YthlflglkdaainaaGreatDoor.Prt
end Go.Proofs.YthlflglkdaainaaGreatDoor.Tr
namespace Go.Proofs.YthlflglkdaainaaGreatDoor.Tr
open Go.RowKit Go.Lib Go.Proofs.YthlflglkdaainaaGreatDoorW.PrintWords Go.Proofs.YthlflglkdaainaaGreatDoorW.PrintLast Go.Proofs.YthlflglkdaainaaGreatDoorW.PrintMore Go.Proofs.YthlflglkdaainaaGreatDoor.Prt
end Go.Proofs.YthlflglkdaainaaGreatDoor.Tr
namespace Go.Proofs.YthlflglkdaainaaGreatDoor.Tr
open Go.RowKit Go.Lib Go.Sort Go.Shelf Go.Proofs.YthlflglkdaainaaGreatDoorW.PrintWords Go.Proofs.YthlflglkdaainaaGreatDoorW.PrintLast Go.Proofs.YthlflglkdaainaaGreatDoorW.PrintMore Go.Proofs.YthlflglkdaainaaGreatDoor.Prt
end Go.Proofs.YthlflglkdaainaaGreatDoor.Tr
namespace Go.Proofs.YthlflglkdaainaaGreatDoor.Tr
open Go.RowKit Go.Lib Go.Proofs.YthlflglkdaainaaGreatDoorW.PrintWords Go.Proofs.YthlflglkdaainaaGreatDoorW.PrintLast Go.Proofs.YthlflglkdaainaaGreatDoorW.PrintMore Go.Proofs.YthlflglkdaainaaGreatDoor.Prt
end Go.Proofs.YthlflglkdaainaaGreatDoor.Tr
namespace Go.Proofs.YthlflglkdaainaaGreatDoor
open Go.Shelf
end Go.Proofs.YthlflglkdaainaaGreatDoor
namespace Go.Proofs.YthlflglkdaainaaGreatDoor
open Go.RowKit
end Go.Proofs.YthlflglkdaainaaGreatDoor
namespace Go.Proofs.YthlflglkdaainaaGreatDoor
open Go.RowKit
end Go.Proofs.YthlflglkdaainaaGreatDoor
namespace Go.Proofs.YthlflglkdaainaaGreatDoor
open Go.RowKit
end Go.Proofs.YthlflglkdaainaaGreatDoor
namespace Go.Proofs.YthlflglkdaainaaGreatDoor
end Go.Proofs.YthlflglkdaainaaGreatDoor
namespace Go.Proofs.YthlflglkdaainaaGreatDoor
end Go.Proofs.YthlflglkdaainaaGreatDoor
namespace Go.Proofs.YthlflglkdaainaaGreatDoor
end Go.Proofs.YthlflglkdaainaaGreatDoor
namespace Go.Proofs.YthlflglkdaainaaGreatDoor
end Go.Proofs.YthlflglkdaainaaGreatDoor
namespace Go.Proofs.YthlflglkdaainaaGreatDoor
open Go.RowKit
end Go.Proofs.YthlflglkdaainaaGreatDoor
namespace Go.Proofs.YthlflglkdaainaaGreatDoor
open Go.RowKit
end Go.Proofs.YthlflglkdaainaaGreatDoor
namespace Go.Proofs.YthlflglkdaainaaGreatDoor
open Go.RowKit
end Go.Proofs.YthlflglkdaainaaGreatDoor
namespace Go.Proofs.YthlflglkdaainaaGreatDoor
open Go.RowKit
end Go.Proofs.YthlflglkdaainaaGreatDoor
namespace Go.Proofs.YthlflglkdaainaaGreatDoor
open Go.RowKit
end Go.Proofs.YthlflglkdaainaaGreatDoor
namespace Go.Proofs.YthlflglkdaainaaGreatDoor
end Go.Proofs.YthlflglkdaainaaGreatDoor
namespace Go.Proofs.YthlflglkdaainaaGreatDoor
open Go.RowKit
end Go.Proofs.YthlflglkdaainaaGreatDoor
namespace Go.Proofs.YthlflglkdaainaaGreatDoor
end Go.Proofs.YthlflglkdaainaaGreatDoor
namespace Go.Proofs.YthlflglkdaainaaGreatDoor
open Go.RowKit
end Go.Proofs.YthlflglkdaainaaGreatDoor
namespace Go.Proofs.YthlflglkdaainaaGreatDoor
open Go.RowKit
end Go.Proofs.YthlflglkdaainaaGreatDoor
namespace Go.Proofs.YthlflglkdaainaaGreatDoor
open Go.RowKit Go.Shelf
attribute [local go_sem] Oper.semAt_some
end Go.Proofs.YthlflglkdaainaaGreatDoor
namespace Go.Proofs.YthlflglkdaainaaGreatDoor
open Go.RowKit Go.Shelf
attribute [local go_sem] Oper.semAt_some
end Go.Proofs.YthlflglkdaainaaGreatDoor
namespace Go.Proofs.YthlflglkdaainaaGreatDoor
open Go.RowKit Go.Shelf
attribute [local go_sem] Oper.semAt_some
end Go.Proofs.YthlflglkdaainaaGreatDoor
namespace Go.Proofs.YthlflglkdaainaaGreatDoor
open Go.RowKit Go.Shelf
attribute [local go_sem] Oper.semAt_some
end Go.Proofs.YthlflglkdaainaaGreatDoor
namespace Go.Proofs.YthlflglkdaainaaGreatDoor
open Go.RowKit
end Go.Proofs.YthlflglkdaainaaGreatDoor
namespace Go.Proofs.YthlflglkdaainaaGreatDoor
open Go.RowKit
end Go.Proofs.YthlflglkdaainaaGreatDoor
namespace Go.Proofs.YthlflglkdaainaaGreatDoor
open Go.RowKit
end Go.Proofs.YthlflglkdaainaaGreatDoor
namespace Go.Proofs.YthlflglkdaainaaGreatDoor
open Go.RowKit
end Go.Proofs.YthlflglkdaainaaGreatDoor
namespace Go.Proofs.YthlflglkdaainaaGreatDoor
open Go.RowKit
end Go.Proofs.YthlflglkdaainaaGreatDoor
namespace Go.Proofs.YthlflglkdaainaaGreatDoor
open Go.RowKit
end Go.Proofs.YthlflglkdaainaaGreatDoor
namespace Go.Proofs.YthlflglkdaainaaGreatDoor
open Go.RowKit
end Go.Proofs.YthlflglkdaainaaGreatDoor
namespace Go.Proofs.YthlflglkdaainaaGreatDoor
open Go.RowKit
end Go.Proofs.YthlflglkdaainaaGreatDoor
namespace Go.Proofs.YthlflglkdaainaaGreatDoor
open Go.RowKit
end Go.Proofs.YthlflglkdaainaaGreatDoor
namespace Go.Proofs.YthlflglkdaainaaGreatDoor
open Go.RowKit
end Go.Proofs.YthlflglkdaainaaGreatDoor
namespace Go.Proofs.YthlflglkdaainaaGreatDoor
open Go.RowKit
end Go.Proofs.YthlflglkdaainaaGreatDoor
namespace Go.Proofs.YthlflglkdaainaaGreatDoor
open Go.RowKit
end Go.Proofs.YthlflglkdaainaaGreatDoor
namespace Go.Proofs.YthlflglkdaainaaGreatDoor
open Go.RowKit
end Go.Proofs.YthlflglkdaainaaGreatDoor
namespace Go.Proofs.YthlflglkdaainaaGreatDoor
open Go.ChangeShapes Go.WideShapes Go.ChangeAt Go.RowKit
end Go.Proofs.YthlflglkdaainaaGreatDoor
namespace Go.Proofs.YthlflglkdaainaaGreatDoor
open Go.RowKit
end Go.Proofs.YthlflglkdaainaaGreatDoor
namespace Go.Proofs.YthlflglkdaainaaGreatDoor
end Go.Proofs.YthlflglkdaainaaGreatDoor
namespace Go.Proofs.YthlflglkdaainaaGreatDoor
open Go.Sort
end Go.Proofs.YthlflglkdaainaaGreatDoor
namespace Go.Proofs.YthlflglkdaainaaGreatDoor
open Go.Sort
end Go.Proofs.YthlflglkdaainaaGreatDoor
namespace Go.Proofs.YthlflglkdaainaaGreatDoor
open Go.Sort
end Go.Proofs.YthlflglkdaainaaGreatDoor
namespace Go.Proofs.YthlflglkdaainaaGreatDoor
open Go.Shelf Go.RowKit Go.Lib Go.Sort
variable {α : Type} [Inhabited α] {P : Program}
end Go.Proofs.YthlflglkdaainaaGreatDoor
namespace Go.Proofs.YthlflglkdaainaaGreatDoor
open Go.Shelf Go.RowKit Go.Lib Go.Sort
variable {α : Type} [Inhabited α] {P : Program}
end Go.Proofs.YthlflglkdaainaaGreatDoor
namespace Go.Proofs.YthlflglkdaainaaGreatDoor
open Go.Shelf Go.RowKit Go.Lib Go.Sort
variable {α : Type} [Inhabited α] {P : Program}
end Go.Proofs.YthlflglkdaainaaGreatDoor
namespace Go.Proofs.YthlflglkdaainaaGreatDoor
open Go.Shelf Go.RowKit Go.Lib Go.Sort
variable {α : Type} [Inhabited α] {P : Program}
end Go.Proofs.YthlflglkdaainaaGreatDoor
namespace Go.Proofs.YthlflglkdaainaaGreatDoor
open Go.Shelf Go.RowKit Go.Lib Go.Sort
variable {α : Type} [Inhabited α]
variable (enc : α → List Value) (cf : α → α → Int) (g : Nat) (cb : Array Value) (blk off cap : Nat) (d0 : Array α) (w0 : World) (eg : ∀ args w, (callFunc g args).run Tryz.prog w = .ok (.enter g args) w) (hcmp : CmpLays Tryz.prog g cb enc 2 cf blk off d0.size w0) (R : RowK enc 2 w0 blk off d0) (hsz : d0.size < 4611686018427387904)
include eg hcmp R hsz
end Go.Proofs.YthlflglkdaainaaGreatDoor
namespace Go.Proofs.YthlflglkdaainaaGreatDoor
open Go.RowKit
end Go.Proofs.YthlflglkdaainaaGreatDoor
namespace Go.Proofs.YthlflglkdaainaaGreatDoor
open Go.RowKit
end Go.Proofs.YthlflglkdaainaaGreatDoor
namespace Go.Proofs.YthlflglkdaainaaGreatDoor
open Go.RowKit
end Go.Proofs.YthlflglkdaainaaGreatDoor
namespace Go.Proofs.YthlflglkdaainaaGreatDoor
open Go.Shelf Go.RowKit Go.Lib Go.Sort
end Go.Proofs.YthlflglkdaainaaGreatDoor
namespace Go.Proofs.YthlflglkdaainaaGreatDoor
open Go.Shelf Go.RowKit Go.Lib Go.Sort
variable {n₀ Br Bo : Nat} {R O : List Nat} {vr vo : Value} {W W' : World}
end Go.Proofs.YthlflglkdaainaaGreatDoor
namespace Go.Proofs.YthlflglkdaainaaGreatDoor
open Go.Shelf Go.RowKit Go.Lib Go.Sort
end Go.Proofs.YthlflglkdaainaaGreatDoor
namespace Go.Proofs.YthlflglkdaainaaGreatDoor
open Go.RowKit
end Go.Proofs.YthlflglkdaainaaGreatDoor
namespace Go.Proofs.YthlflglkdaainaaGreatDoor
end Go.Proofs.YthlflglkdaainaaGreatDoor
namespace Go.Proofs.YthlflglkdaainaaGreatDoor
end Go.Proofs.YthlflglkdaainaaGreatDoor
namespace Go.Proofs.YthlflglkdaainaaGreatDoor
end Go.Proofs.YthlflglkdaainaaGreatDoor
namespace Go.Proofs.YthlflglkdaainaaGreatDoor
open Go.RowKit
end Go.Proofs.YthlflglkdaainaaGreatDoor
namespace Go.Proofs.YthlflglkdaainaaGreatDoor
open Go.RowKit
end Go.Proofs.YthlflglkdaainaaGreatDoor
namespace Go.Proofs.YthlflglkdaainaaGreatDoor
open Go.RowKit
end Go.Proofs.YthlflglkdaainaaGreatDoor
namespace Go.Proofs.YthlflglkdaainaaGreatDoor
open Go.RowKit
end Go.Proofs.YthlflglkdaainaaGreatDoor
namespace Go.Proofs.YthlflglkdaainaaGreatDoor
open Go.RowKit
end Go.Proofs.YthlflglkdaainaaGreatDoor
namespace Go.Proofs.YthlflglkdaainaaGreatDoor
open Go.RowKit
end Go.Proofs.YthlflglkdaainaaGreatDoor
namespace Go.Proofs.YthlflglkdaainaaGreatDoor
open Go.RowKit Go.Lib
end Go.Proofs.YthlflglkdaainaaGreatDoor
namespace Go.Proofs.YthlflglkdaainaaGreatDoor
open Go.RowKit Go.Lib
end Go.Proofs.YthlflglkdaainaaGreatDoor
namespace Go.Proofs.YthlflglkdaainaaGreatDoor
open Go.RowKit
end Go.Proofs.YthlflglkdaainaaGreatDoor
namespace Go.Proofs.YthlflglkdaainaaGreatDoor
open Go.RowKit
end Go.Proofs.YthlflglkdaainaaGreatDoor
namespace Go.Proofs.YthlflglkdaainaaGreatDoor
open Go.RowKit
end Go.Proofs.YthlflglkdaainaaGreatDoor
namespace Go.Proofs.YthlflglkdaainaaGreatDoor
open Go.RowKit
end Go.Proofs.YthlflglkdaainaaGreatDoor
namespace Go.Proofs.YthlflglkdaainaaGreatDoor
open Go.RowKit
end Go.Proofs.YthlflglkdaainaaGreatDoor
namespace Go.Proofs.YthlflglkdaainaaGreatDoor
open Go.RowKit Go.Shelf
attribute [local go_sem] Oper.semAt_some
end Go.Proofs.YthlflglkdaainaaGreatDoor
namespace Go.Proofs.YthlflglkdaainaaGreatDoor
open Go.RowKit
end Go.Proofs.YthlflglkdaainaaGreatDoor
namespace Go.Proofs.YthlflglkdaainaaGreatDoor
open Go.Lib
end Go.Proofs.YthlflglkdaainaaGreatDoor
namespace Go.Proofs.YthlflglkdaainaaGreatDoor
end Go.Proofs.YthlflglkdaainaaGreatDoor
namespace Go.Proofs.YthlflglkdaainaaGreatDoor
open Go.RowKit Go.Lib
end Go.Proofs.YthlflglkdaainaaGreatDoor
namespace Go.Proofs.YthlflglkdaainaaGreatDoor
open Go.RowKit Go.Lib
end Go.Proofs.YthlflglkdaainaaGreatDoor
namespace Go.Proofs.YthlflglkdaainaaGreatDoor
open Go.RowKit Go.Shelf
attribute [local go_sem] Oper.semAt_some
end Go.Proofs.YthlflglkdaainaaGreatDoor
namespace Go.Proofs.YthlflglkdaainaaGreatDoor
open Go.RowKit Go.Lib
end Go.Proofs.YthlflglkdaainaaGreatDoor
namespace Go.Proofs.YthlflglkdaainaaGreatDoor
open Go.ChangeShapes Go.WideShapes Go.ChangeAt Go.RowKit Go.Lib Go.Shelf
theorem bounds_u8 {n : Int} (h : (Lit.int .u8 n).wf = true) : 0 ≤ n ∧ n < 256 := by
 have : 0 ≤ n ∧ n ≤ 255 := by simpa [Lit.wf, IntKind.min, IntKind.max, IntKind.signed, IntKind.bits] using h
 omega
end Go.Proofs.YthlflglkdaainaaGreatDoor
namespace Go.Proofs.YthlflglkdaainaaGreatDoor
open Go.RowKit Go.Lib
end Go.Proofs.YthlflglkdaainaaGreatDoor
namespace Go.Proofs.YthlflglkdaainaaGreatDoor
open Go.RowKit Go.Lib
end Go.Proofs.YthlflglkdaainaaGreatDoor
namespace Go.Proofs.YthlflglkdaainaaGreatDoor.Tr
open Go.RowKit Go.Lib Go.Joins Go.ChangeShapes Go.Deep Go.Proofs.YthlflglkdaainaaGreatDoorW.PrintWords Go.Proofs.YthlflglkdaainaaGreatDoorW.PrintLast Go.Proofs.YthlflglkdaainaaGreatDoorW.PrintMore Go.Proofs.YthlflglkdaainaaGreatDoor.Prt
end Go.Proofs.YthlflglkdaainaaGreatDoor.Tr
namespace Go.Proofs.YthlflglkdaainaaGreatDoor.Tr
open Go.RowKit Go.Lib Go.Proofs.YthlflglkdaainaaGreatDoorW.PrintWords Go.Proofs.YthlflglkdaainaaGreatDoorW.PrintLast Go.Proofs.YthlflglkdaainaaGreatDoorW.PrintMore Go.Proofs.YthlflglkdaainaaGreatDoor.Prt
section
variable {L : List It} (h14 : checkN L ≠ 14)
include h14
end
end Go.Proofs.YthlflglkdaainaaGreatDoor.Tr
namespace Go.Proofs.YthlflglkdaainaaGreatDoor.Tr
open Go.RowKit Go.Lib Go.Maps Go.Proofs.YthlflglkdaainaaGreatDoorW.PrintWords Go.Proofs.YthlflglkdaainaaGreatDoorW.PrintLast Go.Proofs.YthlflglkdaainaaGreatDoorW.PrintMore Go.Proofs.YthlflglkdaainaaGreatDoor.Prt
end Go.Proofs.YthlflglkdaainaaGreatDoor.Tr
namespace Go.Proofs.YthlflglkdaainaaGreatDoor
open Go.Lib
end Go.Proofs.YthlflglkdaainaaGreatDoor
namespace Go.Proofs.YthlflglkdaainaaGreatDoor
open Go.RowKit Go.Lib
end Go.Proofs.YthlflglkdaainaaGreatDoor
namespace Go.Proofs.YthlflglkdaainaaGreatDoor
open Go.RowKit Go.Lib
end Go.Proofs.YthlflglkdaainaaGreatDoor
namespace Go.Proofs.YthlflglkdaainaaGreatDoor
open Go.RowKit Go.Lib
end Go.Proofs.YthlflglkdaainaaGreatDoor
namespace Go.Proofs.YthlflglkdaainaaGreatDoor.Tr
open Go.RowKit Go.Lib Go.Proofs.YthlflglkdaainaaGreatDoorW.PrintWords Go.Proofs.YthlflglkdaainaaGreatDoorW.PrintLast Go.Proofs.YthlflglkdaainaaGreatDoorW.PrintMore Go.Proofs.YthlflglkdaainaaGreatDoor.Prt
end Go.Proofs.YthlflglkdaainaaGreatDoor.Tr
namespace Go.Proofs.YthlflglkdaainaaGreatDoor.Tr
open Go.RowKit Go.Lib Go.Maps Go.Proofs.YthlflglkdaainaaGreatDoorW.PrintWords Go.Proofs.YthlflglkdaainaaGreatDoorW.PrintLast Go.Proofs.YthlflglkdaainaaGreatDoorW.PrintMore Go.Proofs.YthlflglkdaainaaGreatDoor.Prt
theorem cnt_all_snoc (L : List It) (y : It) (p : Int) (c : List UInt8) (h : y.f0 ≠ p) : cntN (L ++ [y]) (L ++ [y]).length p c = cntN L L.length p c := by
 unfold cntN
 rw [List.take_length, List.take_length, List.countP_append]
 simp [h]
theorem jNm_more (L : List It) (x y : It) (h : x.f0 ≠ y.f0) : jNm (L ++ [y]) x = jNm L x := by
 unfold jNm
 cases cmB x with
 | none => rfl
 | some c =>
  show (if 48 < c.length then _ else if 1 < cntN (L ++ [y]) (L ++ [y]).length x.f0 c then _ else _) = (if 48 < c.length then _ else if 1 < cntN L L.length x.f0 c then _ else _)
  rw [cnt_all_snoc L y x.f0 c fun q => h q.symm]
theorem vdI_more (L : List It) (x y : It) : (x.f0 ≠ y.f0 → (vdI (L ++ [y]) x).f0 = (vdI L x).f0 ∧ (vdI (L ++ [y]) x).f1 = (vdI L x).f1) ∧ (vdI (L ++ [y]) x).f2 = (vdI L x).f2 ∧ (vdI (L ++ [y]) x).f3 = (vdI L x).f3 := by
 refine ⟨fun h => ?_, rfl, rfl⟩
 unfold vdI
 rw [jNm_more L x y h]
 exact ⟨rfl, rfl⟩
theorem vdA_at (L : List It) (y : It) {n : Nat} (h : n < L.length) : (vdL L).getD n zVd = vdI L L[n] ∧ (vdL (L ++ [y])).getD n zVd = vdI (L ++ [y]) L[n] := by
 constructor
 · rw [List.getD_eq_getElem?_getD, vdL, List.getElem?_map, List.getElem?_eq_getElem h]; rfl
 · rw [List.getD_eq_getElem?_getD, vdL, List.getElem?_map, List.getElem?_append_left h, List.getElem?_eq_getElem h]; rfl
theorem wf_snoc {L : List It} (h : WfL L) {k : Nat} (hk : k ≤ 100000) {s : ByteArray} (hs : s.size ≤ maxLen) : WfL (L ++ [⟨(k : Int), s, false, [120]⟩]) := by
 intro x hx
 rcases List.mem_append.1 hx with h1 | h1
 · exact h x h1
 · rw [List.mem_singleton] at h1
   subst h1
   refine ⟨?_, ?_, hs, ?_, ?_⟩
   · show (-9223372036854775808 : Int) ≤ (k : Int); omega
   · show (k : Int) ≤ 9223372036854775807; omega
   · intro b hb
     have : b = 120 := by simpa using hb
     subst this; decide
   · show [120].length ≤ maxLen; decide
def Cap3 (c : List Value) : Prop := ∃ A3 l3 c3, c[3]? = some (.slice A3 l3 c3) ∧ c3 ≤ maxLen ∧ (A3 = none → c3 = 0)
theorem caps_rows {W : World} {base : Nat} {v : Value} {L : List It} {ok ok2 : Nat → Prop} {b2 : Nat} (h : Kd.R kIt 53 W base ok v L) {rows : List (List Value)} (hl : rows.length = L.length) (hR : Kd.R (Kd.raw kIt.sz) 53 W b2 ok2 v rows) (j : Nat) (c : List Value) (hc : rows[j]? = some c) : Cap3 c := by
 obtain ⟨hj, rfl⟩ := List.getElem?_eq_some_iff.1 hc
 obtain ⟨g, cap, e, _⟩ := Kd.R_form h (by omega)
 subst e
 obtain ⟨ad, A3, l3, c3, e1, e2, e3, e4⟩ := cap_of_R h j (by omega)
 cases e1
 obtain ⟨cs, hM, hcell⟩ := r_at hR j hj
 obtain ⟨e5, e6, _⟩ := hM
 subst e5
 have h3 : 3 < rows[j].length := by rw [e6]; decide
 refine ⟨A3, l3, c3, ?_, e3, e4⟩
 have := (hcell 3 _ (List.getElem?_eq_getElem h3)).1
 rw [add_at0] at e2
 rw [List.getElem?_eq_getElem h3, ← this]
 exact e2
theorem rows_caps {W : World} {base n c : Nat} {A : Option Addr} {ok : Nat → Prop} {rows : List (List Value)} (hR : Kd.R (Kd.raw kIt.sz) 53 W base ok (.slice A n c) rows) (h : ∀ (j : Nat) (c : List Value), rows[j]? = some c → Cap3 c) : CapR W A n := by
 intro j hj
 obtain ⟨hn, _⟩ := Kd.R_reads' hR
 have hjl : j < rows.length := by omega
 obtain ⟨g, cap, e, _⟩ := Kd.R_form hR (by omega)
 cases e
 obtain ⟨cs, hM, hcell⟩ := r_at hR j hjl
 obtain ⟨e5, e6, _⟩ := hM
 subst e5
 obtain ⟨A3, l3, c3, e2, e3, e4⟩ := h j _ (List.getElem?_eq_getElem hjl)
 refine ⟨⟨g, 0, none⟩, A3, l3, c3, rfl, ?_, e3, e4⟩
 rw [add_at0]
 exact (hcell 3 _ e2).1
section
variable {ops : Array Oper} {rest : List Oper} {o : Oper} {a : Act} {Q : Exit → Act → World → Prop}
theorem item_append {w0 W : World} (base : Nat) (hgd : o.guard = none) (s x : Operand) (ho : o.op = .call { callee := .builtin .append, args := #[s, x], argTypes := #[22, 22] })
    (v : Value) (L : List It) (p : It) (cs : List Value) (hs : a.eval s = v) (hx : a.eval x = .slice (some ⟨W.heap.size, 0, none⟩) 1 1) (hp : Kd.FK kIt W (fun k => some k ≠ v.ownBlock) p cs) (hcap : Cap3 cs)
    (HO : Kd.R kIt 53 W base (fun _ => True) v L) (HB : Below base w0 W) (hbase : base ≤ W.heap.size) (hl : L.length + 1 ≤ 1000000)
    (h : ∀ A c w1, L.length + 1 ≤ c → Kd.C kIt w1 A (L.length + 1) (L ++ [p]) → CapR w1 A (L.length + 1) → Below base w0 w1 → wpList Tryz.prog ops Q rest (a.put o.dst (.slice A (L.length + 1) c)) w1) :
    wpList Tryz.prog ops Q (o :: rest) a (W.alloc (.cells cs.toArray 53)) := by
 obtain ⟨h0, rows, hlr, hR, hf⟩ := Kd.R_N HO
 have hrc := fun j c => caps_rows HO hlr hR j c
 refine Kd.R_append (Kd.raw kIt.sz) base hgd s x 22 53 (.agg #[(.int .i64 0), (.string ⟨#[]⟩), (.bool false), (.slice none 0 0)]) 56 ho Tryz.underlying22 info53 rfl (by decide) (by omega) v rows cs cs (fun _ => True) (fun _ => False) hs hx (Kd.FK_raw hp) (fun _ hk => hk.elim) (fun _ _ => trivial) (Kd.raw_any hR) HB hbase (by rw [hlr]; omega) ?_
 intro v1 w1 hr hb hg hat
 have hN := Kd.N_appended h0 hlr hf (ys := [p]) (news := [cs]) rfl (fun j y c hy hc => by
  rcases j with _ | j
  · simp only [List.getElem?_cons_zero, Option.some.injEq] at hy hc
    rw [← hy, ← hc]; exact hp
  · simp at hy) (fun k hk => ⟨trivial, hk⟩) (fun _ _ => trivial) hr hg hat
 obtain ⟨A, c, rfl, hc1, hC⟩ := Kd.N_reads hN
 have hln : (L ++ [p]).length = L.length + 1 := by rw [List.length_append]; rfl
 rw [hln] at hc1 hC hr ⊢
 exact h A c w1 hc1 hC (rows_caps hr fun j c hc => by
  rcases Nat.lt_or_ge j rows.length with h1 | h1
  · rw [List.getElem?_append_left h1] at hc
    exact hrc j c hc
  · rw [List.getElem?_append_right h1] at hc
    rcases hq : j - rows.length with _ | q
    · rw [hq] at hc
      simp only [List.getElem?_cons_zero, Option.some.injEq] at hc
      rw [← hc]; exact hcap
    · rw [hq] at hc; simp at hc) hb
end
theorem x_C (w2 W' : World) (h : W'.heap[w2.heap.size]? = (w2.alloc (Obj.cells #[.int .u8 120] 5 (1, 2))).heap[w2.heap.size]?) : (Kd.int .u8).C W' (some ⟨w2.heap.size, 0, none⟩) 1 [120] := by
 refine ⟨rfl, by decide, fun _ => ⟨_, rfl, fun j p hj => ?_⟩⟩
 match j, hj with
 | 0, hj =>
  cases hj
  refine ⟨[.int .u8 120], rfl, rfl, fun i u hu => ?_⟩
  match i, hu with
  | 0, hu =>
   show W'.cell? (Addr.add ⟨_, 0, none⟩ (0 * 1 + 0)) = _
   rw [add_at0]
   have h2 : W'.heap[w2.heap.size]? = some (Obj.cells #[.int .u8 120] 5 (1, 2)) := by
    rw [h]
    show (w2.heap.push _)[w2.heap.size]? = _
    simp
   simp only [World.cell?, h2]
   exact hu
  | i + 1, hu => simp at hu
 | j + 1, hj => simp at hj
theorem x_FK (w2 : World) (k : Int) (s : ByteArray) {okp : Nat → Prop} (h : okp w2.heap.size) : Kd.FK kIt (w2.alloc (Obj.cells #[.int .u8 120] 5 (1, 2))) okp ⟨k, s, false, [120]⟩ [.int .i64 k, .string s, .bool false, .slice (some ⟨w2.heap.size, 0, none⟩) 1 1] := fun W' hW => k53_mk W' ⟨k, s, false, [120]⟩ (Nat.le_refl _) (x_C w2 W' (hW _ h (by rw [World.size_alloc]; omega)))
end Go.Proofs.YthlflglkdaainaaGreatDoor.Tr
namespace Go.Proofs.YthlflglkdaainaaGreatDoor.Tr
open Go.Shelf Go.RowKit Go.Lib Go.Sort
variable {α : Type} [Inhabited α] {P : Program}
end Go.Proofs.YthlflglkdaainaaGreatDoor.Tr
namespace Go.Proofs.YthlflglkdaainaaGreatDoor.Tr
open Go.Shelf Go.RowKit Go.Lib Go.Sort
variable {α : Type} [Inhabited α] {P : Program}
end Go.Proofs.YthlflglkdaainaaGreatDoor.Tr
namespace Go.Proofs.YthlflglkdaainaaGreatDoor.Tr
open Go.Shelf Go.RowKit Go.Lib Go.Sort
variable {α : Type} [Inhabited α] {P : Program}
end Go.Proofs.YthlflglkdaainaaGreatDoor.Tr
namespace Go.Proofs.YthlflglkdaainaaGreatDoor.Tr
open Go.Shelf Go.RowKit Go.Lib Go.Sort
variable {α : Type} [Inhabited α] {P : Program}
end Go.Proofs.YthlflglkdaainaaGreatDoor.Tr
namespace Go.Proofs.YthlflglkdaainaaGreatDoor.Tr
open Go.Shelf Go.RowKit Go.Lib Go.Sort
variable {α : Type} [Inhabited α]
variable (enc : α → List Value) (cf : α → α → Int) (g : Nat) (cb : Array Value) (blk off cap : Nat) (d0 : Array α) (w0 : World) (eg : ∀ args w, (callFunc g args).run Tryz.prog w = .ok (.enter g args) w) (hcmp : CmpLays Tryz.prog g cb enc 2 cf blk off d0.size w0) (R : RowK enc 2 w0 blk off d0) (hsz : d0.size < 4611686018427387904)
include eg hcmp R hsz
end Go.Proofs.YthlflglkdaainaaGreatDoor.Tr
namespace Go.Proofs.YthlflglkdaainaaGreatDoor.Tr
open Go.RowKit Go.Lib
end Go.Proofs.YthlflglkdaainaaGreatDoor.Tr
namespace Go.Proofs.YthlflglkdaainaaGreatDoor.Tr
open Go.RowKit Go.Lib Go.Proofs.YthlflglkdaainaaGreatDoorW.PrintWords Go.Proofs.YthlflglkdaainaaGreatDoorW.PrintLast Go.Proofs.YthlflglkdaainaaGreatDoorW.PrintMore Go.Proofs.YthlflglkdaainaaGreatDoor.Prt
end Go.Proofs.YthlflglkdaainaaGreatDoor.Tr
namespace Go.Proofs.YthlflglkdaainaaGreatDoor.Tr
open Go.Shelf Go.RowKit Go.Lib Go.Sort Go.Proofs.YthlflglkdaainaaGreatDoorW.PrintWords Go.Proofs.YthlflglkdaainaaGreatDoorW.PrintLast Go.Proofs.YthlflglkdaainaaGreatDoorW.PrintMore Go.Proofs.YthlflglkdaainaaGreatDoor.Prt
end Go.Proofs.YthlflglkdaainaaGreatDoor.Tr
namespace Go.Proofs.YthlflglkdaainaaGreatDoor.Tr
open Go.RowKit Go.Lib Go.Maps Go.Proofs.YthlflglkdaainaaGreatDoorW.PrintWords Go.Proofs.YthlflglkdaainaaGreatDoorW.PrintLast Go.Proofs.YthlflglkdaainaaGreatDoorW.PrintMore Go.Proofs.YthlflglkdaainaaGreatDoor.Prt
end Go.Proofs.YthlflglkdaainaaGreatDoor.Tr
namespace Go.Proofs.YthlflglkdaainaaGreatDoor.Tr
open Go.RowKit Go.Lib Go.Proofs.YthlflglkdaainaaGreatDoorW.PrintWords Go.Proofs.YthlflglkdaainaaGreatDoorW.PrintLast Go.Proofs.YthlflglkdaainaaGreatDoorW.PrintMore Go.Proofs.YthlflglkdaainaaGreatDoor.Prt
section
variable {T : List It} (h14 : checkN T ≠ 14)
include h14
end
section
variable {L : List It} (h0 : checkN L = 0)
include h0
end
end Go.Proofs.YthlflglkdaainaaGreatDoor.Tr
namespace Go.Proofs.YthlflglkdaainaaGreatDoor.Tr
open Go.RowKit Go.Lib Go.Maps Go.Proofs.YthlflglkdaainaaGreatDoorW.PrintWords Go.Proofs.YthlflglkdaainaaGreatDoorW.PrintLast Go.Proofs.YthlflglkdaainaaGreatDoorW.PrintMore Go.Proofs.YthlflglkdaainaaGreatDoor.Prt
end Go.Proofs.YthlflglkdaainaaGreatDoor.Tr
namespace Go.Proofs.YthlflglkdaainaaGreatDoor.Tr
open Go.RowKit Go.Lib Go.Proofs.YthlflglkdaainaaGreatDoorW.PrintWords Go.Proofs.YthlflglkdaainaaGreatDoorW.PrintLast Go.Proofs.YthlflglkdaainaaGreatDoorW.PrintMore Go.Proofs.YthlflglkdaainaaGreatDoor.Prt
theorem wtM_mem {m : Nat} {L : List It} {x : It} (h : x ∈ L) : wtM m x ≤ wtLM m L := by
 induction L with
 | nil => cases h
 | cons y L ih =>
  unfold wtLM at ih ⊢
  rw [List.map_cons, List.sum_cons]
  rcases List.mem_cons.1 h with rfl | h
  · omega
  · have := ih h; omega
theorem lightM_facts {m : Nat} {L : List It} (h : lightM m L = true) : L.length ≤ 70 ∧ ∀ x ∈ L, x.f1.size ≤ m ∧ x.f3.length ≤ m := by
 simp only [lightM, Bool.and_eq_true, decide_eq_true_eq] at h
 refine ⟨h.1, fun x hx => ?_⟩
 have h1 := wtM_mem (m := m) hx
 have h2 : wtM m x ≤ m := by omega
 unfold wtM at h2
 generalize x.f1.size = a at *
 constructor <;> omega
end Go.Proofs.YthlflglkdaainaaGreatDoor.Tr
namespace Go.Proofs.YthlflglkdaainaaGreatDoor.Tr
open Go.RowKit Go.Lib Go.Maps Go.Proofs.YthlflglkdaainaaGreatDoorW.PrintWords Go.Proofs.YthlflglkdaainaaGreatDoorW.PrintLast Go.Proofs.YthlflglkdaainaaGreatDoorW.PrintMore Go.Proofs.YthlflglkdaainaaGreatDoor.Prt
end Go.Proofs.YthlflglkdaainaaGreatDoor.Tr
namespace Go.Proofs.YthlflglkdaainaaGreatDoor
open Go
def listedAt (n : Nat) : Nat → Array Bool
 | 0 => Array.replicate n false
 | i + 1 => (listedAt n i).setIfInBounds i true
def seqOK (md : Region.Mode) (ops : Array Oper) : Bool :=
 Region.noSelect ops && ((List.range ops.size).all fun i => Region.free md ops (listedAt ops.size i) i && (Region.ready md ops (listedAt ops.size i)).contains i) && (Region.ready md ops (listedAt ops.size ops.size)).isEmpty
def seqW (P : Program) (ops : Array Oper) (S : World → Prop) (Q : Exit → Act → World → Prop) (w : World) : List Oper → Act → Prop
 | [], a => Q .normal a w
 | o :: rest, a => ∃ v, YieldsIf P ops S o v a ∧ seqW P ops S Q w rest (a.put o.dst v)
section
variable {P : Program} {ops : Array Oper} {Q : Exit → Act → World → Prop} {md : Region.Mode} {S : World → Prop} {w : World}
theorem seqW_take {o : Oper} {rest : List Oper} {a : Act} {v : Value} (hw : Region.wanted o (yielded ops a.tmps) = true) (hy : ∀ w, S w → (execOp a.eval o).run P w = .ok (.value v) w) (h : seqW P ops S Q w rest (a.put o.dst v)) : seqW P ops S Q w (o :: rest) a :=
 ⟨v, .inl ⟨hw, hy⟩, h⟩
theorem seqW_skip {o : Oper} {rest : List Oper} {a : Act} (hw : Region.wanted o (yielded ops a.tmps) = false) (h : seqW P ops S Q w rest (a.put o.dst undef)) : seqW P ops S Q w (o :: rest) a :=
 ⟨undef, .inr ⟨hw, rfl⟩, h⟩
theorem seqW_end {a : Act} (h : Q .normal a w) : seqW P ops S Q w [] a := h
theorem seq_go (hs : Region.noSelect ops = true) (hall : ∀ i, i < ops.size → Region.free md ops (listedAt ops.size i) i = true ∧ (Region.ready md ops (listedAt ops.size i)).contains i = true) (hend : Region.ready md ops (listedAt ops.size ops.size) = []) (hS : S w) :
    ∀ (rest : List Oper) (i : Nat) (a : Act), ops.toList.drop i = rest → i + rest.length = ops.size → seqW P ops S Q w rest a → wpAnyH P md ops (NoPanic Q) S rest.length (listedAt ops.size i) a w
 | [], i, a, _, hl, h => by
  have hi : i = ops.size := by simpa using hl
  rw [hi]
  exact wpAnyH_done hend (NoPanic.normal h) 0
 | o :: rest, i, a, hd, hl, h => by
  obtain ⟨v, hy, h2⟩ := h
  have hi : i < ops.size := by simp only [List.length_cons] at hl; omega
  have ho : ops[i]? = some o := by
   have h1 : ops.toList[i]? = some o := by
    have := congrArg (fun l => l[0]?) hd
    simpa using this
   rw [← Array.getElem?_toList]; exact h1
  have hd2 : ops.toList.drop (i + 1) = rest := by
   rw [← List.drop_drop, hd]; rfl
  exact wpAnyH_take ho hs (hall i hi).1 (hall i hi).2 (fun _ _ _ h => h) hy hS (seq_go hs hall hend hS rest (i + 1) _ hd2 (by simp only [List.length_cons] at hl; omega) h2)
theorem wp_region_seq {id : Nat} {a : Act} (hm : P.follows .mixedOrders = true) (hok : seqOK .any ops = true)
    (h : seqW P ops (fun W => ∃ m, W = w.drewN m) Q w.drew ops.toList a) : (Code.region id ops true).wp P Q a w := by
 unfold seqOK at hok
 simp only [Bool.and_eq_true, List.all_eq_true, List.mem_range, List.isEmpty_iff] at hok
 obtain ⟨⟨h1, h2⟩, h3⟩ := hok
 refine wp_region_noPanic (wp_region_held_drew (S := fun W => ∃ m, W = w.drewN m) hm ⟨1, rfl⟩ fun hS => ?_)
 have := seq_go (P := P) (Q := Q) (w := w.drew) h1 (fun i hi => h2 i hi) h3 hS ops.toList 0 a (by simp) (by simp) h
 rw [Array.length_toList] at this
 exact this
end
end Go.Proofs.YthlflglkdaainaaGreatDoor
namespace Go.Proofs.YthlflglkdaainaaGreatDoor.Tr
open Go.RowKit Go.Lib Go.Maps Go.Proofs.YthlflglkdaainaaGreatDoorW.PrintWords Go.Proofs.YthlflglkdaainaaGreatDoorW.PrintLast Go.Proofs.YthlflglkdaainaaGreatDoorW.PrintMore Go.Proofs.YthlflglkdaainaaGreatDoor.Prt
set_option maxHeartbeats 16000000 in
theorem apart_ok (L : List It) (A : Option Addr) (c : Nat) (hc : L.length ≤ c) (i : Int) (hi0 : 0 ≤ i) (hi1 : i ≤ 255) (s : ByteArray) (hs : s.size ≤ maxLen) (w : World) (ht : Tz w) (hu : Ut w) (hC : Kd.C kIt w A L.length L) (hcap : CapR w A L.length) (hwf : WfL L) (hli : lightM 1000 L = true) (hn0 : 0 < L.length) (hn1 : L.length ≤ 60) :
    Calls Tryz.prog 11 #[.slice A L.length c, .int .u8 i, .string s] w fun e w' => e = .returned (.bool true) ∧ Below w.heap.size w w' := by
 have HL := LightM_any 1000 (by decide) L A c hc w hC
 simp only [Int.cast_ofNat_Int] at HL
 rw [hli] at HL
 have hu41 := Tryz.underlying53
 have HAw := Aside0.mk (fun W (B : Below w.heap.size w W) => awake16_any W (tz_below ht B) (hu.gr B))
 obtain ⟨k, hk, hkl⟩ : ∃ k : Nat, i % (L.length : Int) = k ∧ k < L.length := by
  have h1 := Int.emod_nonneg i (show (L.length : Int) ≠ 0 by omega)
  have h2 := Int.emod_lt_of_pos i (show (0 : Int) < (L.length : Int) by omega)
  exact ⟨(i % (L.length : Int)).toNat, by omega, by omega⟩
 have g60 : ¬ (L.length : Int) > 60 := by omega
 have g0 : ((L.length : Int) == 0) = false := by rw [beq_eq_false_iff_ne]; omega
 have hkz : (k : Int) < (L.length : Int) := by omega
 have HCo := Aside0.mk (fun W (B : Below w.heap.size w W) => copy_any L A c W (Kd.C_below hC B) (by omega) (fun x hx => by have := (lightM_facts hli).2 x hx; omega))
 obtain ⟨M, hM⟩ : ∃ M, L ++ [(⟨(k : Int), s, false, [120]⟩ : It)] = M := ⟨_, rfl⟩
 have hMl : M.length = L.length + 1 := by rw [← hM, List.length_append]; rfl
 have hwM : WfL M := by rw [← hM]; exact wf_snoc hwf (by omega) hs
 have HJ : Aside0 (∀ W, Below w.heap.size w W → Calls Tryz.prog 26 #[.slice A L.length c] W fun e w' => ∃ A4 c4, e = .returned (.tuple #[.slice A4 (judT L).length c4, .int .i64 (checkN L)]) ∧ Aside0 (Kd.C kVd w' A4 (judT L).length (judT L)) ∧ Below W.heap.size W w') := ⟨fun W B => (Judge_any L A c W (tz_below ht B) (hu.gr B) (Kd.C_below hC B) (CapR.below hcap B) hwf).mono fun e w' h => by
  obtain ⟨v, rfl, h1, h2⟩ := h
  obtain ⟨A4, c4, rfl⟩ := Kd.R_slice h1
  exact ⟨A4, c4, rfl, ⟨(Kd.R_reads' h1).2.2⟩, h2⟩⟩
 have HJ2 : Aside0 (∀ W A3 c3, Below w.heap.size w W → Kd.C kIt W A3 M.length M → CapR W A3 M.length → Calls Tryz.prog 26 #[.slice A3 M.length c3] W fun e w' => ∃ A4 c4, e = .returned (.tuple #[.slice A4 (judT M).length c4, .int .i64 (checkN M)]) ∧ Aside0 (Kd.C kVd w' A4 (judT M).length (judT M)) ∧ Below W.heap.size W w') := ⟨fun W A3 c3 B q1 q2 => (Judge_any M A3 c3 W (tz_below ht B) (hu.gr B) q1 q2 hwM).mono fun e w' h => by
  obtain ⟨v, rfl, h1, h2⟩ := h
  obtain ⟨A4, c4, rfl⟩ := Kd.R_slice h1
  exact ⟨A4, c4, rfl, ⟨(Kd.R_reads' h1).2.2⟩, h2⟩⟩
 have back : Aside0 (∀ W (v : Value) base ok, Kd.R kIt 53 W base ok v M → ∃ A4 c4, v = .slice A4 M.length c4 ∧ Aside0 (Kd.C kIt W A4 M.length M ∧ CapR W A4 M.length)) := ⟨fun W v base ok h => by
  obtain ⟨A4, c4, rfl⟩ := Kd.R_slice h
  obtain ⟨_, h3, h4⟩ := Kd.R_reads' h
  exact ⟨A4, c4, rfl, ⟨h4, cap_of_R h⟩⟩⟩
 have HC := Aside0.mk hC
 have HL := Aside0.mk HL
 have hwM := Aside0.mk hwM
 have hM := Aside0.mk hM
 rw [hMl] at HJ2 back
 have hMl := Aside0.mk hMl
 clear hC hcap hwf ht hu hli
 cases hd : (rd_T53 L (k : Int)).f2 with
 | false =>
  go_enter Tryz.func11, Tryz.ntmps11
  go_wp2_with (first
   | (go_at_call 15; with_reducible refine HL.out.mono ?_; rintro e w1 ⟨rfl, hb1⟩; obtain ⟨ad, A3, c3, rfl, x0, x1, x2, x3, _, g3⟩ := at_T53 (Kd.C_below HC.out hb1) (k : Int) (by omega) hkz; rw [Int.toNat_natCast] at x0 x1 x2 x3; rw [hd] at x2)
   | (go_at_call 25; with_reducible refine (HAw.out _ hb1).mono ?_; rintro e w2 ⟨rfl, hb2⟩))
  go_ret
  exact ⟨rfl, hb1.trans (hb2.mono hb1.size)⟩
 | true =>
  have hJd : Aside0 (checkN L = 0 → checkN M = 0 → ∀ j : Nat, j < L.length → (rd_T49 (judT M) j).f2 = (rd_T49 (judT L) j).f2 ∧ (rd_T49 (judT M) j).f3 = (rd_T49 (judT L) j).f3 ∧ ((rd_T53 L j).f0 ≠ k → (rd_T49 (judT M) j).f0 = (rd_T49 (judT L) j).f0 ∧ (rd_T49 (judT M) j).f1 = (rd_T49 (judT L) j).f1)) := ⟨fun q1 q2 j hj => by
   have e := vdA_at L ⟨(k : Int), s, false, [120]⟩ hj
   have e2 := vdI_more L L[j] ⟨(k : Int), s, false, [120]⟩
   rw [hM.out] at e e2
   have hx : rd_T53 L (j : Int) = L[j] := by
    unfold rd_T53
    rw [Int.toNat_natCast, List.getD_eq_getElem?_getD, List.getElem?_eq_getElem hj]
    rfl
   have r1 : rd_T49 (judT L) (j : Int) = vdI L L[j] := by
    unfold judT
    rw [if_pos q1]
    unfold rd_T49
    rw [Int.toNat_natCast]
    exact e.1
   have r2 : rd_T49 (judT M) (j : Int) = vdI M L[j] := by
    unfold judT
    rw [if_pos q2]
    unfold rd_T49
    rw [Int.toNat_natCast]
    exact e.2
   rw [r1, r2, hx]
   exact ⟨e2.2.1, e2.2.2, fun h => e2.1 h⟩⟩
  have hjl := Aside0.mk (fun h : checkN L = 0 => show (judT L).length = L.length by unfold judT; rw [if_pos h, vdL_len])
  have hjm := Aside0.mk (fun h : checkN M = 0 => show (judT M).length = M.length by unfold judT; rw [if_pos h, vdL_len])
  generalize judT L = J1 at HJ hjl hJd
  generalize judT M = J2 at HJ2 hjm hJd
  obtain ⟨y1, hy1⟩ : ∃ y, checkN L = y := ⟨_, rfl⟩
  obtain ⟨y2, hy2⟩ : ∃ y, checkN M = y := ⟨_, rfl⟩
  rw [hy1] at HJ hjl hJd
  rw [hy2] at HJ2 hjm hJd
  clear hy1 hy2
  have last : Aside0 (∀ W, Below w.heap.size w W → Calls Tryz.prog 25 #[] W fun e w' => e = .returned (.bool true) ∧ Below w.heap.size w w') := ⟨fun W B => (HAw.out W B).mono fun e w' h => ⟨h.1, B.trans (h.2.mono B.size)⟩⟩
  clear HAw
  by_cases h1 : y1 = 0
  · by_cases h2 : y2 = 0
    · have q1 : (y1 != 0) = false := by rw [h1]; rfl
      have q2 : (y2 != 0) = false := by rw [h2]; rfl
      have hjl := hjl.out h1
      have hjm := hjm.out h2
      have hJ : Aside0 (∀ j : Nat, j < L.length → (rd_T49 J2 j).f2 = (rd_T49 J1 j).f2 ∧ (rd_T49 J2 j).f3 = (rd_T49 J1 j).f3 ∧ ((rd_T53 L j).f0 ≠ k → (rd_T49 J2 j).f0 = (rd_T49 J1 j).f0 ∧ (rd_T49 J2 j).f1 = (rd_T49 J1 j).f1)) := ⟨hJd.out h1 h2⟩
      clear hJd
      have hjmL : J2.length = L.length + 1 := by rw [hjm, hMl.out]
      clear h1 h2
      go_enter Tryz.func11, Tryz.ntmps11
      go_wp2_with (first
       | (go_at_call 15; with_reducible refine HL.out.mono ?_; rintro e w1 ⟨rfl, hb1⟩; obtain ⟨ad, A3, c3, rfl, x0, x1, x2, x3, _, g3⟩ := at_T53 (Kd.C_below HC.out hb1) (k : Int) (by omega) hkz; rw [Int.toNat_natCast] at x0 x1 x2 x3; rw [hd] at x2)
       | (go_at_call 32; with_reducible refine (HCo.out _ hb1).mono ?_; rintro e w2 ⟨v2, rfl, hr2, hb2⟩; have hb20 := hb1.trans (hb2.mono hb1.size)))
      rw [run_convert_bytes_const (P := Tryz.prog) w2 46 5 #[.int .u8 120] 1 1 Tryz.underlying46 Tryz.underlying5]
      simp only [Result.andThen, Oper.upon]
      rename_i hK
      refine hK _ _ ?_
      clear hK
      simp only [Act.put, List.setIfInBounds_toArray, List.set_cons_zero, List.set_cons_succ, List.size_toArray, List.length_cons, List.length_nil, Nat.zero_add, Nat.reduceAdd]
      go_wp2_with (first
       | ((with_reducible refine gate_builtin (b := .append) (xs := #[.tmp 41, .tmp 47]) rfl ?_); at_builtin; refine item_append (w0 := w) (W := w2.alloc (Obj.cells #[.int .u8 120] 5 (1, 2))) w.heap.size rfl (.tmp 41) (.tmp 47) rfl v2 L ⟨(k : Int), s, false, [120]⟩ [.int .i64 (k : Int), .string s, .bool false, .slice (some ⟨w2.heap.size, 0, none⟩) 1 1] rfl ?hx (x_FK w2 (k : Int) s ?hf) ⟨_, _, _, rfl, by decide, fun e => by cases e⟩ (Kd.R_alloc (Kd.R_lower hr2 hb1.size) _) (below_alloc hb20 _) (below_alloc hb20 _).size (by omega) ?_; (case hx => (rw [World.size_alloc]; rfl)); (case hf => exact fun e => by have := Kd.R_lt hr2 _ e.symm; omega); intro A4 c4 w4 l4 hC4 hcap4 hb12; rw [hM.out] at hC4; have HJA := HJ.out _ hb12)
       | (go_at_call 26; with_reducible refine HJA.mono ?_; rintro e w5 ⟨A5, c5, rfl, h5, hb5⟩; have hb50 := hb12.trans (hb5.mono hb12.size); have HJB := HJ2.out _ A4 c4 hb50 (Kd.C_below hC4 hb5) (CapR.below hcap4 hb5))
       | (go_at_call 26; with_reducible refine HJB.mono ?_; rintro e w6 ⟨A6, c6, rfl, h6, hb6⟩; have hb60 := hb50.trans (hb6.mono hb50.size))
       | (go_at_call 25; with_reducible refine (last.out _ hb60).mono ?_; rintro e w7 ⟨rfl, hb70⟩))
      have H5 := Aside0.mk (Kd.C_below h5.out hb6)
      have H6 := Aside0.mk h6.out
      have HCw := Aside0.mk (Kd.C_below HC.out hb60)
      rw [hjl] at H5
      rw [hjmL] at H6
      go_loopg [13] L.length (fun gg v13 wr => ∃ j : Nat, j ≤ L.length ∧ L.length - j ≤ gg ∧ v13 = .int .i64 j ∧ Aside0 (Below w6.heap.size w6 wr))
      case atStart => exact ⟨0, Nat.zero_le _, by omega, rfl, ⟨Below.refl _ _⟩⟩
      case round =>
       obtain ⟨j, hj, hg, rfl, HB⟩ := hrel
       by_cases hlt : j < L.length
       · have hjz : (j : Int) < (L.length : Int) := by omega
         have hjz2 : (j : Int) < (L.length : Int) + 1 := by omega
         obtain ⟨adx, X3, cx, ex, x0, _⟩ := at_T53 (Kd.C_below HCw.out HB.out) (j : Int) (by omega) hjz
         cases ex
         obtain ⟨ada, P2, cp, rfl, a0, a1, a2, a3, _, ag⟩ := at_T49 (Kd.C_below H5.out HB.out) (j : Int) (by omega) hjz
         obtain ⟨adb, R2, cr, rfl, b0, b1, b2, b3, _, bg⟩ := at_T49 (Kd.C_below H6.out HB.out) (j : Int) (by omega) (by omega)
         rw [Int.toNat_natCast] at x0 a0 a1 a2 a3 b0 b1 b2 b3
         obtain ⟨e2, e3, e01⟩ := hJ.out j hlt
         rw [e2] at b2 bg
         rw [e3] at b3
         have cA := fun m => Kd.C_string (P := Tryz.prog) (w := wr.drewN m) (A := P2) (c := cp) Tryz.underlying46 Tryz.underlying5 Tryz.underlying9 (Kd.C_below ag (Drawn0.below ⟨⟨m, rfl⟩⟩))
         have cB := fun m => Kd.C_string (P := Tryz.prog) (w := wr.drewN m) (A := R2) (c := cr) Tryz.underlying46 Tryz.underlying5 Tryz.underlying9 (Kd.C_below bg (Drawn0.below ⟨⟨m, rfl⟩⟩))
         by_cases hp : (rd_T53 L j).f0 = k
         · rw [hp] at x0
           clear hJ
           go_upto_region 16 with (fail)
           refine wp_region_seq (by kernel_rfl) (by kernel_rfl) ?_
           repeat (first
            | (refine seqW_skip rfl ?_; try simp only [Act.put, List.setIfInBounds_toArray, List.set_cons_zero, List.set_cons_succ])
            | (apply seqW_take
               · exact rfl
               · (intro w hSw; obtain ⟨m, rfl⟩ := hSw; go_simp; exact rfl)
               try simp only [Act.put, List.setIfInBounds_toArray, List.set_cons_zero, List.set_cons_succ]))
           refine seqW_end ?_
           go_wp2
           go_roundg (L.length - (j + 1))
           case measure => omega
           case rel => exact ⟨j + 1, by omega, by omega, by go_num, ⟨HB.out.trans ((Drawn0.below ⟨⟨1, rfl⟩⟩ : Below wr.heap.size wr wr.drew).mono HB.out.size)⟩⟩
         · obtain ⟨e0, e1⟩ := e01 hp
           rw [e0] at b0
           rw [e1] at b1
           have hpb : ((rd_T53 L j).f0 != (k : Int)) = true := by rw [bne_iff_ne]; exact hp
           clear hJ
           go_upto_region 16 with (fail)
           refine wp_region_seq (by kernel_rfl) (by kernel_rfl) ?_
           repeat (first
            | (refine seqW_skip rfl ?_; try simp only [Act.put, List.setIfInBounds_toArray, List.set_cons_zero, List.set_cons_succ])
            | (apply seqW_take
               · exact rfl
               · (intro w hSw; obtain ⟨m, rfl⟩ := hSw; go_simp; exact rfl)
               try simp only [Act.put, List.setIfInBounds_toArray, List.set_cons_zero, List.set_cons_succ]))
           refine seqW_end ?_
           go_wp2
           go_roundg (L.length - (j + 1))
           case measure => omega
           case rel => exact ⟨j + 1, by omega, by omega, by go_num, ⟨HB.out.trans ((Drawn0.below ⟨⟨1, rfl⟩⟩ : Below wr.heap.size wr wr.drew).mono HB.out.size)⟩⟩
       · obtain rfl : j = L.length := by omega
         have hb61 := hb60.trans (HB.out.mono hb60.size)
         clear hJ H5 H6 HCw
         go_wp2_with (first
          | (go_at_call 25; with_reducible refine (last.out _ hb61).mono ?_; rintro e w7 ⟨rfl, hb70⟩))
         go_ret
         exact ⟨rfl, hb70⟩
    · have q1 : (y1 != 0) = false := by rw [h1]; rfl
      have q2 : (y2 != 0) = true := by rw [bne_iff_ne]; exact h2
      clear h1 h2
      go_enter Tryz.func11, Tryz.ntmps11
      go_wp2_with (first
       | (go_at_call 15; with_reducible refine HL.out.mono ?_; rintro e w1 ⟨rfl, hb1⟩; obtain ⟨ad, A3, c3, rfl, x0, x1, x2, x3, _, g3⟩ := at_T53 (Kd.C_below HC.out hb1) (k : Int) (by omega) hkz; rw [Int.toNat_natCast] at x0 x1 x2 x3; rw [hd] at x2)
       | (go_at_call 32; with_reducible refine (HCo.out _ hb1).mono ?_; rintro e w2 ⟨v2, rfl, hr2, hb2⟩; have hb20 := hb1.trans (hb2.mono hb1.size)))
      rw [run_convert_bytes_const (P := Tryz.prog) w2 46 5 #[.int .u8 120] 1 1 Tryz.underlying46 Tryz.underlying5]
      simp only [Result.andThen, Oper.upon]
      rename_i hK
      refine hK _ _ ?_
      clear hK
      simp only [Act.put, List.setIfInBounds_toArray, List.set_cons_zero, List.set_cons_succ, List.size_toArray, List.length_cons, List.length_nil, Nat.zero_add, Nat.reduceAdd]
      go_wp2_with (first
       | ((with_reducible refine gate_builtin (b := .append) (xs := #[.tmp 41, .tmp 47]) rfl ?_); at_builtin; refine item_append (w0 := w) (W := w2.alloc (Obj.cells #[.int .u8 120] 5 (1, 2))) w.heap.size rfl (.tmp 41) (.tmp 47) rfl v2 L ⟨(k : Int), s, false, [120]⟩ [.int .i64 (k : Int), .string s, .bool false, .slice (some ⟨w2.heap.size, 0, none⟩) 1 1] rfl ?hx (x_FK w2 (k : Int) s ?hf) ⟨_, _, _, rfl, by decide, fun e => by cases e⟩ (Kd.R_alloc (Kd.R_lower hr2 hb1.size) _) (below_alloc hb20 _) (below_alloc hb20 _).size (by omega) ?_; (case hx => (rw [World.size_alloc]; rfl)); (case hf => exact fun e => by have := Kd.R_lt hr2 _ e.symm; omega); intro A4 c4 w4 l4 hC4 hcap4 hb12; rw [hM.out] at hC4; have HJA := HJ.out _ hb12)
       | (go_at_call 26; with_reducible refine HJA.mono ?_; rintro e w5 ⟨A5, c5, rfl, h5, hb5⟩; have hb50 := hb12.trans (hb5.mono hb12.size); have HJB := HJ2.out _ A4 c4 hb50 (Kd.C_below hC4 hb5) (CapR.below hcap4 hb5))
       | (go_at_call 26; with_reducible refine HJB.mono ?_; rintro e w6 ⟨A6, c6, rfl, h6, hb6⟩; have hb60 := hb50.trans (hb6.mono hb50.size))
       | (go_at_call 25; with_reducible refine (last.out _ hb60).mono ?_; rintro e w7 ⟨rfl, hb70⟩))
      go_ret
      exact ⟨rfl, hb70⟩
  · have q1 : (y1 != 0) = true := by rw [bne_iff_ne]; exact h1
    clear h1
    go_enter Tryz.func11, Tryz.ntmps11
    go_wp2_with (first
     | (go_at_call 15; with_reducible refine HL.out.mono ?_; rintro e w1 ⟨rfl, hb1⟩; obtain ⟨ad, A3, c3, rfl, x0, x1, x2, x3, _, g3⟩ := at_T53 (Kd.C_below HC.out hb1) (k : Int) (by omega) hkz; rw [Int.toNat_natCast] at x0 x1 x2 x3; rw [hd] at x2)
     | (go_at_call 32; with_reducible refine (HCo.out _ hb1).mono ?_; rintro e w2 ⟨v2, rfl, hr2, hb2⟩; have hb20 := hb1.trans (hb2.mono hb1.size)))
    rw [run_convert_bytes_const (P := Tryz.prog) w2 46 5 #[.int .u8 120] 1 1 Tryz.underlying46 Tryz.underlying5]
    simp only [Result.andThen, Oper.upon]
    rename_i hK
    refine hK _ _ ?_
    clear hK
    simp only [Act.put, List.setIfInBounds_toArray, List.set_cons_zero, List.set_cons_succ, List.size_toArray, List.length_cons, List.length_nil, Nat.zero_add, Nat.reduceAdd]
    go_wp2_with (first
     | ((with_reducible refine gate_builtin (b := .append) (xs := #[.tmp 41, .tmp 47]) rfl ?_); at_builtin; refine item_append (w0 := w) (W := w2.alloc (Obj.cells #[.int .u8 120] 5 (1, 2))) w.heap.size rfl (.tmp 41) (.tmp 47) rfl v2 L ⟨(k : Int), s, false, [120]⟩ [.int .i64 (k : Int), .string s, .bool false, .slice (some ⟨w2.heap.size, 0, none⟩) 1 1] rfl ?hx (x_FK w2 (k : Int) s ?hf) ⟨_, _, _, rfl, by decide, fun e => by cases e⟩ (Kd.R_alloc (Kd.R_lower hr2 hb1.size) _) (below_alloc hb20 _) (below_alloc hb20 _).size (by omega) ?_; (case hx => (rw [World.size_alloc]; rfl)); (case hf => exact fun e => by have := Kd.R_lt hr2 _ e.symm; omega); intro A4 c4 w4 l4 hC4 hcap4 hb12; rw [hM.out] at hC4; have HJA := HJ.out _ hb12)
     | (go_at_call 26; with_reducible refine HJA.mono ?_; rintro e w5 ⟨A5, c5, rfl, h5, hb5⟩; have hb50 := hb12.trans (hb5.mono hb12.size); have HJB := HJ2.out _ A4 c4 hb50 (Kd.C_below hC4 hb5) (CapR.below hcap4 hb5))
     | (go_at_call 26; with_reducible refine HJB.mono ?_; rintro e w6 ⟨A6, c6, rfl, h6, hb6⟩; have hb60 := hb50.trans (hb6.mono hb50.size))
     | (go_at_call 25; with_reducible refine (last.out _ hb60).mono ?_; rintro e w7 ⟨rfl, hb70⟩))
    go_ret
    exact ⟨rfl, hb70⟩
theorem verdictApart_walk (L : List It) (A : Option Addr) (c : Nat) (hc : L.length ≤ c) (i : Int) (hi : (Lit.int .u8 i).wf = true) (s : ByteArray) (hs : s.size ≤ maxLen) (w : World) (ht : Tz w) (hu : Ut w) (hC : Kd.C kIt w A L.length L) (hcap : CapR w A L.length) (hwf : WfL L) :
    Calls Tryz.prog 11 #[.slice A L.length c, .int .u8 i, .string s] w fun e w' => e = .returned (.bool true) ∧ Below w.heap.size w w' := by
 have hi2 : 0 ≤ i ∧ i ≤ 255 := by
  have := bounds_u8 hi
  omega
 have HL := LightM_any 1000 (by decide) L A c hc w hC
 simp only [Int.cast_ofNat_Int] at HL
 have HAw := Aside0.mk (fun W (B : Below w.heap.size w W) => awake16_any W (tz_below ht B) (hu.gr B))
 cases hli : lightM 1000 L with
 | false =>
  rw [hli] at HL
  have HL := Aside0.mk HL
  clear hC hcap hwf ht hu
  go_enter Tryz.func11, Tryz.ntmps11
  go_wp2_with (first
   | (go_at_call 15; with_reducible refine HL.out.mono ?_; rintro e w1 ⟨rfl, hb1⟩)
   | (go_at_call 25; with_reducible refine (HAw.out _ hb1).mono ?_; rintro e w2 ⟨rfl, hb2⟩))
  go_ret
  exact ⟨rfl, hb1.trans (hb2.mono hb1.size)⟩
 | true =>
  by_cases h60 : L.length ≤ 60
  · by_cases h0 : 0 < L.length
    · exact apart_ok L A c hc i hi2.1 hi2.2 s hs w ht hu hC hcap hwf hli h0 h60
    · have g60 : ¬ (L.length : Int) > 60 := by omega
      have g0 : ((L.length : Int) == 0) = true := by rw [beq_iff_eq]; omega
      rw [hli] at HL
      have HL := Aside0.mk HL
      clear hC hcap hwf ht hu h0 h60
      go_enter Tryz.func11, Tryz.ntmps11
      go_wp2_with (first
       | (go_at_call 15; with_reducible refine HL.out.mono ?_; rintro e w1 ⟨rfl, hb1⟩)
       | (go_at_call 25; with_reducible refine (HAw.out _ hb1).mono ?_; rintro e w2 ⟨rfl, hb2⟩))
      go_ret
      exact ⟨rfl, hb1.trans (hb2.mono hb1.size)⟩
  · have hz : (60 : Int) < (L.length : Int) := by omega
    rw [hli] at HL
    have HL := Aside0.mk HL
    clear hC hcap hwf ht hu h60
    go_enter Tryz.func11, Tryz.ntmps11
    go_wp2_with (first
     | (go_at_call 15; with_reducible refine HL.out.mono ?_; rintro e w1 ⟨rfl, hb1⟩)
     | (go_at_call 25; with_reducible refine (HAw.out _ hb1).mono ?_; rintro e w2 ⟨rfl, hb2⟩))
    go_ret
    exact ⟨rfl, hb1.trans (hb2.mono hb1.size)⟩
end Go.Proofs.YthlflglkdaainaaGreatDoor.Tr
