import Derived.Below
import Derived.Deep.Draws
import Derived.Deep.AppendLies
import Derived.Maps.AppendAt
import Derived.OwnWalk
import Derived.Laws.BytesArg
import Derived.Laws.MakeOwn
import Derived.Laws.OwnMore
import Derived.Deep.OwnRows
import Derived.Tactics
import Derived.Lib.ConvBytes
import Derived.Laws.Slices
import Derived.WalkKit
import Derived.KernelRfl
import Derived.RowKit3
import Derived.Deep.LoopGhost
import Derived.Deep.QuietTactic
import Derived.BigQuiet
import Derived.WideLaws
import Derived.Deep.DeepCutAuto
import Derived.Deep.CutBlock
import Derived.Deep.RegionHeld3
import Derived.Laws.Rows
import Derived.Lib.AppendStr
import Derived.ArgAppend
import Derived.Laws.IdiomCopy
import Derived.RowKit
import Derived.OrdersHeld
import Derived.Laws.BitsLemmas
import Derived.Laws.StructEq
import Derived.Test.YthlflglkdaainaaGreatDoorProg
import Derived.Deep.Slices
import Derived.Lib.SmallJoins
import Derived.ChangeSlices
import Derived.Lib.SlBytesConst
import Derived.Lib.IndexLaws
import Derived.Shelf.Small.Strs
import Derived.Maps.OwnSet
import Derived.DeepKeys4
import Derived.Test.YthlflglkdaainaaGreatDoorChecked
import Derived.Ground.SlsfProg
import Derived.Shelf.SlSortCmp.NoneTotal
import Derived.Shelf.SlicesE.Clone
import Derived.Laws.CopyRow
import Derived.Laws.CopyOwn
import Derived.Shelf.SlSorted.Search
import Derived.Test.YthlflglkdaainaaGreatDoorRows
import Derived.WalkSpells
import Derived.WalkLawsBesides
import Derived.Laws.EntriesVeiled
import Derived.IntWalk
import Derived.Laws.Bits64b
import Derived.Lib.ItoaWalk
import Derived.Laws.BitsAllLaws
import Derived.RangeFuncBox
import Derived.RangeFuncLeaves
import Derived.RangeFuncKeeps
import Derived.RangeFuncBound
import Derived.Shelf.Abstract
import Derived.OwnWalkIn
import Derived.TacticsInMore
import Derived.LoopNIn
import Derived.LoopIn
import Derived.ProofKit
import Derived.LaidMore
import Derived.OpenShut
import Derived.Stop.Joined
import Derived.Stop.LaidErr
import Derived.Lib.LaidTab
import Derived.MakeChecks
import Derived.Laws.AppendOwnNone
import Derived.Test.YthlflglkdaainaaGreatDoorCards
import Derived.SevenTiedAt
import Derived.Sort.LotA
import Derived.Shelf.SlSortCmp.KitK
import Derived.Sort.WalkB2
import Derived.Sort.WalkB12
import Derived.BigRegion
import Derived.Deep.CutRange
import Derived.RegionTactic
import Derived.Deep.RegionLaw
import Derived.Lib.EndianBits
import Derived.Lib.ValidAsc
import Derived.Shelf.Unicode.DecodeSlow
import Derived.Deep.DeepMust
import Derived.Deep.DeepBigQuietO
import Derived.Lib.RuneBytes
import Derived.Laws.AppendOwn
import Derived.Lib.OthersKept
import Derived.RangeFuncCalls
import Derived.Lay
import Derived.PinnedBridge
import Derived.LaidOnce
import Derived.Lib.LaidU8T
import Derived.WideKeyEntry
import Derived.Lib.AtoiErrMem
import Derived.Test.YthlflglkdaainaaGreatDoorPA
import Derived.Test.YthlflglkdaainaaGreatDoorPB
import Derived.Test.YthlflglkdaainaaGreatDoorPC
import Derived.Test.YthlflglkdaainaaGreatDoorPD
import Derived.Test.YthlflglkdaainaaGreatDoorPL
import Derived.Test.YthlflglkdaainaaGreatDoorPM
import Derived.Test.YthlflglkdaainaaGreatDoorPN
import Derived.Test.YthlflglkdaainaaGreatDoorPO
import Derived.Test.YthlflglkdaainaaGreatDoorPP
import Derived.Test.YthlflglkdaainaaGreatDoorPR
import Derived.Test.YthlflglkdaainaaGreatDoorPS
import Derived.Test.YthlflglkdaainaaGreatDoorPT
import Derived.Test.YthlflglkdaainaaGreatDoorPV
import Derived.Test.YthlflglkdaainaaGreatDoorPW
import Derived.Test.YthlflglkdaainaaGreatDoorPX
import Derived.Test.YthlflglkdaainaaGreatDoorPY
import Derived.Test.YthlflglkdaainaaGreatDoorPZ
/- Texts of this seat: WWords, WLast, WTab, WFour, WQPut, WApart, WArr, WZeros, WFoot, WKept, WShare, WN, WFootNe, WAt, WEqStruct, WRepsOne, WInv, WInvWords, WGuard, WNEv, WMore, T0, TEqual, T1, T2, T3, T4, T5, T11, T12, T13, TIt, TThree, TRight, TCont, TDep, TDepW, TCheck, TPath, TRs, TCmp, TClos, TLayS, TOrd, TSortF, TInj, TSrt, TSo, TMk, TRef, TRef2, TRef3, TLess, TClone, TCopy, TSort, TEq, TEqF, TSame, TRSort, TREq, TLight, TAw14, TCon, KA, KB, KD, KR, KL, KS, KO, KC, KV, KN, KM, VIt, VData, TOrdr, Vd0, VMap, VJ1, KP, VRf, TRk, VJ2, VJ3, VJudge, VRn, VRd, VRj, VTu, VSm, VSt0, Vd1, Vd2, Vd3, Vd4, VTg, VSt1, VLight, VSW, VS1, VS2, VS3, VST, VLn, VRp, VAx, VAw, Seq, VStW, VStX. -/
set_option maxRecDepth 100000
set_option maxHeartbeats 8000000
set_option linter.unusedVariables false
set_option linter.unusedSimpArgs false
namespace Go.Proofs.YthlflglkdaainaaGreatDoorW.PrintWords
open Go.RowKit
namespace Kd
end Kd
namespace Kd
end Kd
namespace Kd
end Kd
namespace Kd
end Kd
namespace Kd
end Kd
namespace Kd
end Kd
namespace Kd
end Kd
namespace Kd
end Kd
namespace Kd
end Kd
namespace Kd
end Kd
namespace Kd
end Kd
namespace Kd
end Kd
namespace Kd
end Kd
namespace Kd
end Kd
namespace Kd
end Kd
section
variable {P : Program} {ops : Array Oper} {o : Oper} {a : Act} {Q : Exit → Act → World → Prop} {Kc : Act → World → Prop}
namespace Kd
variable {α : Type}
end Kd
end
namespace Kd
end Kd
end Go.Proofs.YthlflglkdaainaaGreatDoorW.PrintWords
namespace Go.Proofs.YthlflglkdaainaaGreatDoorW.PrintLast
end Go.Proofs.YthlflglkdaainaaGreatDoorW.PrintLast
namespace Go.Proofs.YthlflglkdaainaaGreatDoorW.PrintLast
open Go.Proofs.YthlflglkdaainaaGreatDoorW.PrintWords (Aside0)
end Go.Proofs.YthlflglkdaainaaGreatDoorW.PrintLast
namespace Go.Proofs.YthlflglkdaainaaGreatDoorW.PrintLast
end Go.Proofs.YthlflglkdaainaaGreatDoorW.PrintLast
namespace Go.Proofs.YthlflglkdaainaaGreatDoorW.PrintWords
open Go.RowKit
namespace Kd
end Kd
namespace Kd
end Kd
namespace Kd
end Kd
namespace Kd
end Kd
namespace Kd
end Kd
namespace Kd
end Kd
end Go.Proofs.YthlflglkdaainaaGreatDoorW.PrintWords
namespace Go.Proofs.YthlflglkdaainaaGreatDoorW.PrintWords
open Go.RowKit
namespace Foot
variable {P Q : World → Prop} {W W1 : World} {ok ok' : Nat → Prop}
end Foot
namespace Kd
end Kd
end Go.Proofs.YthlflglkdaainaaGreatDoorW.PrintWords
namespace Go.Proofs.YthlflglkdaainaaGreatDoorW.PrintWords
open Go.RowKit
namespace Kd
end Kd
namespace Kd
end Kd
namespace Kd
end Kd
end Go.Proofs.YthlflglkdaainaaGreatDoorW.PrintWords
namespace Go.Proofs.YthlflglkdaainaaGreatDoorW.PrintWords
end Go.Proofs.YthlflglkdaainaaGreatDoorW.PrintWords
namespace Go.Proofs.YthlflglkdaainaaGreatDoorW.PrintLast
end Go.Proofs.YthlflglkdaainaaGreatDoorW.PrintLast
namespace Go.Proofs.YthlflglkdaainaaGreatDoorW.PrintWords
open Go.RowKit
end Go.Proofs.YthlflglkdaainaaGreatDoorW.PrintWords
namespace Go.Proofs.YthlflglkdaainaaGreatDoorW.PrintLast
end Go.Proofs.YthlflglkdaainaaGreatDoorW.PrintLast
namespace Go.Proofs.YthlflglkdaainaaGreatDoorW.PrintWords
open Go.RowKit
namespace Kd
end Kd
end Go.Proofs.YthlflglkdaainaaGreatDoorW.PrintWords
namespace Go.Proofs.YthlflglkdaainaaGreatDoorW.PrintMore
open Go.RowKit Go.Proofs.YthlflglkdaainaaGreatDoorW.PrintWords
namespace Kd
open Go.Proofs.YthlflglkdaainaaGreatDoorW.PrintWords.Kd
end Kd
namespace Kd
open Go.Proofs.YthlflglkdaainaaGreatDoorW.PrintWords.Kd
end Kd
end Go.Proofs.YthlflglkdaainaaGreatDoorW.PrintMore
namespace Go.Proofs.YthlflglkdaainaaGreatDoorW.PrintWords
open Go.RowKit
namespace Kd
end Kd
end Go.Proofs.YthlflglkdaainaaGreatDoorW.PrintWords
namespace Go.Proofs.YthlflglkdaainaaGreatDoorW.PrintWords
open Go.RowKit
namespace Kd
end Kd
end Go.Proofs.YthlflglkdaainaaGreatDoorW.PrintWords
namespace Go.Proofs.YthlflglkdaainaaGreatDoor.Prt
open Go.RowKit Go.Proofs.YthlflglkdaainaaGreatDoorW.PrintWords Go.Proofs.YthlflglkdaainaaGreatDoorW.PrintLast Go.Proofs.YthlflglkdaainaaGreatDoorW.PrintMore
attribute [local go_sem] max2_int min2_int max_two min_two max_three min_three max_four min_four   -- for this text's walks alone
set_option linter.unusedVariables false
set_option linter.unusedSimpArgs false
attribute [local go_sem] max2_int min2_int max_two min_two max_three min_three max_four min_four   -- for this text's walks alone
set_option linter.unusedVariables false
set_option linter.unusedSimpArgs false
attribute [local go_sem] max2_int min2_int max_two min_two max_three min_three max_four min_four   -- for this text's walks alone
set_option linter.unusedVariables false
set_option linter.unusedSimpArgs false
attribute [local go_sem] max2_int min2_int max_two min_two max_three min_three max_four min_four   -- for this text's walks alone
set_option linter.unusedVariables false
set_option linter.unusedSimpArgs false
attribute [local go_sem] max2_int min2_int max_two min_two max_three min_three max_four min_four   -- for this text's walks alone
set_option linter.unusedVariables false
set_option linter.unusedSimpArgs false
attribute [local go_sem] max2_int min2_int max_two min_two max_three min_three max_four min_four   -- for this text's walks alone
set_option linter.unusedVariables false
set_option linter.unusedSimpArgs false
attribute [local go_sem] max2_int min2_int max_two min_two max_three min_three max_four min_four   -- for this text's walks alone
set_option linter.unusedVariables false
set_option linter.unusedSimpArgs false
attribute [local go_sem] max2_int min2_int max_two min_two max_three min_three max_four min_four   -- for this text's walks alone
set_option linter.unusedVariables false
set_option linter.unusedSimpArgs false
attribute [local go_sem] max2_int min2_int max_two min_two max_three min_three max_four min_four   -- for this text's walks alone
set_option linter.unusedVariables false
set_option linter.unusedSimpArgs false
attribute [local go_sem] max2_int min2_int max_two min_two max_three min_three max_four min_four   -- for this text's walks alone
set_option linter.unusedVariables false
set_option linter.unusedSimpArgs false
end Go.Proofs.YthlflglkdaainaaGreatDoor.Prt
namespace Go.Proofs.YthlflglkdaainaaGreatDoor.Tr
open Go.RowKit Go.Lib Go.Joins Go.ChangeShapes Go.Deep Go.Proofs.YthlflglkdaainaaGreatDoorW.PrintWords Go.Proofs.YthlflglkdaainaaGreatDoor.Prt
end Go.Proofs.YthlflglkdaainaaGreatDoor.Tr
namespace Go.Proofs.YthlflglkdaainaaGreatDoor.Tr
open Go.RowKit Go.Lib Go.Proofs.YthlflglkdaainaaGreatDoorW.PrintWords Go.Proofs.YthlflglkdaainaaGreatDoor.Prt
end Go.Proofs.YthlflglkdaainaaGreatDoor.Tr
namespace Go.Proofs.YthlflglkdaainaaGreatDoor.Tr
open Go.RowKit Go.Lib Go.Maps Go.Proofs.YthlflglkdaainaaGreatDoorW.PrintWords Go.Proofs.YthlflglkdaainaaGreatDoor.Prt
end Go.Proofs.YthlflglkdaainaaGreatDoor.Tr
namespace Go.Proofs.YthlflglkdaainaaGreatDoor.Tr
open Go.RowKit Go.Lib Go.Maps Go.Proofs.YthlflglkdaainaaGreatDoorW.PrintWords Go.Proofs.YthlflglkdaainaaGreatDoorW.PrintLast Go.Proofs.YthlflglkdaainaaGreatDoorW.PrintMore Go.Proofs.YthlflglkdaainaaGreatDoor.Prt
end Go.Proofs.YthlflglkdaainaaGreatDoor.Tr
namespace Go.Proofs.YthlflglkdaainaaGreatDoor.Tr
open Go.RowKit Go.Lib Go.Proofs.YthlflglkdaainaaGreatDoorW.PrintWords Go.Proofs.YthlflglkdaainaaGreatDoorW.PrintLast Go.Proofs.YthlflglkdaainaaGreatDoorW.PrintMore Go.Proofs.YthlflglkdaainaaGreatDoor.Prt
attribute [local go_sem] gtr_s
end Go.Proofs.YthlflglkdaainaaGreatDoor.Tr
namespace Go.Proofs.YthlflglkdaainaaGreatDoor.Tr
open Go.RowKit
end Go.Proofs.YthlflglkdaainaaGreatDoor.Tr
namespace Go.Proofs.YthlflglkdaainaaGreatDoor.Tr
open Go.RowKit Go.Lib
end Go.Proofs.YthlflglkdaainaaGreatDoor.Tr
namespace Go.Proofs.YthlflglkdaainaaGreatDoor.Tr
open Go.RowKit Go.Lib Go.Sort Go.Shelf Go.Proofs.YthlflglkdaainaaGreatDoorW.PrintWords Go.Proofs.YthlflglkdaainaaGreatDoorW.PrintLast Go.Proofs.YthlflglkdaainaaGreatDoorW.PrintMore Go.Proofs.YthlflglkdaainaaGreatDoor.Prt
end Go.Proofs.YthlflglkdaainaaGreatDoor.Tr
namespace Go.Proofs.YthlflglkdaainaaGreatDoor.Tr
open Go.RowKit Go.Lib
end Go.Proofs.YthlflglkdaainaaGreatDoor.Tr
namespace Go.Proofs.YthlflglkdaainaaGreatDoor.Tr
open Go.RowKit Go.Lib Go.Sort Go.Shelf Go.Proofs.YthlflglkdaainaaGreatDoorW.PrintWords Go.Proofs.YthlflglkdaainaaGreatDoorW.PrintLast Go.Proofs.YthlflglkdaainaaGreatDoorW.PrintMore Go.Proofs.YthlflglkdaainaaGreatDoor.Prt
end Go.Proofs.YthlflglkdaainaaGreatDoor.Tr
namespace Go.Proofs.YthlflglkdaainaaGreatDoor.Tr
open Go.RowKit Go.Lib Go.Proofs.YthlflglkdaainaaGreatDoorW.PrintWords Go.Proofs.YthlflglkdaainaaGreatDoorW.PrintLast Go.Proofs.YthlflglkdaainaaGreatDoorW.PrintMore Go.Proofs.YthlflglkdaainaaGreatDoor.Prt
end Go.Proofs.YthlflglkdaainaaGreatDoor.Tr
namespace Go.Proofs.YthlflglkdaainaaGreatDoor.Tr
open Go.RowKit Go.Lib Go.Sort Go.Shelf Go.Proofs.YthlflglkdaainaaGreatDoorW.PrintWords Go.Proofs.YthlflglkdaainaaGreatDoorW.PrintLast Go.Proofs.YthlflglkdaainaaGreatDoorW.PrintMore Go.Proofs.YthlflglkdaainaaGreatDoor.Prt
end Go.Proofs.YthlflglkdaainaaGreatDoor.Tr
namespace Go.Proofs.YthlflglkdaainaaGreatDoor.Tr
open Go.RowKit Go.Lib Go.Proofs.YthlflglkdaainaaGreatDoorW.PrintWords Go.Proofs.YthlflglkdaainaaGreatDoorW.PrintLast Go.Proofs.YthlflglkdaainaaGreatDoorW.PrintMore Go.Proofs.YthlflglkdaainaaGreatDoor.Prt
end Go.Proofs.YthlflglkdaainaaGreatDoor.Tr
namespace Go.Proofs.YthlflglkdaainaaGreatDoor
open Go.Shelf
end Go.Proofs.YthlflglkdaainaaGreatDoor
namespace Go.Proofs.YthlflglkdaainaaGreatDoor
open Go.RowKit
end Go.Proofs.YthlflglkdaainaaGreatDoor
namespace Go.Proofs.YthlflglkdaainaaGreatDoor
open Go.RowKit
end Go.Proofs.YthlflglkdaainaaGreatDoor
namespace Go.Proofs.YthlflglkdaainaaGreatDoor
open Go.RowKit
end Go.Proofs.YthlflglkdaainaaGreatDoor
namespace Go.Proofs.YthlflglkdaainaaGreatDoor
end Go.Proofs.YthlflglkdaainaaGreatDoor
namespace Go.Proofs.YthlflglkdaainaaGreatDoor
end Go.Proofs.YthlflglkdaainaaGreatDoor
namespace Go.Proofs.YthlflglkdaainaaGreatDoor
end Go.Proofs.YthlflglkdaainaaGreatDoor
namespace Go.Proofs.YthlflglkdaainaaGreatDoor
end Go.Proofs.YthlflglkdaainaaGreatDoor
namespace Go.Proofs.YthlflglkdaainaaGreatDoor
open Go.RowKit
end Go.Proofs.YthlflglkdaainaaGreatDoor
namespace Go.Proofs.YthlflglkdaainaaGreatDoor
open Go.RowKit
end Go.Proofs.YthlflglkdaainaaGreatDoor
namespace Go.Proofs.YthlflglkdaainaaGreatDoor
open Go.RowKit
end Go.Proofs.YthlflglkdaainaaGreatDoor
namespace Go.Proofs.YthlflglkdaainaaGreatDoor
open Go.RowKit
end Go.Proofs.YthlflglkdaainaaGreatDoor
namespace Go.Proofs.YthlflglkdaainaaGreatDoor
open Go.RowKit
end Go.Proofs.YthlflglkdaainaaGreatDoor
namespace Go.Proofs.YthlflglkdaainaaGreatDoor
end Go.Proofs.YthlflglkdaainaaGreatDoor
namespace Go.Proofs.YthlflglkdaainaaGreatDoor
open Go.RowKit
end Go.Proofs.YthlflglkdaainaaGreatDoor
namespace Go.Proofs.YthlflglkdaainaaGreatDoor
end Go.Proofs.YthlflglkdaainaaGreatDoor
namespace Go.Proofs.YthlflglkdaainaaGreatDoor
open Go.RowKit
end Go.Proofs.YthlflglkdaainaaGreatDoor
namespace Go.Proofs.YthlflglkdaainaaGreatDoor
open Go.RowKit
end Go.Proofs.YthlflglkdaainaaGreatDoor
namespace Go.Proofs.YthlflglkdaainaaGreatDoor
open Go.RowKit Go.Shelf
attribute [local go_sem] Oper.semAt_some
end Go.Proofs.YthlflglkdaainaaGreatDoor
namespace Go.Proofs.YthlflglkdaainaaGreatDoor
open Go.RowKit Go.Shelf
attribute [local go_sem] Oper.semAt_some
end Go.Proofs.YthlflglkdaainaaGreatDoor
namespace Go.Proofs.YthlflglkdaainaaGreatDoor
open Go.RowKit Go.Shelf
attribute [local go_sem] Oper.semAt_some
end Go.Proofs.YthlflglkdaainaaGreatDoor
namespace Go.Proofs.YthlflglkdaainaaGreatDoor
open Go.RowKit Go.Shelf
attribute [local go_sem] Oper.semAt_some
end Go.Proofs.YthlflglkdaainaaGreatDoor
namespace Go.Proofs.YthlflglkdaainaaGreatDoor
open Go.RowKit
end Go.Proofs.YthlflglkdaainaaGreatDoor
namespace Go.Proofs.YthlflglkdaainaaGreatDoor
open Go.RowKit
end Go.Proofs.YthlflglkdaainaaGreatDoor
namespace Go.Proofs.YthlflglkdaainaaGreatDoor
open Go.RowKit
end Go.Proofs.YthlflglkdaainaaGreatDoor
namespace Go.Proofs.YthlflglkdaainaaGreatDoor
open Go.RowKit
end Go.Proofs.YthlflglkdaainaaGreatDoor
namespace Go.Proofs.YthlflglkdaainaaGreatDoor
open Go.RowKit
end Go.Proofs.YthlflglkdaainaaGreatDoor
namespace Go.Proofs.YthlflglkdaainaaGreatDoor
open Go.RowKit
end Go.Proofs.YthlflglkdaainaaGreatDoor
namespace Go.Proofs.YthlflglkdaainaaGreatDoor
open Go.RowKit
end Go.Proofs.YthlflglkdaainaaGreatDoor
namespace Go.Proofs.YthlflglkdaainaaGreatDoor
open Go.RowKit
end Go.Proofs.YthlflglkdaainaaGreatDoor
namespace Go.Proofs.YthlflglkdaainaaGreatDoor
open Go.RowKit
end Go.Proofs.YthlflglkdaainaaGreatDoor
namespace Go.Proofs.YthlflglkdaainaaGreatDoor
open Go.RowKit
end Go.Proofs.YthlflglkdaainaaGreatDoor
namespace Go.Proofs.YthlflglkdaainaaGreatDoor
open Go.RowKit
end Go.Proofs.YthlflglkdaainaaGreatDoor
namespace Go.Proofs.YthlflglkdaainaaGreatDoor
open Go.RowKit
end Go.Proofs.YthlflglkdaainaaGreatDoor
namespace Go.Proofs.YthlflglkdaainaaGreatDoor
open Go.RowKit
end Go.Proofs.YthlflglkdaainaaGreatDoor
namespace Go.Proofs.YthlflglkdaainaaGreatDoor
open Go.ChangeShapes Go.WideShapes Go.ChangeAt Go.RowKit
end Go.Proofs.YthlflglkdaainaaGreatDoor
namespace Go.Proofs.YthlflglkdaainaaGreatDoor
open Go.RowKit
end Go.Proofs.YthlflglkdaainaaGreatDoor
namespace Go.Proofs.YthlflglkdaainaaGreatDoor
end Go.Proofs.YthlflglkdaainaaGreatDoor
namespace Go.Proofs.YthlflglkdaainaaGreatDoor
open Go.Sort
end Go.Proofs.YthlflglkdaainaaGreatDoor
namespace Go.Proofs.YthlflglkdaainaaGreatDoor
open Go.Sort
end Go.Proofs.YthlflglkdaainaaGreatDoor
namespace Go.Proofs.YthlflglkdaainaaGreatDoor
open Go.Sort
end Go.Proofs.YthlflglkdaainaaGreatDoor
namespace Go.Proofs.YthlflglkdaainaaGreatDoor
open Go.Shelf Go.RowKit Go.Lib Go.Sort
variable {α : Type} [Inhabited α] {P : Program}
end Go.Proofs.YthlflglkdaainaaGreatDoor
namespace Go.Proofs.YthlflglkdaainaaGreatDoor
open Go.Shelf Go.RowKit Go.Lib Go.Sort
variable {α : Type} [Inhabited α] {P : Program}
end Go.Proofs.YthlflglkdaainaaGreatDoor
namespace Go.Proofs.YthlflglkdaainaaGreatDoor
open Go.Shelf Go.RowKit Go.Lib Go.Sort
variable {α : Type} [Inhabited α] {P : Program}
end Go.Proofs.YthlflglkdaainaaGreatDoor
namespace Go.Proofs.YthlflglkdaainaaGreatDoor
open Go.Shelf Go.RowKit Go.Lib Go.Sort
variable {α : Type} [Inhabited α] {P : Program}
end Go.Proofs.YthlflglkdaainaaGreatDoor
namespace Go.Proofs.YthlflglkdaainaaGreatDoor
open Go.Shelf Go.RowKit Go.Lib Go.Sort
variable {α : Type} [Inhabited α]
variable (enc : α → List Value) (cf : α → α → Int) (g : Nat) (cb : Array Value) (blk off cap : Nat) (d0 : Array α) (w0 : World) (eg : ∀ args w, (callFunc g args).run Tryz.prog w = .ok (.enter g args) w) (hcmp : CmpLays Tryz.prog g cb enc 2 cf blk off d0.size w0) (R : RowK enc 2 w0 blk off d0) (hsz : d0.size < 4611686018427387904)
include eg hcmp R hsz
end Go.Proofs.YthlflglkdaainaaGreatDoor
namespace Go.Proofs.YthlflglkdaainaaGreatDoor
open Go.RowKit
end Go.Proofs.YthlflglkdaainaaGreatDoor
namespace Go.Proofs.YthlflglkdaainaaGreatDoor
open Go.RowKit
end Go.Proofs.YthlflglkdaainaaGreatDoor
namespace Go.Proofs.YthlflglkdaainaaGreatDoor
open Go.RowKit
end Go.Proofs.YthlflglkdaainaaGreatDoor
namespace Go.Proofs.YthlflglkdaainaaGreatDoor
open Go.Shelf Go.RowKit Go.Lib Go.Sort
end Go.Proofs.YthlflglkdaainaaGreatDoor
namespace Go.Proofs.YthlflglkdaainaaGreatDoor
open Go.Shelf Go.RowKit Go.Lib Go.Sort
variable {n₀ Br Bo : Nat} {R O : List Nat} {vr vo : Value} {W W' : World}
end Go.Proofs.YthlflglkdaainaaGreatDoor
namespace Go.Proofs.YthlflglkdaainaaGreatDoor
open Go.Shelf Go.RowKit Go.Lib Go.Sort
end Go.Proofs.YthlflglkdaainaaGreatDoor
namespace Go.Proofs.YthlflglkdaainaaGreatDoor
open Go.RowKit
end Go.Proofs.YthlflglkdaainaaGreatDoor
namespace Go.Proofs.YthlflglkdaainaaGreatDoor
end Go.Proofs.YthlflglkdaainaaGreatDoor
namespace Go.Proofs.YthlflglkdaainaaGreatDoor
end Go.Proofs.YthlflglkdaainaaGreatDoor
namespace Go.Proofs.YthlflglkdaainaaGreatDoor
end Go.Proofs.YthlflglkdaainaaGreatDoor
namespace Go.Proofs.YthlflglkdaainaaGreatDoor
open Go.RowKit
end Go.Proofs.YthlflglkdaainaaGreatDoor
namespace Go.Proofs.YthlflglkdaainaaGreatDoor
open Go.RowKit
end Go.Proofs.YthlflglkdaainaaGreatDoor
namespace Go.Proofs.YthlflglkdaainaaGreatDoor
open Go.RowKit
end Go.Proofs.YthlflglkdaainaaGreatDoor
namespace Go.Proofs.YthlflglkdaainaaGreatDoor
open Go.RowKit
end Go.Proofs.YthlflglkdaainaaGreatDoor
namespace Go.Proofs.YthlflglkdaainaaGreatDoor
open Go.RowKit
end Go.Proofs.YthlflglkdaainaaGreatDoor
namespace Go.Proofs.YthlflglkdaainaaGreatDoor
open Go.RowKit
end Go.Proofs.YthlflglkdaainaaGreatDoor
namespace Go.Proofs.YthlflglkdaainaaGreatDoor
open Go.RowKit Go.Lib
end Go.Proofs.YthlflglkdaainaaGreatDoor
namespace Go.Proofs.YthlflglkdaainaaGreatDoor
open Go.RowKit Go.Lib
end Go.Proofs.YthlflglkdaainaaGreatDoor
namespace Go.Proofs.YthlflglkdaainaaGreatDoor
open Go.RowKit
end Go.Proofs.YthlflglkdaainaaGreatDoor
namespace Go.Proofs.YthlflglkdaainaaGreatDoor
open Go.RowKit
theorem chain2_any (v : Value) (L : List Nat) (w : World) (ht : Tz w) (hv : Sl w v L) (hb : ∀ x ∈ L, x < 4294967296) (hl : L.length ≤ 20000) (g : Nat) (hc0 : w.cell? ⟨g, 0, none⟩ = some (.func (.func 100) #[] #[])) (hc1 : w.cell? ⟨g, 1, none⟩ = some (.func (.func 101) #[] #[])) :
    Calls Tryz.prog 99 #[v, .slice (some ⟨g, 0, none⟩) 2 2] w (RowOf (nfd L) w) := by
 obtain ⟨A, D, C, E, nf⟩ := NF.of hb
 have lA := nf.lA
 have lD := nf.lD
 have HL := fun W v (t : Tz W) (s : Sl W v L) => List_any v L W t s hb (by omega)
 have HO := fun W v (t : Tz W) (s : Sl W v A) => Order_any v A W t s nf.sA (by omega)
 have HC := fun W v (t : Tz W) (s : Sl W v D) => Compose_any v D W t s nf.sD (by omega)
 rw [nf.full] at HL
 rw [nf.ord] at HO
 rw [nf.comp] at HC
 have hD : nfd L = D := by unfold nfd; rw [nf.full, nf.ord]
 have hC : nfc L = C := by unfold nfc; rw [hD, nf.comp]
 rw [hD]
 have HL := hid HL
 have HO := hid HO
 have HC := hid HC
 have HV := hid hv
 clear nf lA lD hD hC hb hl hv
 go_enter Tryz.func99, Tryz.ntmps99
 go_wp2_with fail
 go_loopw [0, 9] (fun s0 s9 wr => (s9 = .int .i64 0 ∧ s0 = v ∧ wr = w) ∨ (s9 = .int .i64 1 ∧ Hid (wr.ownsRow w.heap.size 134 1 s0 A.length (u32s A)) ∧ Gr w wr) ∨ (s9 = .int .i64 2 ∧ Hid (wr.ownsRow w.heap.size 134 1 s0 D.length (u32s D)) ∧ Gr w wr)) (fun _ s9 _ => 3 - (intOf s9).toNat)
 case atStart => exact .inl ⟨rfl, rfl, rfl⟩
 case round =>
  rcases hrel with ⟨rfl, rfl, rfl⟩ | ⟨rfl, HR, hg⟩ | ⟨rfl, HR, hg⟩
  · go_wp2_with (go_at_call 100; refine (HL.out _ _ ht HV.out).mono ?_; rintro e w1 ⟨v1, rfl, hv1, g1⟩; have HV1 := hid hv1; clear hv1)
    go_roundw
    case rel => exact .inr (.inl ⟨rfl, HV1, g1⟩)
    case measure => simp [intOf]
  · have hd1 := hg.cell hc1
    go_wp2_with (go_at_call 101; refine (HO.out wr _ (ht.gr hg) (Sl.of_row HR.out)).mono ?_; rintro e w1 ⟨v1, rfl, hv1, g1⟩; have HV1 := hid hv1; clear hv1)
    go_roundw
    case rel => exact .inr (.inr (⟨rfl, hid (HV1.out.mono' hg.size), hg.trans g1⟩))
    case measure => simp [intOf]
  · go_wp2_with fail
    go_ret
    exact ⟨_, rfl, HR.out, hg⟩
theorem NFD_any (v : Value) (L : List Nat) (w : World) (ht : Tz w) (hv : Sl w v L) (hb : ∀ x ∈ L, x < 4294967296) (hl : L.length ≤ 20000) : Calls Tryz.prog 94 #[v] w (RowOf (nfd L) w) := by
 have H := hid (chain2_any v L (w.alloc (.cells #[.func (.func 100) #[] #[], .func (.func 101) #[] #[]] 113)) (ht.gr (Gr.alloc _ _)) (hv.gr (Gr.alloc _ _)) hb hl w.heap.size (by simp [World.cell?_alloc_new]) (by simp [World.cell?_alloc_new]))
 clear hv hb hl
 go_enter Tryz.func94, Tryz.ntmps94
 go_wp2_with (go_at_call 99; refine H.out.mono ?_; clear H; rintro e w1 ⟨v1, rfl, hv1, g1⟩; have HV1 := hid hv1; clear hv1)
 go_ret
 exact ⟨_, rfl, HV1.out.mono' (Gr.alloc w _).size, (Gr.alloc w _).trans g1⟩
end Go.Proofs.YthlflglkdaainaaGreatDoor
namespace Go.Proofs.YthlflglkdaainaaGreatDoor
open Go.RowKit
theorem take_get {A B : List Nat} (h : A.length = B.length) (hk : ∀ k, k < A.length → A.getD k 0 = B.getD k 0) : A = B := by
 refine List.ext_getElem h fun k h1 h2 => ?_
 have := hk k h1
 rwa [List.getD, List.getD, List.getElem?_eq_getElem h1, List.getElem?_eq_getElem h2] at this
theorem Equal_any (va vb : Value) (A B : List Nat) (w : World) (ha : Sl w va A) (hb : Sl w vb B) (hl : A.length ≤ 1000000) : Calls Tryz.prog 93 #[va, vb] w fun e w' => e = .returned (.bool (decide (A = B))) ∧ Gr w w' := by
 obtain ⟨ao, ca, rfl, _, hA⟩ := ha
 obtain ⟨bo, cb, rfl, _, hB⟩ := hb
 by_cases hln : A.length = B.length
 · obtain ⟨n, hn⟩ : ∃ n, A.length = n := ⟨_, rfl⟩
   have hm : B.length = n := by omega
   rw [hn] at hA
   rw [hm] at hB
   rw [hn, hm]
   obtain ⟨r, hr⟩ : ∃ r, decide (A = B) = r := ⟨_, rfl⟩
   rw [hr]
   have HR := hid hr
   have HN := hid hn
   have HM := hid hm
   have HA := hid hA
   have HB := hid hB
   have hnb : (n : Int) ≤ 1000000 := by omega
   clear hr hn hm hA hB hln hl
   go_enter Tryz.func93, Tryz.ntmps93
   go_wp2_with fail
   go_loopw [13] (fun s wr => ∃ k : Nat, k ≤ n ∧ s = .int .i64 k ∧ Hid (∀ j, j < k → A.getD j 0 = B.getD j 0) ∧ Gr w wr) (fun s _ => n - (intOf s).toNat)
   case atStart => exact ⟨0, Nat.zero_le _, rfl, (fun j hj => absurd hj (Nat.not_lt_zero _)), Gr.refl _⟩
   case round =>
    obtain ⟨k, hk, rfl, HE, hgk⟩ := hrel
    by_cases hlt : k < n
    · have hltz : (k : Int) < n := by omega
      obtain ⟨g1, o1, rfl, hc1⟩ := HA.out k hlt
      obtain ⟨g2, o2, rfl, hc2⟩ := HB.out k hlt
      have hc1 := hgk.cell hc1
      have hc2 := hgk.cell hc2
      obtain ⟨x, hx⟩ : ∃ x, A.getD k 0 = x := ⟨_, rfl⟩
      obtain ⟨y, hy⟩ : ∃ y, B.getD k 0 = y := ⟨_, rfl⟩
      rw [hx] at hc1
      rw [hy] at hc2
      have HX := hid hx
      have HY := hid hy
      clear hx hy
      by_cases hxy : x = y
      · subst hxy
        have HE2 : Hid (∀ j, j < k + 1 → A.getD j 0 = B.getD j 0) := fun j hj => by
         rcases Nat.lt_or_ge j k with h | h
         · exact HE.out j h
         · obtain rfl : j = k := by omega
           rw [HX.out, HY.out]
        go_wp2_with fail
        go_quiet (fail)
        go_wp2_with fail
        go_roundw
        case rel => exact ⟨k + 1, hlt, by go_num, HE2, hgk.trans (Gr.drewN _ _)⟩
        case measure => simp [intOf]; omega
      · have z1 : ¬ (x : Int) = y := by omega
        have z2 : ((x : Int) != (y : Int)) = true := by rw [bne_iff_ne]; exact z1
        have HRF : Hid (r = false) := by show _ = _; rw [← HR.out]; exact decide_eq_false fun h => hxy (by rw [← HX.out, ← HY.out, h])
        clear hxy
        go_wp2_with fail
        go_quiet (fail)
        go_wp2_with fail
        go_ret
        rw [HRF.out]
        exact ⟨rfl, hgk.trans (Gr.drewN _ _)⟩
    · have hltz : ¬ (k : Int) < n := by omega
      have HRT : Hid (r = true) := by show _ = _; rw [← HR.out]; exact decide_eq_true (take_get (by rw [HN.out, HM.out]) fun j hj => HE.out j (by rw [HN.out] at hj; omega))
      go_wp2_with fail
      go_ret
      rw [HRT.out]
      exact ⟨rfl, hgk⟩
 · have z1 : ¬ (A.length : Int) = B.length := by omega
   have z2 : ((A.length : Int) != (B.length : Int)) = true := by rw [bne_iff_ne]; exact z1
   have hf : decide (A = B) = false := decide_eq_false fun h => hln (by rw [h])
   rw [hf]
   clear hA hB hln hf hl
   go_enter Tryz.func93, Tryz.ntmps93
   go_wp2_with fail
   go_ret
   exact ⟨rfl, Gr.refl _⟩
theorem nsame_any (va vb : Value) (A B : List Nat) (w : World) (ht : Tz w) (ha : Sl w va A) (hb : Sl w vb B) (sa : ∀ x ∈ A, x < 4294967296) (sb : ∀ x ∈ B, x < 4294967296) (hla : A.length ≤ 20000) (hlb : B.length ≤ 20000) : Calls Tryz.prog 68 #[va, vb] w fun e w' => e = .returned (.bool (decide (nfd A = nfd B))) ∧ Gr w w' := by
 have HQ := Equal_any va vb A B w ha hb (by omega)
 by_cases hab : A = B
 · rw [decide_eq_true hab] at HQ
   rw [decide_eq_true (by rw [hab])]
   have HQ := hid HQ
   clear ha hb sa sb hla hlb hab
   go_enter Tryz.func68, Tryz.ntmps68
   go_wp2_with (go_at_call 93; refine HQ.out.mono ?_; clear HQ; rintro e w1 ⟨rfl, g1⟩)
   go_ret
   exact ⟨rfl, g1⟩
 · rw [decide_eq_false hab] at HQ
   have HA := hid (fun W (g : Gr w W) => NFD_any va A W (ht.gr g) (ha.gr g) sa hla)
   have HB := hid (fun W (g : Gr w W) => NFD_any vb B W (ht.gr g) (hb.gr g) sb hlb)
   have hlen : (nfd A).length ≤ 1000000 := by have := nfd_len A; omega
   have HE := hid (fun W a b (s : Sl W a (nfd A)) (s' : Sl W b (nfd B)) => Equal_any a b (nfd A) (nfd B) W s s' hlen)
   obtain ⟨r, hr⟩ : ∃ r, decide (nfd A = nfd B) = r := ⟨_, rfl⟩
   rw [hr] at HE ⊢
   have HQ := hid HQ
   clear ha hb sa sb hla hlb hab hr hlen
   go_enter Tryz.func68, Tryz.ntmps68
   go_wp2_with (first
    | (go_at_call 93; ((with_reducible refine HQ.out.mono ?_); clear HQ; rintro e w1 ⟨rfl, g1⟩))
    | (go_at_call 94; ((with_reducible refine (HA.out w1 g1).mono ?_); clear HA; rintro e w2 ⟨v2, rfl, hv2, g2⟩; have HV2 := hid (Sl.of_row hv2); clear hv2))
    | (go_at_call 94; ((with_reducible refine (HB.out w2 (g1.trans g2)).mono ?_); clear HB; rintro e w3 ⟨v3, rfl, hv3, g3⟩; have HV3 := hid (Sl.of_row hv3); clear hv3))
    | (go_at_call 93; ((with_reducible refine (HE.out w3 v2 v3 (HV2.out.gr g3) HV3.out).mono ?_); clear HE; rintro e w4 ⟨rfl, g4⟩)))
   go_ret
   exact ⟨rfl, ((g1.trans g2).trans g3).trans g4⟩
end Go.Proofs.YthlflglkdaainaaGreatDoor
namespace Go.Proofs.YthlflglkdaainaaGreatDoor
open Go.RowKit
end Go.Proofs.YthlflglkdaainaaGreatDoor
namespace Go.Proofs.YthlflglkdaainaaGreatDoor
open Go.RowKit
end Go.Proofs.YthlflglkdaainaaGreatDoor
namespace Go.Proofs.YthlflglkdaainaaGreatDoor
open Go.RowKit Go.Shelf
attribute [local go_sem] Oper.semAt_some
end Go.Proofs.YthlflglkdaainaaGreatDoor
namespace Go.Proofs.YthlflglkdaainaaGreatDoor
open Go.RowKit
end Go.Proofs.YthlflglkdaainaaGreatDoor
namespace Go.Proofs.YthlflglkdaainaaGreatDoor
open Go.Lib
end Go.Proofs.YthlflglkdaainaaGreatDoor
namespace Go.Proofs.YthlflglkdaainaaGreatDoor
end Go.Proofs.YthlflglkdaainaaGreatDoor
namespace Go.Proofs.YthlflglkdaainaaGreatDoor
open Go.RowKit Go.Lib
end Go.Proofs.YthlflglkdaainaaGreatDoor
namespace Go.Proofs.YthlflglkdaainaaGreatDoor
open Go.RowKit Go.Lib
end Go.Proofs.YthlflglkdaainaaGreatDoor
namespace Go.Proofs.YthlflglkdaainaaGreatDoor
open Go.RowKit Go.Shelf
attribute [local go_sem] Oper.semAt_some
end Go.Proofs.YthlflglkdaainaaGreatDoor
namespace Go.Proofs.YthlflglkdaainaaGreatDoor
open Go.RowKit Go.Lib
end Go.Proofs.YthlflglkdaainaaGreatDoor
namespace Go.Proofs.YthlflglkdaainaaGreatDoor
open Go.ChangeShapes Go.WideShapes Go.ChangeAt Go.RowKit Go.Lib Go.Shelf
end Go.Proofs.YthlflglkdaainaaGreatDoor
namespace Go.Proofs.YthlflglkdaainaaGreatDoor
open Go.RowKit Go.Lib
end Go.Proofs.YthlflglkdaainaaGreatDoor
namespace Go.Proofs.YthlflglkdaainaaGreatDoor
open Go.RowKit Go.Lib
end Go.Proofs.YthlflglkdaainaaGreatDoor
namespace Go.Proofs.YthlflglkdaainaaGreatDoor.Tr
open Go.RowKit Go.Lib Go.Joins Go.ChangeShapes Go.Deep Go.Proofs.YthlflglkdaainaaGreatDoorW.PrintWords Go.Proofs.YthlflglkdaainaaGreatDoorW.PrintLast Go.Proofs.YthlflglkdaainaaGreatDoorW.PrintMore Go.Proofs.YthlflglkdaainaaGreatDoor.Prt
end Go.Proofs.YthlflglkdaainaaGreatDoor.Tr
namespace Go.Proofs.YthlflglkdaainaaGreatDoor.Tr
open Go.RowKit Go.Lib Go.Proofs.YthlflglkdaainaaGreatDoorW.PrintWords Go.Proofs.YthlflglkdaainaaGreatDoorW.PrintLast Go.Proofs.YthlflglkdaainaaGreatDoorW.PrintMore Go.Proofs.YthlflglkdaainaaGreatDoor.Prt
section
variable {L : List It} (h14 : checkN L ≠ 14)
include h14
end
end Go.Proofs.YthlflglkdaainaaGreatDoor.Tr
namespace Go.Proofs.YthlflglkdaainaaGreatDoor.Tr
open Go.RowKit Go.Lib Go.Maps Go.Proofs.YthlflglkdaainaaGreatDoorW.PrintWords Go.Proofs.YthlflglkdaainaaGreatDoorW.PrintLast Go.Proofs.YthlflglkdaainaaGreatDoorW.PrintMore Go.Proofs.YthlflglkdaainaaGreatDoor.Prt
end Go.Proofs.YthlflglkdaainaaGreatDoor.Tr
namespace Go.Proofs.YthlflglkdaainaaGreatDoor
open Go.Lib
end Go.Proofs.YthlflglkdaainaaGreatDoor
namespace Go.Proofs.YthlflglkdaainaaGreatDoor
open Go.RowKit Go.Lib
end Go.Proofs.YthlflglkdaainaaGreatDoor
namespace Go.Proofs.YthlflglkdaainaaGreatDoor
open Go.RowKit Go.Lib
end Go.Proofs.YthlflglkdaainaaGreatDoor
namespace Go.Proofs.YthlflglkdaainaaGreatDoor
open Go.RowKit Go.Lib
end Go.Proofs.YthlflglkdaainaaGreatDoor
namespace Go.Proofs.YthlflglkdaainaaGreatDoor.Tr
open Go.RowKit Go.Lib Go.Proofs.YthlflglkdaainaaGreatDoorW.PrintWords Go.Proofs.YthlflglkdaainaaGreatDoorW.PrintLast Go.Proofs.YthlflglkdaainaaGreatDoorW.PrintMore Go.Proofs.YthlflglkdaainaaGreatDoor.Prt
end Go.Proofs.YthlflglkdaainaaGreatDoor.Tr
namespace Go.Proofs.YthlflglkdaainaaGreatDoor.Tr
open Go.RowKit Go.Lib Go.Maps Go.Proofs.YthlflglkdaainaaGreatDoorW.PrintWords Go.Proofs.YthlflglkdaainaaGreatDoorW.PrintLast Go.Proofs.YthlflglkdaainaaGreatDoorW.PrintMore Go.Proofs.YthlflglkdaainaaGreatDoor.Prt
end Go.Proofs.YthlflglkdaainaaGreatDoor.Tr
namespace Go.Proofs.YthlflglkdaainaaGreatDoor.Tr
open Go.RowKit Go.Lib
noncomputable def sameB (a b : List UInt8) : Bool := match codes a, codes b with
 | some p, some q => decide (nfd p = nfd q)
 | _, _ => decide (a = b)
theorem sameB_refl (a : List UInt8) : sameB a a = true := by
 unfold sameB
 cases codes a with
 | none => simp
 | some p => simp
theorem sameB_text {b c : List UInt8} (h : textB b = some c) : sameB c b = true := by
 obtain ⟨l, h1, h2, h3, _, _⟩ := textB_some h
 unfold sameB
 rw [h3, h1]
 show decide (nfd (nfc l) = nfd l) = true
 rw [nfd_nfc]; simp
theorem textB_self {b c : List UInt8} (h : textB b = some c) : textB c = some c := by
 obtain ⟨_, _, _, _, h4, _⟩ := textB_some h
 exact h4
theorem same_any (va vb : Value) (a b : List UInt8) (w : World) (ht : Tz w) (hu : Ut w) (ha : Bs w va a) (hb : Bs w vb b) (hla : a.length ≤ 20000) (hlb : b.length ≤ 20000) :
    Calls Tryz.prog 33 #[va, vb] w fun e w' => e = .returned (.bool (sameB a b)) ∧ Gr w w' := by
 have HA := hid (fun W (g : Gr w W) => Codes_any va a W (hu.gr g) (ha.gr g) (by omega))
 have HB := hid (fun W (g : Gr w W) => Codes_any vb b W (hu.gr g) (hb.gr g) (by omega))
 have CA := hid (fun W (g : Gr w W) => (ha.gr g).conv 46 9 Tryz.underlying46 Tryz.underlying9)
 have CB := hid (fun W (g : Gr w W) => (hb.gr g).conv 46 9 Tryz.underlying46 Tryz.underlying9)
 have hs : ((strB a).toList == (strB b).toList) = decide (a = b) := by
  rw [toList_data, toList_data, strB_list, strB_list]
  by_cases h : a = b
  · rw [h]; simp
  · rw [decide_eq_false h, ← Bool.not_eq_true, beq_iff_eq]; exact h
 unfold sameB
 cases h1 : codes a with
 | none =>
  have HA1 : Hid (Calls Tryz.prog 67 #[va] w fun e w' => e = .returned (.tuple #[.slice none 0 0, .int .i64 6]) ∧ Gr w w') := (HA.out w (Gr.refl w)).mono fun e w' h => by
   rcases h with ⟨⟨_, h2⟩ | ⟨L, _, h2, _⟩, h3⟩
   · exact ⟨h2, h3⟩
   · rw [h1] at h2; cases h2
  have HB1 : Hid (∀ W, Gr w W → Calls Tryz.prog 67 #[vb] W fun e w' => ∃ v c, e = .returned (.tuple #[v, .int .i64 c]) ∧ Gr W w') := fun W g => (HB.out W g).mono fun e w' h => by
   rcases h with ⟨⟨_, h2⟩ | ⟨L, v, _, h2, _⟩, h3⟩
   · exact ⟨_, _, h2, h3⟩
   · exact ⟨_, _, h2, h3⟩
  show Calls _ _ _ _ fun e w' => e = .returned (.bool (decide (a = b))) ∧ Gr w w'
  rw [← hs]
  generalize strB a = sa at CA ⊢
  generalize strB b = sb at CB ⊢
  clear HA HB ha hb hs h1
  go_enter Tryz.func33, Tryz.ntmps33
  go_wp2_with (first
   | (go_at_call 67; with_reducible refine HA1.out.mono ?_; rintro e w1 ⟨rfl, g1⟩)
   | (go_at_call 67; with_reducible refine (HB1.out w1 g1).mono ?_; rintro e w2 ⟨v2, c2, rfl, g2⟩; have g20 := g1.trans g2; have C1 := CA.out w2 g20; have C2 := CB.out w2 g20))
  go_ret
  exact ⟨rfl, g20⟩
 | some p =>
  have HA1 : Hid (Calls Tryz.prog 67 #[va] w fun e w' => ∃ v', e = .returned (.tuple #[v', .int .i64 0]) ∧ w'.ownsRow w.heap.size 134 1 v' p.length (u32s p) ∧ Gr w w') := (HA.out w (Gr.refl w)).mono fun e w' h => by
   rcases h with ⟨⟨h2, _⟩ | ⟨L, v, h2, h3, h4⟩, h5⟩
   · rw [h1] at h2; cases h2
   · rw [h1] at h2; obtain rfl := Option.some.inj h2; exact ⟨v, h3, h4, h5⟩
  have hp := (bytes_codes h1).2
  have hpl := codes_len h1
  cases h2 : codes b with
  | none =>
   have HB1 : Hid (∀ W, Gr w W → Calls Tryz.prog 67 #[vb] W fun e w' => e = .returned (.tuple #[.slice none 0 0, .int .i64 6]) ∧ Gr W w') := fun W g => (HB.out W g).mono fun e w' h => by
    rcases h with ⟨⟨_, h3⟩ | ⟨L, _, h3, _⟩, h4⟩
    · exact ⟨h3, h4⟩
    · rw [h2] at h3; cases h3
   show Calls _ _ _ _ fun e w' => e = .returned (.bool (decide (a = b))) ∧ Gr w w'
   rw [← hs]
   generalize strB a = sa at CA ⊢
   generalize strB b = sb at CB ⊢
   clear HA HB ha hb hs h1 h2 hp hpl
   go_enter Tryz.func33, Tryz.ntmps33
   go_wp2_with (first
    | (go_at_call 67; with_reducible refine HA1.out.mono ?_; rintro e w1 ⟨v1, rfl, _, g1⟩)
    | (go_at_call 67; with_reducible refine (HB1.out w1 g1).mono ?_; rintro e w2 ⟨rfl, g2⟩; have g20 := g1.trans g2; have C1 := CA.out w2 g20; have C2 := CB.out w2 g20))
   go_ret
   exact ⟨rfl, g20⟩
  | some q =>
   have hq := (bytes_codes h2).2
   have hql := codes_len h2
   have HB1 : Hid (∀ W, Gr w W → Calls Tryz.prog 67 #[vb] W fun e w' => ∃ v', e = .returned (.tuple #[v', .int .i64 0]) ∧ w'.ownsRow W.heap.size 134 1 v' q.length (u32s q) ∧ Gr W w') := fun W g => (HB.out W g).mono fun e w' h => by
    rcases h with ⟨⟨h3, _⟩ | ⟨L, v, h3, h4, h5⟩, h6⟩
    · rw [h2] at h3; cases h3
    · rw [h2] at h3; obtain rfl := Option.some.inj h3; exact ⟨v, h4, h5, h6⟩
   have HS := hid (fun W x y (g : Gr w W) (s : Sl W x p) (s' : Sl W y q) => nsame_any x y p q W (ht.gr g) s s' hp.small hq.small (by omega) (by omega))
   show Calls _ _ _ _ fun e w' => e = .returned (.bool (decide (nfd p = nfd q))) ∧ Gr w w'
   generalize decide (nfd p = nfd q) = r at HS ⊢
   clear HA HB CA CB ha hb hs h1 h2 hp hpl hq hql
   go_enter Tryz.func33, Tryz.ntmps33
   go_wp2_with (first
    | (go_at_call 67; with_reducible refine HA1.out.mono ?_; rintro e w1 ⟨v1, rfl, h1, g1⟩; have S1 := hid (Sl.of_row h1); clear h1)
    | (go_at_call 67; with_reducible refine (HB1.out w1 g1).mono ?_; rintro e w2 ⟨v2, rfl, h2, g2⟩; have g20 := g1.trans g2; have S2 := hid (Sl.of_row h2); clear h2)
    | (go_at_call 68; with_reducible refine (HS.out w2 v1 v2 g20 (S1.out.gr g2) S2.out).mono ?_; rintro e w3 ⟨rfl, g3⟩))
   go_ret
   exact ⟨rfl, g20.trans g3⟩
end Go.Proofs.YthlflglkdaainaaGreatDoor.Tr
namespace Go.Proofs.YthlflglkdaainaaGreatDoor.Tr
open Go.RowKit Go.Lib Go.Maps Go.Proofs.YthlflglkdaainaaGreatDoorW.PrintWords Go.Proofs.YthlflglkdaainaaGreatDoorW.PrintLast Go.Proofs.YthlflglkdaainaaGreatDoorW.PrintMore Go.Proofs.YthlflglkdaainaaGreatDoor.Prt
theorem nm_stands (L : List It) (x : It) : sameB (jNm L x).1.data.toList x.f1.data.toList = true ∧ ((jNm L x).2 ≠ 0 → (jNm L x).1 = x.f1) ∧ ((jNm L x).2 = 0 → textB (jNm L x).1.data.toList = some (jNm L x).1.data.toList) := by
 unfold jNm
 cases h : cmB x with
 | none => exact ⟨sameB_refl _, fun _ => rfl, fun e => by cases e⟩
 | some c =>
  show sameB (if 48 < c.length then (x.f1, (3 : Int)) else if 1 < cntN L L.length x.f0 c then (x.f1, 2) else (strB c, 0)).1.data.toList _ = true ∧ ((if 48 < c.length then (x.f1, (3 : Int)) else if 1 < cntN L L.length x.f0 c then (x.f1, 2) else (strB c, 0)).2 ≠ 0 → (if 48 < c.length then (x.f1, (3 : Int)) else if 1 < cntN L L.length x.f0 c then (x.f1, 2) else (strB c, 0)).1 = x.f1) ∧ ((if 48 < c.length then (x.f1, (3 : Int)) else if 1 < cntN L L.length x.f0 c then (x.f1, 2) else (strB c, 0)).2 = 0 → textB (if 48 < c.length then (x.f1, (3 : Int)) else if 1 < cntN L L.length x.f0 c then (x.f1, 2) else (strB c, 0)).1.data.toList = some (if 48 < c.length then (x.f1, (3 : Int)) else if 1 < cntN L L.length x.f0 c then (x.f1, 2) else (strB c, 0)).1.data.toList)
  by_cases h1 : 48 < c.length
  · rw [if_pos h1]; exact ⟨sameB_refl _, fun _ => rfl, fun e => by cases e⟩
  · rw [if_neg h1]
    by_cases h2 : 1 < cntN L L.length x.f0 c
    · rw [if_pos h2]; exact ⟨sameB_refl _, fun _ => rfl, fun e => by cases e⟩
    · rw [if_neg h2]
      show sameB (strB c).data.toList _ = true ∧ ((0 : Int) ≠ 0 → _) ∧ ((0 : Int) = 0 → textB (strB c).data.toList = some (strB c).data.toList)
      rw [strB_list]
      exact ⟨sameB_text h, fun e => absurd rfl e, fun _ => textB_self h⟩
theorem dt_stands {x : It} (hb : Bytes8 x.f3) (hd : x.f2 = true → x.f3 = []) : sameB (u8s (jDt x).1) (u8s x.f3) = true ∧ ((jDt x).2 ≠ 0 → (jDt x).1 = x.f3) ∧ ((jDt x).2 = 0 → textB (u8s (jDt x).1) = some (u8s (jDt x).1)) := by
 unfold jDt
 by_cases h : x.f2 = true
 · rw [if_pos h, hd h]
   refine ⟨sameB_refl _, fun e => absurd rfl e, fun _ => ?_⟩
   show textB [] = some []
   obtain ⟨c, hc⟩ : ∃ c, textB [] = some c := ⟨_, by unfold textB; rw [codes_nil]; rfl⟩
   obtain ⟨_, _, _, _, _, h5⟩ := textB_some hc
   have : c = [] := List.eq_nil_of_length_eq_zero (by simpa using h5)
   rw [hc, this]
 · rw [if_neg h]
   show sameB (u8s (i8s (dOf (u8s x.f3)).1)) _ = true ∧ ((dOf (u8s x.f3)).2 ≠ 0 → i8s (dOf (u8s x.f3)).1 = x.f3) ∧ ((dOf (u8s x.f3)).2 = 0 → textB (u8s (i8s (dOf (u8s x.f3)).1)) = some (u8s (i8s (dOf (u8s x.f3)).1)))
   rw [u8s_i8s]
   cases ht : textB (u8s x.f3) with
   | none =>
    have e : dOf (u8s x.f3) = (u8s x.f3, 4) := by unfold dOf; rw [ht]
    rw [e]
    exact ⟨sameB_refl _, fun _ => i8s_u8s hb, fun e => by cases e⟩
   | some c =>
    by_cases h1 : 8192 < c.length
    · have e : dOf (u8s x.f3) = (u8s x.f3, 5) := by unfold dOf; rw [ht]; exact if_pos h1
      rw [e]
      exact ⟨sameB_refl _, fun _ => i8s_u8s hb, fun e => by cases e⟩
    · have e : dOf (u8s x.f3) = (c, 0) := by unfold dOf; rw [ht]; exact if_neg h1
      rw [e]
      exact ⟨sameB_text ht, fun e => absurd rfl e, fun _ => textB_self ht⟩
end Go.Proofs.YthlflglkdaainaaGreatDoor.Tr
namespace Go.Proofs.YthlflglkdaainaaGreatDoor.Tr
open Go.RowKit Go.Lib
end Go.Proofs.YthlflglkdaainaaGreatDoor.Tr
namespace Go.Proofs.YthlflglkdaainaaGreatDoor.Tr
open Go.RowKit Go.Lib Go.Proofs.YthlflglkdaainaaGreatDoorW.PrintWords Go.Proofs.YthlflglkdaainaaGreatDoorW.PrintLast Go.Proofs.YthlflglkdaainaaGreatDoorW.PrintMore Go.Proofs.YthlflglkdaainaaGreatDoor.Prt
section
variable {T : List It} (h14 : checkN T ≠ 14)
include h14
end
section
variable {L : List It} (h0 : checkN L = 0)
include h0
end
end Go.Proofs.YthlflglkdaainaaGreatDoor.Tr
namespace Go.Proofs.YthlflglkdaainaaGreatDoor.Tr
open Go.RowKit Go.Lib Go.Maps Go.Proofs.YthlflglkdaainaaGreatDoorW.PrintWords Go.Proofs.YthlflglkdaainaaGreatDoorW.PrintLast Go.Proofs.YthlflglkdaainaaGreatDoorW.PrintMore Go.Proofs.YthlflglkdaainaaGreatDoor.Prt
def CapV (w : World) (A : Option Addr) (n : Nat) : Prop := ∀ j, j < n → ∃ ad A3 l3 c3, A = some ad ∧ w.cell? (ad.add (j * 4 + 2)) = some (.slice A3 l3 c3) ∧ c3 ≤ maxLen ∧ (A3 = none → c3 = 0)
theorem CapV.below {w w' : World} {A : Option Addr} {n : Nat} (h : CapV w A n) (hb : Below w.heap.size w w') : CapV w' A n := fun j hj => by
 obtain ⟨ad, A3, l3, c3, e, hc, h1, h2⟩ := h j hj
 exact ⟨ad, A3, l3, c3, e, (hb.cell (World.block_lt_of_cell? w _ hc)).trans hc, h1, h2⟩
theorem capv_of_R {L : List Vd} {W : World} {base : Nat} {ok : Nat → Prop} {Aa : Option Addr} {n c : Nat} {t : TypeId} (h : Kd.R kVd t W base ok (.slice Aa n c) L) : CapV W Aa n := by
 intro j hj
 obtain ⟨hn, _⟩ := Kd.R_reads' h
 have hjl : j < L.length := by omega
 obtain ⟨g, cap, e, _, _, _⟩ := Kd.R_form h (by omega)
 cases e
 obtain ⟨cs, hM, hc⟩ := r_at h j hjl
 obtain ⟨v2, rfl, hv2⟩ := k49_openM hM
 obtain ⟨_, inner, ho, _⟩ := id hv2
 obtain ⟨A3, c3, rfl⟩ := Kd.R_slice hv2
 refine ⟨⟨g, 0, none⟩, A3, L[j].f2.length, c3, rfl, ?_, ?_⟩
 · have := (hc 2 _ rfl).1
   rw [add_at0]
   exact this
 · rcases ho.2 with ⟨e1, _⟩ | ⟨g2, cap2, cur, e1, _, _, _, hm, _⟩
   · injection e1 with _ _ e3
     exact ⟨by unfold maxLen; omega, fun _ => e3⟩
   · injection e1 with e2 _ e3
     exact ⟨by omega, fun h => by rw [h] at e2; cases e2⟩
theorem capv_at {w : World} {A : Option Addr} {n k : Nat} (h : CapV w A n) (hk : k < n) {ad : Addr} (hA : A = some ad) {A3 : Option Addr} {l c : Nat} (z3 : w.cell? ⟨(ad.add (k * 4)).block, (ad.add (k * 4)).off + 2, none⟩ = some (.slice A3 l c)) : c ≤ maxLen ∧ (A3 = none → c = 0) := by
 obtain ⟨ad', A4, l4, c4, e, hc, h1, h2⟩ := h k hk
 rw [hA] at e
 cases e
 have e2 : ad.add (k * 4 + 2) = ⟨(ad.add (k * 4)).block, (ad.add (k * 4)).off + 2, none⟩ := by
  unfold Addr.add
  rw [if_neg (by omega)]
  by_cases hk0 : k * 4 = 0
  · rw [if_pos hk0, hk0, Nat.zero_add]
  · rw [if_neg hk0, Nat.add_assoc]
 rw [e2, z3] at hc
 injection hc with hc
 injection hc with e3 _ e5
 subst e3; subst e5
 exact ⟨h1, h2⟩
structure Std (nm xn : ByteArray) (nw : Int) (dt xd : List Int) (dw : Int) : Prop where
 s1 : sameB nm.data.toList xn.data.toList = true
 s2 : nw ≠ 0 → nm = xn
 s3 : nw = 0 → textB nm.data.toList = some nm.data.toList
 t1 : sameB (u8s dt) (u8s xd) = true
 t2 : dw ≠ 0 → dt = xd
 t3 : dw = 0 → textB (u8s dt) = some (u8s dt)
 n1 : nm.size ≤ 20000
 n2 : xn.size ≤ 20000
 n3 : dt.length ≤ 20000
 n4 : xd.length ≤ 20000
 b1 : Bytes8 dt
 b2 : Bytes8 xd
theorem std_at {L : List It} (h0 : checkN L = 0) (hwf : WfL L) (hs : ∀ x ∈ L, x.f1.size ≤ 20000 ∧ x.f3.length ≤ 20000) {i : Nat} (hi : i < L.length) :
    Std (rd_T49 (vdL L) (i : Int)).f0 (itA L (i : Int)).f1 (rd_T49 (vdL L) (i : Int)).f1 (rd_T49 (vdL L) (i : Int)).f2 (itA L (i : Int)).f3 (rd_T49 (vdL L) (i : Int)).f3 := by
 have e : rd_T49 (vdL L) (i : Int) = vdI L L[i] := by
  unfold rd_T49 vdL
  rw [Int.toNat_natCast, List.getD_eq_getElem?_getD, List.getElem?_map, List.getElem?_eq_getElem hi]
  rfl
 rw [e, itA_get hi]
 have hm := List.getElem_mem hi
 obtain ⟨_, _, _, w4, _⟩ := hwf _ hm
 obtain ⟨_, _, q3⟩ := check_ok (show checkN L ≠ 14 by rw [h0]; decide)
 rw [List.all_eq_true] at q3
 have hd : L[i].f2 = true → L[i].f3 = [] := fun h => by
  rcases ((rightB_iff _).1 (q3 _ hm)).2 with h1 | ⟨h1, _⟩
  · exact h1
  · rw [h] at h1; cases h1
 obtain ⟨_, _, q4⟩ := check_ok (turn14 h0)
 rw [List.all_eq_true] at q4
 have hr := q4 (turnI L L[i]) (List.mem_map.2 ⟨_, hm, rfl⟩)
 obtain ⟨a1, a2, a3⟩ := nm_stands L L[i]
 obtain ⟨b1, b2, b3⟩ := dt_stands (x := L[i]) w4 hd
 have hs1 := ((rightB_iff _).1 hr).1.1.2
 have hs2 := right_len hr
 refine ⟨a1, a2, a3, b1, b2, b3, ?_, (hs _ hm).1, ?_, (hs _ hm).2, ?_, w4⟩
 · have : ((jNm L L[i]).1.size : Int) ≤ 48 := hs1
   show (jNm L L[i]).1.size ≤ 20000
   omega
 · have : (jDt L[i]).1.length ≤ 8192 := hs2
   show (jDt L[i]).1.length ≤ 20000
   omega
 · show Bytes8 (jDt L[i]).1
   unfold jDt
   by_cases h : L[i].f2 = true
   · rw [if_pos h]; intro b hb; cases hb
   · rw [if_neg h]; exact bytes8_i8s _
theorem str_u8s {l : List Int} (hb : Bytes8 l) : strOfNums l = strB (u8s l) := by
 rw [← str_i8s, i8s_u8s hb]
theorem text_std (v : Value) (b : List UInt8) (w : World) (ht : Tz w) (hu : Ut w) (hv : Bs w v b) (hl : b.length ≤ 20000) :
    Calls Tryz.prog 34 #[v] w fun e w' => ∃ A6 n6 c6 y, e = .returned (.tuple #[.slice A6 n6 c6, .int .i64 y]) ∧ Aside0 (textB b = some b → y = 0 ∧ ∀ W2, Below w'.heap.size w' W2 → (convert 46 9 (.slice A6 n6 c6)).run Tryz.prog W2 = .ok (.string (strB b)) W2) ∧ Below w.heap.size w w' :=
 (Text_any v b w ht hu hv hl).mono fun e w' h => by
  rcases h with ⟨⟨h1, rfl⟩ | ⟨c, v', h1, rfl, h2⟩, g⟩
  · exact ⟨none, 0, 0, 6, rfl, ⟨fun h => by rw [h1] at h; cases h⟩, g⟩
  · have hr := R_bytes h2
    obtain ⟨A', k, rfl⟩ := Kd.R_slice hr
    rw [i8s_len] at hr ⊢
    refine ⟨A', c.length, k, 0, rfl, ⟨fun h => ⟨rfl, fun W2 hb => ?_⟩⟩, g⟩
    rw [h1] at h
    obtain rfl := Option.some.inj h
    have hC := (Kd.R_reads' hr).2.2
    rw [i8s_len] at hC
    have := Kd.C_string (P := Tryz.prog) (w := W2) (A := A') (c := k) Tryz.underlying46 Tryz.underlying5 Tryz.underlying9 (Kd.C_below hC hb)
    rw [str_i8s] at this
    exact this
end Go.Proofs.YthlflglkdaainaaGreatDoor.Tr
namespace Go.Proofs.YthlflglkdaainaaGreatDoor.Tr
open Go.RowKit Go.Lib Go.Proofs.YthlflglkdaainaaGreatDoorW.PrintWords Go.Proofs.YthlflglkdaainaaGreatDoorW.PrintLast Go.Proofs.YthlflglkdaainaaGreatDoorW.PrintMore Go.Proofs.YthlflglkdaainaaGreatDoor.Prt
theorem wtM_mem {m : Nat} {L : List It} {x : It} (h : x ∈ L) : wtM m x ≤ wtLM m L := by
 induction L with
 | nil => cases h
 | cons y L ih =>
  unfold wtLM at ih ⊢
  rw [List.map_cons, List.sum_cons]
  rcases List.mem_cons.1 h with rfl | h
  · omega
  · have := ih h; omega
theorem lightM_facts {m : Nat} {L : List It} (h : lightM m L = true) : L.length ≤ 70 ∧ ∀ x ∈ L, x.f1.size ≤ m ∧ x.f3.length ≤ m := by
 simp only [lightM, Bool.and_eq_true, decide_eq_true_eq] at h
 refine ⟨h.1, fun x hx => ?_⟩
 have h1 := wtM_mem (m := m) hx
 have h2 : wtM m x ≤ m := by omega
 unfold wtM at h2
 generalize x.f1.size = a at *
 constructor <;> omega
end Go.Proofs.YthlflglkdaainaaGreatDoor.Tr
namespace Go.Proofs.YthlflglkdaainaaGreatDoor.Tr
open Go.Shelf Go.RowKit Go.Lib Go.Sort
variable {α : Type} [Inhabited α] {P : Program}
end Go.Proofs.YthlflglkdaainaaGreatDoor.Tr
namespace Go.Proofs.YthlflglkdaainaaGreatDoor.Tr
open Go.Shelf Go.RowKit Go.Lib Go.Sort
variable {α : Type} [Inhabited α] {P : Program}
end Go.Proofs.YthlflglkdaainaaGreatDoor.Tr
namespace Go.Proofs.YthlflglkdaainaaGreatDoor.Tr
open Go.Shelf Go.RowKit Go.Lib Go.Sort
variable {α : Type} [Inhabited α] {P : Program}
end Go.Proofs.YthlflglkdaainaaGreatDoor.Tr
namespace Go.Proofs.YthlflglkdaainaaGreatDoor.Tr
open Go.Shelf Go.RowKit Go.Lib Go.Sort
variable {α : Type} [Inhabited α] {P : Program}
end Go.Proofs.YthlflglkdaainaaGreatDoor.Tr
namespace Go.Proofs.YthlflglkdaainaaGreatDoor.Tr
open Go.Shelf Go.RowKit Go.Lib Go.Sort
variable {α : Type} [Inhabited α]
variable (enc : α → List Value) (cf : α → α → Int) (g : Nat) (cb : Array Value) (blk off cap : Nat) (d0 : Array α) (w0 : World) (eg : ∀ args w, (callFunc g args).run Tryz.prog w = .ok (.enter g args) w) (hcmp : CmpLays Tryz.prog g cb enc 2 cf blk off d0.size w0) (R : RowK enc 2 w0 blk off d0) (hsz : d0.size < 4611686018427387904)
include eg hcmp R hsz
end Go.Proofs.YthlflglkdaainaaGreatDoor.Tr
namespace Go.Proofs.YthlflglkdaainaaGreatDoor.Tr
open Go.Shelf Go.RowKit Go.Lib Go.Sort Go.Proofs.YthlflglkdaainaaGreatDoorW.PrintWords Go.Proofs.YthlflglkdaainaaGreatDoorW.PrintLast Go.Proofs.YthlflglkdaainaaGreatDoorW.PrintMore Go.Proofs.YthlflglkdaainaaGreatDoor.Prt
end Go.Proofs.YthlflglkdaainaaGreatDoor.Tr
namespace Go.Proofs.YthlflglkdaainaaGreatDoor.Tr
open Go.RowKit Go.Lib Go.Maps Go.Proofs.YthlflglkdaainaaGreatDoorW.PrintWords Go.Proofs.YthlflglkdaainaaGreatDoorW.PrintLast Go.Proofs.YthlflglkdaainaaGreatDoorW.PrintMore Go.Proofs.YthlflglkdaainaaGreatDoor.Prt
end Go.Proofs.YthlflglkdaainaaGreatDoor.Tr
namespace Go.Proofs.YthlflglkdaainaaGreatDoor.Tr
open Go.RowKit Go.Lib Go.Proofs.YthlflglkdaainaaGreatDoorW.PrintWords Go.Proofs.YthlflglkdaainaaGreatDoorW.PrintLast Go.Proofs.YthlflglkdaainaaGreatDoorW.PrintMore Go.Proofs.YthlflglkdaainaaGreatDoor.Prt
end Go.Proofs.YthlflglkdaainaaGreatDoor.Tr
namespace Go.Proofs.YthlflglkdaainaaGreatDoor
open Go
def listedAt (n : Nat) : Nat → Array Bool
 | 0 => Array.replicate n false
 | i + 1 => (listedAt n i).setIfInBounds i true
def seqOK (md : Region.Mode) (ops : Array Oper) : Bool :=
 Region.noSelect ops && ((List.range ops.size).all fun i => Region.free md ops (listedAt ops.size i) i && (Region.ready md ops (listedAt ops.size i)).contains i) && (Region.ready md ops (listedAt ops.size ops.size)).isEmpty
def seqW (P : Program) (ops : Array Oper) (S : World → Prop) (Q : Exit → Act → World → Prop) (w : World) : List Oper → Act → Prop
 | [], a => Q .normal a w
 | o :: rest, a => ∃ v, YieldsIf P ops S o v a ∧ seqW P ops S Q w rest (a.put o.dst v)
section
variable {P : Program} {ops : Array Oper} {Q : Exit → Act → World → Prop} {md : Region.Mode} {S : World → Prop} {w : World}
theorem seqW_take {o : Oper} {rest : List Oper} {a : Act} {v : Value} (hw : Region.wanted o (yielded ops a.tmps) = true) (hy : ∀ w, S w → (execOp a.eval o).run P w = .ok (.value v) w) (h : seqW P ops S Q w rest (a.put o.dst v)) : seqW P ops S Q w (o :: rest) a :=
 ⟨v, .inl ⟨hw, hy⟩, h⟩
theorem seqW_skip {o : Oper} {rest : List Oper} {a : Act} (hw : Region.wanted o (yielded ops a.tmps) = false) (h : seqW P ops S Q w rest (a.put o.dst undef)) : seqW P ops S Q w (o :: rest) a :=
 ⟨undef, .inr ⟨hw, rfl⟩, h⟩
theorem seqW_end {a : Act} (h : Q .normal a w) : seqW P ops S Q w [] a := h
theorem seq_go (hs : Region.noSelect ops = true) (hall : ∀ i, i < ops.size → Region.free md ops (listedAt ops.size i) i = true ∧ (Region.ready md ops (listedAt ops.size i)).contains i = true) (hend : Region.ready md ops (listedAt ops.size ops.size) = []) (hS : S w) :
    ∀ (rest : List Oper) (i : Nat) (a : Act), ops.toList.drop i = rest → i + rest.length = ops.size → seqW P ops S Q w rest a → wpAnyH P md ops (NoPanic Q) S rest.length (listedAt ops.size i) a w
 | [], i, a, _, hl, h => by
  have hi : i = ops.size := by simpa using hl
  rw [hi]
  exact wpAnyH_done hend (NoPanic.normal h) 0
 | o :: rest, i, a, hd, hl, h => by
  obtain ⟨v, hy, h2⟩ := h
  have hi : i < ops.size := by simp only [List.length_cons] at hl; omega
  have ho : ops[i]? = some o := by
   have h1 : ops.toList[i]? = some o := by
    have := congrArg (fun l => l[0]?) hd
    simpa using this
   rw [← Array.getElem?_toList]; exact h1
  have hd2 : ops.toList.drop (i + 1) = rest := by
   rw [← List.drop_drop, hd]; rfl
  exact wpAnyH_take ho hs (hall i hi).1 (hall i hi).2 (fun _ _ _ h => h) hy hS (seq_go hs hall hend hS rest (i + 1) _ hd2 (by simp only [List.length_cons] at hl; omega) h2)
theorem wp_region_seq {id : Nat} {a : Act} (hm : P.follows .mixedOrders = true) (hok : seqOK .any ops = true)
    (h : seqW P ops (fun W => ∃ m, W = w.drewN m) Q w.drew ops.toList a) : (Code.region id ops true).wp P Q a w := by
 unfold seqOK at hok
 simp only [Bool.and_eq_true, List.all_eq_true, List.mem_range, List.isEmpty_iff] at hok
 obtain ⟨⟨h1, h2⟩, h3⟩ := hok
 refine wp_region_noPanic (wp_region_held_drew (S := fun W => ∃ m, W = w.drewN m) hm ⟨1, rfl⟩ fun hS => ?_)
 have := seq_go (P := P) (Q := Q) (w := w.drew) h1 (fun i hi => h2 i hi) h3 hS ops.toList 0 a (by simp) (by simp) h
 rw [Array.length_toList] at this
 exact this
end
def seqR (P : Program) (ops : Array Oper) (S : World → Prop) (K : Act → Prop) : List Oper → Act → Prop
 | [], a => K a
 | o :: rest, a => ∃ v, YieldsIf P ops S o v a ∧ seqR P ops S K rest (a.put o.dst v)
def markTo (L : Array Bool) (lo : Nat) : Nat → Array Bool
 | 0 => L
 | k + 1 => (markTo L lo k).setIfInBounds (lo + k) true
def rangeOK (md : Region.Mode) (ops : Array Oper) (L : Array Bool) (lo n : Nat) : Bool :=
 Region.noSelect ops && (List.range n).all fun k => Region.free md ops (markTo L lo k) (lo + k) && (Region.ready md ops (markTo L lo k)).contains (lo + k)
section
variable {P : Program} {ops : Array Oper} {Q : Exit → Act → World → Prop} {md : Region.Mode} {S : World → Prop} {w : World} {K : Act → Prop}
theorem seqR_take {o : Oper} {rest : List Oper} {a : Act} {v : Value} (hw : Region.wanted o (yielded ops a.tmps) = true) (hy : ∀ w, S w → (execOp a.eval o).run P w = .ok (.value v) w) (h : seqR P ops S K rest (a.put o.dst v)) : seqR P ops S K (o :: rest) a :=
 ⟨v, .inl ⟨hw, hy⟩, h⟩
theorem seqR_end {a : Act} (h : K a) : seqR P ops S K [] a := h
theorem range_go {L : Array Bool} {lo n fuel : Nat} (hs : Region.noSelect ops = true) (hall : ∀ k, k < n → Region.free md ops (markTo L lo k) (lo + k) = true ∧ (Region.ready md ops (markTo L lo k)).contains (lo + k) = true) (hn : lo + n ≤ ops.size) (hS : S w) :
    ∀ (rest : List Oper) (k : Nat) (a : Act), (ops.toList.drop (lo + k)).take (n - k) = rest → k ≤ n → seqR P ops S (fun a' => wpAnyH P md ops (NoPanic Q) S fuel (markTo L lo n) a' w) rest a → wpAnyH P md ops (NoPanic Q) S (fuel + (n - k)) (markTo L lo k) a w
 | [], k, a, hd, hk, h => by
  have hl : ((ops.toList.drop (lo + k)).take (n - k)).length = 0 := by rw [hd]; rfl
  rw [List.length_take, List.length_drop, Array.length_toList] at hl
  obtain rfl : k = n := by omega
  rw [Nat.sub_self]
  exact h
 | o :: rest, k, a, hd, hk, h => by
  obtain ⟨v, hy, h2⟩ := h
  have hl : ((ops.toList.drop (lo + k)).take (n - k)).length = rest.length + 1 := by rw [hd]; rfl
  rw [List.length_take, List.length_drop, Array.length_toList] at hl
  have hkn : k < n := by omega
  have ho : ops[lo + k]? = some o := by
   have h1 := congrArg (fun l => l[0]?) hd
   simp only [List.getElem?_take, List.getElem?_drop] at h1
   rw [if_pos (by omega)] at h1
   rw [← Array.getElem?_toList]
   simpa using h1
  have hd2 : (ops.toList.drop (lo + (k + 1))).take (n - (k + 1)) = rest := by
   have h1 := congrArg (List.drop 1) hd
   rw [List.drop_take, List.drop_drop] at h1
   simpa [Nat.add_assoc, Nat.sub_sub] using h1
  have := wpAnyH_take (fuel := fuel + (n - (k + 1))) ho hs (hall k hkn).1 (hall k hkn).2 (fun _ _ _ h => h) hy hS (range_go hs hall hn hS rest (k + 1) _ hd2 hkn h2)
  rw [show fuel + (n - k) = fuel + (n - (k + 1)) + 1 by omega]
  exact this
theorem wpAnyH_range {L : Array Bool} {lo n fuel : Nat} {a : Act} (hok : rangeOK md ops L lo n = true) (hn : lo + n ≤ ops.size) (hS : S w)
    (h : seqR P ops S (fun a' => wpAnyH P md ops (NoPanic Q) S fuel (markTo L lo n) a' w) ((ops.toList.drop lo).take n) a) : wpAnyH P md ops (NoPanic Q) S (fuel + n) L a w := by
 unfold rangeOK at hok
 simp only [Bool.and_eq_true, List.all_eq_true, List.mem_range] at hok
 have := range_go (Q := Q) (fuel := fuel) hok.1 (fun k hk => hok.2 k hk) hn hS _ 0 a rfl (Nat.zero_le _) h
 simpa [markTo] using this
end
end Go.Proofs.YthlflglkdaainaaGreatDoor
namespace Go.Proofs.YthlflglkdaainaaGreatDoor.Tr
open Go.RowKit Go.Lib Go.Maps Go.Proofs.YthlflglkdaainaaGreatDoorW.PrintWords Go.Proofs.YthlflglkdaainaaGreatDoorW.PrintLast Go.Proofs.YthlflglkdaainaaGreatDoorW.PrintMore Go.Proofs.YthlflglkdaainaaGreatDoor.Prt
set_option maxHeartbeats 16000000 in
theorem stands_ok (L : List It) (A : Option Addr) (c : Nat) (hc : L.length ≤ c) (w : World) (ht : Tz w) (hu : Ut w) (hC : Kd.C kIt w A L.length L) (hcap : CapR w A L.length) (hwf : WfL L) (hli : lightM 1000 L = true) (h0 : checkN L = 0) :
    Calls Tryz.prog 12 #[.slice A L.length c] w fun e w' => e = .returned (.bool true) ∧ Below w.heap.size w w' := by
 have HL := LightM_any 1000 (by decide) L A c hc w hC
 simp only [Int.cast_ofNat_Int] at HL
 rw [hli] at HL
 obtain ⟨hf1, hf2⟩ := lightM_facts hli
 have HAw := Aside0.mk (fun W (B : Below w.heap.size w W) => awake16_any W (tz_below ht B) (hu.gr B))
 have HJ : Aside0 (∀ W, Below w.heap.size w W → Calls Tryz.prog 26 #[.slice A L.length c] W fun e w' => ∃ A4 c4, e = .returned (.tuple #[.slice A4 L.length c4, .int .i64 0]) ∧ Aside0 (Kd.C kVd w' A4 L.length (vdL L) ∧ CapV w' A4 L.length) ∧ Below W.heap.size W w') := ⟨fun W B => (judge_any L A c W (tz_below ht B) (hu.gr B) (Kd.C_below hC B) (CapR.below hcap B) hwf h0).mono fun e w' h => by
  obtain ⟨v, rfl, h1, h2⟩ := h
  obtain ⟨A4, c4, rfl⟩ := Kd.R_slice h1
  have h3 := (Kd.R_reads' h1).2.2
  have h4 := capv_of_R h1
  rw [vdL_len] at h3 h4 ⊢
  exact ⟨A4, c4, rfl, ⟨h3, h4⟩, h2⟩⟩
 have HS : Aside0 (∀ W va vb a b, Below w.heap.size w W → Bs W va a → Bs W vb b → a.length ≤ 20000 → b.length ≤ 20000 → sameB a b = true → Calls Tryz.prog 33 #[va, vb] W fun e w' => e = .returned (.bool true) ∧ Below W.heap.size W w') := ⟨fun W va vb a b B h1 h2 h3 h4 h5 => (same_any va vb a b W (tz_below ht B) (hu.gr B) h1 h2 h3 h4).mono fun e w' h => by rw [h5] at h; exact h⟩
 have HT : Aside0 (∀ W v b, Below w.heap.size w W → Bs W v b → b.length ≤ 20000 → Calls Tryz.prog 34 #[v] W fun e w' => ∃ A6 n6 c6 y, e = .returned (.tuple #[.slice A6 n6 c6, .int .i64 y]) ∧ Aside0 (textB b = some b → y = 0 ∧ ∀ W2, Below w'.heap.size w' W2 → (convert 46 9 (.slice A6 n6 c6)).run Tryz.prog W2 = .ok (.string (strB b)) W2) ∧ Below W.heap.size W w') := ⟨fun W v b B h1 h2 => text_std v b W (tz_below ht B) (hu.gr B) h1 h2⟩
 have HStd := Aside0.mk (fun i (hi : i < L.length) => std_at h0 hwf (fun x hx => by have := hf2 x hx; omega) (i := i) hi)
 have HC := Aside0.mk hC
 have HCap := Aside0.mk hcap
 have HL := Aside0.mk HL
 have hl70 : L.length ≤ 70 := hf1
 clear hC hcap hwf ht hu hf1 hf2 hli h0
 generalize vdL L = V at HJ HStd
 go_enter Tryz.func12, Tryz.ntmps12
 go_wp2_with (first
  | (go_at_call 15; with_reducible refine HL.out.mono ?_; rintro e w1 ⟨rfl, hb1⟩)
  | (go_at_call 26; with_reducible refine (HJ.out _ hb1).mono ?_; rintro e w2 ⟨A4, c4, rfl, hr4, hb2⟩; have hb20 := hb1.trans (hb2.mono hb1.size)))
 clear HJ HL
 go_loopg [5] L.length (fun gg v wr => ∃ i : Nat, i ≤ L.length ∧ L.length - i ≤ gg ∧ v = .int .i64 i ∧ Aside0 (Below w2.heap.size w2 wr))
 case atStart => exact ⟨0, Nat.zero_le _, by omega, rfl, ⟨Below.refl _ _⟩⟩
 case round =>
  obtain ⟨i, hi, hg, rfl, HB⟩ := hrel
  by_cases hlt : i < L.length
  · have hltz : (i : Int) < (L.length : Int) := by omega
    have hge : ¬ (i : Int) ≥ (L.length : Int) := by omega
    have hbw := hb20.trans (HB.out.mono hb20.size)
    have hstd := HStd.out i hlt
    obtain ⟨adx, X3, cx, ex, x0, x1, x2, x3, xl, xg⟩ := at_T53 (Kd.C_below HC.out hbw) (i : Int) (by omega) hltz
    obtain ⟨ada, P2, cp, ea, a0, a1, a2, a3, al, ag⟩ := at_T49 (Kd.C_below hr4.out.1 HB.out) (i : Int) (by omega) hltz
    rw [Int.toNat_natCast] at x0 x1 x2 x3 a0 a1 a2 a3
    obtain ⟨xm, xz⟩ := cap_at (CapR.below HCap.out hbw) hlt ex x3
    obtain ⟨am, az⟩ := capv_at (CapV.below hr4.out.2 HB.out) hlt ea a2
    subst ex ea
    generalize (rd_T49 V (i : Int)).f0 = nm at hstd a0
    generalize (rd_T49 V (i : Int)).f1 = nw at hstd a1
    generalize (rd_T49 V (i : Int)).f2 = dt at hstd a2 al ag
    generalize (rd_T49 V (i : Int)).f3 = dw at hstd a3
    change (wr.cell? _ = some (.string (itA L (i : Int)).f1)) at x1
    change (wr.cell? _ = some (.slice X3 (itA L (i : Int)).f3.length cx)) at x3
    change ((itA L (i : Int)).f3.length ≤ cx) at xl
    change (Kd.C (Kd.int .u8) wr X3 (itA L (i : Int)).f3.length (itA L (i : Int)).f3) at xg
    generalize (itA L (i : Int)).f1 = xn at hstd x1
    generalize (itA L (i : Int)).f3 = xd at hstd x3 xl xg
    clear x0 x2
    have bsD := bs_of_C ag hstd.b1 al am az
    have bsX := bs_of_C xg hstd.b2 xl xm xz
    have hm1 : nm.size ≤ maxLen := by have := hstd.n1; unfold maxLen; omega
    have hm2 : xn.size ≤ maxLen := by have := hstd.n2; unfold maxLen; omega
    have e1 : nm.data.toList.length ≤ 20000 := by have := hstd.n1; rw [show nm.data.toList.length = nm.size from Array.length_toList]; exact this
    have e2 : xn.data.toList.length ≤ 20000 := by have := hstd.n2; rw [show xn.data.toList.length = xn.size from Array.length_toList]; exact this
    have kA := fun W => Lib.run_convert_string_bytes (P := Tryz.prog) W 9 46 5 nm Tryz.underlying9 Tryz.underlying46 Tryz.underlying5
    have kX := fun W => Lib.run_convert_string_bytes (P := Tryz.prog) W 9 46 5 xn Tryz.underlying9 Tryz.underlying46 Tryz.underlying5
    have hstep : ∀ W s, Below wr.heap.size wr W → Below wr.heap.size wr (Lib.bytesWorld W 5 s) := fun W s h => h.trans ((Lib.bytesWorld_below W _ s).mono h.size)
    have hgr : ∀ W s, Gr W (Lib.bytesWorld W 5 s) := fun W s => Lib.bytesWorld_below W _ s
    have SAll : ∀ W, Below wr.heap.size wr W → W.cell? (ada.add (i * 4)) = some (.string nm) ∧ W.cell? ⟨(ada.add (i * 4)).block, (ada.add (i * 4)).off + 2, none⟩ = some (.slice P2 dt.length cp) ∧ W.cell? ⟨(adx.add (i * 4)).block, (adx.add (i * 4)).off + 1, none⟩ = some (.string xn) ∧ W.cell? ⟨(adx.add (i * 4)).block, (adx.add (i * 4)).off + 3, none⟩ = some (.slice X3 xd.length cx) ∧ Below wr.heap.size wr W := fun W B =>
     ⟨(B.cell (World.block_lt_of_cell? wr _ a0)).trans a0, (B.cell (World.block_lt_of_cell? wr _ a2)).trans a2, (B.cell (World.block_lt_of_cell? wr _ x1)).trans x1, (B.cell (World.block_lt_of_cell? wr _ x3)).trans x3, B⟩
    have S1 : Aside0 (∀ W va vb, Below wr.heap.size wr W → Bs W va nm.data.toList → Bs W vb xn.data.toList → Calls Tryz.prog 33 #[va, vb] W fun e w' => e = .returned (.bool true) ∧ Below W.heap.size W w') := ⟨fun W va vb B h1 h2 => HS.out W va vb _ _ (hbw.trans (B.mono hbw.size)) h1 h2 e1 e2 hstd.s1⟩
    have S2 : Aside0 (∀ W, Below wr.heap.size wr W → Calls Tryz.prog 33 #[.slice P2 dt.length cp, .slice X3 xd.length cx] W fun e w' => e = .returned (.bool true) ∧ Below W.heap.size W w') := ⟨fun W B => HS.out W _ _ _ _ (hbw.trans (B.mono hbw.size)) (bsD.gr B) (bsX.gr B) (by rw [u8s_len]; exact hstd.n3) (by rw [u8s_len]; exact hstd.n4) hstd.t1⟩
    have B1 := Aside0.mk (fun W => bs_conv W nm hm1)
    have B2 := Aside0.mk (fun W => bs_conv W xn hm2)
    have HStd1 := Aside0.mk hstd
    have BsD := Aside0.mk (fun W (B : Below wr.heap.size wr W) => (bsD.gr B : Bs W (.slice P2 dt.length cp) (u8s dt)))
    have AG := Aside0.mk ag
    have XG := Aside0.mk xg
    have hd0 : Below wr.heap.size wr wr.drew := Below.drew (Below.refl _ _)
    clear hstd bsD bsX ag xg al xl am az xm xz e2 hm2 HStd
    go_upto_region 9 with (fail)
    have A1 : ∀ W, Below wr.heap.size wr W → W.cell? ⟨(ada.add (i * 4)).block, (ada.add (i * 4)).off + 1, none⟩ = some (.int .u8 nw) ∧ W.cell? ⟨(ada.add (i * 4)).block, (ada.add (i * 4)).off + 3, none⟩ = some (.int .u8 dw) := fun W B => ⟨(B.cell (World.block_lt_of_cell? wr _ a1)).trans a1, (B.cell (World.block_lt_of_cell? wr _ a3)).trans a3⟩
    go_cut [72] from 39 to 72 (fun v72 wx => v72 = .bool false ∧ Aside0 (Below wr.heap.size wr wx))
    case first =>
     refine wp_region_noPanic (wp_region_held_drew (S := (fun W => W.cell? (ada.add (i * 4)) = some (.string nm) ∧ W.cell? ⟨(ada.add (i * 4)).block, (ada.add (i * 4)).off + 2, none⟩ = some (.slice P2 dt.length cp) ∧ W.cell? ⟨(adx.add (i * 4)).block, (adx.add (i * 4)).off + 1, none⟩ = some (.string xn) ∧ W.cell? ⟨(adx.add (i * 4)).block, (adx.add (i * 4)).off + 3, none⟩ = some (.slice X3 xd.length cx) ∧ Below wr.heap.size wr W)) (by kernel_rfl) (SAll _ hd0) (fun hHeld => ?_))
     refine wpAnyH_range (fuel := 24) (lo := 0) (n := 10) (by kernel_rfl) (by decide) hHeld ?_
     repeat (first
      | (refine seqR_skip rfl ?_; try simp only [Act.put, List.setIfInBounds_toArray, List.set_cons_zero, List.set_cons_succ])
      | (apply seqR_take
         · exact rfl
         · (intro w hSw; go_simp; exact rfl)
         try simp only [Act.put, List.setIfInBounds_toArray, List.set_cons_zero, List.set_cons_succ]))
     refine seqR_end ?_
     refine wpAnyH_range (fuel := 19) (lo := 11) (n := 5) (by kernel_rfl) (by decide) hHeld ?_
     repeat (first
      | (refine seqR_skip rfl ?_; try simp only [Act.put, List.setIfInBounds_toArray, List.set_cons_zero, List.set_cons_succ])
      | (apply seqR_take
         · exact rfl
         · (intro w hSw; go_simp; exact rfl)
         try simp only [Act.put, List.setIfInBounds_toArray, List.set_cons_zero, List.set_cons_succ]))
     refine seqR_end ?_
     refine wpAnyH_ready (fuel := 18) (rs := [10, 16]) (by kernel_rfl) (by simp) ?_
     refine AllReadyH.cons rfl (fun K hK => ?a1) (AllReadyH.cons rfl (fun K hK => ?a2) AllReadyH.nil)
     case' a1 =>
      go_simp
      refine hK.out _ _ (SAll _ (hstep _ _ hd0)) (fun _ => ?_)
      clear hK K
      refine wpAnyH_ready (fuel := 17) (rs := [16]) (by kernel_rfl) (by simp) ?_
      refine AllReadyH.cons rfl (fun K hK => ?_) AllReadyH.nil
      go_simp
      refine hK.out _ _ (SAll _ (hstep _ _ (hstep _ _ hd0))) (fun _ => ?_)
      clear hK K
      refine wpAnyH_ready (fuel := 16) (rs := [17]) (by kernel_rfl) (by simp) ?_
      refine AllReadyH.cons rfl (fun K hK => ?_) AllReadyH.nil
      go_simp
      go_at_call 33
      refine (S1.out _ _ _ (hstep _ _ (hstep _ _ hd0)) ((B1.out _).gr (hgr _ _)) (B2.out _)).mono ?_
      rintro e w5 ⟨rfl, hb5'⟩
      have hb5 := (hstep _ _ (hstep _ _ hd0)).trans (hb5'.mono (hstep _ _ (hstep _ _ hd0)).size)
      clear hb5'
      refine hK.out _ _ (SAll _ hb5) (fun hHeld5 => ?_)
      clear hK K
     case' a2 =>
      go_simp
      refine hK.out _ _ (SAll _ (hstep _ _ hd0)) (fun _ => ?_)
      clear hK K
      refine wpAnyH_ready (fuel := 17) (rs := [10]) (by kernel_rfl) (by simp) ?_
      refine AllReadyH.cons rfl (fun K hK => ?_) AllReadyH.nil
      go_simp
      refine hK.out _ _ (SAll _ (hstep _ _ (hstep _ _ hd0))) (fun _ => ?_)
      clear hK K
      refine wpAnyH_ready (fuel := 16) (rs := [17]) (by kernel_rfl) (by simp) ?_
      refine AllReadyH.cons rfl (fun K hK => ?_) AllReadyH.nil
      go_simp
      go_at_call 33
      refine (S1.out _ _ _ (hstep _ _ (hstep _ _ hd0)) (B1.out _) ((B2.out _).gr (hgr _ _))).mono ?_
      rintro e w5 ⟨rfl, hb5'⟩
      have hb5 := (hstep _ _ (hstep _ _ hd0)).trans (hb5'.mono (hstep _ _ (hstep _ _ hd0)).size)
      clear hb5'
      refine hK.out _ _ (SAll _ hb5) (fun hHeld5 => ?_)
      clear hK K
     all_goals
      try simp only [Act.put, List.setIfInBounds_toArray, List.set_cons_zero, List.set_cons_succ]
      refine wpAnyH_range (fuel := 3) (lo := 18) (n := 13) (by kernel_rfl) (by decide) hHeld5 ?_
      repeat (first
       | (refine seqR_skip rfl ?_; try simp only [Act.put, List.setIfInBounds_toArray, List.set_cons_zero, List.set_cons_succ])
       | (apply seqR_take
          · exact rfl
          · (intro w hSw; go_simp; exact rfl)
          try simp only [Act.put, List.setIfInBounds_toArray, List.set_cons_zero, List.set_cons_succ]))
      refine seqR_end ?_
      refine wpAnyH_ready (fuel := 2) (rs := [31]) (by kernel_rfl) (by simp) ?_
      refine AllReadyH.cons rfl (fun K hK => ?_) AllReadyH.nil
      go_simp
      go_at_call 33
      with_reducible refine (S2.out _ hb5).mono ?_
      rintro e w6 ⟨rfl, hb6'⟩
      have hb6 := hb5.trans (hb6'.mono hb5.size)
      clear hb6'
      refine hK.out _ _ (SAll _ hb6) (fun hHeld6 => ?_)
      clear hK K
      try simp only [Act.put, List.setIfInBounds_toArray, List.set_cons_zero, List.set_cons_succ]
      refine wpAnyH_range (fuel := 0) (lo := 32) (n := 2) (by kernel_rfl) (by decide) hHeld6 ?_
      repeat (first
       | (refine seqR_skip rfl ?_; try simp only [Act.put, List.setIfInBounds_toArray, List.set_cons_zero, List.set_cons_succ])
       | (apply seqR_take
          · exact rfl
          · (intro w hSw; go_simp; exact rfl)
          try simp only [Act.put, List.setIfInBounds_toArray, List.set_cons_zero, List.set_cons_succ]))
      refine seqR_end ?_
      refine wpAnyH_done (by kernel_rfl) ?_ _
      refine NoPanic.normal ?_
      go_wp2
      go_meet
      exact ⟨rfl, ⟨hb6⟩⟩
    case rest =>
     obtain ⟨rfl, HX⟩ := hcut
     clear S1 S2 B1 B2 kA kX hd0
     have hdx : Below wr.heap.size wr wc.drew := HX.out.trans ((Below.drew (Below.refl _ _)).mono HX.out.size)
     have hd3 : (u8s dt).length ≤ 20000 := by rw [u8s_len]; exact HStd1.out.n3
     have cV := fun m => Kd.C_string (P := Tryz.prog) (w := wc.drewN m) (A := P2) (c := cp) Tryz.underlying46 Tryz.underlying5 Tryz.underlying9 (Kd.C_below (Kd.C_below AG.out HX.out) (Drawn0.below ⟨⟨m, rfl⟩⟩))
     have cX := fun m => Kd.C_string (P := Tryz.prog) (w := wc.drewN m) (A := X3) (c := cx) Tryz.underlying46 Tryz.underlying5 Tryz.underlying9 (Kd.C_below (Kd.C_below XG.out HX.out) (Drawn0.below ⟨⟨m, rfl⟩⟩))
     by_cases hn : nw = 0
     · by_cases hd : dw = 0
       · subst hn
         have F3 := Aside0.mk (HStd1.out.s3 rfl)
         subst hd
         have G3 := Aside0.mk (HStd1.out.t3 rfl)
         obtain ⟨c0, c2, y1, y3, _⟩ := SAll wc HX.out
         obtain ⟨c1, c3⟩ := A1 wc HX.out
         go_upto_region 11 with (fail)
         refine wp_region_seq (by kernel_rfl) (by kernel_rfl) ?_
         repeat (first
          | (refine seqW_skip rfl ?_; try simp only [Act.put, List.setIfInBounds_toArray, List.set_cons_zero, List.set_cons_succ])
          | (apply seqW_take
             · exact rfl
             · (intro w hSw; obtain ⟨m, rfl⟩ := hSw; go_simp; exact rfl)
             try simp only [Act.put, List.setIfInBounds_toArray, List.set_cons_zero, List.set_cons_succ]))
         refine seqW_end ?_
         clear c0 c1 c2 c3 y1 y3 cV cX
         go_upto_region 15 with (first
          | ((with_reducible refine gate_dst (N := 121) rfl ?_); refine conv_event rfl (N := 121) rfl (.tmp 120) rfl nm rfl hm1 ?_; intro vb w8 hvb hbs hb8; clear hvb; have hb80 := hdx.trans (hb8.mono hdx.size); have HT1 := HT.out w8 vb _ (hbw.trans (hb80.mono hbw.size)) hbs e1)
          | (go_at_call 34; with_reducible refine HT1.mono ?_; rintro e w9 ⟨A6, n6, c6, y6, rfl, ht6, hb9⟩; have hb90 := hb80.trans (hb9.mono hb80.size); have HT2 := HT.out w9 _ _ (hbw.trans (hb90.mono hbw.size)) (BsD.out w9 hb90) hd3; obtain ⟨_, p2, _⟩ := SAll w9 hb90)
          | (go_at_call 34; with_reducible refine HT2.mono ?_; rintro e w10 ⟨A7, n7, c7, y7, rfl, ht7, hb10⟩; have hb100 := hb90.trans (hb10.mono hb90.size)))
         obtain ⟨z0, z2, _, _, _⟩ := SAll w10 hb100
         obtain ⟨z1, z3⟩ := A1 w10 hb100
         obtain ⟨rfl, hcv6⟩ := ht6.out F3.out
         have k6 := fun m => hcv6 (w10.drewN m) (hb10.trans ((Drawn0.below ⟨⟨m, rfl⟩⟩ : Below w10.heap.size w10 (w10.drewN m)).mono hb10.size))
         rw [str_data] at k6
         obtain ⟨rfl, hcv7⟩ := ht7.out G3.out
         have k7 := fun m => hcv7 (w10.drewN m) (Drawn0.below ⟨⟨m, rfl⟩⟩)
         have cW := fun m => Kd.C_string (P := Tryz.prog) (w := w10.drewN m) (A := P2) (c := cp) Tryz.underlying46 Tryz.underlying5 Tryz.underlying9 (Kd.C_below (Kd.C_below AG.out hb100) (Drawn0.below ⟨⟨m, rfl⟩⟩))
         rw [str_u8s HStd1.out.b1] at cW
         have HB100 := Aside0.mk (HB.out.trans (hb100.mono HB.out.size))
         clear hb80 hb90 HT1 HT2 p2 ht6 ht7 hb100 hbs
         clear hcv6
         clear hcv7
         refine wp_region_seq (by kernel_rfl) (by kernel_rfl) ?_
         repeat (first
          | (refine seqW_skip rfl ?_; try simp only [Act.put, List.setIfInBounds_toArray, List.set_cons_zero, List.set_cons_succ])
          | (apply seqW_take
             · exact rfl
             · (intro w hSw; obtain ⟨m, rfl⟩ := hSw; go_simp; exact rfl)
             try simp only [Act.put, List.setIfInBounds_toArray, List.set_cons_zero, List.set_cons_succ]))
         refine seqW_end ?_
         go_wp2
         go_roundg (L.length - (i + 1))
         case measure => omega
         case rel => exact ⟨i + 1, by omega, by omega, by go_num, ⟨HB100.out.trans ((Below.drew (Below.refl _ _)).mono HB100.out.size)⟩⟩
       · subst hn
         have F3 := Aside0.mk (HStd1.out.s3 rfl)
         have hdb : (dw != 0) = true := by rw [bne_iff_ne]; exact hd
         have hdc : (dw == 0) = false := by rw [beq_eq_false_iff_ne]; exact hd
         obtain rfl : dt = xd := HStd1.out.t2 hd
         obtain ⟨c0, c2, y1, y3, _⟩ := SAll wc HX.out
         obtain ⟨c1, c3⟩ := A1 wc HX.out
         go_upto_region 11 with (fail)
         refine wp_region_seq (by kernel_rfl) (by kernel_rfl) ?_
         repeat (first
          | (refine seqW_skip rfl ?_; try simp only [Act.put, List.setIfInBounds_toArray, List.set_cons_zero, List.set_cons_succ])
          | (apply seqW_take
             · exact rfl
             · (intro w hSw; obtain ⟨m, rfl⟩ := hSw; go_simp; exact rfl)
             try simp only [Act.put, List.setIfInBounds_toArray, List.set_cons_zero, List.set_cons_succ]))
         refine seqW_end ?_
         clear c0 c1 c2 c3 y1 y3 cV cX
         go_upto_region 15 with (first
          | ((with_reducible refine gate_dst (N := 121) rfl ?_); refine conv_event rfl (N := 121) rfl (.tmp 120) rfl nm rfl hm1 ?_; intro vb w8 hvb hbs hb8; clear hvb; have hb80 := hdx.trans (hb8.mono hdx.size); have HT1 := HT.out w8 vb _ (hbw.trans (hb80.mono hbw.size)) hbs e1)
          | (go_at_call 34; with_reducible refine HT1.mono ?_; rintro e w9 ⟨A6, n6, c6, y6, rfl, ht6, hb9⟩; have hb90 := hb80.trans (hb9.mono hb80.size); have HT2 := HT.out w9 _ _ (hbw.trans (hb90.mono hbw.size)) (BsD.out w9 hb90) hd3; obtain ⟨_, p2, _⟩ := SAll w9 hb90)
          | (go_at_call 34; with_reducible refine HT2.mono ?_; rintro e w10 ⟨A7, n7, c7, y7, rfl, ht7, hb10⟩; have hb100 := hb90.trans (hb10.mono hb90.size)))
         obtain ⟨z0, z2, _, _, _⟩ := SAll w10 hb100
         obtain ⟨z1, z3⟩ := A1 w10 hb100
         obtain ⟨rfl, hcv6⟩ := ht6.out F3.out
         have k6 := fun m => hcv6 (w10.drewN m) (hb10.trans ((Drawn0.below ⟨⟨m, rfl⟩⟩ : Below w10.heap.size w10 (w10.drewN m)).mono hb10.size))
         rw [str_data] at k6
         have HB100 := Aside0.mk (HB.out.trans (hb100.mono HB.out.size))
         clear hb80 hb90 HT1 HT2 p2 ht6 ht7 hb100 hbs
         clear hcv6
         refine wp_region_seq (by kernel_rfl) (by kernel_rfl) ?_
         repeat (first
          | (refine seqW_skip rfl ?_; try simp only [Act.put, List.setIfInBounds_toArray, List.set_cons_zero, List.set_cons_succ])
          | (apply seqW_take
             · exact rfl
             · (intro w hSw; obtain ⟨m, rfl⟩ := hSw; go_simp; exact rfl)
             try simp only [Act.put, List.setIfInBounds_toArray, List.set_cons_zero, List.set_cons_succ]))
         refine seqW_end ?_
         go_wp2
         go_roundg (L.length - (i + 1))
         case measure => omega
         case rel => exact ⟨i + 1, by omega, by omega, by go_num, ⟨HB100.out.trans ((Below.drew (Below.refl _ _)).mono HB100.out.size)⟩⟩
     · by_cases hd : dw = 0
       · have hnb : (nw != 0) = true := by rw [bne_iff_ne]; exact hn
         have hnc : (nw == 0) = false := by rw [beq_eq_false_iff_ne]; exact hn
         obtain rfl : nm = xn := HStd1.out.s2 hn
         subst hd
         have G3 := Aside0.mk (HStd1.out.t3 rfl)
         obtain ⟨c0, c2, y1, y3, _⟩ := SAll wc HX.out
         obtain ⟨c1, c3⟩ := A1 wc HX.out
         go_upto_region 11 with (fail)
         refine wp_region_seq (by kernel_rfl) (by kernel_rfl) ?_
         repeat (first
          | (refine seqW_skip rfl ?_; try simp only [Act.put, List.setIfInBounds_toArray, List.set_cons_zero, List.set_cons_succ])
          | (apply seqW_take
             · exact rfl
             · (intro w hSw; obtain ⟨m, rfl⟩ := hSw; go_simp; exact rfl)
             try simp only [Act.put, List.setIfInBounds_toArray, List.set_cons_zero, List.set_cons_succ]))
         refine seqW_end ?_
         clear c0 c1 c2 c3 y1 y3 cV cX
         go_upto_region 15 with (first
          | ((with_reducible refine gate_dst (N := 121) rfl ?_); refine conv_event rfl (N := 121) rfl (.tmp 120) rfl nm rfl hm1 ?_; intro vb w8 hvb hbs hb8; clear hvb; have hb80 := hdx.trans (hb8.mono hdx.size); have HT1 := HT.out w8 vb _ (hbw.trans (hb80.mono hbw.size)) hbs e1)
          | (go_at_call 34; with_reducible refine HT1.mono ?_; rintro e w9 ⟨A6, n6, c6, y6, rfl, ht6, hb9⟩; have hb90 := hb80.trans (hb9.mono hb80.size); have HT2 := HT.out w9 _ _ (hbw.trans (hb90.mono hbw.size)) (BsD.out w9 hb90) hd3; obtain ⟨_, p2, _⟩ := SAll w9 hb90)
          | (go_at_call 34; with_reducible refine HT2.mono ?_; rintro e w10 ⟨A7, n7, c7, y7, rfl, ht7, hb10⟩; have hb100 := hb90.trans (hb10.mono hb90.size)))
         obtain ⟨z0, z2, _, _, _⟩ := SAll w10 hb100
         obtain ⟨z1, z3⟩ := A1 w10 hb100
         obtain ⟨rfl, hcv7⟩ := ht7.out G3.out
         have k7 := fun m => hcv7 (w10.drewN m) (Drawn0.below ⟨⟨m, rfl⟩⟩)
         have cW := fun m => Kd.C_string (P := Tryz.prog) (w := w10.drewN m) (A := P2) (c := cp) Tryz.underlying46 Tryz.underlying5 Tryz.underlying9 (Kd.C_below (Kd.C_below AG.out hb100) (Drawn0.below ⟨⟨m, rfl⟩⟩))
         rw [str_u8s HStd1.out.b1] at cW
         have HB100 := Aside0.mk (HB.out.trans (hb100.mono HB.out.size))
         clear hb80 hb90 HT1 HT2 p2 ht6 ht7 hb100 hbs
         clear hcv7
         refine wp_region_seq (by kernel_rfl) (by kernel_rfl) ?_
         repeat (first
          | (refine seqW_skip rfl ?_; try simp only [Act.put, List.setIfInBounds_toArray, List.set_cons_zero, List.set_cons_succ])
          | (apply seqW_take
             · exact rfl
             · (intro w hSw; obtain ⟨m, rfl⟩ := hSw; go_simp; exact rfl)
             try simp only [Act.put, List.setIfInBounds_toArray, List.set_cons_zero, List.set_cons_succ]))
         refine seqW_end ?_
         go_wp2
         go_roundg (L.length - (i + 1))
         case measure => omega
         case rel => exact ⟨i + 1, by omega, by omega, by go_num, ⟨HB100.out.trans ((Below.drew (Below.refl _ _)).mono HB100.out.size)⟩⟩
       · have hnb : (nw != 0) = true := by rw [bne_iff_ne]; exact hn
         have hnc : (nw == 0) = false := by rw [beq_eq_false_iff_ne]; exact hn
         obtain rfl : nm = xn := HStd1.out.s2 hn
         have hdb : (dw != 0) = true := by rw [bne_iff_ne]; exact hd
         have hdc : (dw == 0) = false := by rw [beq_eq_false_iff_ne]; exact hd
         obtain rfl : dt = xd := HStd1.out.t2 hd
         obtain ⟨c0, c2, y1, y3, _⟩ := SAll wc HX.out
         obtain ⟨c1, c3⟩ := A1 wc HX.out
         go_upto_region 11 with (fail)
         refine wp_region_seq (by kernel_rfl) (by kernel_rfl) ?_
         repeat (first
          | (refine seqW_skip rfl ?_; try simp only [Act.put, List.setIfInBounds_toArray, List.set_cons_zero, List.set_cons_succ])
          | (apply seqW_take
             · exact rfl
             · (intro w hSw; obtain ⟨m, rfl⟩ := hSw; go_simp; exact rfl)
             try simp only [Act.put, List.setIfInBounds_toArray, List.set_cons_zero, List.set_cons_succ]))
         refine seqW_end ?_
         clear c0 c1 c2 c3 y1 y3 cV cX
         go_upto_region 15 with (first
          | ((with_reducible refine gate_dst (N := 121) rfl ?_); refine conv_event rfl (N := 121) rfl (.tmp 120) rfl nm rfl hm1 ?_; intro vb w8 hvb hbs hb8; clear hvb; have hb80 := hdx.trans (hb8.mono hdx.size); have HT1 := HT.out w8 vb _ (hbw.trans (hb80.mono hbw.size)) hbs e1)
          | (go_at_call 34; with_reducible refine HT1.mono ?_; rintro e w9 ⟨A6, n6, c6, y6, rfl, ht6, hb9⟩; have hb90 := hb80.trans (hb9.mono hb80.size); have HT2 := HT.out w9 _ _ (hbw.trans (hb90.mono hbw.size)) (BsD.out w9 hb90) hd3; obtain ⟨_, p2, _⟩ := SAll w9 hb90)
          | (go_at_call 34; with_reducible refine HT2.mono ?_; rintro e w10 ⟨A7, n7, c7, y7, rfl, ht7, hb10⟩; have hb100 := hb90.trans (hb10.mono hb90.size)))
         obtain ⟨z0, z2, _, _, _⟩ := SAll w10 hb100
         obtain ⟨z1, z3⟩ := A1 w10 hb100
         have HB100 := Aside0.mk (HB.out.trans (hb100.mono HB.out.size))
         clear hb80 hb90 HT1 HT2 p2 ht6 ht7 hb100 hbs
         refine wp_region_seq (by kernel_rfl) (by kernel_rfl) ?_
         repeat (first
          | (refine seqW_skip rfl ?_; try simp only [Act.put, List.setIfInBounds_toArray, List.set_cons_zero, List.set_cons_succ])
          | (apply seqW_take
             · exact rfl
             · (intro w hSw; obtain ⟨m, rfl⟩ := hSw; go_simp; exact rfl)
             try simp only [Act.put, List.setIfInBounds_toArray, List.set_cons_zero, List.set_cons_succ]))
         refine seqW_end ?_
         go_wp2
         go_roundg (L.length - (i + 1))
         case measure => omega
         case rel => exact ⟨i + 1, by omega, by omega, by go_num, ⟨HB100.out.trans ((Below.drew (Below.refl _ _)).mono HB100.out.size)⟩⟩
  · obtain rfl : i = L.length := by omega
    have hb60 := hb20.trans (HB.out.mono hb20.size)
    clear hr4 HStd
    go_wp2_with (first
     | (go_at_call 25; with_reducible refine (HAw.out _ hb60).mono ?_; rintro e w7 ⟨rfl, hb7⟩))
    go_ret
    exact ⟨rfl, hb60.trans (hb7.mono hb60.size)⟩
theorem verdictStands_walk (L : List It) (A : Option Addr) (c : Nat) (hc : L.length ≤ c) (w : World) (ht : Tz w) (hu : Ut w) (hC : Kd.C kIt w A L.length L) (hcap : CapR w A L.length) (hwf : WfL L) :
    Calls Tryz.prog 12 #[.slice A L.length c] w fun e w' => e = .returned (.bool true) ∧ Below w.heap.size w w' := by
 have HL := LightM_any 1000 (by decide) L A c hc w hC
 simp only [Int.cast_ofNat_Int] at HL
 have HAw := Aside0.mk (fun W (B : Below w.heap.size w W) => awake16_any W (tz_below ht B) (hu.gr B))
 cases hli : lightM 1000 L with
 | false =>
  rw [hli] at HL
  have HL := Aside0.mk HL
  clear hC hcap hwf ht hu
  go_enter Tryz.func12, Tryz.ntmps12
  go_wp2_with (first
   | (go_at_call 15; with_reducible refine HL.out.mono ?_; rintro e w1 ⟨rfl, hb1⟩)
   | (go_at_call 25; with_reducible refine (HAw.out _ hb1).mono ?_; rintro e w2 ⟨rfl, hb2⟩))
  go_ret
  exact ⟨rfl, hb1.trans (hb2.mono hb1.size)⟩
 | true =>
  by_cases h0 : checkN L = 0
  · exact stands_ok L A c hc w ht hu hC hcap hwf hli h0
  · rw [hli] at HL
    have hj : judT L = [] := if_neg h0
    have HJ : Aside0 (∀ W, Below w.heap.size w W → Calls Tryz.prog 26 #[.slice A L.length c] W fun e w' => ∃ A4 c4, e = .returned (.tuple #[.slice A4 0 c4, .int .i64 (checkN L)]) ∧ Below W.heap.size W w') := ⟨fun W B => (Judge_any L A c W (tz_below ht B) (hu.gr B) (Kd.C_below hC B) (CapR.below hcap B) hwf).mono fun e w' h => by
     obtain ⟨v, rfl, h1, h2⟩ := h
     rw [hj] at h1
     obtain ⟨A4, c4, rfl⟩ := Kd.R_slice h1
     exact ⟨A4, c4, rfl, h2⟩⟩
    have HK : Aside0 (∀ W, Below w.heap.size w W → Calls Tryz.prog 18 #[.slice A L.length c] W fun e w' => e = .returned (.int .i64 (checkN L)) ∧ Below W.heap.size W w') := ⟨fun W B => check_any L A c W (Kd.C_below hC B) hwf⟩
    have q1 : (checkN L != 0) = true := by rw [bne_iff_ne]; exact h0
    have q2 : (checkN L == checkN L) = true := beq_self_eq_true _
    have HL := Aside0.mk HL
    clear hC hcap hwf ht hu h0 hj
    generalize checkN L = y at HJ HK q1 q2
    go_enter Tryz.func12, Tryz.ntmps12
    go_wp2_with (first
     | (go_at_call 15; with_reducible refine HL.out.mono ?_; rintro e w1 ⟨rfl, hb1⟩)
     | (go_at_call 26; with_reducible refine (HJ.out _ hb1).mono ?_; rintro e w2 ⟨A4, c4, rfl, hb2⟩; have hb20 := hb1.trans (hb2.mono hb1.size))
     | (go_at_call 18; with_reducible refine (HK.out _ hb20).mono ?_; rintro e w3 ⟨rfl, hb3⟩; have hb30 := hb20.trans (hb3.mono hb20.size))
     | (go_at_call 25; with_reducible refine (HAw.out _ hb30).mono ?_; rintro e w4 ⟨rfl, hb4⟩))
    go_ret
    exact ⟨rfl, hb30.trans (hb4.mono hb30.size)⟩
end Go.Proofs.YthlflglkdaainaaGreatDoor.Tr
