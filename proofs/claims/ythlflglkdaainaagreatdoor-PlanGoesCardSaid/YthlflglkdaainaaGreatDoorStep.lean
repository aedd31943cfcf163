import Derived.Test.YthlflglkdaainaaGreatDoorSeq
import Derived.Tactics
/- A law over a list of operations, used for one operation of a drawn region. -/
namespace Go.Proofs.YthlflglkdaainaaGreatDoor
open Go

/-- No way out but the ordinary one. -/
def onlyK (K : Act → World → Prop) : Exit → Act → World → Prop
  | .normal, a, w => K a w
  | _, _, _ => False
theorem onlyK_out {K : Act → World → Prop} : ¬ LetsOut (onlyK K) := fun ⟨_, _, h⟩ => h
theorem wp_onlyK {P : Program} {o : Oper} {a : Act} {w : World} {K : Act → World → Prop} {Q : Exit → Act → World → Prop} (hh : o.wp P a w K (onlyK K)) : o.wp P a w K Q := by
  unfold Oper.wp at *
  generalize (execOp a.eval o).run P w = r at *
  cases r with
  | ok n w' =>
    cases n <;> simp only [Oper.upon] at hh ⊢ <;>
      first
        | exact hh
        | exact Calls.mono hh (fun e w'' he => by cases e <;> first | exact he | exact he.elim | exact absurd he onlyK_out)
  | halt x w' => cases x <;> simp only [Oper.upon] at hh ⊢ <;> first | exact hh | exact hh.elim | exact absurd hh onlyK_out
theorem step_of_list {P : Program} {ops : Array Oper} {o : Oper} {a : Act} {w : World} {K : Act → World → Prop} {Q : Exit → Act → World → Prop} {E : Prop} (hg : o.guard = none) (h : wpList P ops (onlyK K) [o] a w) :
    if Region.wanted o (yielded ops a.tmps) = true then Oper.wp P o a w K Q else E := by
  have hw : Region.wanted o (yielded ops a.tmps) = true := by simp [Region.wanted, hg]
  rw [if_pos hw]
  unfold wpList at h
  rw [if_pos hw] at h
  rcases h with h | h
  · exact wp_onlyK h
  · exact absurd h.2 onlyK_out
end Go.Proofs.YthlflglkdaainaaGreatDoor
