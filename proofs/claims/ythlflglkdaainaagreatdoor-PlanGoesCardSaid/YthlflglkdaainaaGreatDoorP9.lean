import Derived.Test.YthlflglkdaainaaGreatDoorQ1
/- plan.Find. -/
set_option maxRecDepth 100000
namespace Go.Proofs.YthlflglkdaainaaGreatDoor.Tr
open Go.RowKit Go.Lib Go.Maps Go.Proofs.YthlflglkdaainaaGreatDoorW.PrintWords Go.Proofs.YthlflglkdaainaaGreatDoorW.PrintLast Go.Proofs.YthlflglkdaainaaGreatDoorW.PrintMore Go.Proofs.YthlflglkdaainaaGreatDoor.Prt

set_option maxHeartbeats 4000000 in
theorem Find_any (L : List It) (A : Option Addr) (c : Nat) (hc : L.length ≤ c) (path : List ByteArray) (Ap : Option Addr) (cp : Nat) (hcp : path.length ≤ cp) (w : World) (hC : Kd.C kIt w A L.length L) (hwf : WfL L) (hP : Kd.C Kd.string w Ap path.length path) :
    Calls Tryz.prog 37 #[.slice A L.length c, .slice Ap path.length cp] w fun e w' => e = .returned (.int .i64 (findT L path)) ∧ Below w.heap.size w w' := by
  have hb : Below w.heap.size w ((w.alloc (Obj.cells #[.slice A L.length c] 22)).alloc (Obj.cells #[.slice Ap path.length cp] 65)) := below_alloc (below_alloc (Below.refl _ _) _) _
  by_cases h0 : path = []
  · subst h0
    unfold findT
    rw [if_pos rfl]
    clear hC hP
    go_enter Tryz.func37, Tryz.ntmps37
    go_wp2
    go_ret
    exact ⟨rfl, hb⟩
  · have hpn : 0 < path.length := List.length_pos_iff.2 h0
    have e1 : ∀ args w, (callFunc 74 args).run Tryz.prog w = .ok (.enter 74 args) w := enters_of Tryz.func74 (by kernel_rfl) rfl
    have n0 : ((w.alloc (Obj.cells #[.slice A L.length c] 22)).alloc (Obj.cells #[.slice Ap path.length cp] 65)).cell? ⟨w.heap.size, 0, none⟩ = some (.slice A L.length c) :=
      ((below_alloc (Below.refl _ _) _).cell (p := ⟨w.heap.size, 0, none⟩) (by rw [World.size_alloc]; exact Nat.lt_succ_self _)).trans (World.cell?_alloc_new w _ _ 0)
    have n1 : ((w.alloc (Obj.cells #[.slice A L.length c] 22)).alloc (Obj.cells #[.slice Ap path.length cp] 65)).cell? ⟨w.heap.size + 1, 0, none⟩ = some (.slice Ap path.length cp) := by
      have := World.cell?_alloc_new (w.alloc (Obj.cells #[.slice A L.length c] 22)) #[.slice Ap path.length cp] 65 0
      rw [World.size_alloc] at this
      exact this
    have HI := Aside0.mk (idxE_any (findP L path) 74 #[.pointer (some ⟨w.heap.size + 1, 0, none⟩), .pointer (some ⟨w.heap.size, 0, none⟩)] e1 L A c _ (Kd.C_below hC hb) (find1 L A c hc path Ap cp hcp _ _ _ (Kd.C_below hC hb) hwf (Kd.C_below hP hb) hpn n1 n0))
    rw [show findI L (findP L path) = findT L path from (if_neg h0).symm] at HI
    have hne : ((path.length : Int) == 0) = false := by rw [beq_eq_false_iff_ne]; omega
    clear hC hP h0 e1 n0 n1
    go_enter Tryz.func37, Tryz.ntmps37
    go_wp2_with (go_at_call 73; with_reducible refine HI.out.mono ?_; rintro e w1 ⟨rfl, hb1⟩)
    go_ret
    exact ⟨rfl, below_then hb hb.size hb1⟩
theorem findT_lt {L : List It} {path : List ByteArray} (h : ¬ findT L path < 0) : ∃ k : Nat, findT L path = k ∧ k < L.length := by
  unfold findT at h ⊢
  split at h
  · exact absurd h (by decide)
  · rename_i h0
    rw [if_neg h0]
    unfold findI at h ⊢
    cases hf : L.findIdx? (findP L path) with
    | none => rw [hf] at h; exact absurd h (by decide)
    | some i =>
      obtain ⟨hi, _⟩ := List.findIdx?_eq_some_iff_getElem.1 hf
      exact ⟨i, rfl, hi⟩
theorem set_wf {L : List It} (hwf : WfL L) {k : Nat} {x : It} (hx : WfIt x) : WfL (L.set k x) := by
  intro y hy
  rcases List.mem_or_eq_of_mem_set hy with h | h
  · exact hwf y h
  · rw [h]; exact hx
theorem setN_wf {L : List It} (hwf : WfL L) {k : Nat} (hk : k < L.length) {s : ByteArray} (hs : s.size ≤ maxLen) : WfL (setN L k s) := by
  obtain ⟨a1, a2, _, a4, a5⟩ := hwf _ (it_mem' hk)
  exact set_wf hwf ⟨a1, a2, hs, a4, a5⟩
theorem setD_wf {L : List It} (hwf : WfL L) {k : Nat} (hk : k < L.length) {c : List UInt8} (hc : c.length ≤ 8192) : WfL (setD L k (i8s c)) := by
  obtain ⟨a1, a2, a3, _, _⟩ := hwf _ (it_mem' hk)
  exact set_wf hwf ⟨a1, a2, a3, bytes8_i8s _, by show (i8s c).length ≤ _; rw [i8s_len]; unfold maxLen; omega⟩
theorem apply_wf {L : List It} (hwf : WfL L) {s : St} (hs : s.f2.size ≤ maxLen) : WfL (applyT L s).1 := by
  have nil : WfL [] := fun x hx => by cases hx
  unfold applyT
  split
  · split
    · exact nil
    · rename_i h1
      obtain ⟨k, hk, hkl⟩ := findT_lt h1
      rw [hk, Int.toNat_natCast]
      split
      · split
        · exact setN_wf hwf hkl hs
        · exact nil
      · split
        · exact nil
        · cases ht : textB (u8s (itA L (k : Int)).f3) with
          | none => exact nil
          | some c =>
            show WfL (if 8192 < c.length then (([] : List It), (5 : Int)) else (setD L k (i8s c), 0)).1
            split
            · exact nil
            · exact setD_wf hwf hkl (by omega)
  · exact nil
end Go.Proofs.YthlflglkdaainaaGreatDoor.Tr
