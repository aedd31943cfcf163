import Derived.Test.YthlflglkdaainaaGreatDoorPEq
import Derived.Test.YthlflglkdaainaaGreatDoorPX
import Derived.Test.YthlflglkdaainaaGreatDoorStep
/- plan.Find's closure. -/
namespace Go.Proofs.YthlflglkdaainaaGreatDoor.Tr
open Go.RowKit Go.Lib Go.Maps Go.Proofs.YthlflglkdaainaaGreatDoorW.PrintWords Go.Proofs.YthlflglkdaainaaGreatDoorW.PrintLast Go.Proofs.YthlflglkdaainaaGreatDoorW.PrintMore Go.Proofs.YthlflglkdaainaaGreatDoor.Prt

/-- The place of the first item with this item's parent and name. -/
def sameI (L : List It) (x : It) : Int := findI L (fun y => decide (y.f0 = x.f0) && (y.f1.toList == x.f1.toList))
def findP (L : List It) (path : List ByteArray) (x : It) : Bool := (x.f1.toList == (path.getD (path.length - 1) ByteArray.empty).toList) && decide (tPath L (sameI L x) = path)

theorem wrapI {n : Int} (h0 : 0 ≤ n) (h1 : n ≤ 9223372036854775807) : IntKind.i64.wrap n = n := by
  have hm : n % (2 ^ IntKind.i64.bits : Int) = n := Int.emod_eq_of_lt h0 (by simp [IntKind.bits]; omega)
  unfold IntKind.wrap
  simp only [hm]
  rw [if_neg]
  simp [IntKind.bits]
  omega

set_option maxRecDepth 100000 in
set_option maxHeartbeats 4000000 in
theorem find1 (L : List It) (A : Option Addr) (c : Nat) (hc : L.length ≤ c) (path : List ByteArray) (Ap : Option Addr) (cp : Nat) (hcp : path.length ≤ cp) (b0 b1 : Nat) (w : World) (hC : Kd.C kIt w A L.length L) (hwf : WfL L) (hP : Kd.C Kd.string w Ap path.length path) (hpn : 0 < path.length)
    (c0 : w.cell? ⟨b0, 0, none⟩ = some (.slice Ap path.length cp)) (c1 : w.cell? ⟨b1, 0, none⟩ = some (.slice A L.length c)) :
    PredL L 74 #[.pointer (some ⟨b0, 0, none⟩), .pointer (some ⟨b1, 0, none⟩)] (findP L path) w := by
  intro W x Ax cx hx hb
  have hu41 := Tryz.underlying53
  have hb0 : b0 < w.heap.size := World.block_lt_of_cell? _ _ c0
  have hb1 : b1 < w.heap.size := World.block_lt_of_cell? _ _ c1
  have y0 := (Below.cell hb hb0).trans c0
  have y1 := (Below.cell hb hb1).trans c1
  have hb0W : b0 < W.heap.size := Nat.lt_of_lt_of_le hb0 hb.size
  have hb1W : b1 < W.heap.size := Nat.lt_of_lt_of_le hb1 hb.size
  have hPW := Kd.C_below hP hb
  have hp63 := hP.2.1
  obtain ⟨bp, op, rfl, hcell⟩ := rdS hPW hpn
  have hlast := hcell (path.length - 1) (by omega)
  have hbp : bp < W.heap.size := World.block_lt_of_cell? _ _ hlast
  have hlz : ((path.length : Int) - 1).toNat = path.length - 1 := by omega
  have HPW := Aside0.mk hPW
  have HCW := Aside0.mk (Kd.C_below hC hb)
  have HX := Aside0.mk hx
  have e11 : ∀ args w, (callFunc 75 args).run Tryz.prog w = .ok (.enter 75 args) w := enters_of Tryz.func75 (by kernel_rfl) rfl
  have hbx : Below W.heap.size W (W.alloc (Obj.cells #[.int .i64 x.f0, .string x.f1, .bool x.f2, .slice Ax x.f3.length cx] 53)).drew := Below.drew (below_alloc (Below.refl _ _) _)
  have n0 : (W.alloc (Obj.cells #[.int .i64 x.f0, .string x.f1, .bool x.f2, .slice Ax x.f3.length cx] 53)).drew.cell? ⟨W.heap.size, 0, none⟩ = some (.int .i64 x.f0) := World.cell?_alloc_new W _ _ 0
  have n1 : (W.alloc (Obj.cells #[.int .i64 x.f0, .string x.f1, .bool x.f2, .slice Ax x.f3.length cx] 53)).drew.cell? ⟨W.heap.size, 1, none⟩ = some (.string x.f1) := World.cell?_alloc_new W _ _ 1
  have HI := Aside0.mk (idxE_any (fun y => decide (y.f0 = x.f0) && (y.f1.toList == x.f1.toList)) 75 #[.pointer (some ⟨W.heap.size, 0, none⟩)] e11 L A c _ (Kd.C_below HCW.out hbx) (find11 L W.heap.size x _ n0 n1))
  change Aside0 (Calls _ _ _ _ fun e w' => e = .returned (.int .i64 (sameI L x)) ∧ _) at HI
  have HPt : Aside0 (∀ W', Below W.heap.size W W' → Calls Tryz.prog 41 #[.slice A L.length c, .int .i64 (sameI L x)] W' fun e w' => ∃ Ap np cp, e = .returned (.slice Ap np cp) ∧ Kd.R Kd.string 9 w' W'.heap.size (fun _ => True) (.slice Ap np cp) (tPath L (sameI L x)) ∧ Below W'.heap.size W' w') := ⟨fun W' B => (Path_any L (sameI L x) A c hc W' (Kd.C_below HCW.out B) hwf).mono fun e w' h => by
    obtain ⟨v, rfl, h1, h2⟩ := h
    obtain ⟨Aq, cq, rfl⟩ := Kd.R_slice h1
    exact ⟨Aq, _, cq, rfl, h1, h2⟩⟩
  have HQ : Aside0 (∀ (W' : World) (base : Nat) (Aq : Option Addr) (nq cq : Nat), Below W.heap.size W W' → Kd.R Kd.string 9 W' base (fun _ => True) (.slice Aq nq cq) (tPath L (sameI L x)) → Calls Tryz.prog 76 #[.slice Aq nq cq, .slice (some ⟨bp, op, none⟩) path.length cp] W' fun e w' => e = .returned (.bool (decide (tPath L (sameI L x) = path))) ∧ ∃ m, w' = W'.drewN m) := ⟨fun W' base Aq nq cq B hr => by
    obtain ⟨rfl, h3, h4⟩ := Kd.R_reads' hr
    exact equalS_any (tPath L (sameI L x)) path Aq _ cq cp W' h4 (Kd.C_below HPW.out B) hpn⟩
  clear hcell hPW hP hC hx n0 n1 e11
  unfold cellsIt
  go_enter Tryz.func74, Tryz.ntmps74
  go_wp2
  obtain ⟨bl, hbl⟩ : ∃ b : Bool, b = (x.f1.toList == (path.getD (path.length - 1) ByteArray.empty).toList) := ⟨_, rfl⟩
  have hbl' := Aside0.mk hbl
  refine wp_region_seq (by kernel_rfl) (by kernel_rfl) ?_
  repeat (first
    | (refine seqW_skip rfl ?_; try simp only [Act.put, List.setIfInBounds_toArray, List.set_cons_zero, List.set_cons_succ])
    | (apply seqW_take
       · exact rfl
       · (intro w hSw; obtain ⟨m, rfl⟩ := hSw; go_simp; exact rfl)
       try simp only [Act.put, List.setIfInBounds_toArray, List.set_cons_zero, List.set_cons_succ]))
  have hwr : IntKind.i64.wrap ((path.length : Int) - 1) = ((path.length - 1 : Nat) : Int) := by
    have : ((path.length : Int) - 1) = ((path.length - 1 : Nat) : Int) := by omega
    rw [this]
    have : path.length - 1 ≤ 9223372036854775807 := by omega
    generalize path.length - 1 = n at this
    exact wrapI (by omega) (by omega)
  have hlt2 : path.length - 1 < path.length := by omega
  clear hlz hbl hbl'
  rw [hwr]
  clear hwr
  repeat (first
    | (refine seqW_skip rfl ?_; try simp only [Act.put, List.setIfInBounds_toArray, List.set_cons_zero, List.set_cons_succ])
    | (apply seqW_take
       · exact rfl
       · (intro w hSw; obtain ⟨m, rfl⟩ := hSw; go_simp; exact rfl)
       try simp only [Act.put, List.setIfInBounds_toArray, List.set_cons_zero, List.set_cons_succ]))
  try refine seqW_end ?_
  try refine seqW_end ?_
  cases hq : (x.f1.toList == path[path.length - 1].toList)
  · go_wp2
    go_ret
    refine ⟨?_, below_then hb hb.size (Below.drew (below_alloc (Below.refl _ _) _))⟩
    unfold findP
    rw [List.getD_eq_getElem?_getD, List.getElem?_eq_getElem hlt2, Option.getD_some, hq]
    rfl
  · go_upto_region 4 with (go_at_call 73; with_reducible refine HI.out.mono ?_; rintro e w1 ⟨rfl, hb1⟩; have hb10 := below_then hbx hbx.size hb1)
    have yy : ∀ W', Below W.heap.size W W' → W'.cell? ⟨b0, 0, none⟩ = some (.slice (some ⟨bp, op, none⟩) path.length cp) ∧ W'.cell? ⟨b1, 0, none⟩ = some (.slice A L.length c) := fun W' B => ⟨(Below.cell (p := ⟨b0, 0, none⟩) B hb0W).trans y0, (Below.cell (p := ⟨b1, 0, none⟩) B hb1W).trans y1⟩
    have YY := Aside0.mk yy
    have hb11 : Below W.heap.size W w1.drew := Below.drew hb10
    refine wp_region_noPanic (wp_region_held_drew (S := fun W' => W'.cell? ⟨b0, 0, none⟩ = some (.slice (some ⟨bp, op, none⟩) path.length cp) ∧ W'.cell? ⟨b1, 0, none⟩ = some (.slice A L.length c)) (by kernel_rfl) (yy _ hb11) (fun hHeld => ?_))
    clear yy y0 y1
    refine wpAnyH_range (fuel := 4) (lo := 0) (n := 2) (by kernel_rfl) (by decide) hHeld ?_
    repeat (first
      | (refine seqR_skip rfl ?_; try simp only [Act.put, List.setIfInBounds_toArray, List.set_cons_zero, List.set_cons_succ])
      | (apply seqR_take
         · exact rfl
         · (intro w hSw; obtain ⟨s0, s1⟩ := hSw; go_simp; exact rfl)
         try simp only [Act.put, List.setIfInBounds_toArray, List.set_cons_zero, List.set_cons_succ]))
    try refine seqR_end ?_
    refine wpAnyH_range (fuel := 3) (lo := 3) (n := 1) (by kernel_rfl) (by decide) hHeld ?_
    repeat (first
      | (refine seqR_skip rfl ?_; try simp only [Act.put, List.setIfInBounds_toArray, List.set_cons_zero, List.set_cons_succ])
      | (apply seqR_take
         · exact rfl
         · (intro w hSw; obtain ⟨s0, s1⟩ := hSw; go_simp; exact rfl)
         try simp only [Act.put, List.setIfInBounds_toArray, List.set_cons_zero, List.set_cons_succ]))
    try refine seqR_end ?_
    refine wpAnyH_ready (fuel := 2) (rs := [2]) (by kernel_rfl) (by simp) ?_
    refine AllReadyH.cons rfl (fun K hK => ?_) AllReadyH.nil
    go_simp
    go_at_call 41
    refine (HPt.out _ hb11).mono ?_
    rintro e w2 ⟨Aq, nq, cq, rfl, hr2, hb2⟩
    have hb20 := below_then hb11 hb11.size hb2
    have HQ1 := HQ.out w2 _ Aq nq cq hb20 hr2
    refine hK.out _ _ (YY.out _ hb20) (fun hHeld2 => ?_)
    clear hK K
    try simp only [Act.put, List.setIfInBounds_toArray, List.set_cons_zero, List.set_cons_succ]
    refine wpAnyH_ready (fuel := 1) (rs := [4]) (by kernel_rfl) (by simp) ?_
    refine AllReadyH.cons rfl (fun K hK => ?_) AllReadyH.nil
    go_simp
    go_at_call 76
    refine HQ1.mono ?_
    rintro e w3 ⟨rfl, m, rfl⟩
    refine hK.out _ _ (YY.out _ (pw_below_drewN hb20 m)) (fun hHeld3 => ?_)
    clear hK K
    try simp only [Act.put, List.setIfInBounds_toArray, List.set_cons_zero, List.set_cons_succ]
    refine wpAnyH_range (fuel := 0) (lo := 5) (n := 1) (by kernel_rfl) (by decide) hHeld3 ?_
    repeat (first
      | (refine seqR_skip rfl ?_; try simp only [Act.put, List.setIfInBounds_toArray, List.set_cons_zero, List.set_cons_succ])
      | (apply seqR_take
         · exact rfl
         · (intro w hSw; obtain ⟨s0, s1⟩ := hSw; go_simp; exact rfl)
         try simp only [Act.put, List.setIfInBounds_toArray, List.set_cons_zero, List.set_cons_succ]))
    try refine seqR_end ?_
    refine wpAnyH_done (by kernel_rfl) ?_ _
    refine NoPanic.normal ?_
    go_wp2
    go_ret
    refine ⟨?_, below_then hb hb.size (pw_below_drewN hb20 m)⟩
    unfold findP
    rw [List.getD_eq_getElem?_getD, List.getElem?_eq_getElem hlt2, Option.getD_some, hq, Bool.true_and]
    rfl
end Go.Proofs.YthlflglkdaainaaGreatDoor.Tr
