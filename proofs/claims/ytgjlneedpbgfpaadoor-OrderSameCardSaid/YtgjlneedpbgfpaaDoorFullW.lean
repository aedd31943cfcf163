import Derived.Test.YtgjlneedpbgfpaaDoorEach3
/- The walks of decomp.parts and decomp.Full. -/
namespace Go.Proofs.YtgjlneedpbgfpaaDoor
open Go.RowKit Go.Shelf

attribute [local go_sem] Oper.semAt_some

set_option maxHeartbeats 1000000 in
/-- **parts$1**. -/
theorem parts1_stops (c : Nat) (hc : c < 4294967296) (n : Nat) (w0 : World) (ht : Tz w0) (Bt : Nat) (w : World) (hg : Gr w0 w) (hBt : Bt < w.heap.size) (hcell : w.cell? ⟨Bt, 0, none⟩ = some (.int .u32 c)) :
    SeqStopsK Fence.wide n Tryd.prog 92 #[.pointer (some ⟨Bt, 0, none⟩)] (fun x : Nat => #[Value.int .u32 (x : Int)]) (Below w0.heap.size) (fun ys => ys = full c) (fun pre => pre <+: full c) (full c).length w := by
  intro l J Jx W hW hJa _ hY h0
  have hgW : Gr w0 W := hg.trans hW
  have hB := (hW.cell (p := ⟨Bt, 0, none⟩) hBt).trans hcell
  have hY' : Yields (n - 1) l (full c).length w0.heap.size (fun s A => J s A ∧ Gr w0 A ∧ W.heap.size ≤ A.heap.size) Jx := fun pre x A hj hl => (hY pre x A hj.1 hl).mono fun e A' h => h.elim
    (fun ⟨he, hj', hb⟩ => .inl ⟨he, ⟨hj', Below.trans hj.2.1 hb, Nat.le_trans hj.2.2 hb.size⟩, hb⟩) .inr
  have he := each_any (n - 1) l (full c).length w0.heap.size (fun s A => J s A ∧ Gr w0 A ∧ W.heap.size ≤ A.heap.size) Jx
    (fun s A B hj hgr => ⟨hJa s A B none hj.1 hgr.grown (fun r e => by cases e), hj.2.1.trans hgr, Nat.le_trans hj.2.2 hgr.size⟩) (fun s A hj => hj.2.1.size) (fun s A hj => hj.2.1.cell ht) hY' 3 c (n - 1) [] W (deep3 c) hc ⟨h0, hgW, Nat.le_refl _⟩ (by simp)
  refine callsIn_of_wp Tryd.func92 rfl trivial ?_ rfl
  simp only [Tryd.ntmps92, List.size_toArray, List.length_cons, List.length_nil, Nat.reduceAdd, Nat.reduceSub, Array.replicate_succ, Array.replicate_zero, List.push_toArray, List.append_toArray, List.nil_append, List.cons_append]
  gi_wp2_with (refine ⟨trivial, fun h => (by cases h), ?_⟩; gi_at_call 93; refine he.mono ?_; clear he; rintro e W1 (⟨rfl, hJ1, _⟩ | ⟨rfl, q, hq, hx⟩))
  · go_end0
    exact ⟨⟨_, rfl⟩, .inl ⟨_, rfl, hJ1.1⟩⟩
  · go_end0
    exact ⟨⟨_, rfl⟩, .inr ⟨q, hq, hx⟩⟩

set_option maxHeartbeats 1000000 in
theorem parts_in (n : Nat) (c : Nat) (w : World) :
    CallsIn Fence.wide n Tryd.prog 62 #[.int .u32 (c : Int)] w fun e w' => e = .returned (.func (.func 92) #[] #[.pointer (some ⟨w.heap.size, 0, none⟩)]) ∧ w' = w.alloc (.cells #[.int .u32 (c : Int)] 22) := by
  refine callsIn_of_wp Tryd.func62 rfl trivial ?_ rfl
  simp only [Tryd.ntmps62, List.size_toArray, List.length_cons, List.length_nil, Nat.reduceAdd, Nat.reduceSub, Array.replicate_succ, Array.replicate_zero, List.push_toArray, List.append_toArray, List.nil_append, List.cons_append]
  gi_wp2
  go_ret
  exact ⟨rfl, rfl⟩

set_option maxRecDepth 100000 in
set_option maxHeartbeats 2000000 in
theorem Full_in (c : Nat) (hc : c < 4294967296) (w : World) (ht : Tz w) :
    CallsIn Fence.wide 3 Tryd.prog 30 #[.int .u32 (c : Int)] w fun e W' => ∃ v, e = .returned v ∧ W'.ownsRow w.heap.size 22 1 v (full c).length (u32s (full c)) ∧ Gr w W' := by
  obtain ⟨i0, hi, hz0, hz1, hz2⟩ := info_parts info_u32
  have hlen := full_len c
  refine callsIn_of_wp_marks Tryd.func30 rfl trivial ?_ rfl
  simp only [Tryd.ntmps30, List.size_toArray, List.length_cons, List.length_nil, Nat.reduceAdd, Nat.reduceSub, Array.replicate_succ, Array.replicate_zero, List.push_toArray, List.append_toArray, List.nil_append, List.cons_append]
  gi_wp2_with (refine ⟨trivial, ?_⟩; gi_at_call 62; refine (parts_in _ c _).mono ?_; rintro e w' ⟨rfl, rfl⟩)
  have bO := Boxed.new w 27 (.slice none 0 0)
  have bN := Boxed.new (w.alloc (.cells #[.slice none 0 0] 27)) 22 (.int .u32 (c : Int))
  rw [World.size_alloc] at bN
  have hB0 : Gr w ((w.alloc (.cells #[.slice none 0 0] 27)).alloc (.cells #[.int .u32 (c : Int)] 22)) := (Gr.alloc _ _).trans (Gr.alloc _ _)
  refine wpIn_rangeFunc_ownG rfl (by decide) (gf := 92) (lb := #[.pointer (some ⟨w.heap.size + 1, 0, none⟩)]) rfl trivial (enters_of Tryd.func92 (by kernel_rfl) rfl)
    (parts1_stops c hc _ w ht (w.heap.size + 1) _ hB0 (by simp) bN.cell) belowK_t (belowK_b (by simp; omega)) (Below.refl _ _) (fun _ => rfl)
    (fun pre W => (∃ v, Boxed W w.heap.size 27 v ∧ W.ownsRow w.heap.size 22 1 v pre.length (u32s pre) ∧ True) ∧ Below w.heap.size w W)
    (fun _ _ _ => False)
    (OwnFrom.and (Own.from (holdsRow_own w.heap.size w.heap.size 27 22 1 (fun pre : List Nat => pre.length) (fun pre => u32s pre) (fun _ _ => True)) _) (ownFrom_below (Nat.le_refl _) (by simp; omega)))
    (fun _ _ _ _ _ hs _ _ => hs)
    ⟨⟨_, bO.alloc _, World.ownsRow_nil _ _ _ _, trivial⟩, hB0⟩
    (fun x => { tmps := #[.int .u32 (c : Int), undef, .slice none 0 0, .pointer (some ⟨w.heap.size, 0, none⟩), .int .u32 (x : Int), .int .u32 (c : Int), .func (.func 92) #[] #[.pointer (some ⟨w.heap.size + 1, 0, none⟩)], .int .u32 (x : Int), undef, undef, undef, undef, undef], defers := [] }) ?assign ?body ?done ?stop
  case assign =>
    intro l x W K hK
    gi_wp2
    exact hK
  case body =>
    rintro l pre x W ⟨⟨v, hv, hrow, _⟩, hB⟩ hlt
    have hc := hv.cell
    gi_wp2_with (gi_at_builtin; refine wpListIn_append_own _ rfl _ _ 27 rfl w.heap.size 22 i0 (.int .u32 0) 1 4 Tryd.underlying27 hi hz0 hz1 hz2 rfl (by decide) _ _ _ rfl (hrow.alloc _) ⟨W.heap.size, 0, none⟩ 1 1 [.int .u32 x] rfl rfl (cell_one_new _ _ _) (by simp [Value.oneCell']) (by first | omega | (unfold maxLen; omega)) (by first | omega | (unfold maxLen; omega)) (by have := hB.size; simp; omega) ?_; intro v' w1 hown' hgrow _; obtain ⟨g', cap', rfl⟩ := ownsRow_succ hown'; obtain ⟨hv1, hv2, hr2, hk2, hb2⟩ := hv.appended (by decide) hrow hB.size (Nat.le_refl _) hown' hgrow; have hc1 := hv1.cell; have hf1 := hv1.frozen)
    exact ⟨hk2.from _, hb2, ⟨_, hv2, own_conv hr2 rfl rfl rfl, trivial⟩, hB.trans hb2⟩
  case done =>
    rintro D ys W hD rfl ⟨⟨v, hv, hrow, _⟩, hB⟩ hK
    have hc := hv.cell
    gi_wp2
    refine ⟨by simp, .inl ⟨_, _, rfl, run_takeDeferred hK, ?_⟩⟩
    exact ⟨_, results_tmp rfl _ _ _, v, rfl, ownsRow_putObj hrow _ hK rfl, hB.trans (belowK_b (w := w) (Nat.le_refl _) W D _ _ (by simp at hD; omega) hK rfl rfl)⟩
  case stop =>
    rintro D c pre W _ _ h _
    exact h.elim

theorem Full_any (c : Nat) (hc : c < 4294967296) (w : World) (ht : Tz w) :
    Calls Tryd.prog 30 #[.int .u32 (c : Int)] w fun e W' => ∃ v, e = .returned v ∧ W'.ownsRow w.heap.size 22 1 v (full c).length (u32s (full c)) ∧ Gr w W' := callsIn_wide.1 (Full_in c hc w ht)
end Go.Proofs.YtgjlneedpbgfpaaDoor
