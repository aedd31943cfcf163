import Derived.ProofKit
import Derived.LaidMore
import Derived.OpenShut
import Derived.Stop.Joined
import Derived.Stop.LaidErr
import Derived.Lib.LaidTab
import Derived.MakeChecks
import Derived.Laws.AppendOwnNone
import Derived.Test.YthlflglkdaainaaGreatDoorCards
import Derived.SevenTiedAt
import Derived.Test.YthlflglkdaainaaGreatDoorPA
import Derived.Test.YthlflglkdaainaaGreatDoorPD
import Derived.Test.YthlflglkdaainaaGreatDoorPR
/- Texts of this seat: KL. -/
set_option maxRecDepth 100000
set_option maxHeartbeats 8000000
namespace Go.Proofs.YthlflglkdaainaaGreatDoor
open Go.RowKit
theorem own : ownKnob Tryz.prog.godebug = none := by kernel_rfl
theorem g64 : Tryz.prog.globalNamed "math/bits.deBruijn64tab" = some 5 := by kernel_rfl
theorem ty64 : (Tryz.prog.globals[5]?).map (·.type) = some 237 := by kernel_rfl
end Go.Proofs.YthlflglkdaainaaGreatDoor
namespace Go.Proofs.YthlflglkdaainaaGreatDoor
open Go.RowKit
theorem row_cells {w : World} {base : Nat} {v : Value} {L : List Nat} (h : w.ownsRow base 134 1 v L.length (u32s L)) (hL : 0 < L.length) :
    ∃ g cap, v = .slice (some ⟨g, 0, none⟩) L.length cap ∧ g < w.heap.size ∧ ∀ (j : Nat) u, (u32s L)[j]? = some u → w.cell? ((⟨g, 0, none⟩ : Addr).add j) = some u := by
 obtain ⟨g, cap, rfl, _, hg⟩ := row_form h hL
 refine ⟨g, cap, rfl, hg, fun j u hj => ?_⟩
 have hjl : j < L.length := by
  have := (List.getElem?_eq_some_iff.1 hj).1; rwa [u32s_length] at this
 have hc := row_cell h j hjl
 unfold u32s at hj
 rw [List.getElem?_map, List.getElem?_eq_getElem hjl] at hj
 have hd : L.getD j 0 = L[j] := by simp [List.getD, hjl]
 rw [hd] at hc
 simp only [Option.map_some, Option.some.injEq] at hj
 rw [← hj, ← hc]
 simp only [Addr.add]
 split
 · rename_i h0; subst h0; rfl
 · simp
def RowOf (L : List Nat) (w : World) (e : Ending) (w' : World) : Prop := ∃ v, e = .returned v ∧ w'.ownsRow w.heap.size 134 1 v L.length (u32s L) ∧ Gr w w'
theorem gr_add2 {wo w1 w2 : World} {e : TypeId} {size n : Nat} {v : Value} {xs : List Value} (h : Gr wo w1) (hn : w1.ownsRow wo.heap.size e size v n xs) (hg : w1.grownBy w2 v.ownBlock) : Gr wo w2 := Below.grown h hg h.size (row_block hn)
end Go.Proofs.YthlflglkdaainaaGreatDoor
namespace Go.Proofs.YthlflglkdaainaaGreatDoor
open Go.RowKit
noncomputable def whole (c : Nat) : Bool := (dfind c).isNone && !isH c
end Go.Proofs.YthlflglkdaainaaGreatDoor
namespace Go.Proofs.YthlflglkdaainaaGreatDoor
open Go.RowKit
theorem has_any (a b c : Int) (x : Int) (r : Bool) (w : World) (hx : IntKind.u32.wrap (c - a) = x) (hr : decide (x < b) = r) : Calls Tryz.prog 191 #[.agg #[.int .u32 a, .int .u32 b], .int .u32 c] w fun e w' => e = .returned (.bool r) ∧ Gr w w' := by
 have h0 := row_at0
 have h1 := row_at1
 go_enter Tryz.func191, Tryz.ntmps191
 go_wp2
 exact bodyPost_ret (v := .bool r) (by simp [results, Tryz.results191, go_sem]) rfl ⟨rfl, Gr.alloc _ _⟩
theorem put_lv (l v i p q s t : Int) (w : World) (h1 : IntKind.u32.wrap (l - 4352) = i) (h2 : IntKind.u32.wrap (v - 4449) = p) (hi : decide (i < 19) = true) (hp : decide (p < 21) = true)
    (h3 : IntKind.u32.wrap (i * 21) = q) (h4 : IntKind.u32.wrap (q + v) = s) (h5 : (44032 + (s - 4449) % 4294967296 * 28 % 4294967296) % 4294967296 = t) :
    Calls Tryz.prog 188 #[.int .u32 l, .int .u32 v, .int .u32 0] w fun e w' => e = .returned (.tuple #[.int .u32 t, .int .i64 0]) ∧ Gr w w' := by
 have hr0 := row_at0
 have HL := hid (fun w => has_any 4352 19 l i true w h1 hi)
 have HV := hid (fun w => has_any 4449 21 v p true w h2 hp)
 have g := Gr.refl w
 go_enter Tryz.func188, Tryz.ntmps188
 go_wp2_with (first
  | (go_at_call 202; refine (lead_any _).mono ?_; rintro e w1 ⟨rfl, g1⟩; replace g := g.trans g1; clear g1)
  | (go_at_call 203; refine (vowel_any _).mono ?_; rintro e w1 ⟨rfl, g1⟩; replace g := g.trans g1; clear g1)
  | (go_at_call 191; refine (HL.out _).mono ?_; clear HL; rintro e w1 ⟨rfl, g1⟩; replace g := g.trans g1; clear g1)
  | (go_at_call 191; refine (HV.out _).mono ?_; clear HV; rintro e w1 ⟨rfl, g1⟩; replace g := g.trans g1; clear g1))
 refine bodyPost_ret (v := .tuple #[.int .u32 ((44032 + (s - 4449) % 4294967296 * 28 % 4294967296) % 4294967296), .int .i64 0]) (by simp [results, Tryz.results188, go_sem]) rfl ⟨?_, g⟩
 rw [h5]
theorem put_no (l v x : Int) (w : World) (h1 : IntKind.u32.wrap (l - 4352) = x) (hi : decide (x < 19) = false) :
    Calls Tryz.prog 188 #[.int .u32 l, .int .u32 v, .int .u32 0] w fun e w' => e = .returned (.tuple #[.int .u32 0, .int .i64 2]) ∧ Gr w w' := by
 have HL := hid (fun w => has_any 4352 19 l x false w h1 hi)
 have g := Gr.refl w
 go_enter Tryz.func188, Tryz.ntmps188
 go_wp2_with (first
  | (go_at_call 202; refine (lead_any _).mono ?_; rintro e w1 ⟨rfl, g1⟩; replace g := g.trans g1; clear g1)
  | (go_at_call 191; refine (HL.out _).mono ?_; clear HL; rintro e w1 ⟨rfl, g1⟩; replace g := g.trans g1; clear g1))
 exact bodyPost_ret (v := .tuple #[.int .u32 0, .int .i64 2]) (by simp [results, Tryz.results188, go_sem]) rfl ⟨rfl, g⟩
theorem join_lv (l v t : Int) (w : World) (hp : ∀ w, Calls Tryz.prog 188 #[.int .u32 l, .int .u32 v, .int .u32 0] w fun e w' => e = .returned (.tuple #[.int .u32 t, .int .i64 0]) ∧ Gr w w') :
    Calls Tryz.prog 167 #[.int .u32 l, .int .u32 v] w fun e w' => e = .returned (.tuple #[.int .u32 t, .bool true]) ∧ Gr w w' := by
 go_enter Tryz.func167, Tryz.ntmps167
 go_wp2_with (go_at_call 188; refine (hp _).mono ?_; rintro e w1 ⟨rfl, g1⟩)
 exact bodyPost_ret (v := .tuple #[.int .u32 t, .bool true]) (by simp [results, Tryz.results167, go_sem]) rfl ⟨rfl, g1⟩
theorem join_t (x b k : Int) (t : Int) (w : World) (hp : ∀ w, Calls Tryz.prog 188 #[.int .u32 x, .int .u32 b, .int .u32 0] w fun e w' => e = .returned (.tuple #[.int .u32 0, .int .i64 2]) ∧ Gr w w')
    (hi : ∀ w, Calls Tryz.prog 189 #[.int .u32 x] w fun e w' => e = .returned (.bool true) ∧ w = w') (hm : (x - 44032) % 4294967296 % 28 = 0) (h1 : IntKind.u32.wrap (b - 4520) = k) (hk : decide (k < 27) = true)
    (ht : ((x + b - 4520) % 4294967296 + 1) % 4294967296 = t) :
    Calls Tryz.prog 167 #[.int .u32 x, .int .u32 b] w fun e w' => e = .returned (.tuple #[.int .u32 t, .bool true]) ∧ Gr w w' := by
 have hr0 := row_at0
 have HT := hid (fun w => has_any 4520 27 b k true w h1 hk)
 have g := Gr.refl w
 go_enter Tryz.func167, Tryz.ntmps167
 go_wp2_with (first
  | (go_at_call 188; refine (hp _).mono ?_; rintro e w1 ⟨rfl, g1⟩; replace g := g.trans g1; clear g1)
  | (go_at_call 189; refine (hi _).mono ?_; rintro e w1 ⟨rfl, rfl⟩)
  | (go_at_call 190; refine (trail_any _).mono ?_; rintro e w1 ⟨rfl, g1⟩; replace g := g.trans g1; clear g1)
  | (go_at_call 191; refine (HT.out _).mono ?_; clear HT; rintro e w1 ⟨rfl, g1⟩; replace g := g.trans g1; clear g1))
 refine bodyPost_ret (v := .tuple #[.int .u32 (((x + b - 4520) % 4294967296 + 1) % 4294967296), .bool true]) (by simp [results, Tryz.results167, go_sem]) rfl ⟨?_, g⟩
 rw [ht]
end Go.Proofs.YthlflglkdaainaaGreatDoor
namespace Go.Proofs.YthlflglkdaainaaGreatDoor
open Go.RowKit
noncomputable def fullL (L : List Nat) : List Nat := L.flatMap full
theorem fullL_snoc (L : List Nat) (x : Nat) : fullL (L ++ [x]) = fullL L ++ full x := by unfold fullL; rw [List.flatMap_append]; simp
theorem fullL_len (L : List Nat) : L.length ≤ (fullL L).length ∧ (fullL L).length ≤ 4 * L.length := by
 induction L with
 | nil => simp [fullL]
 | cons a L ih =>
  have := full_len a
  show (a :: L).length ≤ (full a ++ fullL L).length ∧ (full a ++ fullL L).length ≤ _
  rw [List.length_append, List.length_cons]; omega
theorem List_any (v : Value) (L : List Nat) (w : World) (ht : Tz w) (hv : Sl w v L) (hb : ∀ x ∈ L, x < 4294967296) (hl : L.length ≤ 1000000) : Calls Tryz.prog 100 #[v] w (RowOf (fullL L) w) := by
 obtain ⟨ao, ca, rfl, _, hA⟩ := hv
 obtain ⟨n, hn⟩ : ∃ n, L.length = n := ⟨_, rfl⟩
 rw [hn] at hA ⊢
 have hnb : (n : Int) ≤ 1000000 := by omega
 have HN := hid hn
 have HA := hid hA
 have HB := hid hb
 clear hn hA hb hl
 obtain ⟨i0, hi, hz0, hz1, hz2⟩ := info_parts info_u32
 go_enter Tryz.func100, Tryz.ntmps100
 go_wp2_with fail
 go_loopw [3, 8] (fun vo vi wr => ∃ k : Nat, k ≤ n ∧ vi = .int .i64 k ∧ wr.ownsRow w.heap.size 134 1 vo (fullL (L.take k)).length (u32s (fullL (L.take k))) ∧ Gr w wr) (fun _ vi _ => n - (intOf vi).toNat)
 case atStart => exact ⟨0, Nat.zero_le _, rfl, by simp [fullL]; exact World.ownsRow_nil _ _ _ _, Gr.refl _⟩
 case round =>
  obtain ⟨k, hk, rfl, hown, hgk⟩ := hrel
  by_cases hkn : k < n
  · obtain ⟨g, off, rfl, hcell⟩ := HA.out k hkn
    have hcell := hgk.cell hcell
    have hkL : k < L.length := by rw [HN.out]; exact hkn
    have hx : L.getD k 0 < 4294967296 := by
     rw [List.getD, List.getElem?_eq_getElem hkL]; exact HB.out _ (List.getElem_mem _)
    have htk : L.take (k + 1) = L.take k ++ [L.getD k 0] := by
     rw [List.take_succ_eq_append_getElem hkL, List.getD, List.getElem?_eq_getElem hkL]; rfl
    have HT : Hid (fullL (L.take (k + 1)) = fullL (L.take k) ++ full (L.getD k 0)) := by show _ = _; rw [htk, fullL_snoc]
    have HLEN : Hid ((fullL (L.take k)).length ≤ 4 * k) := by show _ ≤ _; have := (fullL_len (L.take k)).2; rw [List.length_take] at this; omega
    have HF := hid (Full_any (L.getD k 0) hx wr (ht.gr hgk))
    have hfl := full_len (L.getD k 0)
    clear htk hx
    generalize full (L.getD k 0) = M at HT HF hfl
    generalize L.getD k 0 = x at hcell HF
    generalize fullL (L.take k) = P at hown HT HLEN
    have hlt : (k : Int) < n := by omega
    go_wp2_with (first
     | (go_at_call 131; refine HF.out.mono ?_; clear HF; rintro e w1 ⟨v1, rfl, hv1, g1⟩; obtain ⟨gg, cap, rfl, hg1, hg2⟩ := row_cells hv1 (by omega))
     | (at_builtin; refine wpList_append_own _ rfl _ _ 108 rfl w.heap.size 134 i0 (.int .u32 0) 1 4 Tryz.underlying108 hi hz0 hz1 hz2 rfl (by decide) _ _ _ rfl (ownsRow_gr hown g1) ⟨gg, 0, none⟩ M.length cap (u32s M) rfl (by rw [u32s_length]; omega) hg2 (fun x hx => by unfold u32s at hx; rw [List.mem_map] at hx; obtain ⟨y, _, rfl⟩ := hx; rfl) (by have := HLEN.out; unfold maxLen; omega) (by have := HLEN.out; omega) (hgk.trans g1).size ?_; intro v' w4 hown' hgrow _))
    have hG := gr_add2 (hgk.trans g1) (ownsRow_gr hown g1) hgrow
    have hO := own_conv (K := M) hown' HT.out rfl rfl
    clear hgrow hown' hown hcell hv1 hg2
    go_roundw
    case rel => exact ⟨k + 1, hkn, by simp, hO, hG⟩
    case measure => simp [intOf]; omega
  · have hkn' : k = n := by omega
    have HO : Hid (L.take k = L) := by show _ = _; rw [hkn', ← HN.out, List.take_length]
    rw [HO.out] at hown
    go_wp2
    go_ret
    exact ⟨_, rfl, hown, hgk⟩
end Go.Proofs.YthlflglkdaainaaGreatDoor
namespace Go.Proofs.YthlflglkdaainaaGreatDoor
open Go.RowKit
end Go.Proofs.YthlflglkdaainaaGreatDoor
namespace Go.Proofs.YthlflglkdaainaaGreatDoor
open Go.RowKit
theorem addr_add (g o : Nat) (j : Nat) : (⟨g, o, none⟩ : Addr).add j = ⟨g, o + j, none⟩ := by
 simp only [Addr.add]
 split
 · rename_i h; subst h; rfl
 · rfl
theorem wpList_append_sl {w : World} {ops : Array Oper} {rest : List Oper} {o : Oper} {a : Act} {Q : Exit → Act → World → Prop} (hgd : o.guard = none) (s x : Operand)
    (ho : o.op = .call { callee := .builtin .append, args := #[s, x], argTypes := #[108, 108] })
    (base : Nat) (v : Value) (K M : List Nat) (hs : a.eval s = v) (hown : w.ownsRow base 134 1 v K.length (u32s K)) (u : Value) (hx : a.eval x = u) (hM : Sl w u M)
    (hbig : K.length + M.length ≤ 1000000) (hbase : base ≤ w.heap.size)
    (h : ∀ v' w', w'.ownsRow base 134 1 v' (K ++ M).length (u32s (K ++ M)) → w.grownBy w' v.ownBlock → wpList Tryz.prog ops Q rest (a.put o.dst v') w') :
    wpList Tryz.prog ops Q (o :: rest) a w := by
 obtain ⟨i0, hi, hz0, hz1, hz2⟩ := info_parts info_u32
 obtain ⟨ao, cap, rfl, h0, h2⟩ := hM
 cases ao with
 | none =>
  have hc := h0 rfl
  have hM0 : M.length = 0 := by
   rcases Nat.eq_zero_or_pos M.length with h | h
   · exact h
   · obtain ⟨g, o, e, _⟩ := h2 0 h; cases e
  have hM1 : M = [] := List.eq_nil_of_length_eq_zero hM0
  subst hM1 hc
  refine wpList_append_own_none hgd s x _ ho base 134 i0 1 Tryz.underlying108 hi v _ _ hs hown hx ?_
  have := h v w (by rw [List.append_nil]; exact hown) ⟨rfl, rfl, rfl, Nat.le_refl _, fun _ _ _ => rfl⟩
  exact this
 | some ad =>
  refine wpList_append_own _ hgd s x _ ho base 134 i0 (.int .u32 0) 1 4 Tryz.underlying108 hi hz0 hz1 hz2 rfl (by decide) v _ _ hs hown ad M.length cap (u32s M) hx (by rw [u32s_length]; omega) (fun j y hj => ?_)
   (fun x hx => by unfold u32s at hx; rw [List.mem_map] at hx; obtain ⟨y, _, rfl⟩ := hx; rfl) (by unfold maxLen; omega) (by omega) hbase ?_
  · have hjl : j < M.length := by have := (List.getElem?_eq_some_iff.1 hj).1; rwa [u32s_length] at this
    obtain ⟨g', o', e', hc⟩ := h2 j hjl
    cases e'
    unfold u32s at hj
    rw [List.getElem?_map, List.getElem?_eq_getElem hjl] at hj
    simp only [Option.map_some, Option.some.injEq] at hj
    rw [addr_add, hc, ← hj]
    simp [List.getD, hjl]
  · intro v' w' h3 h4 _
    exact h v' w' (own_conv h3 rfl rfl rfl) h4
end Go.Proofs.YthlflglkdaainaaGreatDoor
namespace Go.Proofs.YthlflglkdaainaaGreatDoor
open Go.ChangeShapes Go.WideShapes Go.ChangeAt Go.RowKit
def ckD4 (e : Nat × Nat × Nat × Bool) : Bool := Nat.blt e.1 4352 || Nat.blt 4546 e.1
theorem ckD4_t : allB ckD4 (dc16 tD.data.toList) = true := by decide +kernel
theorem letters_none {c : Nat} (h : 4352 ≤ c ∧ c ≤ 4546) : dfind c = none := by
 cases hd : dfind c with
 | none => rfl
 | some e =>
  obtain ⟨h1, h2⟩ := dfind_some hd
  have := (allB_iff _ _).1 ckD4_t e h1
  unfold ckD4 at this
  rw [Bool.or_eq_true, Nat.blt_eq, Nat.blt_eq] at this
  omega
theorem full_whole {c : Nat} (hc : c < 4294967296) : ∀ x ∈ full c, whole x = true ∧ x < 4294967296 := by
 intro x hx
 cases hh : isH c with
 | true =>
  rw [full_h hh] at hx
  have h := hsp_lt c hh x hx
  refine ⟨?_, by omega⟩
  unfold whole
  rw [letters_none h]
  have : isH x = false := by
   cases hi : isH x with
   | false => rfl
   | true => have := (isH_iff x).1 hi; omega
  rw [this]; rfl
 | false =>
  obtain ⟨h1, h2, h3⟩ := fullF_mem (deep3 c) hh x hx
  refine ⟨by unfold whole; rw [h2, h3]; rfl, ?_⟩
  rcases h1 with rfl | h1
  · exact hc
  · omega
theorem fullL_whole {L : List Nat} (hb : ∀ x ∈ L, x < 4294967296) : ∀ x ∈ fullL L, whole x = true ∧ x < 4294967296 := by
 intro x hx
 unfold fullL at hx
 obtain ⟨c, hc, hx⟩ := List.mem_flatMap.1 hx
 exact full_whole (hb c hc) x hx
theorem fullL_append (A B : List Nat) : fullL (A ++ B) = fullL A ++ fullL B := by unfold fullL; rw [List.flatMap_append]
end Go.Proofs.YthlflglkdaainaaGreatDoor
namespace Go.Proofs.YthlflglkdaainaaGreatDoor
open Go.RowKit
theorem own_empty (w : World) : (w.alloc (.cells #[] 134)).ownsRow w.heap.size 134 1 (.slice (some ⟨w.heap.size, 0, none⟩) 0 0) ([] : List Nat).length (u32s []) :=
 World.ownsRow_made w #[] 0 (Nat.le_refl _) (by unfold maxLen; omega) (by simp)
theorem wpList_copy_sl {w : World} {ops : Array Oper} {rest : List Oper} {o : Oper} {a : Act} {Q : Exit → Act → World → Prop} (hgd : o.guard = none) (s x : Operand)
    (ho : o.op = .call { callee := .builtin .append, args := #[s, x], argTypes := #[108, 108] })
    (M : List Nat) (hs : a.eval s = .slice (some ⟨w.heap.size, 0, none⟩) 0 0) (u : Value) (hx : a.eval x = u) (hM : Sl w u M) (hbig : M.length ≤ 1000000)
    (h : ∀ v' w', w'.ownsRow w.heap.size 134 1 v' M.length (u32s M) → Gr w w' → wpList Tryz.prog ops Q rest (a.put o.dst v') w') :
    wpList Tryz.prog ops Q (o :: rest) a (w.alloc (.cells #[] 134)) :=
 wpList_append_sl hgd s x ho w.heap.size _ [] M hs (own_empty w) u hx (hM.gr (Gr.alloc _ _)) (by simp; omega) (by simp) fun v' w' h1 h2 => h v' w' h1 (gr_add2 (Gr.alloc w _) (own_empty w) h2)
end Go.Proofs.YthlflglkdaainaaGreatDoor
namespace Go.Proofs.YthlflglkdaainaaGreatDoor
noncomputable def lec (x y : Nat) : Bool := decide (cls x ≤ cls y)
noncomputable def srt (row : List Nat) : List Nat := row.mergeSort lec
noncomputable def fk (k : Nat) (l : List Nat) : List Nat := l.filter (fun x => cls x == k)
def SortedC (l : List Nat) : Prop := l.Pairwise (fun x y => cls x ≤ cls y)
theorem fk_append (k : Nat) (a b : List Nat) : fk k (a ++ b) = fk k a ++ fk k b := by unfold fk; rw [List.filter_append]
theorem fk_nil (k : Nat) : fk k [] = [] := rfl
theorem fk_cons (k x : Nat) (l : List Nat) : fk k (x :: l) = if cls x = k then x :: fk k l else fk k l := by
 unfold fk; rw [List.filter_cons]; simp only [beq_iff_eq]
theorem fk_mem {k x : Nat} {l : List Nat} : x ∈ fk k l ↔ x ∈ l ∧ cls x = k := by unfold fk; rw [List.mem_filter, beq_iff_eq]
theorem srt_perm (l : List Nat) : (srt l).Perm l := List.mergeSort_perm _ _
theorem srt_length (l : List Nat) : (srt l).length = l.length := (srt_perm l).length_eq
theorem lec_trans (a b c : Nat) (h : lec a b = true) (h' : lec b c = true) : lec a c = true := by
 unfold lec at *; simp only [decide_eq_true_eq] at *; omega
theorem lec_total (a b : Nat) : (lec a b || lec b a) = true := by unfold lec; simp; omega
theorem srt_sorted (l : List Nat) : SortedC (srt l) := by
 have := List.pairwise_mergeSort lec_trans lec_total l
 exact this.imp fun h => by unfold lec at h; simpa using h
theorem srt_fk (k : Nat) (l : List Nat) : fk k (srt l) = fk k l := by
 have hs : (fk k l).Pairwise (fun a b => lec a b = true) := by
  rw [List.pairwise_iff_forall_sublist]
  intro a b hab
  have ha := (fk_mem.1 (hab.subset (show a ∈ [a, b] by simp))).2
  have hb := (fk_mem.1 (hab.subset (show b ∈ [a, b] by simp))).2
  unfold lec; rw [ha, hb]; simp
 have h1 : (fk k l).Sublist (srt l) := List.sublist_mergeSort lec_trans lec_total hs List.filter_sublist
 have h2 : (fk k (fk k l)).Sublist (fk k (srt l)) := h1.filter _
 have h3 : fk k (fk k l) = fk k l := by unfold fk; rw [List.filter_filter]; simp
 rw [h3] at h2
 exact (h2.eq_of_length (by unfold fk; exact ((srt_perm l).filter _).length_eq.symm)).symm
theorem sorted_uniq : ∀ {A B : List Nat}, SortedC A → SortedC B → (∀ k, fk k A = fk k B) → A = B
 | [], [], _, _, _ => rfl
 | [], b :: B, _, _, h => by have := h (cls b); rw [fk_nil, fk_cons, if_pos rfl] at this; cases this
 | a :: A, [], _, _, h => by have := h (cls a); rw [fk_nil, fk_cons, if_pos rfl] at this; cases this
 | a :: A, b :: B, hA, hB, h => by
  have hA' := List.pairwise_cons.1 hA
  have hB' := List.pairwise_cons.1 hB
  have h1 : cls b ≤ cls a := by
   have : a ∈ fk (cls a) (b :: B) := by rw [← h]; exact fk_mem.2 ⟨by simp, rfl⟩
   rcases List.mem_cons.1 (fk_mem.1 this).1 with e | e
   · rw [e]; exact Nat.le_refl _
   · exact hB'.1 a e
  have h2 : cls a ≤ cls b := by
   have : b ∈ fk (cls b) (a :: A) := by rw [h]; exact fk_mem.2 ⟨by simp, rfl⟩
   rcases List.mem_cons.1 (fk_mem.1 this).1 with e | e
   · rw [e]; exact Nat.le_refl _
   · exact hA'.1 b e
  have h3 : cls a = cls b := by omega
  have h4 := h (cls a)
  rw [fk_cons, fk_cons, if_pos rfl, if_pos h3.symm] at h4
  injection h4 with h4 _
  subst h4
  congr 1
  refine sorted_uniq hA'.2 hB'.2 fun k => ?_
  have := h k
  rw [fk_cons, fk_cons] at this
  split at this
  · injection this
  · exact this
theorem srt_congr {A B : List Nat} (h : ∀ k, fk k A = fk k B) : srt A = srt B := sorted_uniq (srt_sorted A) (srt_sorted B) fun k => by rw [srt_fk, srt_fk, h]
theorem srt_of_sorted {A : List Nat} (h : SortedC A) : srt A = A := sorted_uniq (srt_sorted A) h fun k => srt_fk k A
theorem srt_mem {x : Nat} {l : List Nat} : x ∈ srt l ↔ x ∈ l := (srt_perm l).mem_iff
noncomputable def ordG : List Nat → List Nat → List Nat
 | row, [] => srt row
 | row, c :: t => if cls c = 0 then srt row ++ c :: ordG [] t else ordG (row ++ [c]) t
noncomputable def ordL (l : List Nat) : List Nat := ordG [] l
theorem ordG_s {c : Nat} (h : cls c = 0) (row t : List Nat) : ordG row (c :: t) = srt row ++ c :: ordG [] t := by rw [ordG, if_pos h]
theorem ordG_m {c : Nat} (h : cls c ≠ 0) (row t : List Nat) : ordG row (c :: t) = ordG (row ++ [c]) t := by rw [ordG, if_neg h]
theorem ordG_n (row : List Nat) : ordG row [] = srt row := by rw [ordG]
theorem snoc_of {l : List Nat} (h : l ≠ []) : ∃ B y, l = B ++ [y] := ⟨l.dropLast, l.getLast h, (List.dropLast_concat_getLast h).symm⟩
theorem tw_all {p : Nat → Bool} : ∀ {l : List Nat}, (∀ x ∈ l, p x = true) → l.takeWhile p = l
 | [], _ => rfl
 | a :: l, h => by rw [List.takeWhile_cons, if_pos (h a (by simp)), tw_all fun x hx => h x (List.mem_cons_of_mem _ hx)]
theorem take_tw {p : Nat → Bool} : ∀ (l : List Nat), l.take (l.takeWhile p).length = l.takeWhile p ∧ l.drop (l.takeWhile p).length = l.dropWhile p
 | [] => ⟨rfl, rfl⟩
 | a :: l => by
  rw [List.takeWhile_cons, List.dropWhile_cons]
  split
  · rw [List.length_cons, List.take_succ_cons, List.drop_succ_cons, (take_tw l).1, (take_tw l).2]; exact ⟨rfl, rfl⟩
  · exact ⟨rfl, rfl⟩
def Marks (l : List Nat) : Prop := ∀ x ∈ l, cls x ≠ 0
theorem ordG_starter {s : Nat} (hs : cls s = 0) (B : List Nat) : ∀ (A row : List Nat), ordG row (A ++ s :: B) = ordG row A ++ s :: ordL B
 | [], row => by show ordG row (s :: B) = _; rw [ordG_s hs, ordG_n]; rfl
 | a :: A, row => by
  show ordG row (a :: (A ++ s :: B)) = _
  by_cases h : cls a = 0
  · rw [ordG_s h, ordG_s h, ordG_starter hs B A, List.append_assoc]; rfl
  · rw [ordG_m h, ordG_m h, ordG_starter hs B A]
theorem ordL_starter {s : Nat} (hs : cls s = 0) (A B : List Nat) : ordL (A ++ s :: B) = ordL A ++ s :: ordL B := ordG_starter hs B A []
theorem ordL_cons {s : Nat} (hs : cls s = 0) (B : List Nat) : ordL (s :: B) = s :: ordL B := by
 have := ordL_starter hs [] B; simpa [ordL, ordG, srt] using this
theorem ordG_run : ∀ (A row : List Nat), Marks A → ordG row A = srt (row ++ A)
 | [], row, _ => by rw [ordG_n, List.append_nil]
 | a :: A, row, h => by
  rw [ordG_m (h a (by simp)), ordG_run A _ fun x hx => h x (List.mem_cons_of_mem _ hx), List.append_assoc]; rfl
theorem ordL_run {A : List Nat} (h : Marks A) : ordL A = srt A := ordG_run A [] h
theorem run_cases (l : List Nat) : Marks l ∨ ∃ A s B, l = A ++ s :: B ∧ Marks A ∧ cls s = 0 := by
 induction l with
 | nil => exact .inl (fun x h => by cases h)
 | cons a l ih =>
  by_cases ha : cls a = 0
  · exact .inr ⟨[], a, l, rfl, (fun x h => by cases h), ha⟩
  · rcases ih with h | ⟨A, s, B, rfl, h, hs⟩
    · exact .inl fun x hx => by
        rcases List.mem_cons.1 hx with rfl | hx
        · exact ha
        · exact h x hx
    · exact .inr ⟨a :: A, s, B, rfl, fun x hx => by
        rcases List.mem_cons.1 hx with rfl | hx
        · exact ha
        · exact h x hx, hs⟩
theorem run_induct {P : List Nat → Prop} (h1 : ∀ A, Marks A → P A) (h2 : ∀ A s B, Marks A → cls s = 0 → P B → P (A ++ s :: B)) (l : List Nat) : P l := by
 obtain ⟨n, hn⟩ : ∃ n, l.length = n := ⟨_, rfl⟩
 induction n using Nat.strongRecOn generalizing l with
 | _ n ih =>
  rcases run_cases l with h | ⟨A, s, B, rfl, h, hs⟩
  · exact h1 _ h
  · exact h2 A s B h hs (ih B.length (by rw [List.length_append, List.length_cons] at hn; omega) B rfl)
theorem ordL_perm (l : List Nat) : (ordL l).Perm l := by
 refine run_induct (P := fun l => (ordL l).Perm l) (fun A h => ?_) (fun A s B h hs ih => ?_) l
 · rw [ordL_run h]; exact srt_perm A
 · rw [ordL_starter hs, ordL_run h]; exact (srt_perm A).append (ih.cons s)
theorem ordL_length (l : List Nat) : (ordL l).length = l.length := (ordL_perm l).length_eq
theorem ordL_mem {x : Nat} {l : List Nat} : x ∈ ordL l ↔ x ∈ l := (ordL_perm l).mem_iff
theorem marks_srt {A : List Nat} (h : Marks A) : Marks (srt A) := fun x hx => h x (srt_mem.1 hx)
theorem ordL_idem (l : List Nat) : ordL (ordL l) = ordL l := by
 refine run_induct (P := fun l => ordL (ordL l) = ordL l) (fun A h => ?_) (fun A s B h hs ih => ?_) l
 · rw [ordL_run h, ordL_run (marks_srt h), srt_of_sorted (srt_sorted A)]
 · rw [ordL_starter hs, ordL_run h, ordL_starter hs, ih, ordL_run (marks_srt h), srt_of_sorted (srt_sorted A)]
theorem inOrd_starter {s : Nat} (hs : cls s = 0) (B : List Nat) : ∀ (A : List Nat) (p : Nat), inOrd cls p (A ++ s :: B) = (inOrd cls p A && inOrd cls 0 B)
 | [], p => by show inOrd cls p (s :: B) = _; simp [inOrd, hs]
 | a :: A, p => by
  show inOrd cls p (a :: (A ++ s :: B)) = _
  rw [inOrd, inOrd, inOrd_starter hs B A, Bool.and_assoc]
theorem inOrd_run : ∀ (A : List Nat) (p : Nat), Marks A → (inOrd cls p A = true ↔ (∀ x ∈ A, p ≤ cls x) ∧ SortedC A)
 | [], p, _ => by simp [inOrd, SortedC]
 | a :: A, p, h => by
  rw [inOrd, Bool.and_eq_true, inOrd_run A _ fun x hx => h x (List.mem_cons_of_mem _ hx)]
  have ha : cls a ≠ 0 := h a (by simp)
  have e : (Nat.beq (cls a) 0 || Nat.ble p (cls a)) = true ↔ p ≤ cls a := by
   rw [Bool.or_eq_true, Nat.beq_eq, Nat.ble_eq]
   exact ⟨fun h => h.elim (fun h => absurd h ha) id, .inr⟩
  rw [e]
  unfold SortedC
  rw [List.pairwise_cons]
  constructor
  · rintro ⟨h1, h2, h3⟩
    exact ⟨fun x hx => by
     rcases List.mem_cons.1 hx with rfl | hx
     · exact h1
     · exact Nat.le_trans h1 (h2 x hx), h2, h3⟩
  · rintro ⟨h1, h2, h3⟩
    exact ⟨h1 a (by simp), h2, h3⟩
theorem inOrd_ordL (l : List Nat) : inOrd cls 0 (ordL l) = true := by
 refine run_induct (P := fun l => inOrd cls 0 (ordL l) = true) (fun A h => ?_) (fun A s B h hs ih => ?_) l
 · rw [ordL_run h, inOrd_run _ _ (marks_srt h)]; exact ⟨fun _ _ => Nat.zero_le _, srt_sorted A⟩
 · rw [ordL_starter hs, inOrd_starter hs, ih, ordL_run h, (inOrd_run _ _ (marks_srt h)).2 ⟨fun _ _ => Nat.zero_le _, srt_sorted A⟩]; rfl
theorem ordL_of {l : List Nat} (h : inOrd cls 0 l = true) : ordL l = l := by
 revert h
 refine run_induct (P := fun l => inOrd cls 0 l = true → ordL l = l) (fun A h hi => ?_) (fun A s B h hs ih hi => ?_) l
 · rw [ordL_run h, srt_of_sorted ((inOrd_run A 0 h).1 hi).2]
 · rw [inOrd_starter hs, Bool.and_eq_true] at hi
   rw [ordL_starter hs, ih hi.2, ordL_run h, srt_of_sorted ((inOrd_run A 0 h).1 hi.1).2]
inductive Sw : List Nat → List Nat → Prop
 | refl (l : List Nat) : Sw l l
 | step (A : List Nat) (x y : Nat) (B l : List Nat) : cls x ≠ 0 → cls y ≠ 0 → cls x ≠ cls y → Sw (A ++ y :: x :: B) l → Sw (A ++ x :: y :: B) l
theorem Sw.trans {a b c : List Nat} (h : Sw a b) (k : Sw b c) : Sw a c := by
 induction h with
 | refl => exact k
 | step A x y B l h1 h2 h3 _ ih => exact .step A x y B c h1 h2 h3 (ih k)
theorem Sw.one (A : List Nat) (x y : Nat) (B : List Nat) (h1 : cls x ≠ 0) (h2 : cls y ≠ 0) (h3 : cls x ≠ cls y) : Sw (A ++ x :: y :: B) (A ++ y :: x :: B) := .step A x y B _ h1 h2 h3 (.refl _)
theorem Sw.symm {a b : List Nat} (h : Sw a b) : Sw b a := by
 induction h with
 | refl => exact .refl _
 | step A x y B l h1 h2 h3 _ ih => exact ih.trans (Sw.one A y x B h2 h1 (Ne.symm h3))
theorem Sw.app {a b : List Nat} (h : Sw a b) (C D : List Nat) : Sw (C ++ a ++ D) (C ++ b ++ D) := by
 induction h with
 | refl => exact .refl _
 | step A x y B l h1 h2 h3 _ ih =>
  have := Sw.step (C ++ A) x y (B ++ D) (C ++ l ++ D) h1 h2 h3 (by simpa using ih)
  simpa using this
theorem Sw.append {a b c d : List Nat} (h : Sw a b) (k : Sw c d) : Sw (a ++ c) (b ++ d) := by
 have h1 := h.app [] c
 have h2 := k.app b []
 simp only [List.nil_append, List.append_nil] at h1 h2
 exact h1.trans h2
theorem ordG_congr : ∀ (B row row' : List Nat), (∀ k, fk k row = fk k row') → ordG row B = ordG row' B
 | [], row, row', h => by rw [ordG_n, ordG_n, srt_congr h]
 | b :: B, row, row', h => by
  by_cases hb : cls b = 0
  · rw [ordG_s hb, ordG_s hb, srt_congr h]
  · rw [ordG_m hb, ordG_m hb]; exact ordG_congr B _ _ fun k => by rw [fk_append, fk_append, h]
theorem ordG_swap {x y : Nat} (h1 : cls x ≠ 0) (h2 : cls y ≠ 0) (h3 : cls x ≠ cls y) (B : List Nat) : ∀ (A row : List Nat), ordG row (A ++ x :: y :: B) = ordG row (A ++ y :: x :: B)
 | [], row => by
  show ordG row (x :: y :: B) = ordG row (y :: x :: B)
  rw [ordG_m h1, ordG_m h2, ordG_m h2, ordG_m h1]
  refine ordG_congr B _ _ fun k => ?_
  rw [fk_append, fk_append, fk_append, fk_append, fk_cons, fk_cons, fk_nil]
  by_cases hx : cls x = k
  · rw [if_pos hx, if_neg (fun h => h3 (hx.trans h.symm))]; simp
  · rw [if_neg hx]; simp
 | a :: A, row => by
  show ordG row (a :: (A ++ _)) = ordG row (a :: (A ++ _))
  by_cases ha : cls a = 0
  · rw [ordG_s ha, ordG_s ha, ordG_swap h1 h2 h3 B A]
  · rw [ordG_m ha, ordG_m ha, ordG_swap h1 h2 h3 B A]
theorem Sw.ord {a b : List Nat} (h : Sw a b) : ordL a = ordL b := by
 induction h with
 | refl => rfl
 | step A x y B l h1 h2 h3 _ ih => exact (ordG_swap h1 h2 h3 B A []).trans ih
theorem Sw.back {x : Nat} (hx : cls x ≠ 0) (A : List Nat) : ∀ (n : Nat) (B : List Nat), B.length = n → (∀ y ∈ B, cls y ≠ 0 ∧ cls y ≠ cls x) → Sw (A ++ B ++ [x]) (A ++ x :: B)
 | 0, B, hn, _ => by rw [List.eq_nil_of_length_eq_zero hn]; simp; exact .refl _
 | n + 1, B, hn, h => by
  have hB : B ≠ [] := fun e => by rw [e] at hn; cases hn
  obtain ⟨B', y, rfl⟩ := snoc_of hB
  obtain ⟨h1, h2⟩ := h y (by simp)
  have hl : B'.length = n := by rw [List.length_append] at hn; simpa using hn
  have ih := (Sw.back hx A n B' hl fun z hz => h z (by simp [hz])).app [] [y]
  have := (Sw.one (A ++ B') y x [] h1 hx h2).trans (by simpa using ih)
  simpa using this
theorem tw_dw (p : Nat → Bool) (l : List Nat) : l.takeWhile p ++ l.dropWhile p = l := List.takeWhile_append_dropWhile
noncomputable def insr (x : Nat) (T : List Nat) : List Nat := T.takeWhile (fun y => decide (cls y ≤ cls x)) ++ x :: T.dropWhile (fun y => decide (cls y ≤ cls x))
theorem take_le {x : Nat} : ∀ {T : List Nat} {y : Nat}, y ∈ T.takeWhile (fun y => decide (cls y ≤ cls x)) → cls y ≤ cls x
 | [], y, h => by cases h
 | t :: T, y, h => by
  rw [List.takeWhile_cons] at h
  split at h
  · rename_i ht
    rcases List.mem_cons.1 h with rfl | h
    · simpa using ht
    · exact take_le h
  · cases h
theorem drop_gt {x : Nat} : ∀ {T : List Nat}, SortedC T → ∀ y, y ∈ T.dropWhile (fun y => decide (cls y ≤ cls x)) → cls x < cls y
 | [], _, y, h => by cases h
 | t :: T, hs, y, h => by
  have hs' := List.pairwise_cons.1 hs
  rw [List.dropWhile_cons] at h
  split at h
  · exact drop_gt hs'.2 y h
  · rename_i ht
    have ht' : cls x < cls t := by simpa using ht
    rcases List.mem_cons.1 h with rfl | h
    · exact ht'
    · have := hs'.1 y h; omega
theorem insr_sorted {x : Nat} {T : List Nat} (h : SortedC T) : SortedC (insr x T) := by
 unfold insr SortedC
 have h1 : SortedC (T.takeWhile (fun y => decide (cls y ≤ cls x))) := List.Pairwise.sublist (List.takeWhile_sublist _) h
 have h2 : SortedC (T.dropWhile (fun y => decide (cls y ≤ cls x))) := List.Pairwise.sublist (List.dropWhile_sublist _) h
 rw [List.pairwise_append, List.pairwise_cons]
 refine ⟨h1, ⟨fun y hy => by have := drop_gt h y hy; omega, h2⟩, fun a ha b hb => ?_⟩
 have := take_le ha
 rcases List.mem_cons.1 hb with rfl | hb
 · exact this
 · have := drop_gt h b hb; omega
theorem insr_fk {x : Nat} {T : List Nat} (hs : SortedC T) (k : Nat) : fk k (insr x T) = fk k T ++ fk k [x] := by
 conv => rhs; rw [← tw_dw (fun y => decide (cls y ≤ cls x)) T]
 unfold insr
 rw [fk_append, fk_append, fk_cons, fk_cons, fk_nil]
 by_cases h : cls x = k
 · have : fk k (T.dropWhile (fun y => decide (cls y ≤ cls x))) = [] := by
     rw [List.eq_nil_iff_forall_not_mem]
     intro y hy
     have := drop_gt hs y (fk_mem.1 hy).1
     have := (fk_mem.1 hy).2
     omega
   rw [this]; simp
 · rw [if_neg h, if_neg h]; simp
theorem srt_snoc (row : List Nat) (x : Nat) : srt (row ++ [x]) = insr x (srt row) :=
 sorted_uniq (srt_sorted _) (insr_sorted (srt_sorted _)) fun k => by rw [srt_fk, fk_append, insr_fk (srt_sorted _), srt_fk]
theorem Sw.ofSrt (row : List Nat) (h : Marks row) : Sw row (srt row) := by
 obtain ⟨n, hn⟩ : ∃ n, row.length = n := ⟨_, rfl⟩
 induction n generalizing row with
 | zero => rw [List.eq_nil_of_length_eq_zero hn]; rw [show srt [] = [] from List.eq_nil_of_length_eq_zero (srt_length [])]; exact .refl _
 | succ n ih =>
  have hB : row ≠ [] := fun e => by rw [e] at hn; cases hn
  obtain ⟨B, x, rfl⟩ := snoc_of hB
  have hl : B.length = n := by rw [List.length_append] at hn; simpa using hn
  have hmB : Marks B := fun z hz => h z (by simp [hz])
  have h1 := ih B hmB hl
  rw [srt_snoc]
  refine (h1.append (.refl [x])).trans ?_
  unfold insr
  conv => lhs; rw [← tw_dw (fun y => decide (cls y ≤ cls x)) (srt B)]
  exact Sw.back (h x (by simp)) _ _ _ rfl fun y hy => ⟨hmB y (srt_mem.1 ((List.dropWhile_sublist _).subset hy)), by have := drop_gt (srt_sorted B) y hy; omega⟩
theorem Sw.ofOrd (l : List Nat) : Sw l (ordL l) := by
 refine run_induct (P := fun l => Sw l (ordL l)) (fun A h => ?_) (fun A s B h hs ih => ?_) l
 · rw [ordL_run h]; exact Sw.ofSrt A h
 · rw [ordL_starter hs, ordL_run h]
   have := (Sw.ofSrt A h).append ((Sw.refl [s]).append ih)
   simpa using this
def Eqv (a b : List Nat) : Prop := ordL a = ordL b
theorem Eqv.sw {a b : List Nat} (h : Eqv a b) : Sw a b := by
 have := Sw.ofOrd a
 rw [show ordL a = ordL b from h] at this
 exact this.trans (Sw.ofOrd b).symm
theorem Eqv.append {a b c d : List Nat} (h : Eqv a b) (k : Eqv c d) : Eqv (a ++ c) (b ++ d) := (h.sw.append k.sw).ord
def posn (f : Nat → Nat) (c : Nat) : Nat → Nat
 | 0 => 0
 | k + 1 => if f k ≤ c then k + 1 else posn f c k
noncomputable def clsAt (T : List Nat) (k : Nat) : Nat := cls (T.getD k 0)
theorem posn_congr {f g : Nat → Nat} {c : Nat} : ∀ {n : Nat}, (∀ k, k < n → f k = g k) → posn f c n = posn g c n
 | 0, _ => rfl
 | n + 1, h => by unfold posn; rw [h n (by omega), posn_congr fun k hk => h k (by omega)]
noncomputable def putIn (T : List Nat) (x : Nat) : List Nat := if cls x = 0 then T ++ [x] else T.take (posn (clsAt T) (cls x) T.length) ++ x :: T.drop (posn (clsAt T) (cls x) T.length)
noncomputable def ordF (l : List Nat) : List Nat := l.foldl putIn []
theorem posn_sorted (x : Nat) (O : List Nat) (hO : O = [] ∨ ∃ O' s, O = O' ++ [s] ∧ cls s = 0) : ∀ (n : Nat) (S : List Nat), S.length = n → SortedC S →
    posn (clsAt (O ++ S)) (cls x) (O ++ S).length = O.length + (S.takeWhile (fun y => decide (cls y ≤ cls x))).length
 | 0, S, hn, _ => by
  rw [List.eq_nil_of_length_eq_zero hn]
  simp only [List.append_nil, List.takeWhile_nil, List.length_nil, Nat.add_zero]
  rcases hO with rfl | ⟨O', s, rfl, hs⟩
  · rfl
  · rw [List.length_append, List.length_singleton, posn, if_pos]
    unfold clsAt
    simp [List.getD, hs]
 | n + 1, S, hn, hS => by
  have hB : S ≠ [] := fun e => by rw [e] at hn; cases hn
  obtain ⟨B, y, rfl⟩ := snoc_of hB
  have hl : B.length = n := by rw [List.length_append] at hn; simpa using hn
  have hS' := List.pairwise_append.1 hS
  have e : (O ++ (B ++ [y])).length = (O ++ B).length + 1 := by simp; omega
  rw [e, posn]
  have e2 : clsAt (O ++ (B ++ [y])) (O ++ B).length = cls y := by
   unfold clsAt
   rw [← List.append_assoc]; simp [List.getD]
  rw [e2]
  by_cases hy : cls y ≤ cls x
  · rw [if_pos hy]
    have : (B ++ [y]).takeWhile (fun y => decide (cls y ≤ cls x)) = B ++ [y] := by
     refine tw_all fun z hz => ?_
     rcases List.mem_append.1 hz with hz | hz
     · have := hS'.2.2 z hz y (by simp); simp; omega
     · simp only [List.mem_singleton] at hz; subst hz; simpa using hy
    rw [this]; simp; omega
  · rw [if_neg hy, posn_congr (g := clsAt (O ++ B)) fun k hk => by
      unfold clsAt
      rw [← List.append_assoc, List.getD, List.getElem?_append_left hk]; rfl]
    rw [posn_sorted x O hO n B hl hS'.1]
    congr 2
    rw [List.takeWhile_append]
    split
    · rename_i h
      rw [List.takeWhile_cons, if_neg (by simpa using hy), List.append_nil]
      exact (List.takeWhile_sublist _).eq_of_length h
    · rfl
theorem ordF_gen : ∀ (l O row : List Nat), (O = [] ∨ ∃ O' s, O = O' ++ [s] ∧ cls s = 0) → l.foldl putIn (O ++ srt row) = O ++ ordG row l
 | [], O, row, _ => by rw [ordG_n]; rfl
 | c :: l, O, row, hO => by
  rw [List.foldl_cons]
  by_cases hc : cls c = 0
  · rw [ordG_s hc]
    have e : putIn (O ++ srt row) c = (O ++ srt row ++ [c]) ++ srt [] := by unfold putIn; rw [if_pos hc]; simp [srt]
    rw [e, ordF_gen l (O ++ srt row ++ [c]) [] (.inr ⟨_, c, rfl, hc⟩)]
    simp
  · rw [ordG_m hc]
    have e : putIn (O ++ srt row) c = O ++ srt (row ++ [c]) := by
     unfold putIn
     rw [if_neg hc, posn_sorted c O hO _ (srt row) rfl (srt_sorted row), srt_snoc, insr, List.take_length_add_append, List.drop_length_add_append, (take_tw _).1, (take_tw _).2, List.append_assoc]
    rw [e, ordF_gen l O (row ++ [c]) hO]
theorem ordF_eq (l : List Nat) : ordF l = ordL l := by
 have := ordF_gen l [] [] (.inl rfl)
 simpa [srt, ordF, ordL] using this
end Go.Proofs.YthlflglkdaainaaGreatDoor
