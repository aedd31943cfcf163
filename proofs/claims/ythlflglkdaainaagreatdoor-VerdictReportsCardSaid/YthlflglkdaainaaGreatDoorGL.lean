import Derived.ProofKit
import Derived.LaidMore
import Derived.OpenShut
import Derived.Stop.Joined
import Derived.Stop.LaidErr
import Derived.Lib.LaidTab
import Derived.MakeChecks
import Derived.Laws.AppendOwnNone
import Derived.Test.YthlflglkdaainaaGreatDoorCards
import Derived.SevenTiedAt
import Derived.Test.YthlflglkdaainaaGreatDoorGA
import Derived.Test.YthlflglkdaainaaGreatDoorGD
import Derived.Test.YthlflglkdaainaaGreatDoorGR
/- Texts of this seat: KL. -/
set_option maxRecDepth 100000
set_option maxHeartbeats 16000000
namespace Go.Proofs.YthlflglkdaainaaGreatDoor
open Go.RowKit
theorem own : ownKnob Tryz.prog.godebug = none := by kernel_rfl
theorem g64 : Tryz.prog.globalNamed "math/bits.deBruijn64tab" = some 5 := by kernel_rfl
theorem ty64 : (Tryz.prog.globals[5]?).map (·.type) = some 237 := by kernel_rfl
theorem Ol (n : Nat) : ∀ c, (fF n c).length ≤ 3 * 2 ^ n := by
 induction n with
 | zero =>
  intro c; rw [fF]
  split
  · have := um c; omega
  · simp
 | succ n ih =>
  intro c; rw [fF]
  have h2 : 2 ^ (n + 1) = 2 * 2 ^ n := by rw [Nat.pow_succ]; omega
  have hp : 0 < 2 ^ n := Nat.two_pow_pos n
  split
  · have := um c; omega
  · split
    · simp; omega
    · rename_i e _
      rw [List.length_append]
      have h3 := ih e.2.1
      split
      · simp; omega
      · have h4 := ih e.2.2.1; omega
theorem BR {w : World} {base : Nat} {v : Value} {L : List Nat} (h : w.ownsRow base 134 1 v L.length (bZ L)) (hL : 0 < L.length) :
    ∃ g cap, v = .slice (some ⟨g, 0, none⟩) L.length cap ∧ g < w.heap.size ∧ ∀ (j : Nat) u, (bZ L)[j]? = some u → w.cell? ((⟨g, 0, none⟩ : Addr).add j) = some u := by
 obtain ⟨g, cap, rfl, _, hg⟩ := EP h hL
 refine ⟨g, cap, rfl, hg, fun j u hj => ?_⟩
 have hjl : j < L.length := by
  have := (List.getElem?_eq_some_iff.1 hj).1; rwa [lW] at this
 have hc := vF h j hjl
 unfold bZ at hj
 rw [List.getElem?_map, List.getElem?_eq_getElem hjl] at hj
 have hd : L.getD j 0 = L[j] := by simp [List.getD, hjl]
 rw [hd] at hc
 simp only [Option.map_some, Option.some.injEq] at hj
 rw [← hj, ← hc]
 simp only [Addr.add]
 split
 · rename_i h0; subst h0; rfl
 · simp
def RowOf (L : List Nat) (w : World) (e : Ending) (w' : World) : Prop := ∃ v, e = .returned v ∧ w'.ownsRow w.heap.size 134 1 v L.length (bZ L) ∧ Gr w w'
theorem Vl (c : Nat) (t : Int) (w : World) (hh : isH c = true) : Calls Tryz.prog 210 #[.int .u32 c, .int .i64 t] w (RowOf (hsp c) w) := by
 have hs := ER c w hh
 have hlt : (hL c : Int) < 4294967296 := by have := (uo c hh (hL c) (by unfold hsp; split <;> simp)).2; omega
 unfold hsp
 by_cases hz : hT c = 0
 · rw [if_pos hz]
   rw [hz] at hs
   generalize hL c = a at hs
   generalize hV c = b at hs
   clear hz hh hlt
   go_enter Tryz.func210, Tryz.ntmps210
   go_wp2_with (go_at_call 207; refine hs.mono ?_; rintro e w1 ⟨rfl, rfl⟩)
   go_ret
   exact ⟨_, rfl, World.ownsRow_lit _ #[.int .u32 a, .int .u32 b] 2 (Nat.le_refl _) (by unfold maxLen; omega) rfl, Gr.alloc _ _⟩
 · rw [if_neg hz]
   have hz' : ((hT c : Int) == 0) = false := by rw [beq_eq_false_iff_ne]; omega
   generalize hL c = a at hs
   generalize hV c = b at hs
   generalize hT c = d at hs hz' hz
   clear hh hlt
   go_enter Tryz.func210, Tryz.ntmps210
   go_wp2_with (go_at_call 207; refine hs.mono ?_; rintro e w1 ⟨rfl, rfl⟩)
   go_ret
   exact ⟨_, rfl, World.ownsRow_lit _ #[.int .u32 a, .int .u32 b, .int .u32 d] 3 (Nat.le_refl _) (by unfold maxLen; omega) rfl, Gr.alloc _ _⟩
theorem ES (c : Nat) (hc : c < 4294967296) (t : Int) (w : World) (hh : isH c = false) (hd : bD c = none) : Calls Tryz.prog 210 #[.int .u32 c, .int .i64 t] w (RowOf [c] w) := by
 have hs := wX c w hh
 have hr := vG c hc w
 have hv : dval c = .tuple #[.int .u32 0, .int .u32 0, .bool false] := by unfold dval; rw [hd]
 rw [hv] at hr
 clear hh hd hv
 go_enter Tryz.func210, Tryz.ntmps210
 go_wp2_with (first | (go_at_call 207; refine hs.mono ?_; rintro e w1 ⟨rfl, rfl⟩) | (go_at_call 217; refine hr.mono ?_; rintro e w1 ⟨rfl, g1⟩))
 all_goals go_ret
 all_goals exact ⟨_, rfl, World.ownsRow.mono' (World.ownsRow_lit _ #[.int .u32 c] 1 (Nat.le_refl _) (by unfold maxLen; omega) rfl) g1.size, g1.trans (Gr.alloc _ _)⟩
theorem WC (c : Nat) (hc : c < 4294967296) (w : World) (hh : isH c = false) (e) (hd : bD c = some e) : Calls Tryz.prog 210 #[.int .u32 c, .int .i64 0] w (RowOf [c] w) := by
 have hs := wX c w hh
 have hr := vG c hc w
 have hv : dval c = .tuple #[.int .u32 e.2.1, .int .u32 e.2.2.1, .bool true] := by unfold dval; rw [hd]
 rw [hv] at hr
 generalize e.2.1 = a at hr
 generalize e.2.2.1 = b at hr
 clear hh hd hv
 go_enter Tryz.func210, Tryz.ntmps210
 go_wp2_with (first | (go_at_call 207; refine hs.mono ?_; rintro e w1 ⟨rfl, rfl⟩) | (go_at_call 217; refine hr.mono ?_; rintro e w1 ⟨rfl, g1⟩))
 all_goals go_ret
 all_goals exact ⟨_, rfl, World.ownsRow.mono' (World.ownsRow_lit _ #[.int .u32 c] 1 (Nat.le_refl _) (by unfold maxLen; omega) rfl) g1.size, g1.trans (Gr.alloc _ _)⟩
theorem WE (c a : Nat) (t u : Int) (w : World) (hs : ∀ w, Calls Tryz.prog 207 #[.int .u32 c] w fun e w' => e = .returned (.tuple #[.int .u32 0, .int .u32 0, .int .u32 0, .bool false]) ∧ w = w')
    (hr : Calls Tryz.prog 217 #[.int .u32 c] w fun e w' => e = .returned (.tuple #[.int .u32 a, .int .u32 0, .bool true]) ∧ Gr w w')
    (ht : (t == 0) = false) (hw : wrap64 (t - 1) = u) (L : List Nat) (ih : ∀ w, Calls Tryz.prog 210 #[.int .u32 a, .int .i64 u] w (RowOf L w)) :
    Calls Tryz.prog 210 #[.int .u32 c, .int .i64 t] w (RowOf L w) := by
 have ht2 : ¬ t = 0 := by rw [beq_eq_false_iff_ne] at ht; exact ht
 go_enter Tryz.func210, Tryz.ntmps210
 go_wp2_with (first | (go_at_call 207; refine (hs _).mono ?_; rintro e w1 ⟨rfl, rfl⟩) | (go_at_call 217; refine hr.mono ?_; rintro e w1 ⟨rfl, g1⟩) | (go_at_call 210; refine (ih _).mono ?_; rintro e w2 ⟨v, rfl, hv, g2⟩))
 all_goals go_ret
 all_goals exact ⟨_, rfl, hv.mono' g1.size, g1.trans g2⟩
theorem oQ {wo w1 w2 : World} {e : TypeId} {size n : Nat} {v : Value} {xs : List Value} (h : Gr wo w1) (hn : w1.ownsRow wo.heap.size e size v n xs) (hg : w1.grownBy w2 v.ownBlock) : Gr wo w2 := Below.grown h hg h.size (row_block hn)
theorem WG (c a b : Nat) (t u : Int) (w : World) (hs : ∀ w, Calls Tryz.prog 207 #[.int .u32 c] w fun e w' => e = .returned (.tuple #[.int .u32 0, .int .u32 0, .int .u32 0, .bool false]) ∧ w = w')
    (hr : Calls Tryz.prog 217 #[.int .u32 c] w fun e w' => e = .returned (.tuple #[.int .u32 a, .int .u32 b, .bool true]) ∧ Gr w w') (hb : (b : Int) ≠ 0)
    (ht : (t == 0) = false) (hw : wrap64 (t - 1) = u) (L M : List Nat) (hM : 0 < M.length) (hLM : L.length + M.length ≤ 4096) (ih : ∀ w, Calls Tryz.prog 210 #[.int .u32 a, .int .i64 u] w (RowOf L w))
    (ih2 : ∀ w, Calls Tryz.prog 210 #[.int .u32 b, .int .i64 u] w (RowOf M w)) :
    Calls Tryz.prog 210 #[.int .u32 c, .int .i64 t] w (RowOf (L ++ M) w) := by
 have ht2 : ¬ t = 0 := by rw [beq_eq_false_iff_ne] at ht; exact ht
 have hb1 : ((b : Int) != 0) = true := by rw [bne_iff_ne]; exact hb
 have hb2 : ¬ b = 0 := by omega
 obtain ⟨i0, hi, hz0, hz1, hz2⟩ := info_parts jP
 go_enter Tryz.func210, Tryz.ntmps210
 go_wp2_with (first
  | (go_at_call 207; refine (hs _).mono ?_; rintro e w1 ⟨rfl, rfl⟩) | (go_at_call 217; refine hr.mono ?_; rintro e w1 ⟨rfl, g1⟩) | (go_at_call 210; refine (ih _).mono ?_; clear ih; rintro e w2 ⟨v, rfl, hv, g2⟩)
  | (go_at_call 210; refine (ih2 _).mono ?_; clear ih2; rintro e w3 ⟨v2, rfl, hv2, g3⟩; obtain ⟨gg, cap, rfl, hg1, hg2⟩ := BR hv2 hM)
  | (at_builtin; refine wpList_append_own _ rfl _ _ 108 rfl w.heap.size 134 i0 (.int .u32 0) 1 4 Tryz.underlying108 hi hz0 hz1 hz2 rfl (by decide) _ _ _ rfl (aU (hv.mono' g1.size) g3) ⟨gg, 0, none⟩ M.length cap (bZ M) rfl (by rw [lW]; omega) hg2 (fun x hx => by unfold bZ at hx; rw [List.mem_map] at hx; obtain ⟨y, _, rfl⟩ := hx; rfl) (by unfold maxLen; omega) (by omega) ((g1.trans g2).trans g3).size ?_; intro v' w4 hown' hgrow _))
 go_ret
 exact ⟨_, rfl, fE hown' rfl rfl rfl, oQ ((g1.trans g2).trans g3) (aU (hv.mono' g1.size) g3) hgrow⟩
theorem WH (n : Nat) : ∀ c, 0 < (fF n c).length := by
 induction n with
 | zero =>
  intro c; rw [fF]
  split
  · have := um c; omega
  · simp
 | succ n ih =>
  intro c; rw [fF]
  split
  · have := um c; omega
  · split
    · simp
    · rename_i e _
      have := ih e.2.1
      rw [List.length_append]; omega
theorem Ja {n : Nat} (h : n < 100) : wrap64 (((n + 1 : Nat) : Int) - 1) = (n : Int) := by
 rw [show ((n + 1 : Nat) : Int) - 1 = n by omega]; unfold wrap64; omega
theorem WI (n : Nat) (hn : n ≤ 6) : ∀ (c : Nat), c < 4294967296 → ∀ w, Calls Tryz.prog 210 #[.int .u32 c, .int .i64 (n : Int)] w (RowOf (fF n c) w) := by
 induction n with
 | zero =>
  intro c hc w
  cases hh : isH c with
  | true => rw [fF, if_pos hh]; exact Vl c _ w hh
  | false =>
   rw [fF, if_neg (by rw [hh]; exact Bool.false_ne_true)]
   cases hd : bD c with
   | none => exact ES c hc _ w hh hd
   | some e => exact WC c hc w hh e hd
 | succ n ih =>
  intro c hc w
  have ih := ih (by omega)
  cases hh : isH c with
  | true => rw [fF, if_pos hh]; exact Vl c _ w hh
  | false =>
   cases hd : bD c with
   | none => rw [eu hd, if_neg (by rw [hh]; exact Bool.false_ne_true)]; exact ES c hc _ w hh hd
   | some e =>
    have hb := Vm e (bU hd).1
    have hr := vG c hc w
    have hv : dval c = .tuple #[.int .u32 e.2.1, .int .u32 e.2.2.1, .bool true] := by unfold dval; rw [hd]
    rw [hv] at hr
    have hs := fun w => wX c w hh
    rw [fF, if_neg (by rw [hh]; exact Bool.false_ne_true), hd]
    dsimp only
    have h3 : 2 ^ n ≤ 2 ^ 6 := Nat.pow_le_pow_right (by decide) (by omega)
    have h4 := Ol n e.2.1
    have h5 := Ol n e.2.2.1
    by_cases hz : e.2.2.1 = 0
    · rw [if_pos hz, List.append_nil]
      rw [hz] at hr
      exact WE c e.2.1 _ _ w hs hr (by rw [beq_eq_false_iff_ne]; omega) (Ja (by omega)) _ (ih e.2.1 (by omega))
    · rw [if_neg hz]
      exact WG c e.2.1 e.2.2.1 _ _ w hs hr (by omega) (by rw [beq_eq_false_iff_ne]; omega) (Ja (by omega)) _ _ (WH _ _) (by omega) (ih e.2.1 (by omega)) (ih e.2.2.1 (by omega))
theorem WJ (c : Nat) (hc : c < 4294967296) (w : World) : Calls Tryz.prog 196 #[.int .u32 c] w (RowOf (full c) w) := by
 have h := fun w => WI 6 (by decide) c hc w
 rw [QM 6 c (by decide)] at h
 have H : ∀ w, Calls Tryz.prog 210 #[.int .u32 c, .int .i64 6] w (RowOf (full c) w) := h
 clear h
 go_enter Tryz.func196, Tryz.ntmps196
 go_wp2_with (go_at_call 210; refine (H _).mono ?_; rintro e w2 ⟨v, rfl, hv, g2⟩)
 go_ret
 exact ⟨_, rfl, hv, g2⟩
noncomputable def whole (c : Nat) : Bool := (bD c).isNone && !isH c
theorem uq (a b c : Int) (x : Int) (r : Bool) (w : World) (hx : IntKind.u32.wrap (c - a) = x) (hr : decide (x < b) = r) : Calls Tryz.prog 191 #[.agg #[.int .u32 a, .int .u32 b], .int .u32 c] w fun e w' => e = .returned (.bool r) ∧ Gr w w' := by
 have h0 := Em
 have h1 := adi
 go_enter Tryz.func191, Tryz.ntmps191
 go_wp2
 exact bodyPost_ret (v := .bool r) (by simp [results, Tryz.results191, go_sem]) rfl ⟨rfl, Gr.alloc _ _⟩
theorem agv (l v i p q s t : Int) (w : World) (h1 : IntKind.u32.wrap (l - 4352) = i) (h2 : IntKind.u32.wrap (v - 4449) = p) (hi : decide (i < 19) = true) (hp : decide (p < 21) = true)
    (h3 : IntKind.u32.wrap (i * 21) = q) (h4 : IntKind.u32.wrap (q + v) = s) (h5 : (44032 + (s - 4449) % 4294967296 * 28 % 4294967296) % 4294967296 = t) :
    Calls Tryz.prog 188 #[.int .u32 l, .int .u32 v, .int .u32 0] w fun e w' => e = .returned (.tuple #[.int .u32 t, .int .i64 0]) ∧ Gr w w' := by
 have hr0 := Em
 have HL := hid (fun w => uq 4352 19 l i true w h1 hi)
 have HV := hid (fun w => uq 4449 21 v p true w h2 hp)
 have g := Gr.refl w
 go_enter Tryz.func188, Tryz.ntmps188
 go_wp2_with (first
  | (go_at_call 202; refine (lead_any _).mono ?_; rintro e w1 ⟨rfl, g1⟩; replace g := g.trans g1; clear g1)
  | (go_at_call 203; refine (wY _).mono ?_; rintro e w1 ⟨rfl, g1⟩; replace g := g.trans g1; clear g1)
  | (go_at_call 191; refine (HL.out _).mono ?_; clear HL; rintro e w1 ⟨rfl, g1⟩; replace g := g.trans g1; clear g1)
  | (go_at_call 191; refine (HV.out _).mono ?_; clear HV; rintro e w1 ⟨rfl, g1⟩; replace g := g.trans g1; clear g1))
 refine bodyPost_ret (v := .tuple #[.int .u32 ((44032 + (s - 4449) % 4294967296 * 28 % 4294967296) % 4294967296), .int .i64 0]) (by simp [results, Tryz.results188, go_sem]) rfl ⟨?_, g⟩
 rw [h5]
theorem agw (l v x : Int) (w : World) (h1 : IntKind.u32.wrap (l - 4352) = x) (hi : decide (x < 19) = false) :
    Calls Tryz.prog 188 #[.int .u32 l, .int .u32 v, .int .u32 0] w fun e w' => e = .returned (.tuple #[.int .u32 0, .int .i64 2]) ∧ Gr w w' := by
 have HL := hid (fun w => uq 4352 19 l x false w h1 hi)
 have g := Gr.refl w
 go_enter Tryz.func188, Tryz.ntmps188
 go_wp2_with (first
  | (go_at_call 202; refine (lead_any _).mono ?_; rintro e w1 ⟨rfl, g1⟩; replace g := g.trans g1; clear g1)
  | (go_at_call 191; refine (HL.out _).mono ?_; clear HL; rintro e w1 ⟨rfl, g1⟩; replace g := g.trans g1; clear g1))
 exact bodyPost_ret (v := .tuple #[.int .u32 0, .int .i64 2]) (by simp [results, Tryz.results188, go_sem]) rfl ⟨rfl, g⟩
theorem adk (l v t : Int) (w : World) (hp : ∀ w, Calls Tryz.prog 188 #[.int .u32 l, .int .u32 v, .int .u32 0] w fun e w' => e = .returned (.tuple #[.int .u32 t, .int .i64 0]) ∧ Gr w w') :
    Calls Tryz.prog 167 #[.int .u32 l, .int .u32 v] w fun e w' => e = .returned (.tuple #[.int .u32 t, .bool true]) ∧ Gr w w' := by
 go_enter Tryz.func167, Tryz.ntmps167
 go_wp2_with (go_at_call 188; refine (hp _).mono ?_; rintro e w1 ⟨rfl, g1⟩)
 exact bodyPost_ret (v := .tuple #[.int .u32 t, .bool true]) (by simp [results, Tryz.results167, go_sem]) rfl ⟨rfl, g1⟩
theorem agx (x b k : Int) (t : Int) (w : World) (hp : ∀ w, Calls Tryz.prog 188 #[.int .u32 x, .int .u32 b, .int .u32 0] w fun e w' => e = .returned (.tuple #[.int .u32 0, .int .i64 2]) ∧ Gr w w')
    (hi : ∀ w, Calls Tryz.prog 189 #[.int .u32 x] w fun e w' => e = .returned (.bool true) ∧ w = w') (hm : (x - 44032) % 4294967296 % 28 = 0) (h1 : IntKind.u32.wrap (b - 4520) = k) (hk : decide (k < 27) = true)
    (ht : ((x + b - 4520) % 4294967296 + 1) % 4294967296 = t) :
    Calls Tryz.prog 167 #[.int .u32 x, .int .u32 b] w fun e w' => e = .returned (.tuple #[.int .u32 t, .bool true]) ∧ Gr w w' := by
 have hr0 := Em
 have HT := hid (fun w => uq 4520 27 b k true w h1 hk)
 have g := Gr.refl w
 go_enter Tryz.func167, Tryz.ntmps167
 go_wp2_with (first
  | (go_at_call 188; refine (hp _).mono ?_; rintro e w1 ⟨rfl, g1⟩; replace g := g.trans g1; clear g1)
  | (go_at_call 189; refine (hi _).mono ?_; rintro e w1 ⟨rfl, rfl⟩)
  | (go_at_call 190; refine (BU _).mono ?_; rintro e w1 ⟨rfl, g1⟩; replace g := g.trans g1; clear g1)
  | (go_at_call 191; refine (HT.out _).mono ?_; clear HT; rintro e w1 ⟨rfl, g1⟩; replace g := g.trans g1; clear g1))
 refine bodyPost_ret (v := .tuple #[.int .u32 (((x + b - 4520) % 4294967296 + 1) % 4294967296), .bool true]) (by simp [results, Tryz.results167, go_sem]) rfl ⟨?_, g⟩
 rw [ht]
noncomputable def bT (L : List Nat) : List Nat := L.flatMap full
theorem EU (L : List Nat) (x : Nat) : bT (L ++ [x]) = bT L ++ full x := by unfold bT; rw [List.flatMap_append]; simp
theorem pG (L : List Nat) : L.length ≤ (bT L).length ∧ (bT L).length ≤ 4 * L.length := by
 induction L with
 | nil => simp [bT]
 | cons a L ih =>
  have := vH a
  show (a :: L).length ≤ (full a ++ bT L).length ∧ (full a ++ bT L).length ≤ _
  rw [List.length_append, List.length_cons]; omega
theorem Ze (v : Value) (L : List Nat) (w : World) (ht : Tz w) (hv : Sl w v L) (hb : ∀ x ∈ L, x < 4294967296) (hl : L.length ≤ 1000000) : Calls Tryz.prog 100 #[v] w (RowOf (bT L) w) := by
 obtain ⟨ao, ca, rfl, _, hA⟩ := hv
 obtain ⟨n, hn⟩ : ∃ n, L.length = n := ⟨_, rfl⟩
 rw [hn] at hA ⊢
 have hnb : (n : Int) ≤ 1000000 := by omega
 have HN := hid hn
 have HA := hid hA
 have HB := hid hb
 clear hn hA hb hl
 obtain ⟨i0, hi, hz0, hz1, hz2⟩ := info_parts jP
 go_enter Tryz.func100, Tryz.ntmps100
 go_wp2_with fail
 go_loopw [3, 8] (fun vo vi wr => ∃ k : Nat, k ≤ n ∧ vi = .int .i64 k ∧ wr.ownsRow w.heap.size 134 1 vo (bT (L.take k)).length (bZ (bT (L.take k))) ∧ Gr w wr) (fun _ vi _ => n - (intOf vi).toNat)
 case atStart => exact ⟨0, Nat.zero_le _, rfl, by simp [bT]; exact World.ownsRow_nil _ _ _ _, Gr.refl _⟩
 case round =>
  obtain ⟨k, hk, rfl, hown, hgk⟩ := hrel
  by_cases hkn : k < n
  · obtain ⟨g, off, rfl, hcell⟩ := HA.out k hkn
    have hcell := hgk.cell hcell
    have hkL : k < L.length := by rw [HN.out]; exact hkn
    have hx : L.getD k 0 < 4294967296 := by
     rw [List.getD, List.getElem?_eq_getElem hkL]; exact HB.out _ (List.getElem_mem _)
    have htk : L.take (k + 1) = L.take k ++ [L.getD k 0] := by
     rw [List.take_succ_eq_append_getElem hkL, List.getD, List.getElem?_eq_getElem hkL]; rfl
    have HT : Hid (bT (L.take (k + 1)) = bT (L.take k) ++ full (L.getD k 0)) := by show _ = _; rw [htk, EU]
    have HLEN : Hid ((bT (L.take k)).length ≤ 4 * k) := by show _ ≤ _; have := (pG (L.take k)).2; rw [List.length_take] at this; omega
    have HF := hid (Zf (L.getD k 0) hx wr (ht.gr hgk))
    have hfl := vH (L.getD k 0)
    clear htk hx
    generalize full (L.getD k 0) = M at HT HF hfl
    generalize L.getD k 0 = x at hcell HF
    generalize bT (L.take k) = P at hown HT HLEN
    have hlt : (k : Int) < n := by omega
    go_wp2_with (first
     | (go_at_call 131; refine HF.out.mono ?_; clear HF; rintro e w1 ⟨v1, rfl, hv1, g1⟩; obtain ⟨gg, cap, rfl, hg1, hg2⟩ := BR hv1 (by omega))
     | (at_builtin; refine wpList_append_own _ rfl _ _ 108 rfl w.heap.size 134 i0 (.int .u32 0) 1 4 Tryz.underlying108 hi hz0 hz1 hz2 rfl (by decide) _ _ _ rfl (aU hown g1) ⟨gg, 0, none⟩ M.length cap (bZ M) rfl (by rw [lW]; omega) hg2 (fun x hx => by unfold bZ at hx; rw [List.mem_map] at hx; obtain ⟨y, _, rfl⟩ := hx; rfl) (by have := HLEN.out; unfold maxLen; omega) (by have := HLEN.out; omega) (hgk.trans g1).size ?_; intro v' w4 hown' hgrow _))
    have hG := oQ (hgk.trans g1) (aU hown g1) hgrow
    have hO := fE (K := M) hown' HT.out rfl rfl
    clear hgrow hown' hown hcell hv1 hg2
    go_roundw
    case rel => exact ⟨k + 1, hkn, by simp, hO, hG⟩
    case measure => simp [intOf]; omega
  · have hkn' : k = n := by omega
    have HO : Hid (L.take k = L) := by show _ = _; rw [hkn', ← HN.out, List.take_length]
    rw [HO.out] at hown
    go_wp2
    go_ret
    exact ⟨_, rfl, hown, hgk⟩
theorem WL (v : Value) (L : List Nat) (w : World) (hv : Sl w v L) (hb : ∀ x ∈ L, x < 4294967296) (hl : L.length ≤ 1000000) : Calls Tryz.prog 175 #[v] w (RowOf (bT L) w) := by
 obtain ⟨ao, ca, rfl, _, hA⟩ := hv
 obtain ⟨n, hn⟩ : ∃ n, L.length = n := ⟨_, rfl⟩
 rw [hn] at hA ⊢
 have hnb : (n : Int) ≤ 1000000 := by omega
 have HN := hid hn
 have HA := hid hA
 have HB := hid hb
 clear hn hA hb hl
 obtain ⟨i0, hi, hz0, hz1, hz2⟩ := info_parts jP
 go_enter Tryz.func175, Tryz.ntmps175
 go_wp2_with fail
 go_loopw [3, 4] (fun vo vi wr => ∃ k : Nat, k ≤ n ∧ vi = .int .i64 k ∧ wr.ownsRow w.heap.size 134 1 vo (bT (L.take k)).length (bZ (bT (L.take k))) ∧ Gr w wr) (fun _ vi _ => n - (intOf vi).toNat)
 case atStart => exact ⟨0, Nat.zero_le _, rfl, by simp [bT]; exact World.ownsRow_nil _ _ _ _, Gr.refl _⟩
 case round =>
  obtain ⟨k, hk, rfl, hown, hgk⟩ := hrel
  by_cases hkn : k < n
  · obtain ⟨g, off, rfl, hcell⟩ := HA.out k hkn
    have hcell := hgk.cell hcell
    have hkL : k < L.length := by rw [HN.out]; exact hkn
    have hx : L.getD k 0 < 4294967296 := by
     rw [List.getD, List.getElem?_eq_getElem hkL]; exact HB.out _ (List.getElem_mem _)
    have htk : L.take (k + 1) = L.take k ++ [L.getD k 0] := by
     rw [List.take_succ_eq_append_getElem hkL, List.getD, List.getElem?_eq_getElem hkL]; rfl
    have HT : Hid (bT (L.take (k + 1)) = bT (L.take k) ++ full (L.getD k 0)) := by show _ = _; rw [htk, EU]
    have HLEN : Hid ((bT (L.take k)).length ≤ 4 * k) := by show _ ≤ _; have := (pG (L.take k)).2; rw [List.length_take] at this; omega
    have HF := hid (WJ (L.getD k 0) hx wr)
    have hfl := vH (L.getD k 0)
    clear htk hx
    generalize full (L.getD k 0) = M at HT HF hfl
    generalize L.getD k 0 = x at hcell HF
    generalize bT (L.take k) = P at hown HT HLEN
    have hlt : (k : Int) < n := by omega
    go_wp2_with (first
     | (go_at_call 196; refine HF.out.mono ?_; clear HF; rintro e w1 ⟨v1, rfl, hv1, g1⟩; obtain ⟨gg, cap, rfl, hg1, hg2⟩ := BR hv1 (by omega))
     | (at_builtin; refine wpList_append_own _ rfl _ _ 108 rfl w.heap.size 134 i0 (.int .u32 0) 1 4 Tryz.underlying108 hi hz0 hz1 hz2 rfl (by decide) _ _ _ rfl (aU hown g1) ⟨gg, 0, none⟩ M.length cap (bZ M) rfl (by rw [lW]; omega) hg2 (fun x hx => by unfold bZ at hx; rw [List.mem_map] at hx; obtain ⟨y, _, rfl⟩ := hx; rfl) (by have := HLEN.out; unfold maxLen; omega) (by have := HLEN.out; omega) (hgk.trans g1).size ?_; intro v' w4 hown' hgrow _))
    have hG := oQ (hgk.trans g1) (aU hown g1) hgrow
    have hO := fE (K := M) hown' HT.out rfl rfl
    clear hgrow hown' hown hcell hv1 hg2
    go_roundw
    case rel => exact ⟨k + 1, hkn, by simp, hO, hG⟩
    case measure => simp [intOf]; omega
  · have hkn' : k = n := by omega
    have HO : Hid (L.take k = L) := by show _ = _; rw [hkn', ← HN.out, List.take_length]
    rw [HO.out] at hown
    go_wp2
    go_ret
    exact ⟨_, rfl, hown, hgk⟩
theorem addr_add (g o : Nat) (j : Nat) : (⟨g, o, none⟩ : Addr).add j = ⟨g, o + j, none⟩ := by
 simp only [Addr.add]
 split
 · rename_i h; subst h; rfl
 · rfl
theorem iT {w : World} {ops : Array Oper} {rest : List Oper} {o : Oper} {a : Act} {Q : Exit → Act → World → Prop} (hgd : o.guard = none) (s x : Operand)
    (ho : o.op = .call { callee := .builtin .append, args := #[s, x], argTypes := #[108, 108] })
    (base : Nat) (v : Value) (K M : List Nat) (hs : a.eval s = v) (hown : w.ownsRow base 134 1 v K.length (bZ K)) (u : Value) (hx : a.eval x = u) (hM : Sl w u M)
    (hbig : K.length + M.length ≤ 1000000) (hbase : base ≤ w.heap.size)
    (h : ∀ v' w', w'.ownsRow base 134 1 v' (K ++ M).length (bZ (K ++ M)) → w.grownBy w' v.ownBlock → wpList Tryz.prog ops Q rest (a.put o.dst v') w') :
    wpList Tryz.prog ops Q (o :: rest) a w := by
 obtain ⟨i0, hi, hz0, hz1, hz2⟩ := info_parts jP
 obtain ⟨ao, cap, rfl, h0, h2⟩ := hM
 cases ao with
 | none =>
  have hc := h0 rfl
  have hM0 : M.length = 0 := by
   rcases Nat.eq_zero_or_pos M.length with h | h
   · exact h
   · obtain ⟨g, o, e, _⟩ := h2 0 h; cases e
  have hM1 : M = [] := List.eq_nil_of_length_eq_zero hM0
  subst hM1 hc
  refine wpList_append_own_none hgd s x _ ho base 134 i0 1 Tryz.underlying108 hi v _ _ hs hown hx ?_
  have := h v w (by rw [List.append_nil]; exact hown) ⟨rfl, rfl, rfl, Nat.le_refl _, fun _ _ _ => rfl⟩
  exact this
 | some ad =>
  refine wpList_append_own _ hgd s x _ ho base 134 i0 (.int .u32 0) 1 4 Tryz.underlying108 hi hz0 hz1 hz2 rfl (by decide) v _ _ hs hown ad M.length cap (bZ M) hx (by rw [lW]; omega) (fun j y hj => ?_)
   (fun x hx => by unfold bZ at hx; rw [List.mem_map] at hx; obtain ⟨y, _, rfl⟩ := hx; rfl) (by unfold maxLen; omega) (by omega) hbase ?_
  · have hjl : j < M.length := by have := (List.getElem?_eq_some_iff.1 hj).1; rwa [lW] at this
    obtain ⟨g', o', e', hc⟩ := h2 j hjl
    cases e'
    unfold bZ at hj
    rw [List.getElem?_map, List.getElem?_eq_getElem hjl] at hj
    simp only [Option.map_some, Option.some.injEq] at hj
    rw [addr_add, hc, ← hj]
    simp [List.getD, hjl]
  · intro v' w' h3 h4 _
    exact h v' w' (fE h3 rfl rfl rfl) h4
open Go.ChangeShapes Go.WideShapes Go.ChangeAt Go.RowKit
def ckD4 (e : Nat × Nat × Nat × Bool) : Bool := Nat.blt e.1 4352 || Nat.blt 4546 e.1
theorem agy : allB ckD4 (dc16 tD.data.toList) = true := by decide +kernel
theorem zY {c : Nat} (h : 4352 ≤ c ∧ c ≤ 4546) : bD c = none := by
 cases hd : bD c with
 | none => rfl
 | some e =>
  obtain ⟨h1, h2⟩ := bU hd
  have := (dJ _ _).1 agy e h1
  unfold ckD4 at this
  rw [Bool.or_eq_true, Nat.blt_eq, Nat.blt_eq] at this
  omega
theorem QN {c : Nat} (hc : c < 4294967296) : ∀ x ∈ full c, whole x = true ∧ x < 4294967296 := by
 intro x hx
 cases hh : isH c with
 | true =>
  rw [mY hh] at hx
  have h := uo c hh x hx
  refine ⟨?_, by omega⟩
  unfold whole
  rw [zY h]
  have : isH x = false := by
   cases hi : isH x with
   | false => rfl
   | true => have := (fH x).1 hi; omega
  rw [this]; rfl
 | false =>
  obtain ⟨h1, h2, h3⟩ := Jb (vI c) hh x hx
  refine ⟨by unfold whole; rw [h2, h3]; rfl, ?_⟩
  rcases h1 with rfl | h1
  · exact hc
  · omega
theorem qN {L : List Nat} (hb : ∀ x ∈ L, x < 4294967296) : ∀ x ∈ bT L, whole x = true ∧ x < 4294967296 := by
 intro x hx
 unfold bT at hx
 obtain ⟨c, hc, hx⟩ := List.mem_flatMap.1 hx
 exact QN (hb c hc) x hx
theorem zZ (A B : List Nat) : bT (A ++ B) = bT A ++ bT B := by unfold bT; rw [List.flatMap_append]
theorem Jc (w : World) : (w.alloc (.cells #[] 134)).ownsRow w.heap.size 134 1 (.slice (some ⟨w.heap.size, 0, none⟩) 0 0) ([] : List Nat).length (bZ []) :=
 World.ownsRow_made w #[] 0 (Nat.le_refl _) (by unfold maxLen; omega) (by simp)
theorem pW {w : World} {ops : Array Oper} {rest : List Oper} {o : Oper} {a : Act} {Q : Exit → Act → World → Prop} (hgd : o.guard = none) (s x : Operand)
    (ho : o.op = .call { callee := .builtin .append, args := #[s, x], argTypes := #[108, 108] })
    (M : List Nat) (hs : a.eval s = .slice (some ⟨w.heap.size, 0, none⟩) 0 0) (u : Value) (hx : a.eval x = u) (hM : Sl w u M) (hbig : M.length ≤ 1000000)
    (h : ∀ v' w', w'.ownsRow w.heap.size 134 1 v' M.length (bZ M) → Gr w w' → wpList Tryz.prog ops Q rest (a.put o.dst v') w') :
    wpList Tryz.prog ops Q (o :: rest) a (w.alloc (.cells #[] 134)) :=
 iT hgd s x ho w.heap.size _ [] M hs (Jc w) u hx (hM.gr (Gr.alloc _ _)) (by simp; omega) (by simp) fun v' w' h1 h2 => h v' w' h1 (oQ (Gr.alloc w _) (Jc w) h2)
noncomputable def lec (x y : Nat) : Bool := decide (cls x ≤ cls y)
noncomputable def srt (row : List Nat) : List Nat := row.mergeSort lec
noncomputable def fk (k : Nat) (l : List Nat) : List Nat := l.filter (fun x => cls x == k)
def eF (l : List Nat) : Prop := l.Pairwise (fun x y => cls x ≤ cls y)
theorem iU (k : Nat) (a b : List Nat) : fk k (a ++ b) = fk k a ++ fk k b := by unfold fk; rw [List.filter_append]
theorem MF (k : Nat) : fk k [] = [] := rfl
theorem jH (k x : Nat) (l : List Nat) : fk k (x :: l) = if cls x = k then x :: fk k l else fk k l := by
 unfold fk; rw [List.filter_cons]; simp only [beq_iff_eq]
theorem rG {k x : Nat} {l : List Nat} : x ∈ fk k l ↔ x ∈ l ∧ cls x = k := by unfold fk; rw [List.mem_filter, beq_iff_eq]
theorem vJ (l : List Nat) : (srt l).Perm l := List.mergeSort_perm _ _
theorem pX (l : List Nat) : (srt l).length = l.length := (vJ l).length_eq
theorem Jd (a b c : Nat) (h : lec a b = true) (h' : lec b c = true) : lec a c = true := by
 unfold lec at *; simp only [decide_eq_true_eq] at *; omega
theorem Je (a b : Nat) : (lec a b || lec b a) = true := by unfold lec; simp; omega
theorem dL (l : List Nat) : eF (srt l) := by
 have := List.pairwise_mergeSort Jd Je l
 exact this.imp fun h => by unfold lec at h; simpa using h
theorem uw (k : Nat) (l : List Nat) : fk k (srt l) = fk k l := by
 have hs : (fk k l).Pairwise (fun a b => lec a b = true) := by
  rw [List.pairwise_iff_forall_sublist]
  intro a b hab
  have ha := (rG.1 (hab.subset (show a ∈ [a, b] by simp))).2
  have hb := (rG.1 (hab.subset (show b ∈ [a, b] by simp))).2
  unfold lec; rw [ha, hb]; simp
 have h1 : (fk k l).Sublist (srt l) := List.sublist_mergeSort Jd Je hs List.filter_sublist
 have h2 : (fk k (fk k l)).Sublist (fk k (srt l)) := h1.filter _
 have h3 : fk k (fk k l) = fk k l := by unfold fk; rw [List.filter_filter]; simp
 rw [h3] at h2
 exact (h2.eq_of_length (by unfold fk; exact ((vJ l).filter _).length_eq.symm)).symm
theorem lX : ∀ {A B : List Nat}, eF A → eF B → (∀ k, fk k A = fk k B) → A = B
 | [], [], _, _, _ => rfl
 | [], b :: B, _, _, h => by have := h (cls b); rw [MF, jH, if_pos rfl] at this; cases this
 | a :: A, [], _, _, h => by have := h (cls a); rw [MF, jH, if_pos rfl] at this; cases this
 | a :: A, b :: B, hA, hB, h => by
  have hA' := List.pairwise_cons.1 hA
  have hB' := List.pairwise_cons.1 hB
  have h1 : cls b ≤ cls a := by
   have : a ∈ fk (cls a) (b :: B) := by rw [← h]; exact rG.2 ⟨by simp, rfl⟩
   rcases List.mem_cons.1 (rG.1 this).1 with e | e
   · rw [e]; exact Nat.le_refl _
   · exact hB'.1 a e
  have h2 : cls a ≤ cls b := by
   have : b ∈ fk (cls b) (a :: A) := by rw [h]; exact rG.2 ⟨by simp, rfl⟩
   rcases List.mem_cons.1 (rG.1 this).1 with e | e
   · rw [e]; exact Nat.le_refl _
   · exact hA'.1 b e
  have h3 : cls a = cls b := by omega
  have h4 := h (cls a)
  rw [jH, jH, if_pos rfl, if_pos h3.symm] at h4
  injection h4 with h4 _
  subst h4
  congr 1
  refine lX hA'.2 hB'.2 fun k => ?_
  have := h k
  rw [jH, jH] at this
  split at this
  · injection this
  · exact this
theorem Jf {A B : List Nat} (h : ∀ k, fk k A = fk k B) : srt A = srt B := lX (dL A) (dL B) fun k => by rw [uw, uw, h]
theorem lg {A : List Nat} (h : eF A) : srt A = A := lX (dL A) h fun k => uw k A
theorem En {x : Nat} {l : List Nat} : x ∈ srt l ↔ x ∈ l := (vJ l).mem_iff
noncomputable def mF : List Nat → List Nat → List Nat
 | row, [] => srt row
 | row, c :: t => if cls c = 0 then srt row ++ c :: mF [] t else mF (row ++ [c]) t
noncomputable def fO (l : List Nat) : List Nat := mF [] l
theorem uy {c : Nat} (h : cls c = 0) (row t : List Nat) : mF row (c :: t) = srt row ++ c :: mF [] t := by rw [mF, if_pos h]
theorem nG {c : Nat} (h : cls c ≠ 0) (row t : List Nat) : mF row (c :: t) = mF (row ++ [c]) t := by rw [mF, if_neg h]
theorem BX (row : List Nat) : mF row [] = srt row := by rw [mF]
theorem wZ {l : List Nat} (h : l ≠ []) : ∃ B y, l = B ++ [y] := ⟨l.dropLast, l.getLast h, (List.dropLast_concat_getLast h).symm⟩
theorem Zg {p : Nat → Bool} : ∀ {l : List Nat}, (∀ x ∈ l, p x = true) → l.takeWhile p = l
 | [], _ => rfl
 | a :: l, h => by rw [List.takeWhile_cons, if_pos (h a (by simp)), Zg fun x hx => h x (List.mem_cons_of_mem _ hx)]
theorem Eo {p : Nat → Bool} : ∀ (l : List Nat), l.take (l.takeWhile p).length = l.takeWhile p ∧ l.drop (l.takeWhile p).length = l.dropWhile p
 | [] => ⟨rfl, rfl⟩
 | a :: l => by
  rw [List.takeWhile_cons, List.dropWhile_cons]
  split
  · rw [List.length_cons, List.take_succ_cons, List.drop_succ_cons, (Eo l).1, (Eo l).2]; exact ⟨rfl, rfl⟩
  · exact ⟨rfl, rfl⟩
def Marks (l : List Nat) : Prop := ∀ x ∈ l, cls x ≠ 0
theorem uz {s : Nat} (hs : cls s = 0) (B : List Nat) : ∀ (A row : List Nat), mF row (A ++ s :: B) = mF row A ++ s :: fO B
 | [], row => by show mF row (s :: B) = _; rw [uy hs, BX]; rfl
 | a :: A, row => by
  show mF row (a :: (A ++ s :: B)) = _
  by_cases h : cls a = 0
  · rw [uy h, uy h, uz hs B A, List.append_assoc]; rfl
  · rw [nG h, nG h, uz hs B A]
theorem iF {s : Nat} (hs : cls s = 0) (A B : List Nat) : fO (A ++ s :: B) = fO A ++ s :: fO B := uz hs B A []
theorem xk {s : Nat} (hs : cls s = 0) (B : List Nat) : fO (s :: B) = s :: fO B := by
 have := iF hs [] B; simpa [fO, mF, srt] using this
theorem Om : ∀ (A row : List Nat), Marks A → mF row A = srt (row ++ A)
 | [], row, _ => by rw [BX, List.append_nil]
 | a :: A, row, h => by
  rw [nG (h a (by simp)), Om A _ fun x hx => h x (List.mem_cons_of_mem _ hx), List.append_assoc]; rfl
theorem iV {A : List Nat} (h : Marks A) : fO A = srt A := Om A [] h
theorem BZ (l : List Nat) : Marks l ∨ ∃ A s B, l = A ++ s :: B ∧ Marks A ∧ cls s = 0 := by
 induction l with
 | nil => exact .inl (fun x h => by cases h)
 | cons a l ih =>
  by_cases ha : cls a = 0
  · exact .inr ⟨[], a, l, rfl, (fun x h => by cases h), ha⟩
  · rcases ih with h | ⟨A, s, B, rfl, h, hs⟩
    · exact .inl fun x hx => by
        rcases List.mem_cons.1 hx with rfl | hx
        · exact ha
        · exact h x hx
    · exact .inr ⟨a :: A, s, B, rfl, fun x hx => by
        rcases List.mem_cons.1 hx with rfl | hx
        · exact ha
        · exact h x hx, hs⟩
theorem pY {P : List Nat → Prop} (h1 : ∀ A, Marks A → P A) (h2 : ∀ A s B, Marks A → cls s = 0 → P B → P (A ++ s :: B)) (l : List Nat) : P l := by
 obtain ⟨n, hn⟩ : ∃ n, l.length = n := ⟨_, rfl⟩
 induction n using Nat.strongRecOn generalizing l with
 | _ n ih =>
  rcases BZ l with h | ⟨A, s, B, rfl, h, hs⟩
  · exact h1 _ h
  · exact h2 A s B h hs (ih B.length (by rw [List.length_append, List.length_cons] at hn; omega) B rfl)
theorem Cb (l : List Nat) : (fO l).Perm l := by
 refine pY (P := fun l => (fO l).Perm l) (fun A h => ?_) (fun A s B h hs ih => ?_) l
 · rw [iV h]; exact vJ A
 · rw [iF hs, iV h]; exact (vJ A).append (ih.cons s)
theorem qO (l : List Nat) : (fO l).length = l.length := (Cb l).length_eq
theorem su {x : Nat} {l : List Nat} : x ∈ fO l ↔ x ∈ l := (Cb l).mem_iff
theorem xq {A : List Nat} (h : Marks A) : Marks (srt A) := fun x hx => h x (En.1 hx)
theorem WM (l : List Nat) : fO (fO l) = fO l := by
 refine pY (P := fun l => fO (fO l) = fO l) (fun A h => ?_) (fun A s B h hs ih => ?_) l
 · rw [iV h, iV (xq h), lg (dL A)]
 · rw [iF hs, iV h, iF hs, ih, iV (xq h), lg (dL A)]
theorem jw {s : Nat} (hs : cls s = 0) (B : List Nat) : ∀ (A : List Nat) (p : Nat), dU cls p (A ++ s :: B) = (dU cls p A && dU cls 0 B)
 | [], p => by show dU cls p (s :: B) = _; simp [dU, hs]
 | a :: A, p => by
  show dU cls p (a :: (A ++ s :: B)) = _
  rw [dU, dU, jw hs B A, Bool.and_assoc]
theorem lY : ∀ (A : List Nat) (p : Nat), Marks A → (dU cls p A = true ↔ (∀ x ∈ A, p ≤ cls x) ∧ eF A)
 | [], p, _ => by simp [dU, eF]
 | a :: A, p, h => by
  rw [dU, Bool.and_eq_true, lY A _ fun x hx => h x (List.mem_cons_of_mem _ hx)]
  have ha : cls a ≠ 0 := h a (by simp)
  have e : (Nat.beq (cls a) 0 || Nat.ble p (cls a)) = true ↔ p ≤ cls a := by
   rw [Bool.or_eq_true, Nat.beq_eq, Nat.ble_eq]
   exact ⟨fun h => h.elim (fun h => absurd h ha) id, .inr⟩
  rw [e]
  unfold eF
  rw [List.pairwise_cons]
  constructor
  · rintro ⟨h1, h2, h3⟩
    exact ⟨fun x hx => by
     rcases List.mem_cons.1 hx with rfl | hx
     · exact h1
     · exact Nat.le_trans h1 (h2 x hx), h2, h3⟩
  · rintro ⟨h1, h2, h3⟩
    exact ⟨h1 a (by simp), h2, h3⟩
theorem QO (l : List Nat) : dU cls 0 (fO l) = true := by
 refine pY (P := fun l => dU cls 0 (fO l) = true) (fun A h => ?_) (fun A s B h hs ih => ?_) l
 · rw [iV h, lY _ _ (xq h)]; exact ⟨fun _ _ => Nat.zero_le _, dL A⟩
 · rw [iF hs, jw hs, ih, iV h, (lY _ _ (xq h)).2 ⟨fun _ _ => Nat.zero_le _, dL A⟩]; rfl
theorem Vo {l : List Nat} (h : dU cls 0 l = true) : fO l = l := by
 revert h
 refine pY (P := fun l => dU cls 0 l = true → fO l = l) (fun A h hi => ?_) (fun A s B h hs ih hi => ?_) l
 · rw [iV h, lg ((lY A 0 h).1 hi).2]
 · rw [jw hs, Bool.and_eq_true] at hi
   rw [iF hs, ih hi.2, iV h, lg ((lY A 0 h).1 hi.1).2]
inductive Sw : List Nat → List Nat → Prop
 | refl (l : List Nat) : Sw l l
 | step (A : List Nat) (x y : Nat) (B l : List Nat) : cls x ≠ 0 → cls y ≠ 0 → cls x ≠ cls y → Sw (A ++ y :: x :: B) l → Sw (A ++ x :: y :: B) l
theorem Sw.trans {a b c : List Nat} (h : Sw a b) (k : Sw b c) : Sw a c := by
 induction h with
 | refl => exact k
 | step A x y B l h1 h2 h3 _ ih => exact .step A x y B c h1 h2 h3 (ih k)
theorem Sw.one (A : List Nat) (x y : Nat) (B : List Nat) (h1 : cls x ≠ 0) (h2 : cls y ≠ 0) (h3 : cls x ≠ cls y) : Sw (A ++ x :: y :: B) (A ++ y :: x :: B) := .step A x y B _ h1 h2 h3 (.refl _)
theorem Sw.symm {a b : List Nat} (h : Sw a b) : Sw b a := by
 induction h with
 | refl => exact .refl _
 | step A x y B l h1 h2 h3 _ ih => exact ih.trans (Sw.one A y x B h2 h1 (Ne.symm h3))
theorem Sw.app {a b : List Nat} (h : Sw a b) (C D : List Nat) : Sw (C ++ a ++ D) (C ++ b ++ D) := by
 induction h with
 | refl => exact .refl _
 | step A x y B l h1 h2 h3 _ ih =>
  have := Sw.step (C ++ A) x y (B ++ D) (C ++ l ++ D) h1 h2 h3 (by simpa using ih)
  simpa using this
theorem Sw.append {a b c d : List Nat} (h : Sw a b) (k : Sw c d) : Sw (a ++ c) (b ++ d) := by
 have h1 := h.app [] c
 have h2 := k.app b []
 simp only [List.nil_append, List.append_nil] at h1 h2
 exact h1.trans h2
theorem EW : ∀ (B row row' : List Nat), (∀ k, fk k row = fk k row') → mF row B = mF row' B
 | [], row, row', h => by rw [BX, BX, Jf h]
 | b :: B, row, row', h => by
  by_cases hb : cls b = 0
  · rw [uy hb, uy hb, Jf h]
  · rw [nG hb, nG hb]; exact EW B _ _ fun k => by rw [iU, iU, h]
theorem Cc {x y : Nat} (h1 : cls x ≠ 0) (h2 : cls y ≠ 0) (h3 : cls x ≠ cls y) (B : List Nat) : ∀ (A row : List Nat), mF row (A ++ x :: y :: B) = mF row (A ++ y :: x :: B)
 | [], row => by
  show mF row (x :: y :: B) = mF row (y :: x :: B)
  rw [nG h1, nG h2, nG h2, nG h1]
  refine EW B _ _ fun k => ?_
  rw [iU, iU, iU, iU, jH, jH, MF]
  by_cases hx : cls x = k
  · rw [if_pos hx, if_neg (fun h => h3 (hx.trans h.symm))]; simp
  · rw [if_neg hx]; simp
 | a :: A, row => by
  show mF row (a :: (A ++ _)) = mF row (a :: (A ++ _))
  by_cases ha : cls a = 0
  · rw [uy ha, uy ha, Cc h1 h2 h3 B A]
  · rw [nG ha, nG ha, Cc h1 h2 h3 B A]
theorem Sw.ord {a b : List Nat} (h : Sw a b) : fO a = fO b := by
 induction h with
 | refl => rfl
 | step A x y B l h1 h2 h3 _ ih => exact (Cc h1 h2 h3 B A []).trans ih
theorem Sw.back {x : Nat} (hx : cls x ≠ 0) (A : List Nat) : ∀ (n : Nat) (B : List Nat), B.length = n → (∀ y ∈ B, cls y ≠ 0 ∧ cls y ≠ cls x) → Sw (A ++ B ++ [x]) (A ++ x :: B)
 | 0, B, hn, _ => by rw [List.eq_nil_of_length_eq_zero hn]; simp; exact .refl _
 | n + 1, B, hn, h => by
  have hB : B ≠ [] := fun e => by rw [e] at hn; cases hn
  obtain ⟨B', y, rfl⟩ := wZ hB
  obtain ⟨h1, h2⟩ := h y (by simp)
  have hl : B'.length = n := by rw [List.length_append] at hn; simpa using hn
  have ih := (Sw.back hx A n B' hl fun z hz => h z (by simp [hz])).app [] [y]
  have := (Sw.one (A ++ B') y x [] h1 hx h2).trans (by simpa using ih)
  simpa using this
theorem afo (p : Nat → Bool) (l : List Nat) : l.takeWhile p ++ l.dropWhile p = l := List.takeWhile_append_dropWhile
noncomputable def QS (x : Nat) (T : List Nat) : List Nat := T.takeWhile (fun y => decide (cls y ≤ cls x)) ++ x :: T.dropWhile (fun y => decide (cls y ≤ cls x))
theorem Vp {x : Nat} : ∀ {T : List Nat} {y : Nat}, y ∈ T.takeWhile (fun y => decide (cls y ≤ cls x)) → cls y ≤ cls x
 | [], y, h => by cases h
 | t :: T, y, h => by
  rw [List.takeWhile_cons] at h
  split at h
  · rename_i ht
    rcases List.mem_cons.1 h with rfl | h
    · simpa using ht
    · exact Vp h
  · cases h
theorem Ac {x : Nat} : ∀ {T : List Nat}, eF T → ∀ y, y ∈ T.dropWhile (fun y => decide (cls y ≤ cls x)) → cls x < cls y
 | [], _, y, h => by cases h
 | t :: T, hs, y, h => by
  have hs' := List.pairwise_cons.1 hs
  rw [List.dropWhile_cons] at h
  split at h
  · exact Ac hs'.2 y h
  · rename_i ht
    have ht' : cls x < cls t := by simpa using ht
    rcases List.mem_cons.1 h with rfl | h
    · exact ht'
    · have := hs'.1 y h; omega
theorem Oo {x : Nat} {T : List Nat} (h : eF T) : eF (QS x T) := by
 unfold QS eF
 have h1 : eF (T.takeWhile (fun y => decide (cls y ≤ cls x))) := List.Pairwise.sublist (List.takeWhile_sublist _) h
 have h2 : eF (T.dropWhile (fun y => decide (cls y ≤ cls x))) := List.Pairwise.sublist (List.dropWhile_sublist _) h
 rw [List.pairwise_append, List.pairwise_cons]
 refine ⟨h1, ⟨fun y hy => by have := Ac h y hy; omega, h2⟩, fun a ha b hb => ?_⟩
 have := Vp ha
 rcases List.mem_cons.1 hb with rfl | hb
 · exact this
 · have := Ac h b hb; omega
theorem adl {x : Nat} {T : List Nat} (hs : eF T) (k : Nat) : fk k (QS x T) = fk k T ++ fk k [x] := by
 conv => rhs; rw [← afo (fun y => decide (cls y ≤ cls x)) T]
 unfold QS
 rw [iU, iU, jH, jH, MF]
 by_cases h : cls x = k
 · have : fk k (T.dropWhile (fun y => decide (cls y ≤ cls x))) = [] := by
     rw [List.eq_nil_iff_forall_not_mem]
     intro y hy
     have := Ac hs y (rG.1 hy).1
     have := (rG.1 hy).2
     omega
   rw [this]; simp
 · rw [if_neg h, if_neg h]; simp
theorem Oq (row : List Nat) (x : Nat) : srt (row ++ [x]) = QS x (srt row) :=
 lX (dL _) (Oo (dL _)) fun k => by rw [uw, iU, adl (dL _), uw]
theorem Sw.afp (row : List Nat) (h : Marks row) : Sw row (srt row) := by
 obtain ⟨n, hn⟩ : ∃ n, row.length = n := ⟨_, rfl⟩
 induction n generalizing row with
 | zero => rw [List.eq_nil_of_length_eq_zero hn]; rw [show srt [] = [] from List.eq_nil_of_length_eq_zero (pX [])]; exact .refl _
 | succ n ih =>
  have hB : row ≠ [] := fun e => by rw [e] at hn; cases hn
  obtain ⟨B, x, rfl⟩ := wZ hB
  have hl : B.length = n := by rw [List.length_append] at hn; simpa using hn
  have hmB : Marks B := fun z hz => h z (by simp [hz])
  have h1 := ih B hmB hl
  rw [Oq]
  refine (h1.append (.refl [x])).trans ?_
  unfold QS
  conv => lhs; rw [← afo (fun y => decide (cls y ≤ cls x)) (srt B)]
  exact Sw.back (h x (by simp)) _ _ _ rfl fun y hy => ⟨hmB y (En.1 ((List.dropWhile_sublist _).subset hy)), by have := Ac (dL B) y hy; omega⟩
theorem Sw.ofOrd (l : List Nat) : Sw l (fO l) := by
 refine pY (P := fun l => Sw l (fO l)) (fun A h => ?_) (fun A s B h hs ih => ?_) l
 · rw [iV h]; exact Sw.afp A h
 · rw [iF hs, iV h]
   have := (Sw.afp A h).append ((Sw.refl [s]).append ih)
   simpa using this
def Eqv (a b : List Nat) : Prop := fO a = fO b
theorem Eqv.sw {a b : List Nat} (h : Eqv a b) : Sw a b := by
 have := Sw.ofOrd a
 rw [show fO a = fO b from h] at this
 exact this.trans (Sw.ofOrd b).symm
theorem Eqv.append {a b c d : List Nat} (h : Eqv a b) (k : Eqv c d) : Eqv (a ++ c) (b ++ d) := (h.sw.append k.sw).ord
def uV (f : Nat → Nat) (c : Nat) : Nat → Nat
 | 0 => 0
 | k + 1 => if f k ≤ c then k + 1 else uV f c k
noncomputable def oK (T : List Nat) (k : Nat) : Nat := cls (T.getD k 0)
theorem EX {f g : Nat → Nat} {c : Nat} : ∀ {n : Nat}, (∀ k, k < n → f k = g k) → uV f c n = uV g c n
 | 0, _ => rfl
 | n + 1, h => by unfold uV; rw [h n (by omega), EX fun k hk => h k (by omega)]
theorem Vq (f : Nat → Nat) (c : Nat) : ∀ n, uV f c n ≤ n
 | 0 => Nat.le_refl _
 | n + 1 => by unfold uV; split
               · exact Nat.le_refl _
               · have := Vq f c n; omega
noncomputable def og (T : List Nat) (x : Nat) : List Nat := if cls x = 0 then T ++ [x] else T.take (uV (oK T) (cls x) T.length) ++ x :: T.drop (uV (oK T) (cls x) T.length)
noncomputable def adn (l : List Nat) : List Nat := l.foldl og []
theorem Di (x : Nat) (O : List Nat) (hO : O = [] ∨ ∃ O' s, O = O' ++ [s] ∧ cls s = 0) : ∀ (n : Nat) (S : List Nat), S.length = n → eF S →
    uV (oK (O ++ S)) (cls x) (O ++ S).length = O.length + (S.takeWhile (fun y => decide (cls y ≤ cls x))).length
 | 0, S, hn, _ => by
  rw [List.eq_nil_of_length_eq_zero hn]
  simp only [List.append_nil, List.takeWhile_nil, List.length_nil, Nat.add_zero]
  rcases hO with rfl | ⟨O', s, rfl, hs⟩
  · rfl
  · rw [List.length_append, List.length_singleton, uV, if_pos]
    unfold oK
    simp [List.getD, hs]
 | n + 1, S, hn, hS => by
  have hB : S ≠ [] := fun e => by rw [e] at hn; cases hn
  obtain ⟨B, y, rfl⟩ := wZ hB
  have hl : B.length = n := by rw [List.length_append] at hn; simpa using hn
  have hS' := List.pairwise_append.1 hS
  have e : (O ++ (B ++ [y])).length = (O ++ B).length + 1 := by simp; omega
  rw [e, uV]
  have e2 : oK (O ++ (B ++ [y])) (O ++ B).length = cls y := by
   unfold oK
   rw [← List.append_assoc]; simp [List.getD]
  rw [e2]
  by_cases hy : cls y ≤ cls x
  · rw [if_pos hy]
    have : (B ++ [y]).takeWhile (fun y => decide (cls y ≤ cls x)) = B ++ [y] := by
     refine Zg fun z hz => ?_
     rcases List.mem_append.1 hz with hz | hz
     · have := hS'.2.2 z hz y (by simp); simp; omega
     · simp only [List.mem_singleton] at hz; subst hz; simpa using hy
    rw [this]; simp; omega
  · rw [if_neg hy, EX (g := oK (O ++ B)) fun k hk => by
      unfold oK
      rw [← List.append_assoc, List.getD, List.getElem?_append_left hk]; rfl]
    rw [Di x O hO n B hl hS'.1]
    congr 2
    rw [List.takeWhile_append]
    split
    · rename_i h
      rw [List.takeWhile_cons, if_neg (by simpa using hy), List.append_nil]
      exact (List.takeWhile_sublist _).eq_of_length h
    · rfl
theorem EY : ∀ (l O row : List Nat), (O = [] ∨ ∃ O' s, O = O' ++ [s] ∧ cls s = 0) → l.foldl og (O ++ srt row) = O ++ mF row l
 | [], O, row, _ => by rw [BX]; rfl
 | c :: l, O, row, hO => by
  rw [List.foldl_cons]
  by_cases hc : cls c = 0
  · rw [uy hc]
    have e : og (O ++ srt row) c = (O ++ srt row ++ [c]) ++ srt [] := by unfold og; rw [if_pos hc]; simp [srt]
    rw [e, EY l (O ++ srt row ++ [c]) [] (.inr ⟨_, c, rfl, hc⟩)]
    simp
  · rw [nG hc]
    have e : og (O ++ srt row) c = O ++ srt (row ++ [c]) := by
     unfold og
     rw [if_neg hc, Di c O hO _ (srt row) rfl (dL row), Oq, QS, List.take_length_add_append, List.drop_length_add_append, (Eo _).1, (Eo _).2, List.append_assoc]
    rw [e, EY l O (row ++ [c]) hO]
theorem MG (l : List Nat) : adn l = fO l := by
 have := EY l [] [] (.inl rfl)
 simpa [srt, adn, fO] using this
end Go.Proofs.YthlflglkdaainaaGreatDoor
