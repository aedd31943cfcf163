import Derived.Deep.RegionHeld3
import Derived.BigQuiet
import Derived.Test.YthlflglkdaainaaGreatDoorGM
import Derived.Test.YthlflglkdaainaaGreatDoorGN
/- Texts of this seat: KP. -/
set_option maxRecDepth 100000
set_option maxHeartbeats 16000000
namespace Go.Proofs.YthlflglkdaainaaGreatDoor
open Go.Lib
def uh : List UInt8 → Nat → Option Nat
 | [], c => some c
 | x :: t, c => if x.toNat < 128 ∨ 191 < x.toNat then none else uh t ((64 * c + (x.toNat - 128)) % 4294967296)
def Ir (n b0 : Nat) : Nat := if n = 2 then (b0 + 4294967296 - 192) % 4294967296 else if n = 3 then (b0 + 4294967296 - 224) % 4294967296 else if n = 4 then (b0 + 4294967296 - 240) % 4294967296 else b0
def EM (b : List UInt8) (n : Nat) : Option Nat := uh ((b.take n).drop 1) (Ir n (b.getD 0 0).toNat)
theorem adb (n b0 : Nat) (h : b0 < 256) : Ir n b0 < 4294967296 := by
 unfold Ir
 repeat' split
 all_goals omega
theorem YV {c : Nat} (h : fB c) (t : List UInt8) : EM (jM c ++ t) (wid c) = some c := by
 unfold fB at h
 have ht : (jM c ++ t).take (wid c) = jM c := by rw [← nY, List.take_left]
 unfold EM
 rw [ht]
 unfold jM wid
 split
 · rename_i h1
   simp only [List.cons_append, List.getD_cons_zero, List.drop_succ_cons, List.drop_zero, uh]
   rw [dS _ (by omega)]
   unfold Ir
   rw [if_neg (by omega), if_neg (by omega), if_neg (by omega)]
 · split
   · rename_i h0 h1
     simp only [List.cons_append, List.getD_cons_zero, List.drop_succ_cons, List.drop_zero, uh]
     rw [dS _ (by omega), dS _ (by omega), if_neg (by omega)]
     unfold Ir
     rw [if_pos rfl]
     exact congrArg some (by omega)
   · split
     · rename_i h00 h0 h1
       simp only [List.cons_append, List.getD_cons_zero, List.drop_succ_cons, List.drop_zero, uh]
       rw [dS _ (by omega), dS _ (by omega), dS _ (by omega), if_neg (by omega), if_neg (by omega)]
       unfold Ir
       rw [if_neg (by omega), if_pos rfl]
       exact congrArg some (by omega)
     · rename_i h000 h00 h0
       simp only [List.cons_append, List.getD_cons_zero, List.drop_succ_cons, List.drop_zero, uh]
       rw [dS _ (by omega), dS _ (by omega), dS _ (by omega), dS _ (by omega), if_neg (by omega), if_neg (by omega), if_neg (by omega)]
       unfold Ir
       rw [if_neg (by omega), if_neg (by omega), if_pos rfl]
       exact congrArg some (by omega)
def mX (c : Nat) : List UInt8 := if fB c then jM c else []
def xZ (c : Nat) : Nat := if fB c then wid c else 0
def nZ (b : List UInt8) (n : Nat) : Bool := match EM b n with | some c => decide (xZ c = n ∧ mX c = b.take n) | none => false
def Md (b : List UInt8) : Prop := (decodeL b).1 = 65533 ∧ (decodeL b).2 = 1
theorem Ve {b : List UInt8} {n c : Nat} (hn : 1 ≤ n) (hc : EM b n = some c) (h : xZ c = n ∧ mX c = b.take n) : decodeL b = (c, n) ∧ ¬ Md b := by
 obtain ⟨h1, h2⟩ := h
 unfold xZ at h1
 unfold mX at h2
 by_cases hcp : fB c
 · rw [if_pos hcp] at h1 h2
   have hb : jM c ++ b.drop n = b := by rw [h2, List.take_append_drop]
   have hd := Vf hcp (b.drop n)
   rw [hb, h1] at hd
   refine ⟨hd, fun hbad => ?_⟩
   unfold Md at hbad
   rw [hd] at hbad
   obtain ⟨e1, e2⟩ := hbad
   simp only at e1 e2
   subst e1 e2
   revert h1; decide
 · rw [if_neg hcp] at h1; omega
theorem YW {b : List UInt8} (hne : b ≠ []) (hg : ¬ Md b) : EM b (decodeL b).2 = some (decodeL b).1 ∧ xZ (decodeL b).1 = (decodeL b).2 ∧ mX (decodeL b).1 = b.take (decodeL b).2 := by
 obtain ⟨h1, h2, h3, h4⟩ := yF hne hg
 refine ⟨?_, ?_, ?_⟩
 · have := YV h1 (b.drop (decodeL b).2)
   rw [h2, List.take_append_drop, ← h3] at this
   exact this
 · unfold xZ; rw [if_pos h1, ← h3]
 · unfold mX; rw [if_pos h1, h2]
theorem rZ {b : List UInt8} {n : Nat} (hne : b ≠ []) (hn : 1 ≤ n) : nZ b n = true ↔ ¬ Md b ∧ (decodeL b).2 = n := by
 constructor
 · intro h
   unfold nZ at h
   cases hc : EM b n with
   | none => rw [hc] at h; cases h
   | some c =>
    rw [hc] at h
    obtain ⟨h1, h2⟩ := Ve hn hc (of_decide_eq_true h)
    exact ⟨h2, by rw [h1]⟩
 · rintro ⟨hg, rfl⟩
   obtain ⟨h1, h2⟩ := YW hne hg
   unfold nZ
   rw [h1]
   exact decide_eq_true h2
noncomputable def BN (b : List UInt8) : Nat := if nZ b 1 || nZ b 2 || nZ b 3 || nZ b 4 then (decodeL b).1 else 0
noncomputable def qF (b : List UInt8) : Nat := if nZ b 1 || nZ b 2 || nZ b 3 || nZ b 4 then (decodeL b).2 else 0
theorem YX {b : List UInt8} {n : Nat} (hne : b ≠ []) (hn : 1 ≤ n) (h : nZ b n = true) : n ≤ b.length ∧ n ≤ 4 := by
 obtain ⟨h1, h2⟩ := (rZ hne hn).1 h
 obtain ⟨_, _, h3, h4⟩ := yF hne h1
 have := (nO (decodeL b).1).2
 omega
theorem Me {b : List UInt8} (hne : b ≠ []) (h : Md b) : BN b = 0 ∧ qF b = 0 := by
 have hf : ∀ n, 1 ≤ n → nZ b n = false := fun n hn => by
  rw [← Bool.not_eq_true]; intro h'; exact ((rZ hne hn).1 h').1 h
 unfold BN qF
 rw [hf 1 (by omega), hf 2 (by omega), hf 3 (by omega), hf 4 (by omega)]
 exact ⟨rfl, rfl⟩
theorem zU {b : List UInt8} (hne : b ≠ []) (h : ¬ Md b) : BN b = (decodeL b).1 ∧ qF b = (decodeL b).2 := by
 obtain ⟨_, _, h3, h4⟩ := yF hne h
 have hw := nO (decodeL b).1
 have hh : (nZ b 1 || nZ b 2 || nZ b 3 || nZ b 4) = true := by
  have : (decodeL b).2 = 1 ∨ (decodeL b).2 = 2 ∨ (decodeL b).2 = 3 ∨ (decodeL b).2 = 4 := by omega
  rcases this with e | e | e | e
  · rw [(rZ hne (by omega)).2 ⟨h, e⟩]; rfl
  · rw [(rZ (n := 2) hne (by omega)).2 ⟨h, e⟩]; simp
  · rw [(rZ (n := 3) hne (by omega)).2 ⟨h, e⟩]; simp
  · rw [(rZ (n := 4) hne (by omega)).2 ⟨h, e⟩]; simp
 unfold BN qF
 rw [if_pos hh, if_pos hh]
 exact ⟨rfl, rfl⟩
theorem wU {b : List UInt8} (hne : b ≠ []) : codes b = if qF b = 0 then none else (codes (b.drop (qF b))).map (BN b :: ·) := by
 rw [pV b hne]
 by_cases h : Md b
 · rw [if_pos (show (decodeL b).1 = 65533 ∧ (decodeL b).2 = 1 from h), if_pos (Me hne h).2]
 · have hw := decodeL_width b
   obtain ⟨h1, h2⟩ := zU hne h
   rw [if_neg (show ¬ ((decodeL b).1 = 65533 ∧ (decodeL b).2 = 1) from h), if_neg (by omega), h1, h2]
theorem Vg {b : List UInt8} (hne : b ≠ []) : qF b ≤ b.length := by
 by_cases h : Md b
 · rw [(Me hne h).2]; omega
 · rw [(zU hne h).2]; exact (yF hne h).2.2.2
theorem QI {b : List UInt8} (hne : b ≠ []) : BN b < 4294967296 := by
 by_cases h : Md b
 · rw [(Me hne h).1]; decide
 · rw [(zU hne h).1]; exact yG (yF hne h).1
open Go.RowKit Go.Lib
theorem byteCells_append (a b : List UInt8) : byteCells (a ++ b) = byteCells a ++ byteCells b := by simp [byteCells]
theorem Bs.hi {w : World} {ao : Option Addr} {n cap k : Nat} {b : List UInt8} (h : Bs w (.slice ao n cap) b) (hk : k ≤ b.length) : Bs w (.slice ao k cap) (b.take k) := by
 obtain ⟨a, c, e, h1, h2, h3, h4⟩ := h
 injection e with e1 e2 e3
 subst e1 e3
 have hl : (b.take k).length = k := by rw [List.length_take]; omega
 refine ⟨ao, cap, by rw [hl], by rw [hl]; omega, h2, h3, fun j hj => ?_⟩
 rw [hl] at hj
 obtain ⟨g, o, e, hc⟩ := h4 j (by omega)
 exact ⟨g, o, e, by rw [hc, List.getD, List.getD, List.getElem?_take_of_lt hj]⟩
theorem Bs.lo {w : World} {ao : Option Addr} {n cap k : Nat} {b : List UInt8} (h : Bs w (.slice ao n cap) b) (hk : k ≤ b.length) : Bs w (.slice (MB ao cap k) (n - k) (cap - k)) (b.drop k) := by
 obtain ⟨a, c, e, h1, h2, h3, h4⟩ := h
 injection e with e1 e2 e3
 subst e1 e2 e3
 refine ⟨MB ao cap k, cap - k, by rw [List.length_drop], by rw [List.length_drop]; omega, by omega, fun e => ?_, fun j hj => ?_⟩
 · unfold MB at e
   split at e
   · omega
   · cases ao with
     | none => have := h3 rfl; omega
     | some a => cases e
 · rw [List.length_drop] at hj
   obtain ⟨g, o, e, hcl⟩ := h4 (k + j) (by omega)
   subst e
   unfold MB
   rw [if_neg (by omega)]
   refine ⟨g, o + k, by rw [Option.map_some, Vh], ?_⟩
   rw [Nat.add_assoc, hcl, List.getD, List.getD, List.getElem?_drop]
theorem ade (ao : Option Addr) (n cap k : Nat) (hk : k ≤ cap) (hao : ao = none → cap = 0) (W : World) : (Instr.slice 46 (.slice ao n cap) none (some (.int .i64 (k : Int))) none).run Tryz.prog W = .ok (.slice ao k cap) W := by
 rw [run_slice_h (P := Tryz.prog) W 46 ao n cap (by kernel_rfl) .i64 k (by omega) (by omega)]
 have h : (sizeOf (Tryz.prog.elem 46)).run Tryz.prog W = .ok 1 W := by kernel_rfl
 rw [h]
 simp only [Result.andThen, sliced, Int.toNat_natCast]
 split
 · rfl
 · cases ao with
   | none => have := hao rfl; omega
   | some a => obtain ⟨g, o, sp⟩ := a; rfl
theorem Vj (ao : Option Addr) (n cap k : Nat) (hk : k ≤ n) (W : World) : (Instr.slice 46 (.slice ao n cap) (some (.int .i64 (k : Int))) none none).run Tryz.prog W = .ok (.slice (MB ao cap k) (n - k) (cap - k)) W := by
 rw [run_slice_l (P := Tryz.prog) W 46 ao n cap (by kernel_rfl) .i64 k (by omega) (by omega)]
 have h : (sizeOf (Tryz.prog.elem 46)).run Tryz.prog W = .ok 1 W := by kernel_rfl
 rw [h]
 simp only [Result.andThen, sliced, Int.toNat_natCast, MB, Nat.mul_one]
theorem adf (v : Value) (lo hi mx : Option Value) (W : World) : (Instr.sliceAt 46 v lo hi mx).run Tryz.prog W = (Instr.slice 46 v lo hi mx).run Tryz.prog W := run_sliceAt_slice (P := Tryz.prog) W 46 _ _ _ _ (by kernel_rfl)
theorem BO {w : World} {ops : Array Oper} {rest : List Oper} {o : Oper} {a : Act} {Q : Exit → Act → World → Prop} (hgd : o.guard = none) (s x : Operand)
    (ho : o.op = .call { callee := .builtin .append, args := #[s, x], argTypes := #[46, 46] })
    (base : Nat) (v : Value) (K M : List UInt8) (hs : a.eval s = v) (hown : w.ownsRow base 5 1 v K.length (byteCells K)) (u : Value) (hx : a.eval x = u) (hM : Bs w u M)
    (hbig : K.length + M.length ≤ 1000000) (hbase : base ≤ w.heap.size)
    (h : ∀ v' w', w'.ownsRow base 5 1 v' (K ++ M).length (byteCells (K ++ M)) → w.grownBy w' v.ownBlock → wpList Tryz.prog ops Q rest (a.put o.dst v') w') :
    wpList Tryz.prog ops Q (o :: rest) a w := by
 obtain ⟨i0, hi, hz0, hz1, hz2⟩ := info_parts wV
 obtain ⟨ao, cap, rfl, _, _, h0, h2⟩ := hM
 cases ao with
 | none =>
  have hc := h0 rfl
  have hM0 : M.length = 0 := by
   rcases Nat.eq_zero_or_pos M.length with h | h
   · exact h
   · obtain ⟨g, o, e, _⟩ := h2 0 h; cases e
  have hM1 : M = [] := List.eq_nil_of_length_eq_zero hM0
  subst hM1 hc
  refine wpList_append_own_none hgd s x _ ho base 5 i0 1 Tryz.underlying46 hi v _ _ hs hown hx ?_
  have := h v w (by rw [List.append_nil]; exact hown) ⟨rfl, rfl, rfl, Nat.le_refl _, fun _ _ _ => rfl⟩
  exact this
 | some ad =>
  refine wpList_append_own _ hgd s x _ ho base 5 i0 (.int .u8 0) 1 1 Tryz.underlying46 hi hz0 hz1 hz2 rfl (by decide) v _ _ hs hown ad M.length cap (byteCells M) hx (by rw [rF]; omega) (fun j y hj => ?_)
   (fun x hx => by unfold byteCells at hx; rw [List.mem_map] at hx; obtain ⟨y, _, rfl⟩ := hx; rfl) (by unfold maxLen; omega) (by omega) hbase ?_
  · have hjl : j < M.length := by have := (List.getElem?_eq_some_iff.1 hj).1; rwa [rF] at this
    obtain ⟨g', o', e', hc⟩ := h2 j hjl
    cases e'
    unfold byteCells at hj
    rw [List.getElem?_map, List.getElem?_eq_getElem hjl] at hj
    simp only [Option.map_some, Option.some.injEq] at hj
    rw [addr_add, hc, ← hj]
    simp [List.getD, hjl]
  · intro v' w' h3 h4 _
    exact h v' w' (agr h3 (by rw [List.length_append]) (byteCells_append _ _).symm) h4
theorem zV (W : World) (b : List UInt8) (n : Nat) (cs : Array Value) (hn : n = b.length) (hc : cs.toList = byteCells b) (hl : b.length ≤ 20000) : (W.alloc (.cells cs 5)).ownsRow W.heap.size 5 1 (.slice (some ⟨W.heap.size, 0, none⟩) n n) b.length (byteCells b) := by
 subst hn
 have hsz : cs.size = b.length := by rw [← Array.length_toList, hc, rF]
 have : (W.alloc (.cells cs 5)).ownsRow W.heap.size 5 1 (.slice (some ⟨W.heap.size, 0, none⟩) b.length b.length) b.length cs.toList := World.ownsRow_lit W cs b.length (Nat.le_refl _) (by unfold maxLen; omega) (by omega)
 rw [hc] at this; exact this
theorem IZ (c : Nat) (w : World) : Calls Tryz.prog 137 #[.int .u32 (c : Int)] w fun e w' => e = .returned (.bool (decide (fB c))) ∧ w = w' := by
 by_cases h1 : c ≤ 1114111
 · have h1z : (c : Int) ≤ 1114111 := by omega
   by_cases h2 : c < 55296
   · have h2z : (c : Int) < 55296 := by omega
     rw [decide_eq_true (show fB c by unfold fB; omega)]
     clear h1 h2
     go_enter Tryz.func137, Tryz.ntmps137
     go_wp2
     go_ret
     exact ⟨rfl, rfl⟩
   · have h2z : ¬ (c : Int) < 55296 := by omega
     have h2d : decide ((c : Int) < 55296) = false := decide_eq_false h2z
     by_cases h3 : 57343 < c
     · have h3z : (57343 : Int) < (c : Int) := by omega
       rw [decide_eq_true (show fB c by unfold fB; omega)]
       clear h1 h2 h3
       go_enter Tryz.func137, Tryz.ntmps137
       go_wp2
       go_ret
       exact ⟨rfl, rfl⟩
     · have h3z : ¬ (57343 : Int) < (c : Int) := by omega
       have h3d : decide ((57343 : Int) < (c : Int)) = false := decide_eq_false h3z
       rw [decide_eq_false (show ¬ fB c by unfold fB; omega)]
       clear h1 h2 h3
       go_enter Tryz.func137, Tryz.ntmps137
       go_wp2
       go_ret
       exact ⟨rfl, rfl⟩
 · have h1z : ¬ (c : Int) ≤ 1114111 := by omega
   have h1d : decide ((c : Int) ≤ 1114111) = false := decide_eq_false h1z
   rw [decide_eq_false (show ¬ fB c by unfold fB; omega)]
   clear h1
   go_enter Tryz.func137, Tryz.ntmps137
   go_wp2
   go_ret
   exact ⟨rfl, rfl⟩
theorem Oh (c : Nat) (w : World) : Calls Tryz.prog 170 #[.int .u32 (c : Int)] w fun e w' => e = .returned (.int .i64 (xZ c : Int)) ∧ w = w' := by
 have H := IZ c w
 by_cases hc : fB c
 · rw [decide_eq_true hc] at H
   have H := hid H
   have hw : xZ c = wid c := by unfold xZ; rw [if_pos hc]
   rw [hw]
   unfold wid
   clear hw hc
   by_cases h1 : c < 128
   · have h1z : (c : Int) < 128 := by omega
     rw [if_pos h1]
     clear h1
     go_enter Tryz.func170, Tryz.ntmps170
     go_wp2_with (go_at_call 137; refine H.out.mono ?_; clear H; rintro e w1 ⟨rfl, rfl⟩)
     go_ret
     exact ⟨rfl, rfl⟩
   · have h1z : ¬ (c : Int) < 128 := by omega
     have h1d : decide ((c : Int) < 128) = false := decide_eq_false h1z
     rw [if_neg h1]
     clear h1
     by_cases h2 : c < 2048
     · have h2z : (c : Int) < 2048 := by omega
       rw [if_pos h2]
       clear h2
       go_enter Tryz.func170, Tryz.ntmps170
       go_wp2_with (go_at_call 137; refine H.out.mono ?_; clear H; rintro e w1 ⟨rfl, rfl⟩)
       go_ret
       exact ⟨rfl, rfl⟩
     · have h2z : ¬ (c : Int) < 2048 := by omega
       have h2d : decide ((c : Int) < 2048) = false := decide_eq_false h2z
       rw [if_neg h2]
       clear h2
       by_cases h3 : c < 65536
       · have h3z : (c : Int) < 65536 := by omega
         rw [if_pos h3]
         clear h3
         go_enter Tryz.func170, Tryz.ntmps170
         go_wp2_with (go_at_call 137; refine H.out.mono ?_; clear H; rintro e w1 ⟨rfl, rfl⟩)
         go_ret
         exact ⟨rfl, rfl⟩
       · have h3z : ¬ (c : Int) < 65536 := by omega
         have h3d : decide ((c : Int) < 65536) = false := decide_eq_false h3z
         rw [if_neg h3]
         clear h3
         go_enter Tryz.func170, Tryz.ntmps170
         go_wp2_with (go_at_call 137; refine H.out.mono ?_; clear H; rintro e w1 ⟨rfl, rfl⟩)
         go_ret
         exact ⟨rfl, rfl⟩
 · rw [decide_eq_false hc] at H
   have H := hid H
   have hw : xZ c = 0 := by unfold xZ; rw [if_neg hc]
   rw [hw]
   clear hw hc
   go_enter Tryz.func170, Tryz.ntmps170
   go_wp2_with (go_at_call 137; refine H.out.mono ?_; clear H; rintro e w1 ⟨rfl, rfl⟩)
   go_ret
   exact ⟨rfl, rfl⟩
def BP (c : Nat) (w : World) (e : Ending) (w' : World) : Prop := ∃ v, e = .returned v ∧ w'.ownsRow w.heap.size 5 1 v (mX c).length (byteCells (mX c)) ∧ Gr w w'
theorem YZ {c : Nat} (h : c < 128) : mX c = [UInt8.ofNat c] := by unfold mX jM; rw [if_pos (show fB c by unfold fB; omega), if_pos h]
theorem enc1 (a : Nat) (ha : a < 256) : byteCells [UInt8.ofNat a] = [.int .u8 (a : Int)] := by simp only [byteCells, List.map_cons, List.map_nil]; rw [dS _ ha]
theorem enc2 (a b : Nat) (ha : a < 256) (hb : b < 256) : byteCells [UInt8.ofNat a, UInt8.ofNat b] = [.int .u8 (a : Int), .int .u8 (b : Int)] := by simp only [byteCells, List.map_cons, List.map_nil]; rw [dS _ ha, dS _ hb]
theorem enc3 (a b c : Nat) (ha : a < 256) (hb : b < 256) (hc : c < 256) : byteCells [UInt8.ofNat a, UInt8.ofNat b, UInt8.ofNat c] = [.int .u8 (a : Int), .int .u8 (b : Int), .int .u8 (c : Int)] := by simp only [byteCells, List.map_cons, List.map_nil]; rw [dS _ ha, dS _ hb, dS _ hc]
theorem enc4 (a b c d : Nat) (ha : a < 256) (hb : b < 256) (hc : c < 256) (hd : d < 256) : byteCells [UInt8.ofNat a, UInt8.ofNat b, UInt8.ofNat c, UInt8.ofNat d] = [.int .u8 (a : Int), .int .u8 (b : Int), .int .u8 (c : Int), .int .u8 (d : Int)] := by simp only [byteCells, List.map_cons, List.map_nil]; rw [dS _ ha, dS _ hb, dS _ hc, dS _ hd]
theorem Oi (c : Nat) (w : World) : Calls Tryz.prog 138 #[.int .u32 (c : Int)] w (BP c w) := by
 have H := Oh c w
 by_cases hc : fB c
 · have hw : xZ c = wid c := by unfold xZ; rw [if_pos hc]
   have hp : mX c = jM c := by unfold mX; rw [if_pos hc]
   rw [hw] at H
   unfold fB at hc
   by_cases h1 : c < 128
   · rw [show wid c = 1 by unfold wid; rw [if_pos h1]] at H
     have hl : mX c = [UInt8.ofNat c] := YZ h1
     have hcz : (c : Int) < 128 := by omega
     have hc0 : (0 : Int) ≤ c := by omega
     have HF : Hid (∀ W : World, BP c W (.returned (.slice (some ⟨W.heap.size, 0, none⟩) 1 1)) (W.alloc (.cells #[.int .u8 (c : Int)] 5))) := fun W => ⟨_, rfl, zV W (mX c) 1 _ (by rw [hl]; rfl) (by rw [hl, enc1 _ (by omega)]) (by rw [hl]; simp), Gr.alloc _ _⟩
     have H := hid H
     clear hw hp hc h1 hl
     go_enter Tryz.func138, Tryz.ntmps138
     go_wp2_with (go_at_call 170; refine H.out.mono ?_; clear H; rintro e w1 ⟨rfl, rfl⟩)
     go_ret
     exact HF.out _
   · by_cases h2 : c < 2048
     · rw [show wid c = 2 by unfold wid; rw [if_neg h1, if_pos h2]] at H
       have hl : mX c = [UInt8.ofNat (192 + c / 64), UInt8.ofNat (128 + c % 64)] := by rw [hp]; unfold jM; rw [if_neg h1, if_pos h2]
       have hcz : (c : Int) < 2048 := by omega
       have hc0 : (0 : Int) ≤ c := by omega
       have HF : Hid (∀ W : World, BP c W (.returned (.slice (some ⟨W.heap.size, 0, none⟩) 2 2)) (W.alloc (.cells #[.int .u8 (192 + (c : Int) / 64), .int .u8 (128 + (c : Int) % 64)] 5))) := fun W => ⟨_, rfl, zV W (mX c) 2 _ (by rw [hl]; rfl) (by rw [hl, enc2 _ _ (by omega) (by omega)]; simp) (by rw [hl]; simp), Gr.alloc _ _⟩
       have H := hid H
       clear hw hp hc h1 h2 hl
       go_enter Tryz.func138, Tryz.ntmps138
       go_wp2_with (go_at_call 170; refine H.out.mono ?_; clear H; rintro e w1 ⟨rfl, rfl⟩)
       go_ret
       exact HF.out _
     · by_cases h3 : c < 65536
       · rw [show wid c = 3 by unfold wid; rw [if_neg h1, if_neg h2, if_pos h3]] at H
         have hl : mX c = [UInt8.ofNat (224 + c / 4096), UInt8.ofNat (128 + c / 64 % 64), UInt8.ofNat (128 + c % 64)] := by rw [hp]; unfold jM; rw [if_neg h1, if_neg h2, if_pos h3]
         have hcz : (c : Int) < 65536 := by omega
         have hc0 : (0 : Int) ≤ c := by omega
         have HF : Hid (∀ W : World, BP c W (.returned (.slice (some ⟨W.heap.size, 0, none⟩) 3 3)) (W.alloc (.cells #[.int .u8 (224 + (c : Int) / 4096), .int .u8 (128 + (c : Int) / 64 % 64), .int .u8 (128 + (c : Int) % 64)] 5))) := fun W => ⟨_, rfl, zV W (mX c) 3 _ (by rw [hl]; rfl) (by rw [hl, enc3 _ _ _ (by omega) (by omega) (by omega)]; simp) (by rw [hl]; simp), Gr.alloc _ _⟩
         have H := hid H
         clear hw hp hc h1 h2 h3 hl
         go_enter Tryz.func138, Tryz.ntmps138
         go_wp2_with (go_at_call 170; refine H.out.mono ?_; clear H; rintro e w1 ⟨rfl, rfl⟩)
         go_ret
         exact HF.out _
       · rw [show wid c = 4 by unfold wid; rw [if_neg h1, if_neg h2, if_neg h3]] at H
         have hl : mX c = [UInt8.ofNat (240 + c / 262144), UInt8.ofNat (128 + c / 4096 % 64), UInt8.ofNat (128 + c / 64 % 64), UInt8.ofNat (128 + c % 64)] := by rw [hp]; unfold jM; rw [if_neg h1, if_neg h2, if_neg h3]
         have hcz : (c : Int) ≤ 1114111 := by omega
         have hc0 : (0 : Int) ≤ c := by omega
         have HF : Hid (∀ W : World, BP c W (.returned (.slice (some ⟨W.heap.size, 0, none⟩) 4 4)) (W.alloc (.cells #[.int .u8 (240 + (c : Int) / 262144), .int .u8 (128 + (c : Int) / 4096 % 64), .int .u8 (128 + (c : Int) / 64 % 64), .int .u8 (128 + (c : Int) % 64)] 5))) := fun W => ⟨_, rfl, zV W (mX c) 4 _ (by rw [hl]; rfl) (by rw [hl, enc4 _ _ _ _ (by omega) (by omega) (by omega) (by omega)]; simp) (by rw [hl]; simp), Gr.alloc _ _⟩
         have H := hid H
         clear hw hp hc h1 h2 h3 hl
         go_enter Tryz.func138, Tryz.ntmps138
         go_wp2_with (go_at_call 170; refine H.out.mono ?_; clear H; rintro e w1 ⟨rfl, rfl⟩)
         go_ret
         exact HF.out _
 · rw [show xZ c = 0 by unfold xZ; rw [if_neg hc]] at H
   have hl : mX c = [] := by unfold mX; rw [if_neg hc]
   have HF : Hid (∀ W : World, BP c W (.returned (.slice none 0 0)) W) := fun W => ⟨_, rfl, by rw [hl]; exact World.ownsRow_nil _ _ _ _, Gr.refl _⟩
   have H := hid H
   clear hc hl
   go_enter Tryz.func138, Tryz.ntmps138
   go_wp2_with (go_at_call 170; refine H.out.mono ?_; clear H; rintro e w1 ⟨rfl, rfl⟩)
   go_ret
   exact HF.out _
def NumEnd (o : Option Nat) (e : Ending) : Prop := match o with | some c => e = .returned (.tuple #[.int .u32 (c : Int), .bool true]) | none => e = .returned (.tuple #[.int .u32 0, .bool false])
theorem zW {b : List UInt8} {n i : Nat} (hi : i < n) (hn : n ≤ b.length) : (b.take n).drop i = b.getD i 0 :: (b.take n).drop (i + 1) := by
 have hl : (b.take n).length = n := by rw [List.length_take]; omega
 rw [List.drop_eq_getElem_cons (by omega), List.getElem_take, List.getD, List.getElem?_eq_getElem (by omega)]; rfl
theorem Za (b : List UInt8) (n : Nat) (v : Value) (w : World) (hv : Bs w v b) (h1 : 1 ≤ n) (h4 : n ≤ 4) (hn : n ≤ b.length) (hl : b.length ≤ 100000) :
    Calls Tryz.prog 169 #[v, .int .i64 (n : Int)] w fun e w' => NumEnd (EM b n) e ∧ w = w' := by
 obtain ⟨ao, cap, rfl, _, _, _, hA⟩ := hv
 obtain ⟨g, o, rfl, hc0⟩ := hA 0 (by omega)
 have HA : Hid (∀ j, j < n → w.cell? ⟨g, o + j, none⟩ = some (.int .u8 ((b.getD j 0).toNat : Int))) := fun j hj => by
  obtain ⟨g', o', e, hc⟩ := hA j (by omega)
  cases e; exact hc
 rw [Nat.add_zero] at hc0
 obtain ⟨R, hR⟩ : ∃ R, EM b n = R := ⟨_, rfl⟩
 rw [hR]
 unfold EM at hR
 have hx := (b.getD 0 0).toNat_lt
 generalize (b.getD 0 0).toNat = x at hc0 hR hx
 have hx0 : (0 : Int) ≤ (x : Int) := by omega
 have hxz : (x : Int) < 256 := by omega
 obtain ⟨N, hN⟩ : ∃ N, b.length = N := ⟨_, rfl⟩
 have HNb := hid (show n ≤ b.length from hn)
 rw [hN] at hn hl ⊢
 have hN0 : (0 : Int) < (N : Int) := by omega
 have hsw : Ir n x < 4294967296 := adb n x (by omega)
 obtain ⟨s, hs⟩ : ∃ s, Ir n x = s := ⟨_, rfl⟩
 have hsz : n = 1 ∧ (s : Int) = (x : Int) ∨ n = 2 ∧ (s : Int) = ((x : Int) - 192) % 4294967296 ∨ n = 3 ∧ (s : Int) = ((x : Int) - 224) % 4294967296 ∨ n = 4 ∧ (s : Int) = ((x : Int) - 240) % 4294967296 := by
  unfold Ir at hs
  have : n = 1 ∨ n = 2 ∨ n = 3 ∨ n = 4 := by omega
  rcases this with rfl | rfl | rfl | rfl
  · rw [if_neg (by omega), if_neg (by omega), if_neg (by omega)] at hs; omega
  · rw [if_pos rfl] at hs; omega
  · rw [if_neg (by omega), if_pos rfl] at hs; omega
  · rw [if_neg (by omega), if_neg (by omega), if_pos rfl] at hs; omega
 rw [hs] at hR hsw
 have HR : Hid (uh ((b.take n).drop 1) s = R) := hR
 have HSW := hid hsw
 have HNN := hid hn
 have HLL := hid hl
 clear hR hA hs hN hsw h4 hn hl
 rcases hsz with ⟨rfl, hsz⟩ | ⟨rfl, hsz⟩ | ⟨rfl, hsz⟩ | ⟨rfl, hsz⟩
 · have hnN : (1 : Int) ≤ (N : Int) := by have := HNN.out; omega
   simp only [Int.cast_ofNat_Int]
   go_enter Tryz.func169, Tryz.ntmps169
   go_wp2_with fail
   go_loopw [6, 7] (fun s6 s7 wr => wr = w ∧ ∃ i c : Nat, 1 ≤ i ∧ i ≤ 1 ∧ s7 = .int .i64 i ∧ s6 = .int .u32 c ∧ c < 4294967296 ∧ Hid (uh ((b.take 1).drop i) c = R)) (fun _ s7 _ => 1 - (intOf s7).toNat)
   case atStart => exact ⟨rfl, 1, s, Nat.le_refl _, by omega, rfl, by first | (congr 1; omega) | (rw [hsz]), HSW.out, HR⟩
   case round =>
    obtain ⟨rfl, i, c, hi1, hi2, rfl, rfl, hc, HE⟩ := hrel
    clear HR HSW
    by_cases hlt : i < 1
    · have hltz : (i : Int) < 1 := by omega
      have hiN : (i : Int) < (N : Int) := by omega
      have hcell := HA.out i hlt
      have hE := HE.out
      rw [zW hlt HNb.out, uh] at hE
      have hyl := (b.getD i 0).toNat_lt
      generalize (b.getD i 0).toNat = y at hcell hE hyl
      have hy0 : (0 : Int) ≤ (y : Int) := by omega
      have hyz : (y : Int) < 256 := by omega
      by_cases hlo : y < 128
      · have EN : (y : Int) < 128 := by omega
        rw [if_pos (.inl hlo)] at hE
        subst hE
        clear hlo
        go_wp2_with fail
        go_ret2
        exact ⟨rfl, rfl⟩
      · have EN : ¬ (y : Int) < 128 := by omega
        have ags : decide ((y : Int) < 128) = false := decide_eq_false EN
        by_cases hhi : 191 < y
        · have EO : (191 : Int) < (y : Int) := by omega
          rw [if_pos (.inr hhi)] at hE
          subst hE
          clear hlo hhi
          go_wp2_with fail
          go_ret2
          exact ⟨rfl, rfl⟩
        · have EO : ¬ (191 : Int) < (y : Int) := by omega
          have agt : decide ((191 : Int) < (y : Int)) = false := decide_eq_false EO
          rw [if_neg (by omega)] at hE
          have HE2 := hid hE
          have agu : 128 ≤ (y : Int) := by omega
          clear hhi hE HE
          go_wp2_with fail
          go_roundw
          case rel => exact ⟨by first | rfl | trivial, i + 1, (64 * c + (y - 128)) % 4294967296, by omega, hlt, by go_num, by first | (congr 1; omega) | go_num, Nat.mod_lt _ (by decide), HE2⟩
          case measure => simp [intOf]; omega
    · have hltz : ¬ (i : Int) < 1 := by omega
      have hE := HE.out
      rw [List.drop_of_length_le (by rw [List.length_take]; omega), uh] at hE
      subst hE
      go_wp2_with fail
      go_ret2
      exact ⟨rfl, rfl⟩
 · have hnN : (2 : Int) ≤ (N : Int) := by have := HNN.out; omega
   simp only [Int.cast_ofNat_Int]
   go_enter Tryz.func169, Tryz.ntmps169
   go_wp2_with fail
   go_loopw [6, 7] (fun s6 s7 wr => wr = w ∧ ∃ i c : Nat, 1 ≤ i ∧ i ≤ 2 ∧ s7 = .int .i64 i ∧ s6 = .int .u32 c ∧ c < 4294967296 ∧ Hid (uh ((b.take 2).drop i) c = R)) (fun _ s7 _ => 2 - (intOf s7).toNat)
   case atStart => exact ⟨rfl, 1, s, Nat.le_refl _, by omega, rfl, by first | (congr 1; omega) | (rw [hsz]), HSW.out, HR⟩
   case round =>
    obtain ⟨rfl, i, c, hi1, hi2, rfl, rfl, hc, HE⟩ := hrel
    clear HR HSW
    by_cases hlt : i < 2
    · have hltz : (i : Int) < 2 := by omega
      have hiN : (i : Int) < (N : Int) := by omega
      have hcell := HA.out i hlt
      have hE := HE.out
      rw [zW hlt HNb.out, uh] at hE
      have hyl := (b.getD i 0).toNat_lt
      generalize (b.getD i 0).toNat = y at hcell hE hyl
      have hy0 : (0 : Int) ≤ (y : Int) := by omega
      have hyz : (y : Int) < 256 := by omega
      by_cases hlo : y < 128
      · have EN : (y : Int) < 128 := by omega
        rw [if_pos (.inl hlo)] at hE
        subst hE
        clear hlo
        go_wp2_with fail
        go_ret2
        exact ⟨rfl, rfl⟩
      · have EN : ¬ (y : Int) < 128 := by omega
        have ags : decide ((y : Int) < 128) = false := decide_eq_false EN
        by_cases hhi : 191 < y
        · have EO : (191 : Int) < (y : Int) := by omega
          rw [if_pos (.inr hhi)] at hE
          subst hE
          clear hlo hhi
          go_wp2_with fail
          go_ret2
          exact ⟨rfl, rfl⟩
        · have EO : ¬ (191 : Int) < (y : Int) := by omega
          have agt : decide ((191 : Int) < (y : Int)) = false := decide_eq_false EO
          rw [if_neg (by omega)] at hE
          have HE2 := hid hE
          have agu : 128 ≤ (y : Int) := by omega
          clear hhi hE HE
          go_wp2_with fail
          go_roundw
          case rel => exact ⟨by first | rfl | trivial, i + 1, (64 * c + (y - 128)) % 4294967296, by omega, hlt, by go_num, by first | (congr 1; omega) | go_num, Nat.mod_lt _ (by decide), HE2⟩
          case measure => simp [intOf]; omega
    · have hltz : ¬ (i : Int) < 2 := by omega
      have hE := HE.out
      rw [List.drop_of_length_le (by rw [List.length_take]; omega), uh] at hE
      subst hE
      go_wp2_with fail
      go_ret2
      exact ⟨rfl, rfl⟩
 · have hnN : (3 : Int) ≤ (N : Int) := by have := HNN.out; omega
   simp only [Int.cast_ofNat_Int]
   go_enter Tryz.func169, Tryz.ntmps169
   go_wp2_with fail
   go_loopw [6, 7] (fun s6 s7 wr => wr = w ∧ ∃ i c : Nat, 1 ≤ i ∧ i ≤ 3 ∧ s7 = .int .i64 i ∧ s6 = .int .u32 c ∧ c < 4294967296 ∧ Hid (uh ((b.take 3).drop i) c = R)) (fun _ s7 _ => 3 - (intOf s7).toNat)
   case atStart => exact ⟨rfl, 1, s, Nat.le_refl _, by omega, rfl, by first | (congr 1; omega) | (rw [hsz]), HSW.out, HR⟩
   case round =>
    obtain ⟨rfl, i, c, hi1, hi2, rfl, rfl, hc, HE⟩ := hrel
    clear HR HSW
    by_cases hlt : i < 3
    · have hltz : (i : Int) < 3 := by omega
      have hiN : (i : Int) < (N : Int) := by omega
      have hcell := HA.out i hlt
      have hE := HE.out
      rw [zW hlt HNb.out, uh] at hE
      have hyl := (b.getD i 0).toNat_lt
      generalize (b.getD i 0).toNat = y at hcell hE hyl
      have hy0 : (0 : Int) ≤ (y : Int) := by omega
      have hyz : (y : Int) < 256 := by omega
      by_cases hlo : y < 128
      · have EN : (y : Int) < 128 := by omega
        rw [if_pos (.inl hlo)] at hE
        subst hE
        clear hlo
        go_wp2_with fail
        go_ret2
        exact ⟨rfl, rfl⟩
      · have EN : ¬ (y : Int) < 128 := by omega
        have ags : decide ((y : Int) < 128) = false := decide_eq_false EN
        by_cases hhi : 191 < y
        · have EO : (191 : Int) < (y : Int) := by omega
          rw [if_pos (.inr hhi)] at hE
          subst hE
          clear hlo hhi
          go_wp2_with fail
          go_ret2
          exact ⟨rfl, rfl⟩
        · have EO : ¬ (191 : Int) < (y : Int) := by omega
          have agt : decide ((191 : Int) < (y : Int)) = false := decide_eq_false EO
          rw [if_neg (by omega)] at hE
          have HE2 := hid hE
          have agu : 128 ≤ (y : Int) := by omega
          clear hhi hE HE
          go_wp2_with fail
          go_roundw
          case rel => exact ⟨by first | rfl | trivial, i + 1, (64 * c + (y - 128)) % 4294967296, by omega, hlt, by go_num, by first | (congr 1; omega) | go_num, Nat.mod_lt _ (by decide), HE2⟩
          case measure => simp [intOf]; omega
    · have hltz : ¬ (i : Int) < 3 := by omega
      have hE := HE.out
      rw [List.drop_of_length_le (by rw [List.length_take]; omega), uh] at hE
      subst hE
      go_wp2_with fail
      go_ret2
      exact ⟨rfl, rfl⟩
 · have hnN : (4 : Int) ≤ (N : Int) := by have := HNN.out; omega
   simp only [Int.cast_ofNat_Int]
   go_enter Tryz.func169, Tryz.ntmps169
   go_wp2_with fail
   go_loopw [6, 7] (fun s6 s7 wr => wr = w ∧ ∃ i c : Nat, 1 ≤ i ∧ i ≤ 4 ∧ s7 = .int .i64 i ∧ s6 = .int .u32 c ∧ c < 4294967296 ∧ Hid (uh ((b.take 4).drop i) c = R)) (fun _ s7 _ => 4 - (intOf s7).toNat)
   case atStart => exact ⟨rfl, 1, s, Nat.le_refl _, by omega, rfl, by first | (congr 1; omega) | (rw [hsz]), HSW.out, HR⟩
   case round =>
    obtain ⟨rfl, i, c, hi1, hi2, rfl, rfl, hc, HE⟩ := hrel
    clear HR HSW
    by_cases hlt : i < 4
    · have hltz : (i : Int) < 4 := by omega
      have hiN : (i : Int) < (N : Int) := by omega
      have hcell := HA.out i hlt
      have hE := HE.out
      rw [zW hlt HNb.out, uh] at hE
      have hyl := (b.getD i 0).toNat_lt
      generalize (b.getD i 0).toNat = y at hcell hE hyl
      have hy0 : (0 : Int) ≤ (y : Int) := by omega
      have hyz : (y : Int) < 256 := by omega
      by_cases hlo : y < 128
      · have EN : (y : Int) < 128 := by omega
        rw [if_pos (.inl hlo)] at hE
        subst hE
        clear hlo
        go_wp2_with fail
        go_ret2
        exact ⟨rfl, rfl⟩
      · have EN : ¬ (y : Int) < 128 := by omega
        have ags : decide ((y : Int) < 128) = false := decide_eq_false EN
        by_cases hhi : 191 < y
        · have EO : (191 : Int) < (y : Int) := by omega
          rw [if_pos (.inr hhi)] at hE
          subst hE
          clear hlo hhi
          go_wp2_with fail
          go_ret2
          exact ⟨rfl, rfl⟩
        · have EO : ¬ (191 : Int) < (y : Int) := by omega
          have agt : decide ((191 : Int) < (y : Int)) = false := decide_eq_false EO
          rw [if_neg (by omega)] at hE
          have HE2 := hid hE
          have agu : 128 ≤ (y : Int) := by omega
          clear hhi hE HE
          go_wp2_with fail
          go_roundw
          case rel => exact ⟨by first | rfl | trivial, i + 1, (64 * c + (y - 128)) % 4294967296, by omega, hlt, by go_num, by first | (congr 1; omega) | go_num, Nat.mod_lt _ (by decide), HE2⟩
          case measure => simp [intOf]; omega
    · have hltz : ¬ (i : Int) < 4 := by omega
      have hE := HE.out
      rw [List.drop_of_length_le (by rw [List.length_take]; omega), uh] at hE
      subst hE
      go_wp2_with fail
      go_ret2
      exact ⟨rfl, rfl⟩
theorem adg {a b : List UInt8} (h : a ≠ b) : ((dP a).toList == (dP b).toList) = false := by
 rw [toList_data, toList_data, fA, fA, ← Bool.not_eq_true, beq_iff_eq]; exact h
theorem Zb {a b : List UInt8} (h : dP a = dP b) : a = b := by rw [← fA a, h, fA]
theorem Zc {b : List UInt8} (hne : b ≠ []) {n : Nat} (h : ∀ m, 1 ≤ m → m < n → nZ b m = false) (hn : 4 < n ∨ b.length < n) : BN b = 0 ∧ qF b = 0 := by
 have hf : ∀ m, 1 ≤ m → nZ b m = false := fun m hm => by
  rw [← Bool.not_eq_true]
  intro hh
  have := YX hne hm hh
  rw [h m hm (by omega)] at hh; cases hh
 unfold BN qF
 rw [hf 1 (by omega), hf 2 (by omega), hf 3 (by omega), hf 4 (by omega)]
 exact ⟨rfl, rfl⟩
theorem adh {b : List UInt8} (hne : b ≠ []) {n c : Nat} (hn : 1 ≤ n) (hc : EM b n = some c) (h : xZ c = n ∧ mX c = b.take n) : BN b = c ∧ qF b = n := by
 obtain ⟨h1, h2⟩ := Ve hn hc h
 obtain ⟨h3, h4⟩ := zU hne h2
 rw [h3, h4, h1]; exact ⟨rfl, rfl⟩
theorem Oj (b : List UInt8) (hne : b ≠ []) (v : Value) (w : World) (hv : Bs w v b) (hl : b.length ≤ 100000) :
    Calls Tryz.prog 136 #[v] w fun e w' => e = .returned (.tuple #[.int .u32 (BN b : Int), .int .i64 (qF b : Int)]) ∧ Gr w w' := by
 have HV := hid hv
 obtain ⟨ao, cap, rfl, h1, h2, h3, _⟩ := hv
 obtain ⟨N, hN⟩ : ∃ N, b.length = N := ⟨_, rfl⟩
 rw [hN] at HV h1 hl ⊢
 have HN := hid hN
 have HNE := hid hne
 have hNz : (N : Int) ≤ 100000 := by omega
 have hN1 : 1 ≤ N := by rw [← hN]; exact List.length_pos_iff.2 hne
 have HCAP := hid h1
 have H3 := hid h3
 clear hN hne h1 h2 h3 hl
 go_enter Tryz.func136, Tryz.ntmps136
 go_wp2_with fail
 go_loopw [4] (fun s4 wr => ∃ n : Nat, 1 ≤ n ∧ n ≤ 5 ∧ s4 = .int .i64 n ∧ Hid (∀ m, 1 ≤ m → m < n → nZ b m = false) ∧ Gr w wr) (fun s4 _ => 5 - (intOf s4).toNat)
 case atStart => exact ⟨1, Nat.le_refl _, by omega, rfl, fun m h1 h2 => by omega, Gr.refl _⟩
 case round =>
  obtain ⟨n, hn1, hn5, rfl, HH, hgk⟩ := hrel
  by_cases h4 : n ≤ 4
  · have h4z : (n : Int) ≤ 4 := by omega
    by_cases hnN : n ≤ N
    · have hnNz : (n : Int) ≤ (N : Int) := by omega
      have zX := Za b n (.slice ao N cap) wr (HV.out.gr hgk) hn1 h4 (by rw [HN.out]; exact hnN) (by rw [HN.out]; omega)
      have HTK : Hid (Bs w (.slice ao n cap) (b.take n)) := HV.out.hi (by rw [HN.out]; exact hnN)
      have hcut : ∀ W, (Instr.slice 46 (.slice ao N cap) none (some (.int .i64 (n : Int))) none).run Tryz.prog W = .ok (.slice ao n cap) W := fun W => ade ao N cap n (by have := HCAP.out; omega) H3.out W
      have hcut' : ∀ W, (Instr.sliceAt 46 (.slice ao N cap) none (some (.int .i64 (n : Int))) none).run Tryz.prog W = .ok (.slice ao n cap) W := fun W => (adf _ _ _ _ W).trans (hcut W)
      cases hnum : EM b n with
      | none =>
       rw [hnum] at zX
       have zX := hid zX
       have HB : Hid (nZ b n = false) := by show _ = _; unfold nZ; rw [hnum]
       clear hnum
       go_wp2_with (go_at_call 169; refine zX.out.mono ?_; clear zX; rintro e w1 ⟨he, rfl⟩; simp only [NumEnd] at he; subst he)
       go_big_quiet (fail)
       go_wp2_with fail
       go_roundw
       case rel => exact ⟨n + 1, by omega, by omega, by go_num, fun m hm1 hm2 => (by rcases Nat.lt_or_eq_of_le (Nat.le_of_lt_succ hm2) with h | h; exact HH.out m hm1 h; rw [h]; exact HB.out), hgk.trans (Gr.drewN _ _)⟩
       case measure => simp [intOf]; omega
      | some c =>
       rw [hnum] at zX
       have zX := hid zX
       have HW := hid (fun W => Oh c W)
       obtain ⟨wd, hwd⟩ : ∃ wd, xZ c = wd := ⟨_, rfl⟩
       rw [hwd] at HW
       by_cases hwn : wd = n
       · subst hwn
         have HP := hid (fun W => Oi c W)
         by_cases heq : mX c = b.take wd
         · have HO := hid (adh HNE.out hn1 hnum ⟨hwd, heq⟩)
           have HSE : Hid (dP (mX c) = dP (b.take wd)) := by show _ = _; rw [heq]
           clear hnum hwd heq
           obtain ⟨SA, hSA⟩ : ∃ SA, dP (b.take wd) = SA := ⟨_, rfl⟩
           rw [hSA] at HSE
           obtain ⟨SP, hSP⟩ : ∃ SP, dP (mX c) = SP := ⟨_, rfl⟩
           rw [hSP] at HSE
           obtain rfl : SP = SA := HSE.out
           have HSA := hid hSA
           have HSP := hid hSP
           clear hSA hSP HSE
           go_wp2_with (go_at_call 169; refine zX.out.mono ?_; clear zX; rintro e w1 ⟨he, rfl⟩; simp only [NumEnd] at he; subst he)
           have hcv : ∀ W, Gr w W → (convert 46 9 (.slice ao wd cap)).run Tryz.prog W = .ok (.string SP) W := fun W g => by
            have := (HTK.out.gr g).conv 46 9 Tryz.underlying46 Tryz.underlying9
            rwa [HSA.out] at this
           have hgd : Gr w wr.drew := hgk.trans (Gr.drew _)
           have hcv1 := hcv _ hgd
           have hcv0 := hcv _ hgk
           have HCV := hid hcv
           clear hcv
           go_region_with
            (first
             | (go_at_call 170; (with_reducible refine (HW.out _).mono ?_); rintro e wa ⟨rfl, rfl⟩)
             | (go_at_call 138; (with_reducible refine (HP.out _).mono ?_); rintro e w2 ⟨v2, rfl, hv2, g2'⟩; have g2 : Gr w w2 := (by first | exact hgk.trans g2' | exact (hgk.trans (Gr.drew _)).trans g2'); have hcv2 := (Bs.jB hv2).conv 46 9 Tryz.underlying46 Tryz.underlying9; rw [HSP.out] at hcv2; have hcv3 := HCV.out w2 g2; clear hv2))
           all_goals
            go_wp2_with fail
            go_ret2
            refine ⟨?_, g2⟩
            rw [HO.out.1, HO.out.2]; rfl
         · have HB : Hid (nZ b wd = false) := by
             show _ = _
             unfold nZ
             rw [hnum]
             exact decide_eq_false (fun h => heq h.2)
           have hse := adg heq
           have hsn : ¬ dP (mX c) = dP (b.take wd) := fun h => heq (Zb h)
           clear hnum hwd heq
           obtain ⟨SA, hSA⟩ : ∃ SA, dP (b.take wd) = SA := ⟨_, rfl⟩
           obtain ⟨SP, hSP⟩ : ∃ SP, dP (mX c) = SP := ⟨_, rfl⟩
           rw [hSA, hSP] at hse hsn
           have HSA := hid hSA
           have HSP := hid hSP
           clear hSA hSP
           go_wp2_with (go_at_call 169; refine zX.out.mono ?_; clear zX; rintro e w1 ⟨he, rfl⟩; simp only [NumEnd] at he; subst he)
           have hcv : ∀ W, Gr w W → (convert 46 9 (.slice ao wd cap)).run Tryz.prog W = .ok (.string SA) W := fun W g => by
            have := (HTK.out.gr g).conv 46 9 Tryz.underlying46 Tryz.underlying9
            rwa [HSA.out] at this
           have hgd : Gr w wr.drew := hgk.trans (Gr.drew _)
           have hcv1 := hcv _ hgd
           have hcv0 := hcv _ hgk
           have HCV := hid hcv
           clear hcv
           go_region_with
            (first
             | (go_at_call 170; (with_reducible refine (HW.out _).mono ?_); rintro e wa ⟨rfl, rfl⟩)
             | (go_at_call 138; (with_reducible refine (HP.out _).mono ?_); rintro e w2 ⟨v2, rfl, hv2, g2'⟩; have g2 : Gr w w2 := (by first | exact hgk.trans g2' | exact (hgk.trans (Gr.drew _)).trans g2'); have hcv2 := (Bs.jB hv2).conv 46 9 Tryz.underlying46 Tryz.underlying9; rw [HSP.out] at hcv2; have hcv3 := HCV.out w2 g2; clear hv2))
           all_goals
            go_wp2_with fail
            go_roundw
            case rel => exact ⟨wd + 1, by omega, by omega, by go_num, fun m hm1 hm2 => (by rcases Nat.lt_or_eq_of_le (Nat.le_of_lt_succ hm2) with h | h; exact HH.out m hm1 h; rw [h]; exact HB.out), g2⟩
            case measure => simp [intOf]; omega
       · have hwz : ((wd : Int) == (n : Int)) = false := by rw [← Bool.not_eq_true, beq_iff_eq]; omega
         have hwz2 : ¬ (wd : Int) = (n : Int) := by omega
         have HB : Hid (nZ b n = false) := by
          show _ = _
          unfold nZ
          rw [hnum]
          exact decide_eq_false (fun h => hwn (hwd.symm.trans h.1))
         clear hnum hwd
         go_wp2_with (go_at_call 169; refine zX.out.mono ?_; clear zX; rintro e w1 ⟨he, rfl⟩; simp only [NumEnd] at he; subst he)
         clear hcut hcut'
         go_big_quiet (refine Calls.quiet_of_same ((HW.out _).mono fun e w' h => ⟨h.1, h.2.symm⟩))
         go_wp2_with fail
         go_roundw
         case rel => exact ⟨n + 1, by omega, by omega, by go_num, fun m hm1 hm2 => (by rcases Nat.lt_or_eq_of_le (Nat.le_of_lt_succ hm2) with h | h; exact HH.out m hm1 h; rw [h]; exact HB.out), hgk.trans (Gr.drewN _ _)⟩
         case measure => simp [intOf]; omega
    · have hnNz : ¬ (n : Int) ≤ (N : Int) := by omega
      have hnd : decide ((n : Int) ≤ (N : Int)) = false := decide_eq_false hnNz
      have HO := hid (Zc HNE.out HH.out (.inr (by rw [HN.out]; omega)))
      clear HH
      go_wp2_with fail
      go_ret2
      refine ⟨?_, hgk⟩
      rw [HO.out.1, HO.out.2]; rfl
  · have h4z : ¬ (n : Int) ≤ 4 := by omega
    have h4d : decide ((n : Int) ≤ 4) = false := decide_eq_false h4z
    have HO := hid (Zc HNE.out HH.out (.inl (by omega)))
    clear HH
    go_wp2_with fail
    go_ret2
    refine ⟨?_, hgk⟩
    rw [HO.out.1, HO.out.2]; rfl
def Wy (b : List UInt8) (w : World) (e : Ending) (w' : World) : Prop :=
 ((codes b = none ∧ e = .returned (.tuple #[.slice none 0 0, .int .i64 6])) ∨ ∃ L v', codes b = some L ∧ e = .returned (.tuple #[v', .int .i64 0]) ∧ w'.ownsRow w.heap.size 134 1 v' L.length (bZ L)) ∧ Gr w w'
def fG (b rest : List UInt8) (O : List Nat) : Prop := codes b = (codes rest).map (O ++ ·)
theorem fG.start (b : List UInt8) : fG b b [] := by
 unfold fG
 cases codes b <;> simp
theorem fG.bad {b rest : List UInt8} {O : List Nat} (h : fG b rest O) (hne : rest ≠ []) (h0 : qF rest = 0) : codes b = none := by
 unfold fG at h
 rw [h, wU hne, if_pos h0]; rfl
theorem fG.step {b rest : List UInt8} {O : List Nat} (h : fG b rest O) (hne : rest ≠ []) (h0 : qF rest ≠ 0) : fG b (rest.drop (qF rest)) (O ++ [BN rest]) := by
 unfold fG at h ⊢
 rw [h, wU hne, if_neg h0]
 cases codes (rest.drop (qF rest)) <;> simp
theorem fG.done {b : List UInt8} {O : List Nat} (h : fG b [] O) : codes b = some O := by
 unfold fG at h
 rw [h, wW]; simp
theorem QJ (v : Value) (b : List UInt8) (w : World) (hv : Bs w v b) (hl : b.length ≤ 100000) : Calls Tryz.prog 103 #[v] w (Wy b w) := by
 obtain ⟨i0, hi, hz0, hz1, hz2⟩ := info_parts jP
 have HV := hid hv
 obtain ⟨nb, hnb⟩ : ∃ nb, b.length = nb := ⟨_, rfl⟩
 have HNB := hid hnb
 rw [hnb] at hl
 clear hv hnb
 go_enter Tryz.func103, Tryz.ntmps103
 go_wp2_with fail
 go_loopg [0, 4] (nb + 1) (fun gk s0 s4 wr => ∃ (rest : List UInt8) (O : List Nat) (n cap : Nat) (ao : Option Addr), s0 = .slice ao n cap ∧ Hid (Bs w (.slice ao n cap) rest) ∧ Hid (rest.length = n) ∧ n < gk ∧ n ≤ nb ∧ Hid (O.length + n ≤ nb) ∧ Hid (wr.ownsRow w.heap.size 134 1 s4 O.length (bZ O)) ∧ Hid (fG b rest O) ∧ Gr w wr)
 case atStart =>
  obtain ⟨ao, cap, rfl, _⟩ := HV.out
  exact ⟨b, [], b.length, cap, ao, rfl, HV, rfl, by rw [HNB.out]; omega, by rw [HNB.out]; exact Nat.le_refl _, by show _ ≤ _; simp [HNB.out], World.ownsRow_nil _ _ _ _, fG.start b, Gr.refl _⟩
 case round =>
  obtain ⟨rest, O, n, cap, ao, rfl, HB, HN, hgk, hnb, HO, HR, HL, hgr⟩ := hrel
  by_cases h0 : 0 < n
  · obtain ⟨g', rfl⟩ : ∃ g', gk = g' + 1 := ⟨gk - 1, by omega⟩
    have h0z : (0 : Int) < (n : Int) := by omega
    have hne : rest ≠ [] := fun e => by have := HN.out; rw [e] at this; simp at this; omega
    have H1 := Oj rest hne (.slice ao n cap) wr (HB.out.gr hgr) (by rw [HN.out]; omega)
    by_cases hb : qF rest = 0
    · have HE := hid (HL.out.bad hne hb)
      rw [hb] at H1
      have H1 := hid H1
      clear hb hne
      go_wp2_with (go_at_call 136; refine H1.out.mono ?_; clear H1; rintro e w1 ⟨rfl, g1⟩)
      go_ret2
      exact ⟨.inl ⟨HE.out, rfl⟩, hgr.trans g1⟩
    · have HL2 := hid (HL.out.step hne hb)
      have hle := Vg hne
      have hcs := QI hne
      have HB2 := HB.out.lo hle
      rw [HN.out] at hle
      have HN2 : (rest.drop (qF rest)).length = n - qF rest := by rw [List.length_drop, HN.out]
      generalize qF rest = m at H1 hb HL2 hle HB2 HN2
      generalize BN rest = c at H1 HL2 hcs
      have hcut : ∀ W, (Instr.slice 46 (.slice ao n cap) (some (.int .i64 (m : Int))) none none).run Tryz.prog W = .ok (.slice (MB ao cap m) (n - m) (cap - m)) W := fun W => Vj ao n cap m hle W
      obtain ⟨au, hau⟩ : ∃ au, MB ao cap m = au := ⟨_, rfl⟩
      obtain ⟨nu, hnu⟩ : ∃ nu, n - m = nu := ⟨_, rfl⟩
      obtain ⟨cu, hcu⟩ : ∃ cu, cap - m = cu := ⟨_, rfl⟩
      rw [hau, hnu, hcu] at hcut HB2
      rw [hnu] at HN2
      have hb0 : ¬ (m : Int) = 0 := by omega
      have hbb : ((m : Int) == 0) = false := by rw [← Bool.not_eq_true, beq_iff_eq]; exact hb0
      have HOl := HO.out
      have HF : Hid (nu < g' ∧ nu ≤ nb ∧ (O ++ [c]).length + nu ≤ nb ∧ O.length ≤ 100000) := by show _ ∧ _ ∧ _ ∧ _; simp; omega
      have H1 := hid H1
      have HB2 := hid HB2
      have HN2 := hid HN2
      have hcz : (c : Int) < 4294967296 := by omega
      clear hb hne hau hnu hcu hcs hle HOl HL
      go_wp2_with (first
       | (go_at_call 136; refine H1.out.mono ?_; clear H1; rintro e w1 ⟨rfl, g1⟩; have G1 := hgr.trans g1; have R1 := hid (aU HR.out g1))
       | (at_builtin; refine wpList_append_own _ rfl _ _ 108 rfl w.heap.size 134 i0 (.int .u32 0) 1 4 Tryz.underlying108 hi hz0 hz1 hz2 rfl (by decide) _ _ _ rfl (R1.out.alloc _) ⟨w1.heap.size, 0, none⟩ 1 1 [.int .u32 (c : Int)] rfl rfl (cell_one_new _ _ _) (by simp [Value.oneCell']) (by have := HF.out.2.2.2; unfold maxLen; omega) (by have := HF.out.2.2.2; omega) (by have := G1.size; simp; omega) ?_; intro v' w2 hown' hgrow _; have R2 := hid (fE (K := [c]) hown' rfl rfl rfl); have G2 := dZ G1 R1.out hgrow; clear hown' hgrow))
      go_roundg g'
      case measure => omega
      case rel => exact ⟨_, O ++ [c], nu, cu, au, rfl, HB2, HN2, HF.out.1, HF.out.2.1, HF.out.2.2.1, R2, HL2, G2⟩
  · obtain rfl : n = 0 := by omega
    have hr0 : rest = [] := List.eq_nil_of_length_eq_zero HN.out
    subst hr0
    have HE := hid HL.out.done
    clear HL
    go_wp2_with fail
    go_ret2
    exact ⟨.inr ⟨O, _, HE.out, rfl, HR.out⟩, hgr⟩
theorem QK (v : Value) (L : List Nat) (w : World) (hv : Sl w v L) (ok : OkL L) (hl : L.length ≤ 100000) : Calls Tryz.prog 104 #[v] w fun e w' => ∃ v', e = .returned (.tuple #[v', .int .i64 0]) ∧ w'.ownsRow w.heap.size 5 1 v' (bP L).length (byteCells (bP L)) ∧ Gr w w' := by
 obtain ⟨ao, ca, rfl, _, hA⟩ := hv
 obtain ⟨n, hn⟩ : ∃ n, L.length = n := ⟨_, rfl⟩
 rw [hn] at hA hl ⊢
 have hnb : (n : Int) ≤ 100000 := by omega
 have HN := hid hn
 have HA := hid hA
 have HOK := hid ok
 clear hn hA ok hl
 go_enter Tryz.func104, Tryz.ntmps104
 go_wp2_with fail
 go_loopw [4, 5] (fun s4 s5 wr => ∃ (k : Nat), k ≤ n ∧ s5 = .int .i64 k ∧ Hid (wr.ownsRow w.heap.size 5 1 s4 (bP (L.take k)).length (byteCells (bP (L.take k)))) ∧ Gr w wr) (fun _ s _ => n - (intOf s).toNat)
 case atStart => exact ⟨0, Nat.zero_le _, rfl, World.ownsRow_nil _ _ _ _, Gr.refl _⟩
 case round =>
  obtain ⟨k, hk, rfl, HO, hgk⟩ := hrel
  by_cases hlt : k < n
  · have hltz : (k : Int) < n := by omega
    obtain ⟨g, off, rfl, hcell⟩ := HA.out k hlt
    have hcell := hgk.cell hcell
    have hkL : k < L.length := by rw [HN.out]; exact hlt
    have hx : fB (L.getD k 0) := by
     rw [List.getD, List.getElem?_eq_getElem hkL]; exact HOK.out _ (List.getElem_mem _)
    have htk : L.take (k + 1) = L.take k ++ [L.getD k 0] := by rw [List.take_add_one, List.getD, List.getElem?_eq_getElem hkL]; rfl
    generalize L.getD k 0 = x at hcell hx htk
    have HI := IZ x wr
    rw [decide_eq_true hx] at HI
    have HI := hid HI
    have HP := hid (Oi x wr)
    have hpx : mX x = jM x := by unfold mX; rw [if_pos hx]
    have HPX := hid hpx
    have hlen : (bP (L.take k)).length ≤ 4 * k := by
     rw [uj]
     have h1 : ∀ l : List Nat, iK l ≤ 4 * l.length := by
      intro l
      induction l with
      | nil => exact Nat.le_refl _
      | cons a l ih => rw [iK, List.length_cons]; have := nO a; omega
     have := h1 (L.take k)
     rw [List.length_take] at this
     omega
    have hlx : (jM x).length ≤ 4 := by rw [nY]; exact (nO x).2
    have HB : Hid (bP (L.take (k + 1)) = bP (L.take k) ++ jM x) := by show _ = _; rw [htk, yj]; simp [bP]
    have HLn : Hid ((bP (L.take k)).length + (jM x).length ≤ 1000000) := by show _ ≤ _; omega
    clear htk hx hlen hlx hpx
    go_wp2_with (first
     | (go_at_call 137; refine HI.out.mono ?_; clear HI; rintro e w1 ⟨rfl, rfl⟩)
     | (go_at_call 138; refine HP.out.mono ?_; clear HP; rintro e w2 ⟨v2, rfl, h2, g2⟩; rw [HPX.out] at h2; have B2 := hid (Bs.jB h2); have G2 := hgk.trans g2; have R2 := hid (aU HO.out g2); clear h2)
     | (at_builtin; refine BO rfl _ _ rfl w.heap.size _ (bP (L.take k)) (jM x) rfl R2.out _ rfl B2.out HLn.out G2.size ?_; intro v3 w3 h3 k3; have R3 := hid h3; have G3 := oQ G2 R2.out k3; clear h3 k3))
    go_roundw
    case rel => exact ⟨k + 1, hlt, by go_num, by rw [HB.out]; exact R3, G3⟩
    case measure => simp [intOf]; omega
  · have hltz : ¬ (k : Int) < n := by omega
    have HF : Hid (L.take k = L) := List.take_of_length_le (by rw [HN.out]; omega)
    go_wp2_with fail
    go_ret2
    refine ⟨_, rfl, ?_, hgk⟩
    have := HO.out
    rwa [HF.out] at this
theorem WB (v : Value) (b : List UInt8) (w : World) (hv : Bs w v b) (hl : b.length ≤ 20000) : Calls Tryz.prog 72 #[v] w (Vk b w) := by
 have HC := hid (QJ v b w hv (by omega))
 cases hc : codes b with
 | none =>
  have H0 : Hid (Calls Tryz.prog 103 #[v] w fun e w' => e = .returned (.tuple #[.slice none 0 0, .int .i64 6]) ∧ Gr w w') := HC.out.mono fun e w' h => by
   rcases h with ⟨⟨_, h1⟩ | ⟨L, _, h1, _⟩, h2⟩
   · exact ⟨h1, h2⟩
   · rw [hc] at h1; cases h1
  have HT : Hid (dn b = none) := by show _ = _; unfold dn; rw [hc]; rfl
  clear HC hc hv hl
  go_enter Tryz.func72, Tryz.ntmps72
  go_wp2_with (go_at_call 103; refine H0.out.mono ?_; clear H0; rintro e w1 ⟨rfl, g1⟩)
  go_ret2
  exact ⟨.inl ⟨HT.out, rfl⟩, g1⟩
 | some L =>
  have H0 : Hid (Calls Tryz.prog 103 #[v] w fun e w' => ∃ v', e = .returned (.tuple #[v', .int .i64 0]) ∧ w'.ownsRow w.heap.size 134 1 v' L.length (bZ L) ∧ Gr w w') := HC.out.mono fun e w' h => by
   rcases h with ⟨⟨h1, _⟩ | ⟨L', v', h1, h2, h3⟩, h4⟩
   · rw [hc] at h1; cases h1
   · rw [hc] at h1; obtain rfl := Option.some.inj h1; exact ⟨v', h2, h3, h4⟩
  have hok := (jc hc).2
  have hlen := BQ hc
  have H1 := fun W a (s : Sl W a L) => Zd a L W s hok.small (by omega)
  have h8 : (nfc L).length ≤ 100000 := by have := yH L; have := MC L; omega
  have H2 := fun W a (s : Sl W a (nfc L)) => QK a (nfc L) W s (QL hok) h8
  have HT : dn b = some (bP (nfc L)) := by unfold dn; rw [hc]; rfl
  obtain ⟨M, hM⟩ : ∃ M, nfc L = M := ⟨_, rfl⟩
  rw [hM] at H1 H2 HT
  obtain ⟨c, hcc⟩ : ∃ c, bP M = c := ⟨_, rfl⟩
  rw [hcc] at H2 HT
  have H1 := hid H1
  have H2 := hid H2
  have HT := hid HT
  clear HC hc hv hl hok hlen h8 hM hcc
  go_enter Tryz.func72, Tryz.ntmps72
  go_wp2_with (first
   | (go_at_call 103; refine H0.out.mono ?_; clear H0; rintro e w1 ⟨v1, rfl, h1, g1⟩; have S1 := hid (Sl.jB h1); clear h1)
   | (go_at_call 105; refine (H1.out w1 v1 S1.out).mono ?_; clear H1; rintro e w2 ⟨v2, rfl, h2, g2⟩; have S2 := hid (Sl.jB h2); clear h2)
   | (go_at_call 104; refine (H2.out w2 v2 S2.out).mono ?_; clear H2; rintro e w3 ⟨v3, rfl, h3, g3⟩; have R3 := hid h3; clear h3))
  go_ret2
  exact ⟨.inr ⟨c, _, HT.out, rfl, R3.out.mono' (g1.trans g2).size⟩, (g1.trans g2).trans g3⟩
end Go.Proofs.YthlflglkdaainaaGreatDoor
