import Derived.RangeFuncBox
import Derived.RangeFuncLeaves
import Derived.RangeFuncKeeps
import Derived.RangeFuncBound
import Derived.Shelf.Abstract
import Derived.OwnWalkIn
import Derived.TacticsInMore
import Derived.LoopNIn
import Derived.LoopIn
import Derived.Maps.AppendAt
import Derived.Test.YthlflglkdaainaaGreatDoorPA
import Derived.Test.YthlflglkdaainaaGreatDoorPB
/- Texts of this seat: KD. -/
set_option maxRecDepth 100000
set_option maxHeartbeats 8000000
namespace Go.Proofs.YthlflglkdaainaaGreatDoor
inductive Tr (α : Type) where
 | lf : Tr α
 | nd : Tr α → α → Tr α → Tr α
def Tr.list {α : Type} : Tr α → List α
 | .lf => []
 | .nd l x r => l.list ++ x :: r.list
def bld {α : Type} : Nat → List α → Tr α × List α
 | 0, xs => (.lf, xs)
 | d + 1, xs => match bld d xs with
  | (l, []) => (l, [])
  | (l, x :: rest) => match bld d rest with
   | (r, rest') => (.nd l x r, rest')
theorem bld_list {α : Type} (d : Nat) : ∀ xs : List α, (bld d xs).1.list ++ (bld d xs).2 = xs := by
 induction d with
 | zero => intro xs; rfl
 | succ d ih =>
  intro xs
  have h := ih xs
  rw [bld]
  generalize hb : bld d xs = b at h
  obtain ⟨l, rest⟩ := b
  cases rest with
  | nil => exact h
  | cons x rest =>
   have h2 := ih rest
   dsimp only
   generalize hb2 : bld d rest = b2 at h2
   obtain ⟨r, rest'⟩ := b2
   show (Tr.nd l x r).list ++ rest' = xs
   rw [Tr.list, List.append_assoc, List.cons_append]
   rw [← h, ← h2]
def fnd {α : Type} (lo hi : α → Nat) (c : Nat) : Tr α → Option α
 | .lf => none
 | .nd l x r => cond (Nat.blt c (lo x)) (fnd lo hi c l) (cond (Nat.ble c (hi x)) (some x) (fnd lo hi c r))
theorem find_none_of {α : Type} {p : α → Bool} {l : List α} (h : ∀ x ∈ l, p x = false) : l.find? p = none := by
 rw [List.find?_eq_none]; intro x hx; rw [h x hx]; exact Bool.false_ne_true
theorem fnd_spec {α : Type} (lo hi : α → Nat) (c : Nat) (t : Tr α) (h : t.list.Pairwise (fun a b => hi a < lo b)) (hle : ∀ x ∈ t.list, lo x ≤ hi x) :
    fnd lo hi c t = t.list.find? (fun e => Nat.ble (lo e) c && Nat.ble c (hi e)) := by
 induction t with
 | lf => rfl
 | nd l x r ihl ihr =>
  rw [Tr.list] at h hle ⊢
  rw [List.pairwise_append] at h
  obtain ⟨hl, hr, hx⟩ := h
  rw [List.pairwise_cons] at hr
  have il := ihl hl (fun y hy => hle y (List.mem_append_left _ hy))
  have ir := ihr hr.2 (fun y hy => hle y (List.mem_append_right _ (List.mem_cons_of_mem _ hy)))
  have hxle := hle x (List.mem_append_right _ (by simp))
  rw [fnd, List.find?_append, List.find?_cons, ← il, ← ir]
  by_cases h1 : c < lo x
  · rw [show Nat.blt c (lo x) = true from by rw [Nat.blt_eq]; exact h1]
    have hb : (Nat.ble (lo x) c && Nat.ble c (hi x)) = false := by
     rw [show Nat.ble (lo x) c = false from by rw [← Bool.not_eq_true, Nat.ble_eq]; omega]; rfl
    have hn : fnd lo hi c r = none := by
     rw [ir]
     exact find_none_of fun y hy => by
      have := hr.1 y hy
      have := hle y (List.mem_append_right _ (List.mem_cons_of_mem _ hy))
      rw [show Nat.ble (lo y) c = false from by rw [← Bool.not_eq_true, Nat.ble_eq]; omega]; rfl
    rw [hb, hn]
    show fnd lo hi c l = (fnd lo hi c l).or none
    cases fnd lo hi c l <;> rfl
  · have h1' : Nat.blt c (lo x) = false := by rw [← Bool.not_eq_true, Nat.blt_eq]; exact h1
    rw [h1']
    have hnl : fnd lo hi c l = none := by
     rw [il]
     exact find_none_of fun y hy => by
      have := hx y hy x (by simp)
      rw [show Nat.ble c (hi y) = false from by rw [← Bool.not_eq_true, Nat.ble_eq]; omega, Bool.and_false]
    rw [hnl]
    by_cases h2 : c ≤ hi x
    · have e1 : Nat.ble (lo x) c = true := by rw [Nat.ble_eq]; omega
      rw [show Nat.ble c (hi x) = true from by rw [Nat.ble_eq]; exact h2, e1]; rfl
    · rw [show Nat.ble c (hi x) = false from by rw [← Bool.not_eq_true, Nat.ble_eq]; exact h2, Bool.and_false]; rfl
def trD (l : List (Nat × Nat × Nat × Bool)) : Tr (Nat × Nat × Nat × Bool) := (bld 12 l).1
def trP (l : List (Nat × Nat × Nat)) : Tr (Nat × Nat × Nat) := (bld 11 l).1
def trC (l : List (Nat × Nat × Nat)) : Tr (Nat × Nat × Nat) := (bld 10 l).1
def fD (l : List (Nat × Nat × Nat × Bool)) (c : Nat) : Option (Nat × Nat × Nat × Bool) := fnd (fun e => e.1) (fun e => e.1) c (trD l)
def keyN (a b : Nat) : Nat := Nat.add (Nat.mul 1048576 a) b
def fP (l : List (Nat × Nat × Nat)) (a b : Nat) : Option (Nat × Nat × Nat) := fnd (fun e => keyN e.1 e.2.1) (fun e => keyN e.1 e.2.1) (keyN a b) (trP l)
def fC (l : List (Nat × Nat × Nat)) (c : Nat) : Option (Nat × Nat × Nat) := fnd (fun e => e.1) (fun e => e.2.1) c (trC l)
def nil? {α : Type} : List α → Bool | [] => true | _ => false
def no? {α : Type} : Option α → Bool | none => true | _ => false
theorem no?_iff {α : Type} (o : Option α) : no? o = true ↔ o = none := by cases o <;> simp [no?]
theorem nil?_iff {α : Type} (l : List α) : nil? l = true ↔ l = [] := by cases l <;> simp [nil?]
def ckB1 (D : List (Nat × Nat × Nat × Bool)) (e : Nat × Nat × Nat) : Bool := match fD D e.2.2 with
 | some x => Nat.beq x.2.1 e.1 && Nat.beq x.2.2.1 e.2.1 && x.2.2.2
 | none => false
def ckB2 (P C : List (Nat × Nat × Nat)) (e : Nat × Nat × Nat × Bool) : Bool := cond e.2.2.2
 ((match fP P e.2.1 e.2.2.1 with | some x => Nat.beq x.2.2 e.1 | none => false) && Nat.blt 0 e.2.2.1 && no? (fC C e.2.1) && no? (fC C e.1)) true
def ckB3 (D : List (Nat × Nat × Nat × Bool)) (e : Nat × Nat × Nat × Bool) : Bool := no? (fD D e.2.2.1) && (match fD D e.2.1 with
 | none => true
 | some x => match fD D x.2.1 with
  | none => true
  | some y => no? (fD D y.2.1))
def ckA (lD lP lC : List UInt8) : Bool := nil? (bld 12 (dc16 lD)).2 && nil? (bld 11 (dc15 lP)).2 && nil? (bld 10 (dc12 lC)).2 &&
 (allB (ckB1 (dc16 lD)) (dc15 lP) && allB (ckB2 (dc15 lP) (dc12 lC)) (dc16 lD) && allB (ckB3 (dc16 lD)) (dc16 lD))
theorem and6 {a b c d e f : Bool} (h : (a && b && c && (d && e && f)) = true) : a = true ∧ b = true ∧ c = true ∧ d = true ∧ e = true ∧ f = true := by
 cases a <;> cases b <;> cases c <;> cases d <;> cases e <;> cases f <;> simp_all
theorem ckA_t : ckA tD.data.toList tP.data.toList tC.data.toList = true := by decide +kernel
theorem trD_list : (trD Dl).list = Dl := by
 have h := bld_list 12 Dl
 have h0 : (bld 12 Dl).2 = [] := (nil?_iff _).1 (and6 ckA_t).1
 rw [h0, List.append_nil] at h; exact h
theorem trP_list : (trP Pl).list = Pl := by
 have h := bld_list 11 Pl
 have h0 : (bld 11 Pl).2 = [] := (nil?_iff _).1 (and6 ckA_t).2.1
 rw [h0, List.append_nil] at h; exact h
theorem trC_list : (trC Cl).list = Cl := by
 have h := bld_list 10 Cl
 have h0 : (bld 10 Cl).2 = [] := (nil?_iff _).1 (and6 ckA_t).2.2.1
 rw [h0, List.append_nil] at h; exact h
theorem fD_eq (c : Nat) : fD Dl c = dfind c := by
 have h := fnd_spec (fun e : Nat × Nat × Nat × Bool => e.1) (fun e => e.1) c (trD Dl) (by rw [trD_list]; exact D_inc) (fun _ _ => Nat.le_refl _)
 unfold fD dfind
 rw [h, trD_list]
 congr 1; funext e
 rw [Bool.eq_iff_iff, Bool.and_eq_true, Nat.ble_eq, Nat.ble_eq, Nat.beq_eq]; omega
theorem fC_eq (c : Nat) : fC Cl c = cfind c := by
 have h := fnd_spec (fun e : Nat × Nat × Nat => e.1) (fun e => e.2.1) c (trC Cl) (by rw [trC_list]; exact C_inc) (fun x hx => by rw [trC_list] at hx; exact (C_bd x hx).1)
 unfold fC cfind
 rw [h, trC_list]
theorem find_congr' {α : Type} {p q : α → Bool} : ∀ (l : List α), (∀ x ∈ l, p x = q x) → l.find? p = l.find? q
 | [], _ => rfl
 | a :: l, h => by rw [List.find?_cons, List.find?_cons, h a (by simp), find_congr' l (fun x hx => h x (List.mem_cons_of_mem _ hx))]
theorem fP_eq (a b : Nat) (hb : b < 1048576) : fP Pl a b = pfind a b := by
 have h := fnd_spec (fun e : Nat × Nat × Nat => keyN e.1 e.2.1) (fun e => keyN e.1 e.2.1) (keyN a b) (trP Pl) (by rw [trP_list]; exact P_inc) (fun _ _ => Nat.le_refl _)
 unfold fP pfind
 rw [h, trP_list]
 refine find_congr' _ fun e he => ?_
 have := P_bd e he
 rw [Bool.eq_iff_iff, Bool.and_eq_true, Bool.and_eq_true, Nat.ble_eq, Nat.ble_eq, Nat.beq_eq, Nat.beq_eq]
 unfold keyN; simp only [Nat.add_eq, Nat.mul_eq]; omega
theorem cls_zero {c : Nat} : cfind c = none ↔ cls c = 0 := by
 unfold cls
 cases h : cfind c with
 | none => simp
 | some e => have := (C_bd e (cfind_some h).1).2.2.1; simp; omega
theorem D_bd2 (e) (he : e ∈ Dl) : e.2.1 < 1048576 ∧ e.2.2.1 < 1048576 := by
 obtain ⟨i, hi⟩ := List.mem_iff_getElem?.1 he
 have := (List.getElem?_eq_some_iff.1 hi).1
 rw [Dl_len] at this
 obtain ⟨e', f, h1, _, _, _, h5, h6⟩ := D_row i this
 rw [hi] at h1; obtain rfl := Option.some.inj h1
 exact ⟨h5, h6⟩
theorem P_bd2 (e) (he : e ∈ Pl) : e.2.2 < 1048576 := by
 obtain ⟨i, hi⟩ := List.mem_iff_getElem?.1 he
 have := (List.getElem?_eq_some_iff.1 hi).1
 rw [Pl_len] at this
 obtain ⟨e', h1, _, _, _, h6⟩ := P_row i this
 rw [hi] at h1; obtain rfl := Option.some.inj h1
 exact h6
theorem pair_dec {a b : Nat} {e} (h : pfind a b = some e) : dfind e.2.2 = some (e.2.2, a, b, true) := by
 obtain ⟨h1, h2, h3⟩ := pfind_some h
 have hk : ckB1 Dl e = true := (allB_iff _ _).1 (and6 ckA_t).2.2.2.1 e h1
 unfold ckB1 at hk
 rw [fD_eq] at hk
 cases hd : dfind e.2.2 with
 | none => rw [hd] at hk; cases hk
 | some x =>
  rw [hd] at hk
  have hx := (dfind_some hd).2
  simp only [Bool.and_eq_true, Nat.beq_eq] at hk
  obtain ⟨⟨k1, k2⟩, k3⟩ := hk
  obtain ⟨x1, x2, x3, x4⟩ := x
  simp only at hx k1 k2 k3
  subst hx k1 k2 k3
  rw [h2, h3]
theorem dec_pair {c : Nat} {e} (h : dfind c = some e) (hf : e.2.2.2 = true) : (∃ x, pfind e.2.1 e.2.2.1 = some x ∧ x.2.2 = c) ∧ 0 < e.2.2.1 ∧ cls e.2.1 = 0 ∧ cls c = 0 := by
 obtain ⟨h1, h2⟩ := dfind_some h
 have hk : ckB2 Pl Cl e = true := (allB_iff _ _).1 (and6 ckA_t).2.2.2.2.1 e h1
 unfold ckB2 at hk
 rw [hf, fP_eq _ _ (D_bd2 e h1).2, fC_eq, fC_eq] at hk
 simp only [cond_true, Bool.and_eq_true, Nat.blt_eq, no?_iff] at hk
 obtain ⟨⟨⟨k1, k2⟩, k3⟩, k4⟩ := hk
 refine ⟨?_, k2, cls_zero.1 k3, by rw [← h2]; exact cls_zero.1 k4⟩
 cases hp : pfind e.2.1 e.2.2.1 with
 | none => rw [hp] at k1; cases k1
 | some x => rw [hp] at k1; exact ⟨x, rfl, by rw [← h2]; exact Nat.beq_eq.mp k1⟩
theorem dec_deep {c : Nat} {e} (h : dfind c = some e) : dfind e.2.2.1 = none ∧ (dfind e.2.1 = none ∨ ∃ x, dfind e.2.1 = some x ∧ (dfind x.2.1 = none ∨ ∃ y, dfind x.2.1 = some y ∧ dfind y.2.1 = none)) := by
 obtain ⟨h1, h2⟩ := dfind_some h
 have hk : ckB3 Dl e = true := (allB_iff _ _).1 (and6 ckA_t).2.2.2.2.2 e h1
 unfold ckB3 at hk
 rw [fD_eq, fD_eq, Bool.and_eq_true, no?_iff] at hk
 refine ⟨hk.1, ?_⟩
 have hk := hk.2
 cases hx : dfind e.2.1 with
 | none => exact .inl rfl
 | some x =>
  rw [hx] at hk
  dsimp only at hk
  rw [fD_eq] at hk
  refine .inr ⟨x, rfl, ?_⟩
  cases hy : dfind x.2.1 with
  | none => exact .inl rfl
  | some y =>
   rw [hy] at hk
   dsimp only at hk
   rw [fD_eq, no?_iff] at hk
   exact .inr ⟨y, rfl, hk⟩
end Go.Proofs.YthlflglkdaainaaGreatDoor
namespace Go.Proofs.YthlflglkdaainaaGreatDoor
open Go.RowKit
def isH (c : Nat) : Bool := Nat.ble 44032 c && Nat.ble c 55203
def hL (c : Nat) : Nat := 4352 + (c - 44032) / 28 / 21
def hV (c : Nat) : Nat := 4449 + (c - 44032) / 28 % 21
def hT (c : Nat) : Nat := if (c - 44032) % 28 = 0 then 0 else 4519 + (c - 44032) % 28
theorem isH_iff (c : Nat) : isH c = true ↔ 44032 ≤ c ∧ c ≤ 55203 := by unfold isH; rw [Bool.and_eq_true, Nat.ble_eq, Nat.ble_eq]
theorem isH_not {c : Nat} (h : isH c = false) : c < 44032 ∨ 55203 < c := by
 have : ¬ (44032 ≤ c ∧ c ≤ 55203) := fun h' => by rw [(isH_iff c).2 h'] at h; cases h
 omega
theorem his_any (c : Nat) (w : World) : Calls Tryz.prog 189 #[.int .u32 c] w fun e w' => e = .returned (.bool (isH c)) ∧ w = w' := by
 have h1 : (isH c = true ∧ decide ((44032 : Int) ≤ c) = true ∧ decide ((c : Int) ≤ 55203) = true) ∨ (isH c = false ∧ decide ((44032 : Int) ≤ c) = false) ∨ (isH c = false ∧ decide ((44032 : Int) ≤ c) = true ∧ decide ((c : Int) ≤ 55203) = false) := by
  cases h : isH c with
  | true => have := (isH_iff c).1 h; exact .inl ⟨rfl, decide_eq_true (by omega), decide_eq_true (by omega)⟩
  | false =>
   by_cases h4 : 44032 ≤ c
   · exact .inr (.inr ⟨rfl, decide_eq_true (by omega), decide_eq_false (by have := isH_not h; omega)⟩)
   · exact .inr (.inl ⟨rfl, decide_eq_false (by omega)⟩)
 rcases h1 with ⟨h, h1, h2⟩ | ⟨h, h1⟩ | ⟨h, h1, h2⟩
 all_goals
  rw [h]
  clear h
  go_enter Tryz.func189, Tryz.ntmps189
  go_wp2
  go_ret
  exact ⟨rfl, rfl⟩
theorem lead_any (w : World) : Calls Tryz.prog 202 #[] w fun e w' => e = .returned (.agg #[.int .u32 4352, .int .u32 19]) ∧ Gr w w' := by
 go_enter Tryz.func202, Tryz.ntmps202
 go_wp2
 exact bodyPost_ret (v := .agg #[.int .u32 4352, .int .u32 19]) (by simp [results, Tryz.results202, go_sem]) rfl ⟨rfl, Gr.alloc _ _⟩
theorem vowel_any (w : World) : Calls Tryz.prog 203 #[] w fun e w' => e = .returned (.agg #[.int .u32 4449, .int .u32 21]) ∧ Gr w w' := by
 go_enter Tryz.func203, Tryz.ntmps203
 go_wp2
 exact bodyPost_ret (v := .agg #[.int .u32 4449, .int .u32 21]) (by simp [results, Tryz.results203, go_sem]) rfl ⟨rfl, Gr.alloc _ _⟩
theorem trail_any (w : World) : Calls Tryz.prog 190 #[] w fun e w' => e = .returned (.agg #[.int .u32 4520, .int .u32 27]) ∧ Gr w w' := by
 go_enter Tryz.func190, Tryz.ntmps190
 go_wp2
 exact bodyPost_ret (v := .agg #[.int .u32 4520, .int .u32 27]) (by simp [results, Tryz.results190, go_sem]) rfl ⟨rfl, Gr.alloc _ _⟩
theorem row_at0 (a b : Int) (w : World) : (Instr.index 216 (.agg #[.int .u32 a, .int .u32 b]) (.int .i64 0)).run Tryz.prog w = .ok (.int .u32 a) w := by kernel_rfl
theorem row_at1 (a b : Int) (w : World) : (Instr.index 216 (.agg #[.int .u32 a, .int .u32 b]) (.int .i64 1)).run Tryz.prog w = .ok (.int .u32 b) w := by kernel_rfl
theorem split_no (c : Nat) (w : World) (h : isH c = false) : Calls Tryz.prog 199 #[.int .u32 c] w fun e w' => e = .returned (.tuple #[.int .u32 0, .int .u32 0, .int .u32 0, .bool false]) ∧ Gr w w' := by
 have hi := fun w' => his_any c w'
 rw [h] at hi
 have HI := hid hi
 clear hi h
 go_enter Tryz.func199, Tryz.ntmps199
 go_wp2_with (go_at_call 189; refine (HI.out _).mono ?_; rintro e w' ⟨rfl, rfl⟩)
 refine bodyPost_ret (v := .tuple #[.int .u32 0, .int .u32 0, .int .u32 0, .bool false]) (by simp [results, Tryz.results199, go_sem]) rfl ⟨rfl, Gr.refl _⟩
theorem split_yes (c : Nat) (w : World) (h : isH c = true) : Calls Tryz.prog 199 #[.int .u32 c] w fun e w' => e = .returned (.tuple #[.int .u32 (hL c), .int .u32 (hV c), .int .u32 (hT c), .bool true]) ∧ Gr w w' := by
 have h1 := (isH_iff c).1 h
 have hi := fun w' => his_any c w'
 rw [h] at hi
 have HI := hid hi
 obtain ⟨k, hk⟩ : ∃ k : Nat, c = k + 44032 := ⟨c - 44032, by omega⟩
 have hk2 : (k : Int) ≤ 11171 := by omega
 have hsub : IntKind.u32.wrap ((c : Int) - 44032) = (k : Int) := by rw [IntKind.wrap_u32]; omega
 have eL : (hL c : Int) = 4352 + (k : Int) / 28 / 21 := by unfold hL; omega
 have eV : (hV c : Int) = 4449 + (k : Int) / 28 % 21 := by unfold hV; omega
 have eT : (hT c : Int) = if (k : Int) % 28 = 0 then 0 else 4520 + (k : Int) % 28 - 1 := by unfold hT; split <;> split <;> omega
 have EL := hid eL
 have EV := hid eV
 have ET := hid eT
 have HK := hid hk
 clear hi h h1 eL eV eT hk
 have hr0 := row_at0
 by_cases h0 : (k : Int) % 28 = 0
 · have h4 : decide (0 < (k : Int) % 28) = false := decide_eq_false (by omega)
   have H0 := hid h0
   clear h0
   go_enter Tryz.func199, Tryz.ntmps199
   go_wp2_with (first | (go_at_call 189; refine (HI.out _).mono ?_; rintro e w' ⟨rfl, rfl⟩) | (go_at_call 202; refine (lead_any _).mono ?_; rintro e w1 ⟨rfl, g1⟩) | (go_at_call 203; refine (vowel_any _).mono ?_; rintro e w2 ⟨rfl, g2⟩))
   refine bodyPost_ret (v := .tuple #[.int .u32 (4352 + (k : Int) / 28 / 21), .int .u32 (4449 + (k : Int) / 28 % 21), .int .u32 0, .bool true]) (by simp [results, Tryz.results199, go_sem]) rfl ⟨?_, g1.trans g2⟩
   rw [EL.out, EV.out, ET.out, if_pos H0.out]
 · have h4 : decide (0 < (k : Int) % 28) = true := decide_eq_true (by omega)
   have h5 : 0 < (k : Int) % 28 := by omega
   have H0 := hid h0
   clear h0
   go_enter Tryz.func199, Tryz.ntmps199
   go_wp2_with (first | (go_at_call 189; refine (HI.out _).mono ?_; rintro e w' ⟨rfl, rfl⟩) | (go_at_call 190; refine (trail_any _).mono ?_; rintro e w0 ⟨rfl, g0⟩) | (go_at_call 202; refine (lead_any _).mono ?_; rintro e w1 ⟨rfl, g1⟩) | (go_at_call 203; refine (vowel_any _).mono ?_; rintro e w2 ⟨rfl, g2⟩))
   refine bodyPost_ret (v := .tuple #[.int .u32 (4352 + (k : Int) / 28 / 21), .int .u32 (4449 + (k : Int) / 28 % 21), .int .u32 (4520 + (k : Int) % 28 - 1), .bool true]) (by simp [results, Tryz.results199, go_sem]) rfl ⟨?_, (g0.trans g1).trans g2⟩
   rw [EL.out, EV.out, ET.out, if_neg H0.out]
end Go.Proofs.YthlflglkdaainaaGreatDoor
namespace Go.Proofs.YthlflglkdaainaaGreatDoor
def hsp (c : Nat) : List Nat := if hT c = 0 then [hL c, hV c] else [hL c, hV c, hT c]
noncomputable def fullF : Nat → Nat → List Nat
 | 0, c => if isH c then hsp c else [c]
 | n + 1, c => if isH c then hsp c else match dfind c with
  | none => [c]
  | some e => fullF n e.2.1 ++ (if e.2.2.1 = 0 then [] else fullF n e.2.2.1)
noncomputable def full (c : Nat) : List Nat := fullF 3 c
def Deep : Nat → Nat → Prop
 | 0, c => dfind c = none
 | n + 1, c => dfind c = none ∨ ∃ e, dfind c = some e ∧ Deep n e.2.1 ∧ dfind e.2.2.1 = none
theorem Deep.of_none {c : Nat} (h : dfind c = none) : ∀ n, Deep n c
 | 0 => h
 | _ + 1 => .inl h
theorem deep3 (c : Nat) : Deep 3 c := by
 cases h : dfind c with
 | none => exact .of_none h 3
 | some e =>
  obtain ⟨k1, k2⟩ := dec_deep h
  refine .inr ⟨e, h, ?_, k1⟩
  rcases k2 with k2 | ⟨x, k2, k3⟩
  · exact .of_none k2 2
  · obtain ⟨j1, _⟩ := dec_deep k2
    refine .inr ⟨x, k2, ?_, j1⟩
    rcases k3 with k3 | ⟨y, k3, k4⟩
    · exact .of_none k3 1
    · exact .inr ⟨y, k3, k4, (dec_deep k3).1⟩
theorem fullF_none {c : Nat} (h : dfind c = none) : ∀ n, fullF n c = if isH c then hsp c else [c]
 | 0 => rfl
 | n + 1 => by rw [fullF, h]
theorem fullF_stable {n : Nat} : ∀ {c : Nat}, Deep n c → ∀ m, n ≤ m → fullF m c = fullF n c := by
 induction n with
 | zero => intro c h m _; rw [fullF_none h, fullF_none h]
 | succ n ih =>
  intro c h m hm
  obtain ⟨k, rfl⟩ : ∃ k, m = k + 1 := ⟨m - 1, by omega⟩
  rcases h with h | ⟨e, h1, h2, h3⟩
  · rw [fullF_none h, fullF_none h]
  · rw [fullF, fullF, h1]
    dsimp only
    rw [ih h2 k (by omega), fullF_none h3, fullF_none h3]
theorem full_h {c : Nat} (h : isH c = true) : full c = hsp c := by unfold full; rw [fullF, if_pos h]
theorem full_no {c : Nat} (h : isH c = false) (hd : dfind c = none) : full c = [c] := by unfold full; rw [fullF_none hd, if_neg (by rw [h]; exact Bool.false_ne_true)]
theorem full_some {c : Nat} {e} (h : isH c = false) (hd : dfind c = some e) : full c = full e.2.1 ++ (if e.2.2.1 = 0 then [] else full e.2.2.1) := by
 have hD := deep3 c
 rcases hD with h0 | ⟨e', h1, h2, h3⟩
 · rw [h0] at hd; cases hd
 · rw [h1] at hd; obtain rfl := Option.some.inj hd
   unfold full
   rw [fullF, h, h1]
   dsimp only
   rw [if_neg (by simp), fullF_stable h2 3 (by decide)]
   congr 1
   split
   · rfl
   · rw [fullF_none h3, fullF_none h3]
def ckD2 (e : Nat × Nat × Nat × Bool) : Bool := !(isH e.1) && !(isH e.2.1) && !(isH e.2.2.1) && Nat.blt e.2.2.1 65536 || (!(isH e.1) && !(isH e.2.1) && !(isH e.2.2.1))
def ckC2 (e : Nat × Nat × Nat) : Bool := (Nat.blt e.2.1 4352 || Nat.blt 4546 e.1) && (Nat.blt e.2.1 44032 || Nat.blt 55203 e.1)
def fullT (D : List (Nat × Nat × Nat × Bool)) : Nat → Nat → List Nat
 | 0, c => [c]
 | n + 1, c => match fD D c with
  | none => [c]
  | some e => (fullT D n e.2.1) ++ (cond (Nat.beq e.2.2.1 0) [] [e.2.2.1])
def clsT (C : List (Nat × Nat × Nat)) (c : Nat) : Nat := match fC C c with | some e => e.2.2 | none => 0
def inOrd (f : Nat → Nat) : Nat → List Nat → Bool
 | _, [] => true
 | k, c :: l => (Nat.beq (f c) 0 || Nat.ble k (f c)) && inOrd f (f c) l
def ckD3 (D : List (Nat × Nat × Nat × Bool)) (C : List (Nat × Nat × Nat)) (e : Nat × Nat × Nat × Bool) : Bool := inOrd (clsT C) 0 (fullT D 3 e.1)
def ckB (lD lC : List UInt8) : Bool := allB ckD2 (dc16 lD) && allB ckC2 (dc12 lC) && allB (ckD3 (dc16 lD) (dc12 lC)) (dc16 lD)
theorem ckB_t : ckB tD.data.toList tC.data.toList = true := by decide +kernel
theorem and3 {a b c : Bool} (h : (a && b && c) = true) : a = true ∧ b = true ∧ c = true := by cases a <;> cases b <;> cases c <;> simp_all
theorem D_noH {e} (he : e ∈ Dl) : isH e.1 = false ∧ isH e.2.1 = false ∧ isH e.2.2.1 = false := by
 have h := (allB_iff _ _).1 (and3 ckB_t).1 e he
 unfold ckD2 at h
 cases h1 : isH e.1 <;> cases h2 : isH e.2.1 <;> cases h3 : isH e.2.2.1 <;> simp_all
theorem cls_h {c : Nat} (h : (4352 ≤ c ∧ c ≤ 4546) ∨ (44032 ≤ c ∧ c ≤ 55203)) : cls c = 0 := by
 refine cls_zero.1 ?_
 cases hd : cfind c with
 | none => rfl
 | some e =>
  obtain ⟨h1, h2, h3⟩ := cfind_some hd
  have hk := (allB_iff _ _).1 (and3 ckB_t).2.1 e h1
  unfold ckC2 at hk
  rw [Bool.and_eq_true, Bool.or_eq_true, Bool.or_eq_true, Nat.blt_eq, Nat.blt_eq, Nat.blt_eq, Nat.blt_eq] at hk
  omega
theorem fullT_eq {n : Nat} : ∀ {c : Nat}, Deep n c → isH c = false → fullT Dl n c = fullF n c := by
 induction n with
 | zero => intro c h hh; rw [fullT, fullF, hh]; rfl
 | succ n ih =>
  intro c h hh
  rw [fullT, fD_eq, fullF, hh]
  rcases h with h | ⟨e, h1, h2, h3⟩
  · rw [h]; rfl
  · rw [h1]
    have hno := D_noH (dfind_some h1).1
    dsimp only
    rw [ih h2 hno.2.1, if_neg (by simp)]
    congr 1
    by_cases hz : e.2.2.1 = 0
    · rw [if_pos hz, hz]; rfl
    · rw [if_neg hz, fullF_none h3, hno.2.2]
      rw [show Nat.beq e.2.2.1 0 = false from by rw [← Bool.not_eq_true, Nat.beq_eq]; exact hz]; rfl
theorem hsp_len (c : Nat) : 2 ≤ (hsp c).length ∧ (hsp c).length ≤ 3 := by unfold hsp; split <;> simp
theorem fullF_len {n : Nat} : ∀ {c : Nat}, Deep n c → isH c = false → (fullF n c).length ≤ n + 1 ∧ 1 ≤ (fullF n c).length := by
 induction n with
 | zero => intro c h hh; rw [fullF, hh]; simp
 | succ n ih =>
  intro c h hh
  rcases h with h | ⟨e, h1, h2, h3⟩
  · rw [fullF_none h, hh]; simp
  · have hno := D_noH (dfind_some h1).1
    rw [fullF, hh, h1]
    dsimp only
    have := ih h2 hno.2.1
    rw [if_neg (by simp), List.length_append]
    split
    · simp; omega
    · rw [fullF_none h3, hno.2.2]; simp; omega
theorem full_len (c : Nat) : 1 ≤ (full c).length ∧ (full c).length ≤ 4 := by
 cases h : isH c with
 | true => rw [full_h h]; have := hsp_len c; omega
 | false => have := fullF_len (deep3 c) h; unfold full; omega
theorem hsp_lt (c : Nat) (h : isH c = true) : ∀ x ∈ hsp c, 4352 ≤ x ∧ x ≤ 4546 := by
 have h1 := (isH_iff c).1 h
 have hl : 4352 ≤ hL c ∧ hL c ≤ 4546 := by unfold hL; omega
 have hv : 4352 ≤ hV c ∧ hV c ≤ 4546 := by unfold hV; omega
 have ht : hT c = 0 ∨ (4352 ≤ hT c ∧ hT c ≤ 4546) := by unfold hT; split <;> omega
 intro x hx
 unfold hsp at hx
 split at hx
 · simp only [List.mem_cons, List.not_mem_nil, or_false] at hx
   rcases hx with hx | hx
   · rw [hx]; exact hl
   · rw [hx]; exact hv
 · rename_i hne
   simp only [List.mem_cons, List.not_mem_nil, or_false] at hx
   rcases hx with hx | hx | hx
   · rw [hx]; exact hl
   · rw [hx]; exact hv
   · rw [hx]; exact ht.resolve_left hne
def Part (c x : Nat) : Prop := (x = c ∨ x < 1048576) ∧ dfind x = none ∧ isH x = false
theorem Part.self {c : Nat} (h : dfind c = none) (hh : isH c = false) : Part c c := ⟨.inl rfl, h, hh⟩
theorem fullF_one {c : Nat} (h : dfind c = none) (hh : isH c = false) (n : Nat) : fullF n c = [c] := by
 rw [fullF_none h, if_neg (by rw [hh]; exact Bool.false_ne_true)]
theorem fullF_mem {n : Nat} : ∀ {c : Nat}, Deep n c → isH c = false → ∀ x ∈ fullF n c, Part c x := by
 induction n with
 | zero =>
  intro c h hh x hx
  rw [fullF_one h hh, List.mem_singleton] at hx
  rw [hx]; exact .self h hh
 | succ n ih =>
  intro c h hh x hx
  rcases h with h | ⟨e, h1, h2, h3⟩
  · rw [fullF_one h hh, List.mem_singleton] at hx
    rw [hx]; exact .self h hh
  · have hno := D_noH (dfind_some h1).1
    have hb := D_bd2 e (dfind_some h1).1
    rw [fullF, hh, h1] at hx
    dsimp only at hx
    rw [if_neg (by simp)] at hx
    rcases List.mem_append.1 hx with hx | hx
    · obtain ⟨k1, k2⟩ := ih h2 hno.2.1 x hx
      exact ⟨.inr (by rcases k1 with rfl | k1 <;> omega), k2⟩
    · split at hx
      · cases hx
      · rw [fullF_one h3 hno.2.2, List.mem_singleton] at hx
        rw [hx]; exact ⟨.inr hb.2, h3, hno.2.2⟩
end Go.Proofs.YthlflglkdaainaaGreatDoor
namespace Go.Proofs.YthlflglkdaainaaGreatDoor
open Go.RowKit
def u32s (l : List Nat) : List Value := l.map fun (x : Nat) => Value.int .u32 (x : Int)
theorem u32s_length (l : List Nat) : (u32s l).length = l.length := by unfold u32s; simp
theorem info_u32 : (Tryz.prog.info? 134).map (fun i => (i.zero, i.size, i.bytes)) = some (some (.int .u32 0), 1, 4) := by kernel_rfl
theorem ownsRow_gr {w w' : World} {base : Nat} {e : TypeId} {size : Nat} {v : Value} {n : Nat} {xs : List Value} (h : w.ownsRow base e size v n xs) (g : Gr w w') : w'.ownsRow base e size v n xs := by
 refine ⟨h.1, ?_⟩
 rcases h.2 with h0 | ⟨b, cap, cur, h1, h2, h3, h4⟩
 · exact .inl h0
 · refine .inr ⟨b, cap, cur, h1, h2, ?_, h4⟩
   have : b < w.heap.size := by
    rcases Nat.lt_or_ge b w.heap.size with hlt | hge
    · exact hlt
    · rw [Array.getElem?_eq_none hge] at h3; cases h3
   rw [Below.block g b this]; exact h3
theorem row_block {w : World} {base : Nat} {e : TypeId} {size : Nat} {v : Value} {n : Nat} {xs : List Value} (h : w.ownsRow base e size v n xs) : ∀ k, v.ownBlock = some k → base ≤ k := fun k hk => (h.lt k hk).1
theorem row_form {w : World} {base : Nat} {e : TypeId} {size : Nat} {v : Value} {n : Nat} {xs : List Value} (h : w.ownsRow base e size v n xs) (hn : 0 < n) :
    ∃ g cap, v = .slice (some ⟨g, 0, none⟩) n cap ∧ base ≤ g ∧ g < w.heap.size := by
 rcases h.2 with ⟨_, h0⟩ | ⟨g, cap, cur, hv, hb, hg, _⟩
 · omega
 · refine ⟨g, cap, hv, hb, ?_⟩
   rcases Nat.lt_or_ge g w.heap.size with hlt | hge
   · exact hlt
   · rw [Array.getElem?_eq_none hge] at hg; cases hg
theorem _root_.Go.World.ownsRow.mono' {w : World} {base base' : Nat} {e : TypeId} {size : Nat} {v : Value} {n : Nat} {xs : List Value} (h : w.ownsRow base e size v n xs) (hb : base' ≤ base) : w.ownsRow base' e size v n xs := by
 refine ⟨h.1, ?_⟩
 rcases h.2 with h0 | ⟨g, cap, cur, hv, h1, h2⟩
 · exact .inl h0
 · exact .inr ⟨g, cap, cur, hv, Nat.le_trans hb h1, h2⟩
theorem row_cell {w : World} {base g cap : Nat} {l : List Nat} (h : w.ownsRow base 134 1 (.slice (some ⟨g, 0, none⟩) l.length cap) l.length (u32s l)) (k : Nat) (hk : k < l.length) : w.cell? ⟨g, k, none⟩ = some (.int .u32 ((l.getD k 0 : Nat) : Int)) := by
 rw [h.cellAt k (by omega)]
 unfold u32s
 rw [List.getElem?_map, List.getElem?_eq_getElem hk]; simp [List.getD, List.getElem?_eq_getElem hk]
theorem own_conv {w : World} {B : Nat} {e : TypeId} {v : Value} {M N K : List Nat} {n : Nat} {xs : List Value} (h : w.ownsRow B e 1 v (M.length + n) (u32s M ++ xs)) (hN : N = M ++ K) (hn : n = K.length) (hx : xs = u32s K) : w.ownsRow B e 1 v N.length (u32s N) := by
 subst hN hn hx
 rw [List.length_append, show u32s (M ++ K) = u32s M ++ u32s K by unfold u32s; rw [List.map_append]]
 exact h
theorem gr_added {wo w1 w2 : World} {o : Obj} {e : TypeId} {size n : Nat} {v : Value} {xs : List Value} (h : Gr wo w1) (hn : w1.ownsRow wo.heap.size e size v n xs) (hg : (w1.alloc o).grownBy w2 v.ownBlock) : Gr wo w2 :=
 (Below.alloc (B := wo.heap.size) h h.size o).grown hg (by have := h.size; simp; omega) (row_block hn)
end Go.Proofs.YthlflglkdaainaaGreatDoor
namespace Go.Proofs.YthlflglkdaainaaGreatDoor
open Go.RowKit
def Sl (w : World) (v : Value) (L : List Nat) : Prop := ∃ (ao : Option Addr) (cap : Nat), v = .slice ao L.length cap ∧ (ao = none → cap = 0) ∧ ∀ k, k < L.length → ∃ g o, ao = some ⟨g, o, none⟩ ∧ w.cell? ⟨g, o + k, none⟩ = some (.int .u32 ((L.getD k 0 : Nat) : Int))
theorem Sl.gr {w w' : World} {v : Value} {L : List Nat} (h : Sl w v L) (g : Gr w w') : Sl w' v L := by
 obtain ⟨ao, cap, h1, h0, h2⟩ := h
 exact ⟨ao, cap, h1, h0, fun k hk => by obtain ⟨b, o, h3, h4⟩ := h2 k hk; exact ⟨b, o, h3, g.cell h4⟩⟩
theorem Sl.of_row {w : World} {base : Nat} {v : Value} {L : List Nat} (h : w.ownsRow base 134 1 v L.length (u32s L)) : Sl w v L := by
 rcases h.2 with ⟨h1, h2⟩ | ⟨g, cap, cur, h1, _⟩
 · exact ⟨none, 0, by rw [h1, h2], fun _ => rfl, fun k hk => by omega⟩
 · subst h1
   exact ⟨_, cap, rfl, fun h => by (cases h), fun k hk => ⟨g, 0, rfl, by rw [Nat.zero_add]; exact row_cell h k hk⟩⟩
end Go.Proofs.YthlflglkdaainaaGreatDoor
namespace Go.Proofs.YthlflglkdaainaaGreatDoor
open Go.RowKit Go.Shelf
attribute [local go_sem] Oper.semAt_some
theorem room_of_none {F : Fence} (hd : F.depth = none) (k : Nat) : F.room k := fun d h => by rw [hd] at h; cases h
theorem RoundIn.anyDepth {F : Fence} (hd : F.depth = none) {m m' : Nat} {P : Program} {l : Nat} {f : FuncId} {tmps : Array Value} {assign body : Code} {w : World} {R : Ending → World → Prop}
    (h : RoundIn F m P l f tmps assign body w R) : RoundIn F m' P l f tmps assign body w R := ⟨h.1, fun c cs _ => h.2 c cs (room_of_none hd _)⟩
theorem YieldAt.anyDepth {F : Fence} (hd : F.depth = none) {m : Nat} (m' : Nat) {P : Program} {l : Nat} {args : Array Value} {W : World} {R : Ending → World → Prop} (h : YieldAt F m P l args W R) : YieldAt F m' P l args W R := by
 obtain ⟨fn, tmps, assign, body, hy, hR⟩ := h
 exact ⟨fn, tmps, assign, body, hy, RoundIn.anyDepth hd hR⟩
theorem Gr.grown {A B : World} (h : Gr A B) : A.grownBy B none := ⟨h.os, h.tape, h.output, h.size, fun k hk _ => h.block k hk⟩
def Yields (m : Nat) (l : Nat) (N n₀ : Nat) (J Jx : List Nat → World → Prop) : Prop :=
 ∀ (pre : List Nat) (x : Nat) (W : World), J pre W → pre.length < N → YieldAt Fence.wide m Tryz.prog l #[.int .u32 (x : Int)] W fun e W' =>
     (e = .returned (.bool true) ∧ J (pre ++ [x]) W' ∧ Below n₀ W W') ∨ (e = .returned (.bool false) ∧ Jx (pre ++ [x]) W')
def EachPost (n₀ : Nat) (J Jx : List Nat → World → Prop) (pre : List Nat) (L : List Nat) (W : World) (e : Ending) (W' : World) : Prop :=
 (e = .returned (.bool true) ∧ J (pre ++ L) W' ∧ Below n₀ W W') ∨ (e = .returned (.bool false) ∧ ∃ q, q <+: L ∧ Jx (pre ++ q) W')
theorem each_one (m l n₀ N : Nat) (J Jx : List Nat → World → Prop) (hA : ∀ s A B, J s A → Gr A B → J s B) (hn : ∀ s A, J s A → n₀ ≤ A.heap.size) (hZ : ∀ s A, J s A → Tz A)
    (hY : Yields (m - 1) l N n₀ J Jx) (c : Nat) (hc : c < 4294967296) (hh : isH c = false) (hd : dfind c = none) (pre : List Nat) (W : World) (hJ : J pre W) (hN : pre.length + 1 ≤ N) :
    CallsIn Fence.wide m Tryz.prog 185 #[.int .u32 (c : Int), .func (.yield l) #[] #[]] W (EachPost n₀ J Jx pre [c] W) := by
 have hs := fun w => split_no c w hh
 have hdd := fun w ht => decomp_no c hc w ht hd
 refine callsIn_of_wp Tryz.func185 rfl trivial ?_ rfl
 simp only [Tryz.ntmps185, List.size_toArray, List.length_cons, List.length_nil, Nat.reduceAdd, Nat.reduceSub, Array.replicate_succ, Array.replicate_zero, List.push_toArray, List.append_toArray, List.nil_append, List.cons_append]
 gi_wp2_with (first
     | (refine ⟨trivial, fun h => (by cases h), ?_⟩; gi_at_call 199; refine (callsIn_wide.2 (hs _)).mono ?_; rintro e W1 ⟨rfl, g1⟩)
     | (refine ⟨trivial, fun h => (by cases h), ?_⟩; gi_at_call 200; refine (callsIn_wide.2 (hdd _ (hZ _ _ (hA _ _ _ hJ g1)))).mono ?_; rintro e W2 ⟨rfl, g2⟩; obtain ⟨fn, tmps, assign, body, hy, hR⟩ := hY pre c W2 (hA _ _ _ hJ (g1.trans g2)) (by omega))
     | (refine ⟨fun h => (by cases h), ?_⟩; refine hR.mono ?_; clear hR; rintro e W3 (⟨rfl, hJ3, hb3⟩ | ⟨rfl, hx3⟩)))
 · go_ret
   exact .inl ⟨rfl, hJ3, ((g1.trans g2).mono (hn _ _ hJ)).trans hb3⟩
 · go_ret
   exact .inr ⟨rfl, [c], List.prefix_rfl, hx3⟩
end Go.Proofs.YthlflglkdaainaaGreatDoor
namespace Go.Proofs.YthlflglkdaainaaGreatDoor
open Go.RowKit Go.Shelf
attribute [local go_sem] Oper.semAt_some
theorem skip_call {Q : Prop} (h : Q) : (∀ f : FuncId, (none : Option FuncId) = some f → Fence.wide.fn f) ∧ Q := ⟨fun _ e => (by cases e), h⟩
theorem undef_not {b : Bool} (h : some undef = some (Value.bool b)) : False := by unfold undef at h; cases h
theorem each_two (m l n₀ N : Nat) (J Jx : List Nat → World → Prop) (hA : ∀ s A B, J s A → Gr A B → J s B) (hn : ∀ s A, J s A → n₀ ≤ A.heap.size)
    (hY : Yields (m - 1) l N n₀ J Jx) (c a b : Nat) (hs : ∀ w, Calls Tryz.prog 199 #[.int .u32 c] w fun e w' => e = .returned (.tuple #[.int .u32 a, .int .u32 b, .int .u32 0, .bool true]) ∧ Gr w w')
    (pre : List Nat) (W : World) (hJ : J pre W) (hN : pre.length + 2 ≤ N) :
    CallsIn Fence.wide m Tryz.prog 185 #[.int .u32 (c : Int), .func (.yield l) #[] #[]] W (EachPost n₀ J Jx pre [a, b] W) := by
 refine callsIn_of_wp Tryz.func185 rfl trivial ?_ rfl
 simp only [Tryz.ntmps185, List.size_toArray, List.length_cons, List.length_nil, Nat.reduceAdd, Nat.reduceSub, Array.replicate_succ, Array.replicate_zero, List.push_toArray, List.append_toArray, List.nil_append, List.cons_append]
 gi_wp2_with (first
     | (with_reducible refine skip_call ?_)
     | (exfalso; exact undef_not (by assumption))
     | (refine ⟨trivial, fun h => (by cases h), ?_⟩; gi_at_call 199; refine (callsIn_wide.2 (hs _)).mono ?_; rintro e W1 ⟨rfl, g1⟩; obtain ⟨fn1, tmps1, assign1, body1, hy1, hR1⟩ := hY pre a W1 (hA _ _ _ hJ g1) (by omega))
     | (refine ⟨fun h => (by cases h), ?_⟩; refine hR1.mono ?_; clear hR1; rintro e W2 (⟨rfl, hJ2, hb2⟩ | ⟨rfl, hx2⟩); obtain ⟨fn2, tmps2, assign2, body2, hy2, hR2⟩ := hY (pre ++ [a]) b W2 hJ2 (by simp; omega))
     | (refine ⟨fun h => (by cases h), ?_⟩; refine hR2.mono ?_; clear hR2; rintro e W3 (⟨rfl, hJ3, hb3⟩ | ⟨rfl, hx3⟩)))
 all_goals go_ret
 all_goals first
  | exact .inl ⟨rfl, by simpa [List.append_assoc] using hJ3, ((g1.mono (hn _ _ hJ)).trans hb2).trans hb3⟩
  | exact .inr ⟨rfl, [a, b], List.prefix_rfl, by simpa [List.append_assoc] using hx3⟩
  | exact .inr ⟨rfl, [a], ⟨[b], rfl⟩, hx2⟩
theorem each_three (m l n₀ N : Nat) (J Jx : List Nat → World → Prop) (hA : ∀ s A B, J s A → Gr A B → J s B) (hn : ∀ s A, J s A → n₀ ≤ A.heap.size)
    (hY : Yields (m - 1) l N n₀ J Jx) (c a b t : Nat) (ht : (t : Int) ≠ 0) (hs : ∀ w, Calls Tryz.prog 199 #[.int .u32 c] w fun e w' => e = .returned (.tuple #[.int .u32 a, .int .u32 b, .int .u32 t, .bool true]) ∧ Gr w w')
    (pre : List Nat) (W : World) (hJ : J pre W) (hN : pre.length + 3 ≤ N) :
    CallsIn Fence.wide m Tryz.prog 185 #[.int .u32 (c : Int), .func (.yield l) #[] #[]] W (EachPost n₀ J Jx pre [a, b, t] W) := by
 have ht1 : ((t : Int) == 0) = false := by rw [beq_eq_false_iff_ne]; exact ht
 have ht2 : ¬ t = 0 := by omega
 refine callsIn_of_wp Tryz.func185 rfl trivial ?_ rfl
 simp only [Tryz.ntmps185, List.size_toArray, List.length_cons, List.length_nil, Nat.reduceAdd, Nat.reduceSub, Array.replicate_succ, Array.replicate_zero, List.push_toArray, List.append_toArray, List.nil_append, List.cons_append]
 gi_wp2_with (first
     | (with_reducible refine skip_call ?_)
     | (exfalso; exact undef_not (by assumption))
     | (refine ⟨trivial, fun h => (by cases h), ?_⟩; gi_at_call 199; refine (callsIn_wide.2 (hs _)).mono ?_; rintro e W1 ⟨rfl, g1⟩; obtain ⟨fn1, tmps1, assign1, body1, hy1, hR1⟩ := hY pre a W1 (hA _ _ _ hJ g1) (by omega))
     | (refine ⟨fun h => (by cases h), ?_⟩; refine hR1.mono ?_; clear hR1; rintro e W2 (⟨rfl, hJ2, hb2⟩ | ⟨rfl, hx2⟩); obtain ⟨fn2, tmps2, assign2, body2, hy2, hR2⟩ := hY (pre ++ [a]) b W2 hJ2 (by simp; omega))
     | (refine ⟨fun h => (by cases h), ?_⟩; refine hR2.mono ?_; clear hR2; rintro e W3 (⟨rfl, hJ3, hb3⟩ | ⟨rfl, hx3⟩); obtain ⟨fn3, tmps3, assign3, body3, hy3, hR3⟩ := hY (pre ++ [a] ++ [b]) t W3 hJ3 (by simp; omega))
     | (refine ⟨fun h => (by cases h), ?_⟩; refine hR3.mono ?_; clear hR3; rintro e W4 (⟨rfl, hJ4, hb4⟩ | ⟨rfl, hx4⟩)))
 all_goals go_ret
 all_goals first
  | exact .inl ⟨rfl, by simpa [List.append_assoc] using hJ4, (((g1.mono (hn _ _ hJ)).trans hb2).trans hb3).trans hb4⟩
  | exact .inr ⟨rfl, [a, b, t], List.prefix_rfl, by simpa [List.append_assoc] using hx4⟩
  | exact .inr ⟨rfl, [a, b], ⟨[t], rfl⟩, by simpa [List.append_assoc] using hx3⟩
  | exact .inr ⟨rfl, [a], ⟨[b, t], rfl⟩, hx2⟩
end Go.Proofs.YthlflglkdaainaaGreatDoor
namespace Go.Proofs.YthlflglkdaainaaGreatDoor
open Go.RowKit Go.Shelf
attribute [local go_sem] Oper.semAt_some
theorem skip_fn {Q : Prop} {k : FuncId} (h : Q) : Fence.wide.fn k ∧ Q := ⟨trivial, h⟩
theorem each_dec1 (m l n₀ : Nat) (J Jx : List Nat → World → Prop) (hA : ∀ s A B, J s A → Gr A B → J s B) (hn : ∀ s A, J s A → n₀ ≤ A.heap.size) (hZ : ∀ s A, J s A → Tz A)
    (c a : Nat) (hh : isH c = false) (hdd : ∀ w, Tz w → Calls Tryz.prog 200 #[.int .u32 c] w fun e w' => e = .returned (.tuple #[.int .u32 a, .int .u32 0, .bool true]) ∧ Gr w w')
    (pre L : List Nat) (W : World) (hJ : J pre W)
    (ih : ∀ W1, J pre W1 → CallsIn Fence.wide (m - 1) Tryz.prog 185 #[.int .u32 (a : Int), .func (.yield l) #[] #[]] W1 (EachPost n₀ J Jx pre L W1)) :
    CallsIn Fence.wide m Tryz.prog 185 #[.int .u32 (c : Int), .func (.yield l) #[] #[]] W (EachPost n₀ J Jx pre L W) := by
 have hs := fun w => split_no c w hh
 refine callsIn_of_wp Tryz.func185 rfl trivial ?_ rfl
 simp only [Tryz.ntmps185, List.size_toArray, List.length_cons, List.length_nil, Nat.reduceAdd, Nat.reduceSub, Array.replicate_succ, Array.replicate_zero, List.push_toArray, List.append_toArray, List.nil_append, List.cons_append]
 gi_wp2_with (first
     | (with_reducible refine skip_call ?_)
     | (exfalso; exact undef_not (by assumption))
     | (refine ⟨trivial, fun h => (by cases h), ?_⟩; gi_at_call 199; refine (callsIn_wide.2 (hs _)).mono ?_; rintro e W1 ⟨rfl, g1⟩)
     | (refine ⟨trivial, fun h => (by cases h), ?_⟩; gi_at_call 200; refine (callsIn_wide.2 (hdd _ (hZ _ _ (hA _ _ _ hJ g1)))).mono ?_; rintro e W2 ⟨rfl, g2⟩)
     | (refine ⟨trivial, fun h => (by cases h), ?_⟩; gi_at_call 185; refine (ih _ (hA _ _ _ hJ (g1.trans g2))).mono ?_; clear ih; rintro e W3 (⟨rfl, hJ3, hb3⟩ | ⟨rfl, q, hq, hx3⟩))
     | (with_reducible refine skip_fn ?_))
 all_goals go_ret
 all_goals first
  | exact .inl ⟨rfl, hJ3, ((g1.trans g2).mono (hn _ _ hJ)).trans hb3⟩
  | exact .inr ⟨rfl, q, hq, hx3⟩
theorem each_dec2 (m l n₀ : Nat) (J Jx : List Nat → World → Prop) (hA : ∀ s A B, J s A → Gr A B → J s B) (hn : ∀ s A, J s A → n₀ ≤ A.heap.size) (hZ : ∀ s A, J s A → Tz A)
    (c a b : Nat) (hb : (b : Int) ≠ 0) (hh : isH c = false) (hdd : ∀ w, Tz w → Calls Tryz.prog 200 #[.int .u32 c] w fun e w' => e = .returned (.tuple #[.int .u32 a, .int .u32 b, .bool true]) ∧ Gr w w')
    (pre L M : List Nat) (W : World) (hJ : J pre W)
    (ih : ∀ W1, J pre W1 → CallsIn Fence.wide (m - 1) Tryz.prog 185 #[.int .u32 (a : Int), .func (.yield l) #[] #[]] W1 (EachPost n₀ J Jx pre L W1))
    (ih2 : ∀ W1, J (pre ++ L) W1 → CallsIn Fence.wide (m - 1) Tryz.prog 185 #[.int .u32 (b : Int), .func (.yield l) #[] #[]] W1 (EachPost n₀ J Jx (pre ++ L) M W1)) :
    CallsIn Fence.wide m Tryz.prog 185 #[.int .u32 (c : Int), .func (.yield l) #[] #[]] W (EachPost n₀ J Jx pre (L ++ M) W) := by
 have hs := fun w => split_no c w hh
 have ht1 : ((b : Int) == 0) = false := by rw [beq_eq_false_iff_ne]; exact hb
 have ht2 : ¬ b = 0 := by omega
 refine callsIn_of_wp Tryz.func185 rfl trivial ?_ rfl
 simp only [Tryz.ntmps185, List.size_toArray, List.length_cons, List.length_nil, Nat.reduceAdd, Nat.reduceSub, Array.replicate_succ, Array.replicate_zero, List.push_toArray, List.append_toArray, List.nil_append, List.cons_append]
 gi_wp2_with (first
     | (with_reducible refine skip_call ?_)
     | (exfalso; exact undef_not (by assumption))
     | (refine ⟨trivial, fun h => (by cases h), ?_⟩; gi_at_call 199; refine (callsIn_wide.2 (hs _)).mono ?_; rintro e W1 ⟨rfl, g1⟩)
     | (refine ⟨trivial, fun h => (by cases h), ?_⟩; gi_at_call 200; refine (callsIn_wide.2 (hdd _ (hZ _ _ (hA _ _ _ hJ g1)))).mono ?_; rintro e W2 ⟨rfl, g2⟩)
     | (refine ⟨trivial, fun h => (by cases h), ?_⟩; gi_at_call 185; refine (ih _ (hA _ _ _ hJ (g1.trans g2))).mono ?_; clear ih; rintro e W3 (⟨rfl, hJ3, hb3⟩ | ⟨rfl, q, hq, hx3⟩))
     | (refine ⟨trivial, fun h => (by cases h), ?_⟩; gi_at_call 185; refine (ih2 _ hJ3).mono ?_; clear ih2; rintro e W4 (⟨rfl, hJ4, hb4⟩ | ⟨rfl, q, hq, hx4⟩))
     | (with_reducible refine skip_fn ?_))
 all_goals go_ret
 all_goals first
  | exact .inl ⟨rfl, by rw [← List.append_assoc]; exact hJ4, (((g1.trans g2).mono (hn _ _ hJ)).trans hb3).trans hb4⟩
  | exact .inr ⟨rfl, L ++ q, (List.prefix_append_right_inj L).2 hq, by rw [← List.append_assoc]; exact hx4⟩
  | exact .inr ⟨rfl, q, hq.trans (List.prefix_append L M), hx3⟩
theorem Yields.anyDepth {m m' l N n₀ : Nat} {J Jx : List Nat → World → Prop} (h : Yields m l N n₀ J Jx) : Yields m' l N n₀ J Jx := fun pre x W hj hl => YieldAt.anyDepth rfl m' (h pre x W hj hl)
theorem each_any (k l N n₀ : Nat) (J Jx : List Nat → World → Prop) (hA : ∀ s A B, J s A → Gr A B → J s B) (hn : ∀ s A, J s A → n₀ ≤ A.heap.size) (hZ : ∀ s A, J s A → Tz A)
    (hY : Yields k l N n₀ J Jx) (n : Nat) : ∀ (c m : Nat) (pre : List Nat) (W : World), Deep n c → c < 4294967296 → J pre W → pre.length + (full c).length ≤ N →
    CallsIn Fence.wide m Tryz.prog 185 #[.int .u32 (c : Int), .func (.yield l) #[] #[]] W (EachPost n₀ J Jx pre (full c) W) := by
 have hbase : ∀ (c m : Nat) (pre : List Nat) (W : World), dfind c = none → c < 4294967296 → J pre W → pre.length + (full c).length ≤ N →
     CallsIn Fence.wide m Tryz.prog 185 #[.int .u32 (c : Int), .func (.yield l) #[] #[]] W (EachPost n₀ J Jx pre (full c) W) := by
  intro c m pre W hd hc hJ hN
  cases hh : isH c with
  | false =>
   rw [full_no hh hd] at hN ⊢
   exact each_one m l n₀ N J Jx hA hn hZ hY.anyDepth c hc hh hd pre W hJ (by simpa using hN)
  | true =>
   have hs := fun w => split_yes c w hh
   rw [full_h hh] at hN ⊢
   unfold hsp at hN ⊢
   by_cases hT0 : hT c = 0
   · rw [if_pos hT0] at hN ⊢
     rw [hT0] at hs
     exact each_two m l n₀ N J Jx hA hn hY.anyDepth c _ _ hs pre W hJ (by simpa using hN)
   · rw [if_neg hT0] at hN ⊢
     exact each_three m l n₀ N J Jx hA hn hY.anyDepth c _ _ _ (by omega) hs pre W hJ (by simpa using hN)
 induction n with
 | zero => intro c m pre W hd hc hJ hN; exact hbase c m pre W hd hc hJ hN
 | succ n ihn =>
  intro c m pre W hD hc hJ hN
  rcases hD with hd | ⟨e, hd, h2, h3⟩
  · exact hbase c m pre W hd hc hJ hN
  · have hmem := dfind_some hd
    have hno := D_noH hmem.1
    have hbd := D_bd2 e hmem.1
    have hh : isH c = false := by rw [← hmem.2]; exact hno.1
    have hdd := fun w ht => decomp_yes c hc w ht e hd
    rw [full_some hh hd] at hN ⊢
    rw [List.length_append] at hN
    by_cases hz : e.2.2.1 = 0
    · rw [if_pos hz, List.append_nil]
      rw [hz] at hdd
      exact each_dec1 m l n₀ J Jx hA hn hZ c e.2.1 hh hdd pre _ W hJ (fun W1 hJ1 => ihn e.2.1 (m - 1) pre W1 h2 (by omega) hJ1 (by omega))
    · rw [if_neg hz] at hN ⊢
      exact each_dec2 m l n₀ J Jx hA hn hZ c e.2.1 e.2.2.1 (by omega) hh hdd pre _ _ W hJ (fun W1 hJ1 => ihn e.2.1 (m - 1) pre W1 h2 (by omega) hJ1 (by omega))
       (fun W1 hJ1 => hbase e.2.2.1 (m - 1) _ W1 h3 (by omega) hJ1 (by rw [List.length_append]; omega))
end Go.Proofs.YthlflglkdaainaaGreatDoor
namespace Go.Proofs.YthlflglkdaainaaGreatDoor
open Go.RowKit Go.Shelf
attribute [local go_sem] Oper.semAt_some
theorem parts1_stops (c : Nat) (hc : c < 4294967296) (n : Nat) (w0 : World) (ht : Tz w0) (Bt : Nat) (w : World) (hg : Gr w0 w) (hBt : Bt < w.heap.size) (hcell : w.cell? ⟨Bt, 0, none⟩ = some (.int .u32 c)) :
    SeqStopsK Fence.wide n Tryz.prog 184 #[.pointer (some ⟨Bt, 0, none⟩)] (fun x : Nat => #[Value.int .u32 (x : Int)]) (Below w0.heap.size) (fun ys => ys = full c) (fun pre => pre <+: full c) (full c).length w := by
 intro l J Jx W hW hJa _ hY h0
 have hgW : Gr w0 W := hg.trans hW
 have hB := (hW.cell (p := ⟨Bt, 0, none⟩) hBt).trans hcell
 have hY' : Yields (n - 1) l (full c).length w0.heap.size (fun s A => J s A ∧ Gr w0 A ∧ W.heap.size ≤ A.heap.size) Jx := fun pre x A hj hl => (hY pre x A hj.1 hl).mono fun e A' h => h.elim
  (fun ⟨he, hj', hb⟩ => .inl ⟨he, ⟨hj', Below.trans hj.2.1 hb, Nat.le_trans hj.2.2 hb.size⟩, hb⟩) .inr
 have he := each_any (n - 1) l (full c).length w0.heap.size (fun s A => J s A ∧ Gr w0 A ∧ W.heap.size ≤ A.heap.size) Jx
  (fun s A B hj hgr => ⟨hJa s A B none hj.1 hgr.grown (fun r e => by cases e), hj.2.1.trans hgr, Nat.le_trans hj.2.2 hgr.size⟩) (fun s A hj => hj.2.1.size) (fun s A hj => hj.2.1.cell ht) hY' 3 c (n - 1) [] W (deep3 c) hc ⟨h0, hgW, Nat.le_refl _⟩ (by simp)
 refine callsIn_of_wp Tryz.func184 rfl trivial ?_ rfl
 simp only [Tryz.ntmps184, List.size_toArray, List.length_cons, List.length_nil, Nat.reduceAdd, Nat.reduceSub, Array.replicate_succ, Array.replicate_zero, List.push_toArray, List.append_toArray, List.nil_append, List.cons_append]
 gi_wp2_with (refine ⟨trivial, fun h => (by cases h), ?_⟩; gi_at_call 185; refine he.mono ?_; clear he; rintro e W1 (⟨rfl, hJ1, _⟩ | ⟨rfl, q, hq, hx⟩))
 · go_end0
   exact ⟨⟨_, rfl⟩, .inl ⟨_, rfl, hJ1.1⟩⟩
 · go_end0
   exact ⟨⟨_, rfl⟩, .inr ⟨q, hq, hx⟩⟩
theorem parts_in (n : Nat) (c : Nat) (w : World) :
    CallsIn Fence.wide n Tryz.prog 165 #[.int .u32 (c : Int)] w fun e w' => e = .returned (.func (.func 184) #[] #[.pointer (some ⟨w.heap.size, 0, none⟩)]) ∧ w' = w.alloc (.cells #[.int .u32 (c : Int)] 134) := by
 refine callsIn_of_wp Tryz.func165 rfl trivial ?_ rfl
 simp only [Tryz.ntmps165, List.size_toArray, List.length_cons, List.length_nil, Nat.reduceAdd, Nat.reduceSub, Array.replicate_succ, Array.replicate_zero, List.push_toArray, List.append_toArray, List.nil_append, List.cons_append]
 gi_wp2
 go_ret
 exact ⟨rfl, rfl⟩
theorem Full_in (c : Nat) (hc : c < 4294967296) (w : World) (ht : Tz w) :
    CallsIn Fence.wide 3 Tryz.prog 131 #[.int .u32 (c : Int)] w fun e W' => ∃ v, e = .returned v ∧ W'.ownsRow w.heap.size 134 1 v (full c).length (u32s (full c)) ∧ Gr w W' := by
 obtain ⟨i0, hi, hz0, hz1, hz2⟩ := info_parts info_u32
 have hlen := full_len c
 refine callsIn_of_wp_marks Tryz.func131 rfl trivial ?_ rfl
 simp only [Tryz.ntmps131, List.size_toArray, List.length_cons, List.length_nil, Nat.reduceAdd, Nat.reduceSub, Array.replicate_succ, Array.replicate_zero, List.push_toArray, List.append_toArray, List.nil_append, List.cons_append]
 gi_wp2_with (refine ⟨trivial, ?_⟩; gi_at_call 165; refine (parts_in _ c _).mono ?_; rintro e w' ⟨rfl, rfl⟩)
 have bO := Boxed.new w 108 (.slice none 0 0)
 have bN := Boxed.new (w.alloc (.cells #[.slice none 0 0] 108)) 134 (.int .u32 (c : Int))
 rw [World.size_alloc] at bN
 have hB0 : Gr w ((w.alloc (.cells #[.slice none 0 0] 108)).alloc (.cells #[.int .u32 (c : Int)] 134)) := (Gr.alloc _ _).trans (Gr.alloc _ _)
 refine wpIn_rangeFunc_ownG rfl (by decide) (gf := 184) (lb := #[.pointer (some ⟨w.heap.size + 1, 0, none⟩)]) rfl trivial (enters_of Tryz.func184 (by kernel_rfl) rfl)
  (parts1_stops c hc _ w ht (w.heap.size + 1) _ hB0 (by simp) bN.cell) belowK_t (belowK_b (by simp; omega)) (Below.refl _ _) (fun _ => rfl)
  (fun pre W => (∃ v, Boxed W w.heap.size 108 v ∧ W.ownsRow w.heap.size 134 1 v pre.length (u32s pre) ∧ True) ∧ Below w.heap.size w W)
  (fun _ _ _ => False)
  (OwnFrom.and (Own.from (holdsRow_own w.heap.size w.heap.size 108 134 1 (fun pre : List Nat => pre.length) (fun pre => u32s pre) (fun _ _ => True)) _) (ownFrom_below (Nat.le_refl _) (by simp; omega)))
  (fun _ _ _ _ _ hs _ _ => hs)
  ⟨⟨_, bO.alloc _, World.ownsRow_nil _ _ _ _, trivial⟩, hB0⟩
  (fun x => { tmps := #[.int .u32 (c : Int), undef, .slice none 0 0, .pointer (some ⟨w.heap.size, 0, none⟩), .int .u32 (x : Int), .int .u32 (c : Int), .func (.func 184) #[] #[.pointer (some ⟨w.heap.size + 1, 0, none⟩)], .int .u32 (x : Int), undef, undef, undef, undef, undef], defers := [] }) ?assign ?body ?done ?stop
 case assign =>
  intro l x W K hK
  gi_wp2
  exact hK
 case body =>
  rintro l pre x W ⟨⟨v, hv, hrow, _⟩, hB⟩ hlt
  have hc := hv.cell
  gi_wp2_with (gi_at_builtin; refine wpListIn_append_own _ rfl _ _ 108 rfl w.heap.size 134 i0 (.int .u32 0) 1 4 Tryz.underlying108 hi hz0 hz1 hz2 rfl (by decide) _ _ _ rfl (hrow.alloc _) ⟨W.heap.size, 0, none⟩ 1 1 [.int .u32 x] rfl rfl (cell_one_new _ _ _) (by simp [Value.oneCell']) (by first | omega | (unfold maxLen; omega)) (by first | omega | (unfold maxLen; omega)) (by have := hB.size; simp; omega) ?_; intro v' w1 hown' hgrow _; obtain ⟨g', cap', rfl⟩ := ownsRow_succ hown'; obtain ⟨hv1, hv2, hr2, hk2, hb2⟩ := hv.appended (by decide) hrow hB.size (Nat.le_refl _) hown' hgrow; have hc1 := hv1.cell; have hf1 := hv1.frozen)
  exact ⟨hk2.from _, hb2, ⟨_, hv2, own_conv hr2 rfl rfl rfl, trivial⟩, hB.trans hb2⟩
 case done =>
  rintro D ys W hD rfl ⟨⟨v, hv, hrow, _⟩, hB⟩ hK
  have hc := hv.cell
  gi_wp2
  refine ⟨by simp, .inl ⟨_, _, rfl, run_takeDeferred hK, ?_⟩⟩
  exact ⟨_, results_tmp rfl _ _ _, v, rfl, ownsRow_putObj hrow _ hK rfl, hB.trans (belowK_b (w := w) (Nat.le_refl _) W D _ _ (by simp at hD; omega) hK rfl rfl)⟩
 case stop =>
  rintro D c pre W _ _ h _
  exact h.elim
theorem Full_any (c : Nat) (hc : c < 4294967296) (w : World) (ht : Tz w) :
    Calls Tryz.prog 131 #[.int .u32 (c : Int)] w fun e W' => ∃ v, e = .returned v ∧ W'.ownsRow w.heap.size 134 1 v (full c).length (u32s (full c)) ∧ Gr w W' := callsIn_wide.1 (Full_in c hc w ht)
end Go.Proofs.YthlflglkdaainaaGreatDoor
