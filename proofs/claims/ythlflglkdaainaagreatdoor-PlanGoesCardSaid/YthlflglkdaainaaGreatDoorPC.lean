import Derived.WalkSpells
import Derived.Deep.CutBlock
import Derived.Deep.DeepCutAuto
import Derived.Deep.LoopGhost
import Derived.Deep.RegionLaw
import Derived.Test.YthlflglkdaainaaGreatDoorPB
import Derived.Test.YthlflglkdaainaaGreatDoorPL
import Derived.Test.YthlflglkdaainaaGreatDoorPO
import Derived.Test.YthlflglkdaainaaGreatDoorPR
/- Texts of this seat: KC. -/
set_option maxRecDepth 100000
set_option maxHeartbeats 8000000
namespace Go.Proofs.YthlflglkdaainaaGreatDoor
def isL (a : Nat) : Bool := Nat.ble 4352 a && Nat.blt a 4371
def isV (b : Nat) : Bool := Nat.ble 4449 b && Nat.blt b 4470
def isT (b : Nat) : Bool := Nat.ble 4520 b && Nat.blt b 4547
def joinH (a b : Nat) : Option Nat := if isL a && isV b then some (44032 + ((a - 4352) * 21 + (b - 4449)) * 28) else if isH a && Nat.beq ((a - 44032) % 28) 0 && isT b then some (a + b - 4519) else none
noncomputable def two (a b : Nat) : Option Nat := match joinH a b with | some x => some x | none => (pfind a b).map (fun e => e.2.2)
theorem isL_iff (a : Nat) : isL a = true ↔ 4352 ≤ a ∧ a < 4371 := by unfold isL; rw [Bool.and_eq_true, Nat.ble_eq, Nat.blt_eq]
theorem isV_iff (a : Nat) : isV a = true ↔ 4449 ≤ a ∧ a < 4470 := by unfold isV; rw [Bool.and_eq_true, Nat.ble_eq, Nat.blt_eq]
theorem isT_iff (a : Nat) : isT a = true ↔ 4520 ≤ a ∧ a < 4547 := by unfold isT; rw [Bool.and_eq_true, Nat.ble_eq, Nat.blt_eq]
theorem full_letter {c : Nat} (h : 4352 ≤ c ∧ c ≤ 4546) : full c = [c] := by
 refine full_no ?_ (letters_none h)
 cases hi : isH c with
 | false => rfl
 | true => have := (isH_iff c).1 hi; omega
theorem joinH_some {a b x : Nat} (h : joinH a b = some x) : (isL a = true ∧ isV b = true ∧ x = 44032 + ((a - 4352) * 21 + (b - 4449)) * 28) ∨ (isH a = true ∧ (a - 44032) % 28 = 0 ∧ isT b = true ∧ x = a + b - 4519) := by
 unfold joinH at h
 split at h
 · rename_i h1
   rw [Bool.and_eq_true] at h1
   exact .inl ⟨h1.1, h1.2, (Option.some.inj h).symm⟩
 · split at h
   · rename_i h1
     rw [Bool.and_eq_true, Bool.and_eq_true, Nat.beq_eq] at h1
     exact .inr ⟨h1.1.1, h1.1.2, h1.2, (Option.some.inj h).symm⟩
   · cases h
structure TwoOf (a b x : Nat) : Prop where
 full : full x = full a ++ [b]
 whole : Go.Proofs.YthlflglkdaainaaGreatDoor.full b = [b]
 clsx : cls x = 0
 clsa : cls a = 0
 small : x < 1114112
theorem two_of {a b x : Nat} (h : two a b = some x) : TwoOf a b x := by
 unfold two at h
 cases hj : joinH a b with
 | some y =>
  rw [hj] at h
  obtain rfl := Option.some.inj h
  rcases joinH_some hj with ⟨h1, h2, h3⟩ | ⟨h1, h2, h3, h4⟩
  · rw [isL_iff] at h1
    rw [isV_iff] at h2
    have hx : isH y = true := (isH_iff y).2 (by omega)
    refine ⟨?_, full_letter (by omega), cls_h (.inr ((isH_iff y).1 hx)), cls_h (.inl (by omega)), by omega⟩
    rw [full_h hx, full_letter (c := a) (by omega)]
    have e1 : hT y = 0 := by unfold hT; rw [if_pos (by omega)]
    have e2 : hL y = a := by unfold hL; omega
    have e3 : hV y = b := by unfold hV; omega
    unfold hsp; rw [if_pos e1, e2, e3]; rfl
  · rw [isT_iff] at h3
    have ha := (isH_iff a).1 h1
    have hx : isH y = true := (isH_iff y).2 (by omega)
    refine ⟨?_, full_letter (by omega), cls_h (.inr ((isH_iff y).1 hx)), cls_h (.inr ha), by omega⟩
    rw [full_h hx, full_h h1]
    have e0 : hT a = 0 := by unfold hT; rw [if_pos h2]
    have e1 : hT y = b := by unfold hT; rw [if_neg (by omega)]; omega
    have e2 : hL y = hL a := by unfold hL; omega
    have e3 : hV y = hV a := by unfold hV; omega
    unfold hsp; rw [if_pos e0, e1, e2, e3, if_neg (by omega)]; rfl
 | none =>
  rw [hj] at h
  cases hp : pfind a b with
  | none => rw [hp] at h; cases h
  | some e =>
   rw [hp] at h
   obtain rfl := Option.some.inj h
   have hd := pair_dec hp
   have hm := (dfind_some hd).1
   have hno := D_noH hm
   obtain ⟨_, h2, h3, h4⟩ := dec_pair hd rfl
   have hb : full b = [b] := full_no hno.2.2 (dec_deep hd).1
   refine ⟨?_, hb, h4, h3, by have := P_bd2 e (pfind_some hp).1; show e.2.2 < _; omega⟩
   rw [full_some hno.1 hd, if_neg (by simp only at h2 ⊢; omega), hb]
def opn (marks : List Nat) (last k : Nat) : Bool := marks.isEmpty || (!(last == 0) && decide (last < k))
noncomputable def tryTwo (st : Nat) (marks : List Nat) (last c : Nat) : Option Nat := if opn marks last (cls c) then two st c else none
noncomputable def compG : List Nat → Nat → List Nat → Nat → List Nat
 | [], st, marks, _ => st :: marks
 | c :: t, st, marks, last => match tryTwo st marks last c with
  | some x => compG t x marks last
  | none => if cls c = 0 then st :: marks ++ compG t c [] 0 else compG t st (marks ++ [c]) (cls c)
noncomputable def comp : List Nat → List Nat
 | [] => []
 | c :: t => if cls c = 0 then compG t c [] 0 else c :: comp t
theorem compG_nil (st : Nat) (marks : List Nat) (last : Nat) : compG [] st marks last = st :: marks := by rw [compG]
theorem compG_some {c st last x : Nat} {marks : List Nat} (h : tryTwo st marks last c = some x) (t : List Nat) : compG (c :: t) st marks last = compG t x marks last := by rw [compG, h]
theorem compG_s {c st last : Nat} {marks : List Nat} (h : tryTwo st marks last c = none) (hc : cls c = 0) (t : List Nat) : compG (c :: t) st marks last = st :: marks ++ compG t c [] 0 := by rw [compG, h]; simp only; rw [if_pos hc]
theorem compG_m {c st last : Nat} {marks : List Nat} (h : tryTwo st marks last c = none) (hc : cls c ≠ 0) (t : List Nat) : compG (c :: t) st marks last = compG t st (marks ++ [c]) (cls c) := by rw [compG, h]; simp only; rw [if_neg hc]
theorem comp_s {c : Nat} (h : cls c = 0) (t : List Nat) : comp (c :: t) = compG t c [] 0 := by rw [comp, if_pos h]
theorem comp_m {c : Nat} (h : cls c ≠ 0) (t : List Nat) : comp (c :: t) = c :: comp t := by rw [comp, if_neg h]
theorem comp_nil : comp [] = [] := by rw [comp]
theorem tryTwo_some {st last c x : Nat} {marks : List Nat} (h : tryTwo st marks last c = some x) : two st c = some x ∧ (marks = [] ∨ last < cls c) := by
 unfold tryTwo at h
 split at h
 · rename_i ho
   refine ⟨h, ?_⟩
   unfold opn at ho
   rw [Bool.or_eq_true, Bool.and_eq_true, decide_eq_true_eq, List.isEmpty_iff] at ho
   exact ho.imp id (·.2)
 · cases h
theorem compG_length : ∀ (t : List Nat) (st : Nat) (marks : List Nat) (last : Nat), (compG t st marks last).length ≤ 1 + marks.length + t.length
 | [], st, marks, last => by rw [compG_nil]; simp; omega
 | c :: t, st, marks, last => by
  cases h : tryTwo st marks last c with
  | some x => rw [compG_some h]; have := compG_length t x marks last; simp; omega
  | none =>
   by_cases hc : cls c = 0
   · rw [compG_s h hc]; have := compG_length t c [] 0; simp at this ⊢; omega
   · rw [compG_m h hc]; have := compG_length t st (marks ++ [c]) (cls c); simp at this ⊢; omega
theorem comp_length : ∀ (l : List Nat), (comp l).length ≤ l.length
 | [] => by rw [comp_nil]; exact Nat.le_refl _
 | c :: t => by
  by_cases hc : cls c = 0
  · rw [comp_s hc]; have := compG_length t c [] 0; simp at this ⊢; omega
  · rw [comp_m hc]; have := comp_length t; simp; omega
theorem compG_parts {s : Nat} (hs : cls s = 0) (h2 : ∀ a, two a s = none) (B : List Nat) : ∀ (A : List Nat) (st : Nat) (marks : List Nat) (last : Nat), compG (A ++ s :: B) st marks last = compG A st marks last ++ compG B s [] 0
 | [], st, marks, last => by
  rw [compG_nil, List.nil_append, compG_s (by unfold tryTwo; rw [h2]; split <;> rfl) hs]
 | c :: A, st, marks, last => by
  rw [List.cons_append]
  cases h : tryTwo st marks last c with
  | some x => rw [compG_some h, compG_some h, compG_parts hs h2 B A]
  | none =>
   by_cases hc : cls c = 0
   · rw [compG_s h hc, compG_s h hc, compG_parts hs h2 B A]; simp
   · rw [compG_m h hc, compG_m h hc, compG_parts hs h2 B A]
theorem comp_parts {s : Nat} (hs : cls s = 0) (h2 : ∀ a, two a s = none) (B : List Nat) : ∀ (A : List Nat), comp (A ++ s :: B) = comp A ++ comp (s :: B)
 | [] => by rw [comp_nil]; rfl
 | c :: A => by
  rw [List.cons_append]
  by_cases hc : cls c = 0
  · rw [comp_s hc, comp_s hc, comp_s hs, compG_parts hs h2]
  · rw [comp_m hc, comp_m hc, comp_parts hs h2 B A]; rfl
theorem compG_mem : ∀ (t : List Nat) (st : Nat) (marks : List Nat) (last x : Nat), x ∈ compG t st marks last → x = st ∨ x ∈ marks ∨ x ∈ t ∨ ∃ a b, two a b = some x
 | [], st, marks, last, x, h => by
  rw [compG_nil] at h
  rcases List.mem_cons.1 h with h | h
  · exact .inl h
  · exact .inr (.inl h)
 | c :: t, st, marks, last, x, h => by
  cases ht : tryTwo st marks last c with
  | some y =>
   rw [compG_some ht] at h
   rcases compG_mem t y marks last x h with h | h | h | h
   · exact .inr (.inr (.inr ⟨st, c, by rw [h]; exact (tryTwo_some ht).1⟩))
   · exact .inr (.inl h)
   · exact .inr (.inr (.inl (List.mem_cons_of_mem _ h)))
   · exact .inr (.inr (.inr h))
  | none =>
   by_cases hc : cls c = 0
   · rw [compG_s ht hc] at h
     rcases List.mem_cons.1 h with h | h
     · exact .inl h
     rcases List.mem_append.1 h with h | h
     · exact .inr (.inl h)
     rcases compG_mem t c [] 0 x h with h | h | h | h
     · exact .inr (.inr (.inl (by rw [h]; simp)))
     · cases h
     · exact .inr (.inr (.inl (List.mem_cons_of_mem _ h)))
     · exact .inr (.inr (.inr h))
   · rw [compG_m ht hc] at h
     rcases compG_mem t st _ _ x h with h | h | h | h
     · exact .inl h
     · rcases List.mem_append.1 h with h | h
       · exact .inr (.inl h)
       · rw [List.mem_singleton] at h; exact .inr (.inr (.inl (by rw [h]; simp)))
     · exact .inr (.inr (.inl (List.mem_cons_of_mem _ h)))
     · exact .inr (.inr (.inr h))
theorem comp_mem : ∀ (l : List Nat) (x : Nat), x ∈ comp l → x ∈ l ∨ ∃ a b, two a b = some x
 | [], x, h => by rw [comp_nil] at h; cases h
 | c :: t, x, h => by
  by_cases hc : cls c = 0
  · rw [comp_s hc] at h
    rcases compG_mem t c [] 0 x h with h | h | h | h
    · exact .inl (by rw [h]; simp)
    · cases h
    · exact .inl (List.mem_cons_of_mem _ h)
    · exact .inr h
  · rw [comp_m hc] at h
    rcases List.mem_cons.1 h with h | h
    · exact .inl (by rw [h]; simp)
    · exact (comp_mem t x h).imp (List.mem_cons_of_mem _) id
theorem fullL_cons (a : Nat) (L : List Nat) : fullL (a :: L) = full a ++ fullL L := by unfold fullL; rw [List.flatMap_cons]
def Whole (l : List Nat) : Prop := ∀ x ∈ l, full x = [x]
theorem fullL_of_whole : ∀ {l : List Nat}, Whole l → fullL l = l
 | [], _ => rfl
 | a :: l, h => by rw [fullL_cons, h a (by simp), fullL_of_whole fun x hx => h x (List.mem_cons_of_mem _ hx)]; rfl
theorem inOrd_cons {p c : Nat} {t : List Nat} (h : inOrd cls p (c :: t) = true) : (cls c = 0 ∨ p ≤ cls c) ∧ inOrd cls (cls c) t = true := by
 rw [inOrd, Bool.and_eq_true, Bool.or_eq_true, Nat.beq_eq, Nat.ble_eq] at h
 exact h
structure Kept (marks : List Nat) (last p : Nat) : Prop where
 all : ∀ m ∈ marks, cls m ≠ 0 ∧ cls m ≤ last
 le : last ≤ p
 nil : marks = [] → last = 0
theorem Kept.start (p : Nat) : Kept [] 0 p := ⟨(fun m h => by cases h), Nat.zero_le _, fun _ => rfl⟩
theorem Kept.snoc {marks : List Nat} {last p c : Nat} (h : Kept marks last p) (hc : cls c ≠ 0) (hp : p ≤ cls c) : Kept (marks ++ [c]) (cls c) (cls c) :=
 ⟨fun m hm => by
  rcases List.mem_append.1 hm with hm | hm
  · have := h.all m hm; have := h.le; omega
  · rw [List.mem_singleton] at hm; rw [hm]; exact ⟨hc, Nat.le_refl _⟩, Nat.le_refl _, fun e => by simp at e⟩
theorem Kept.two_ {marks : List Nat} {last p c : Nat} (h : Kept marks last p) (ho : marks = [] ∨ last < cls c) : Kept marks last (cls c) :=
 ⟨h.all, ho.elim (fun ho => by rw [h.nil ho]; exact Nat.zero_le _) (fun ho => Nat.le_of_lt ho), h.nil⟩
theorem compG_eqv : ∀ (t : List Nat) (st : Nat) (marks : List Nat) (last p : Nat), Kept marks last p → inOrd cls p t = true → Whole marks → Whole t → Eqv (fullL (compG t st marks last)) (full st ++ marks ++ t)
 | [], st, marks, last, p, _, _, hw, _ => by rw [compG_nil, fullL_cons, fullL_of_whole hw, List.append_nil]; exact rfl
 | c :: t, st, marks, last, p, hk, ho, hw, hwt => by
  obtain ⟨h1, h2⟩ := inOrd_cons ho
  have hwc : full c = [c] := hwt c (by simp)
  have hwt' : Whole t := fun x hx => hwt x (List.mem_cons_of_mem _ hx)
  cases ht : tryTwo st marks last c with
  | some x =>
   rw [compG_some ht]
   obtain ⟨h3, h4⟩ := tryTwo_some ht
   have ih := compG_eqv t x marks last (cls c) (hk.two_ h4) h2 hw hwt'
   rw [(two_of h3).full] at ih
   refine ih.trans ?_
   rcases h4 with rfl | h4
   · show ordL _ = ordL _; congr 1; simp
   · have hc : cls c ≠ 0 := by omega
     have := (Sw.back hc (full st) _ marks rfl fun y hy => ⟨(hk.all y hy).1, by have := (hk.all y hy).2; omega⟩).ord
     have e : Eqv (full st ++ c :: marks ++ t) (full st ++ marks ++ [c] ++ t) := Eqv.append (show Eqv _ _ from this.symm) (show Eqv t t from rfl)
     have e2 : full st ++ [c] ++ marks ++ t = full st ++ c :: marks ++ t := by simp
     have e3 : full st ++ marks ++ c :: t = full st ++ marks ++ [c] ++ t := by simp
     rw [e2, e3]; exact e
  | none =>
   by_cases hc : cls c = 0
   · rw [compG_s ht hc, List.cons_append, fullL_cons, fullL_append, fullL_of_whole hw]
     have ih := compG_eqv t c [] 0 (cls c) (Kept.start _) h2 (fun x h => by cases h) hwt'
     rw [hwc] at ih
     have := Eqv.append (show Eqv (full st ++ marks) (full st ++ marks) from rfl) ih
     rw [List.append_nil, List.append_assoc] at this
     exact this
   · rw [compG_m ht hc]
     have hp : p ≤ cls c := h1.resolve_left hc
     have ih := compG_eqv t st (marks ++ [c]) (cls c) (cls c) (hk.snoc hc hp) h2 (fun x hx => by
      rcases List.mem_append.1 hx with hx | hx
      · exact hw x hx
      · rw [List.mem_singleton] at hx; rw [hx]; exact hwc) hwt'
     rw [List.append_assoc, List.append_assoc] at ih
     rw [List.append_assoc]
     exact ih
theorem comp_eqv : ∀ (d : List Nat) (p : Nat), inOrd cls p d = true → Whole d → Eqv (fullL (comp d)) d
 | [], _, _, _ => by rw [comp_nil]; exact rfl
 | c :: t, p, ho, hw => by
  obtain ⟨h1, h2⟩ := inOrd_cons ho
  have hwc : full c = [c] := hw c (by simp)
  have hwt' : Whole t := fun x hx => hw x (List.mem_cons_of_mem _ hx)
  by_cases hc : cls c = 0
  · rw [comp_s hc]
    have := compG_eqv t c [] 0 (cls c) (Kept.start _) h2 (fun x h => by cases h) hwt'
    rw [hwc, List.append_nil] at this; exact this
  · rw [comp_m hc, fullL_cons, hwc]
    exact Eqv.append (show Eqv [c] [c] from rfl) (comp_eqv t _ h2 hwt')
noncomputable def lastC (M : List Nat) : Nat := match M.getLast? with | some m => cls m | none => 0
theorem lastC_snoc (M : List Nat) (m : Nat) : lastC (M ++ [m]) = cls m := by unfold lastC; simp
def Clean (st : Nat) (M : List Nat) : Prop := ∀ M1 m M2, M = M1 ++ m :: M2 → tryTwo st M1 (lastC M1) m = none
theorem Clean.nil (st : Nat) : Clean st [] := fun M1 m M2 h => by simp at h
theorem Clean.snoc {st c : Nat} {M : List Nat} (h : Clean st M) (hc : tryTwo st M (lastC M) c = none) : Clean st (M ++ [c]) := by
 intro M1 m M2 e
 by_cases hM : M2 = []
 · subst hM
   obtain ⟨rfl, e2⟩ := List.append_inj' e rfl
   injection e2 with e2; subst e2; exact hc
 · obtain ⟨M3, z, rfl⟩ := snoc_of hM
   have e' : M ++ [c] = (M1 ++ m :: M3) ++ [z] := by rw [e]; simp
   obtain ⟨rfl, _⟩ := List.append_inj' e' rfl
   exact h M1 m M3 rfl
theorem full_inOrd_of {u : Nat} {A : List Nat} {b c : Nat} (hu : inOrd cls 0 (full u) = true) (h : full u = A ++ [b, c]) : cls c = 0 ∨ cls b ≤ cls c := by
 rw [h] at hu
 have gen : ∀ (A : List Nat) (p : Nat), inOrd cls p (A ++ [b, c]) = true → cls c = 0 ∨ cls b ≤ cls c := by
  intro A
  induction A with
  | nil => intro p hp; exact (inOrd_cons (inOrd_cons hp).2).1
  | cons a A ih => intro p hp; exact ih _ (inOrd_cons hp).2
 exact gen A 0 hu
theorem full_ord (u : Nat) : inOrd cls 0 (full u) = true := by
 cases hh : isH u with
 | true =>
  have hl := hsp_lt u hh
  rw [full_h hh]
  have gen : ∀ (l : List Nat), (∀ x ∈ l, 4352 ≤ x ∧ x ≤ 4546) → ∀ p, inOrd cls p l = true := by
   intro l
   induction l with
   | nil => intro _ p; rfl
   | cons a l ih =>
    intro h p
    rw [inOrd, cls_h (.inl (h a (by simp))), Bool.and_eq_true]
    exact ⟨rfl, ih (fun x hx => h x (List.mem_cons_of_mem _ hx)) _⟩
  exact gen _ hl 0
 | false =>
  cases hd : dfind u with
  | none => rw [full_no hh hd]; simp [inOrd]
  | some e =>
   have he := dfind_some hd
   have hk := (allB_iff _ _).1 (and3 ckB_t).2.2 e he.1
   unfold ckD3 at hk
   have hc : ∀ c, clsT (dc12 tC.data.toList) c = cls c := fun c => by
    unfold clsT cls
    rw [show fC (dc12 tC.data.toList) c = cfind c from fC_eq c]
    cases cfind c <;> rfl
   rw [he.2, show fullT (dc16 tD.data.toList) 3 u = fullF 3 u from fullT_eq (deep3 u) hh] at hk
   rw [funext hc] at hk
   exact hk
theorem Clean.two_ {st c x last p : Nat} {M : List Nat} (hk : Kept M last p) (h2 : two st c = some x) (ho : M = [] ∨ last < cls c) : Clean x M := by
 intro M1 m M2 e
 have hm := hk.all m (by rw [e]; simp)
 have hlast : last < cls c := ho.resolve_left (by rw [e]; simp)
 unfold tryTwo
 split
 · cases hu : two x m with
   | none => rfl
   | some u =>
    have h3 := (two_of hu).full
    rw [(two_of h2).full, List.append_assoc] at h3
    rcases full_inOrd_of (full_ord u) h3 with h | h
    · exact absurd h hm.1
    · omega
 · rfl
theorem compG_clean (st : Nat) (tail : List Nat) : ∀ (M2 M1 : List Nat), Clean st (M1 ++ M2) → Marks M2 → compG (M2 ++ tail) st M1 (lastC M1) = compG tail st (M1 ++ M2) (lastC (M1 ++ M2))
 | [], M1, _, _ => by simp
 | m :: M2, M1, h, hm => by
  rw [List.cons_append, compG_m (h M1 m M2 rfl) (hm m (by simp))]
  have e : M1 ++ m :: M2 = (M1 ++ [m]) ++ M2 := by simp
  rw [e] at h ⊢
  rw [← lastC_snoc M1 m]
  exact compG_clean st tail M2 (M1 ++ [m]) h fun x hx => hm x (List.mem_cons_of_mem _ hx)
theorem Kept.marks {M : List Nat} {last p : Nat} (h : Kept M last p) : Marks M := fun x hx => (h.all x hx).1
theorem compG_again : ∀ (t : List Nat) (st : Nat) (M : List Nat) (p : Nat), Kept M (lastC M) p → inOrd cls p t = true → Clean st M → cls st = 0 →
    ∃ s r, compG t st M (lastC M) = s :: r ∧ compG r s [] 0 = s :: r ∧ (s = st ∨ ∃ a b, two a b = some s) ∧ cls s = 0
 | [], st, M, p, hk, _, hc, hs => by
  refine ⟨st, M, compG_nil _ _ _, ?_, .inl rfl, hs⟩
  have := compG_clean st [] M [] hc hk.marks
  rw [compG_nil, List.append_nil] at this
  exact this
 | c :: t, st, M, p, hk, ho, hcl, hs => by
  obtain ⟨h1, h2⟩ := inOrd_cons ho
  cases ht : tryTwo st M (lastC M) c with
  | some x =>
   rw [compG_some ht]
   obtain ⟨h3, h4⟩ := tryTwo_some ht
   obtain ⟨s, r, k1, k2, k3, k4⟩ := compG_again t x M (cls c) (hk.two_ h4) h2 (Clean.two_ hk h3 h4) (two_of h3).clsx
   exact ⟨s, r, k1, k2, .inr (k3.elim (fun e => ⟨st, c, by rw [e]; exact h3⟩) id), k4⟩
  | none =>
   by_cases hc : cls c = 0
   · rw [compG_s ht hc]
     obtain ⟨s, r, k1, k2, k3, k4⟩ := compG_again t c [] (cls c) (Kept.start _) h2 (Clean.nil c) hc
     rw [show lastC [] = 0 from rfl] at k1
     refine ⟨st, M ++ s :: r, by rw [k1]; rfl, ?_, .inl rfl, hs⟩
     have e := compG_clean st (s :: r) M [] hcl hk.marks
     rw [List.nil_append] at e
     rw [show lastC [] = 0 from rfl] at e
     rw [e]
     have hn : tryTwo st M (lastC M) s = none := by
      unfold tryTwo
      split
      · rename_i hop
        have hM : M = [] := by
         unfold opn at hop
         rw [k4, Bool.or_eq_true, List.isEmpty_iff] at hop
         exact hop.resolve_right (by simp)
        subst hM
        cases h2' : two st s with
        | none => rfl
        | some u =>
         have hw := (two_of h2').whole
         rcases k3 with k3 | ⟨a, b, k3⟩
         · rw [k3] at h2'
           have : tryTwo st [] (lastC []) c = some u := by unfold tryTwo opn; simpa using h2'
           rw [this] at ht; cases ht
         · have hf := (two_of k3).full
           rw [hw] at hf
           have hl := congrArg List.length hf
           have := (full_len a).1
           rw [List.length_append] at hl
           simp only [List.length_cons, List.length_nil] at hl; omega
      · rfl
     rw [compG_s hn k4, k2]; rfl
   · rw [compG_m ht hc]
     have hp : p ≤ cls c := h1.resolve_left hc
     rw [← lastC_snoc M c]
     exact compG_again t st (M ++ [c]) (cls c) (by rw [lastC_snoc]; exact hk.snoc hc hp) h2 (hcl.snoc ht) hs
theorem comp_again : ∀ (d : List Nat) (p : Nat), inOrd cls p d = true → comp (comp d) = comp d
 | [], _, _ => by rw [comp_nil, comp_nil]
 | c :: t, p, ho => by
  obtain ⟨h1, h2⟩ := inOrd_cons ho
  by_cases hc : cls c = 0
  · rw [comp_s hc]
    obtain ⟨s, r, k1, k2, k3, k4⟩ := compG_again t c [] (cls c) (Kept.start _) h2 (Clean.nil c) hc
    rw [show lastC [] = 0 from rfl] at k1
    rw [k1, comp_s k4, k2]
  · rw [comp_m hc, comp_m hc, comp_again t _ h2]
noncomputable def nfd (l : List Nat) : List Nat := ordL (fullL l)
noncomputable def nfc (l : List Nat) : List Nat := comp (nfd l)
theorem full_whole' (c : Nat) : Whole (full c) := by
 intro x hx
 cases hh : isH c with
 | true => rw [full_h hh] at hx; exact full_letter (hsp_lt c hh x hx)
 | false =>
  obtain ⟨_, h2, h3⟩ := fullF_mem (deep3 c) hh x hx
  exact full_no h3 h2
theorem fullL_whole' (l : List Nat) : Whole (fullL l) := by
 intro x hx
 unfold fullL at hx
 obtain ⟨c, _, hx⟩ := List.mem_flatMap.1 hx
 exact full_whole' c x hx
theorem nfd_whole (l : List Nat) : Whole (nfd l) := fun x hx => fullL_whole' l x (ordL_mem.1 hx)
theorem nfd_ord (l : List Nat) : inOrd cls 0 (nfd l) = true := inOrd_ordL _
theorem nfd_nfc (l : List Nat) : nfd (nfc l) = nfd l := by
 have : ordL (fullL (comp (nfd l))) = ordL (nfd l) := comp_eqv (nfd l) 0 (nfd_ord l) (nfd_whole l)
 show ordL (fullL (comp (nfd l))) = nfd l
 rw [this]; exact ordL_idem _
theorem nfc_nfc (l : List Nat) : nfc (nfc l) = nfc l := by show comp (nfd (nfc l)) = nfc l; rw [nfd_nfc]; rfl
theorem comp_nfc (l : List Nat) : comp (nfc l) = nfc l := comp_again _ 0 (nfd_ord l)
theorem nfc_length (l : List Nat) : (nfc l).length ≤ (nfd l).length := comp_length _
end Go.Proofs.YthlflglkdaainaaGreatDoor
namespace Go.Proofs.YthlflglkdaainaaGreatDoor
def secs : List Nat := [768, 769, 770, 771, 772, 774, 775, 776, 777, 778, 779, 780, 783, 785, 787, 788, 795, 803, 804, 805, 806, 807, 808, 813, 814, 816, 817, 824, 834, 837, 1619, 1620, 1621, 2364, 2494, 2519, 2878, 2902, 2903, 3006, 3031, 3158, 3266, 3285, 3286, 3390, 3415, 3530, 3535, 3551, 4142, 6965, 12441, 12442, 69818, 69927, 70462, 70487, 70832, 70842, 70845, 71087, 71984]
def inSecs (c : Nat) : Bool := !(allB (fun s => !(Nat.beq s c)) secs)
def zeroFst (f : Nat → Nat) : List Nat → Bool
 | [] => true
 | c :: l => cond (Nat.beq (f c) 0) (zeroFst f l) (allB (fun x => !(Nat.beq (f x) 0)) (c :: l))
def hdOf : List Nat → Nat | [] => 0 | a :: _ => a
def tlOf : List Nat → List Nat | [] => [] | _ :: l => l
def ckQ1 (D : List (Nat × Nat × Nat × Bool)) (C : List (Nat × Nat × Nat)) (e : Nat × Nat × Nat × Bool) : Bool := cond e.2.2.2
 ((match fD D e.2.1 with | none => true | some x => x.2.2.2) && !(inSecs (hdOf (fullT D 3 e.1)) || jamo (hdOf (fullT D 3 e.1))) && Nat.beq (clsT C (hdOf (fullT D 3 e.1))) 0 && zeroFst (clsT C) (tlOf (fullT D 3 e.1))) true
def ckQ2 (e : Nat × Nat × Nat) : Bool := inSecs e.2.1 && !(jamo e.2.1)
def ckQ (lD lP lC : List UInt8) : Bool := allB (ckQ1 (dc16 lD) (dc12 lC)) (dc16 lD) && allB ckQ2 (dc15 lP)
theorem ckQ_t : ckQ tD.data.toList tP.data.toList tC.data.toList = true := by decide +kernel
end Go.Proofs.YthlflglkdaainaaGreatDoor
namespace Go.Proofs.YthlflglkdaainaaGreatDoor
theorem inSecs_of {c : Nat} (h : inSecs c = false) : ∀ s ∈ secs, s ≠ c := by
 unfold inSecs at h
 rw [Bool.not_eq_false'] at h
 intro s hs e
 have := (allB_iff _ _).1 h s hs
 rw [Bool.not_eq_true'] at this
 rw [Nat.beq_eq.mpr e] at this; cases this
theorem inSecs_mem {c : Nat} (h : inSecs c = true) : c ∈ secs := by
 have h2 : ¬ inSecs c = false := by rw [h]; decide
 refine Decidable.byContradiction fun hn => h2 ?_
 unfold inSecs
 rw [Bool.not_eq_false']
 refine (allB_iff _ _).2 fun s hs => ?_
 rw [Bool.not_eq_true', ← Bool.not_eq_true, Nat.beq_eq]
 intro e; rw [e] at hs; exact hn hs
theorem ckQ_1 : ∀ e ∈ Dl, ckQ1 Dl Cl e = true := by
 have h := ckQ_t; unfold ckQ at h; rw [Bool.and_eq_true] at h
 exact (allB_iff _ _).1 h.1
theorem ckQ_2 : ∀ e ∈ Pl, inSecs e.2.1 = true ∧ jamo e.2.1 = false := by
 have h := ckQ_t; unfold ckQ at h; rw [Bool.and_eq_true] at h
 intro e he
 have := (allB_iff _ _).1 h.2 e he
 unfold ckQ2 at this
 rw [Bool.and_eq_true, Bool.not_eq_true'] at this
 exact this
theorem jamo_iff (c : Nat) : jamo c = true ↔ (4449 ≤ c ∧ c ≤ 4469) ∨ (4520 ≤ c ∧ c ≤ 4546) := by
 unfold jamo; rw [Bool.or_eq_true, Bool.and_eq_true, Bool.and_eq_true, Nat.ble_eq, Nat.ble_eq, Nat.ble_eq, Nat.ble_eq]
theorem joinH_jamo {a b x : Nat} (h : joinH a b = some x) : jamo b = true := by
 rw [jamo_iff]
 rcases joinH_some h with ⟨_, h, _⟩ | ⟨_, _, h, _⟩
 · rw [isV_iff] at h; exact .inl (by omega)
 · rw [isT_iff] at h; exact .inr (by omega)
theorem two_second {a b x : Nat} (h : two a b = some x) : jamo b = true ∨ b ∈ secs := by
 unfold two at h
 cases hj : joinH a b with
 | some y => exact .inl (joinH_jamo hj)
 | none =>
  rw [hj] at h
  cases hp : pfind a b with
  | none => rw [hp] at h; cases h
  | some e =>
   obtain ⟨h1, _, h3⟩ := pfind_some hp
   have := inSecs_mem (ckQ_2 e h1).1
   rw [h3] at this
   exact .inr this
theorem second_two {c : Nat} (h : second c = false) (a : Nat) : two a c = none := by
 unfold second at h
 rw [Bool.or_eq_false_iff] at h
 cases ht : two a c with
 | none => rfl
 | some x =>
  unfold two at ht
  cases hj : joinH a c with
  | some y => rw [joinH_jamo hj] at h; cases h.1
  | none =>
   rw [hj] at ht
   cases hp : pfind a c with
   | none => rw [hp] at ht; cases ht
   | some e =>
    obtain ⟨h1, _, h3⟩ := pfind_some hp
    exact absurd (Nat.beq_eq.mpr h3) (List.any_eq_false.1 h.2 e h1)
theorem two_flag {c : Nat} {e} (hd : dfind c = some e) (hf : e.2.2.2 = true) : two e.2.1 e.2.2.1 = some c := by
 obtain ⟨⟨x, h1, h2⟩, _⟩ := dec_pair hd hf
 have hj : joinH e.2.1 e.2.2.1 = none := by
  cases hj : joinH e.2.1 e.2.2.1 with
  | none => rfl
  | some y =>
   have h3 := joinH_jamo hj
   obtain ⟨k1, _, k3⟩ := pfind_some h1
   have := (ckQ_2 x k1).2
   rw [k3, h3] at this; cases this
 unfold two
 rw [hj, h1, ← h2]; rfl
inductive Ch : Nat → List Nat → Nat → Prop
 | nil (a : Nat) : Ch a [] a
 | cons {a b y c : Nat} {bs : List Nat} (h : two a b = some y) (k : Ch y bs c) : Ch a (b :: bs) c
theorem Ch.snoc {s a b c : Nat} {bs : List Nat} (h : Ch s bs a) (k : two a b = some c) : Ch s (bs ++ [b]) c := by
 induction h with
 | nil a => exact .cons k (.nil c)
 | cons h _ ih => exact .cons h (ih k)
theorem Ch.split {B : List Nat} : ∀ {A : List Nat} {s c : Nat}, Ch s (A ++ B) c → ∃ a, Ch s A a ∧ Ch a B c
 | [], s, c, h => ⟨s, .nil s, h⟩
 | a :: A, s, c, h => by
  cases h with
  | cons h k => obtain ⟨y, k1, k2⟩ := Ch.split k; exact ⟨y, .cons h k1, k2⟩
theorem Ch.flag : ∀ (n c : Nat), Deep n c → isH c = false → (∀ e, dfind c = some e → e.2.2.2 = true) → ∃ s bs, full c = s :: bs ∧ Ch s bs c
 | n, c, hD, hh, hf => by
  cases hd : dfind c with
  | none => exact ⟨c, [], full_no hh hd, .nil c⟩
  | some e =>
   cases n with
   | zero => rw [show dfind c = none from hD] at hd; cases hd
   | succ n =>
    rcases hD with h0 | ⟨e', h1, h2, h3⟩
    · rw [h0] at hd; cases hd
    · rw [h1] at hd; obtain rfl := Option.some.inj hd
      have hm := (dfind_some h1).1
      have hno := D_noH hm
      have hfl := hf e' h1
      have hk := ckQ_1 e' hm
      unfold ckQ1 at hk
      rw [hfl] at hk
      simp only [cond_true, Bool.and_eq_true] at hk
      have hk1 := hk.1.1.1
      rw [fD_eq] at hk1
      obtain ⟨s, bs, k1, k2⟩ := Ch.flag n e'.2.1 h2 hno.2.1 (fun x hx => by rw [hx] at hk1; exact hk1)
      have ht := two_flag h1 hfl
      refine ⟨s, bs ++ [e'.2.2.1], ?_, k2.snoc ht⟩
      rw [(two_of ht).full, k1]; rfl
theorem join_lv' {a b : Nat} (h1 : isL a = true) (h2 : isV b = true) : two a b = some (44032 + ((a - 4352) * 21 + (b - 4449)) * 28) := by
 have : joinH a b = some (44032 + ((a - 4352) * 21 + (b - 4449)) * 28) := by unfold joinH; rw [h1, h2]; rfl
 unfold two; rw [this]
theorem join_lvt' {a b : Nat} (h0 : isL a = false) (h1 : isH a = true) (h2 : Nat.beq ((a - 44032) % 28) 0 = true) (h3 : isT b = true) : two a b = some (a + b - 4519) := by
 have : joinH a b = some (a + b - 4519) := by unfold joinH; rw [h0, h1, h2, h3]; rfl
 unfold two; rw [this]
theorem Ch.hangul {c : Nat} (h : isH c = true) : ∃ s bs, full c = s :: bs ∧ Ch s bs c ∧ 4352 ≤ s ∧ s < 4371 ∧ ∀ b ∈ bs, cls b = 0 := by
 have hc := (isH_iff c).1 h
 have hl := hsp_lt c h
 rw [full_h h]
 have j1 : two (hL c) (hV c) = some (44032 + (c - 44032) / 28 * 28) := by
  have e1 : isL (hL c) = true := (isL_iff _).2 (by unfold hL; omega)
  have e2 : isV (hV c) = true := (isV_iff _).2 (by unfold hV; omega)
  have e3 : 44032 + ((hL c - 4352) * 21 + (hV c - 4449)) * 28 = 44032 + (c - 44032) / 28 * 28 := by unfold hL hV; omega
  rw [join_lv' e1 e2, e3]
 by_cases ht : hT c = 0
 · have hm : (c - 44032) % 28 = 0 := by unfold hT at ht; split at ht <;> omega
   refine ⟨hL c, [hV c], by unfold hsp; rw [if_pos ht], ?_, by unfold hL; omega, by unfold hL; omega, fun b hb => ?_⟩
   · exact .cons j1 (by rw [show 44032 + (c - 44032) / 28 * 28 = c by omega]; exact .nil c)
   · rw [List.mem_singleton] at hb; rw [hb]; exact cls_h (.inl (by unfold hV; omega))
 · have hm : (c - 44032) % 28 ≠ 0 := fun e => ht (by unfold hT; rw [if_pos e])
   have e3 : hT c = 4519 + (c - 44032) % 28 := by unfold hT; rw [if_neg hm]
   have j2 : two (44032 + (c - 44032) / 28 * 28) (hT c) = some c := by
    have e0 : isL (44032 + (c - 44032) / 28 * 28) = false := by rw [← Bool.not_eq_true, isL_iff]; omega
    have e1 : isH (44032 + (c - 44032) / 28 * 28) = true := (isH_iff _).2 (by omega)
    have e2 : isT (hT c) = true := (isT_iff _).2 (by omega)
    have e4 : Nat.beq ((44032 + (c - 44032) / 28 * 28 - 44032) % 28) 0 = true := Nat.beq_eq.mpr (by omega)
    have e5 : 44032 + (c - 44032) / 28 * 28 + hT c - 4519 = c := by omega
    rw [join_lvt' e0 e1 e4 e2, e5]
   refine ⟨hL c, [hV c, hT c], by unfold hsp; rw [if_neg ht], .cons j1 (.cons j2 (.nil c)), by unfold hL; omega, by unfold hL; omega, fun b hb => ?_⟩
   simp only [List.mem_cons, List.not_mem_nil, or_false] at hb
   rcases hb with hb | hb
   · rw [hb]; exact cls_h (.inl (by unfold hV; omega))
   · rw [hb]; exact cls_h (.inl (by omega))
structure GoodC (c : Nat) : Prop where
 split : ∃ h Z Ms, full c = h :: (Z ++ Ms) ∧ cls h = 0 ∧ (∀ a, two a h = none) ∧ (∀ z ∈ Z, cls z = 0) ∧ Marks Ms ∧ SortedC Ms ∧ Ch h (Z ++ Ms) c
theorem zeroFst_split : ∀ (l : List Nat), zeroFst cls l = true → ∃ Z Ms, l = Z ++ Ms ∧ (∀ z ∈ Z, cls z = 0) ∧ Marks Ms
 | [], _ => ⟨[], [], rfl, (fun z h => by cases h), (fun z h => by cases h)⟩
 | c :: l, h => by
  unfold zeroFst at h
  by_cases hc : cls c = 0
  · rw [Nat.beq_eq.mpr hc] at h
    obtain ⟨Z, Ms, rfl, h1, h2⟩ := zeroFst_split l h
    exact ⟨c :: Z, Ms, rfl, fun z hz => by
     rcases List.mem_cons.1 hz with rfl | hz
     · exact hc
     · exact h1 z hz, h2⟩
  · rw [show Nat.beq (cls c) 0 = false by rw [← Bool.not_eq_true, Nat.beq_eq]; exact hc, cond_false] at h
    refine ⟨[], c :: l, rfl, (fun z h => by cases h), fun x hx e => ?_⟩
    have := (allB_iff _ _).1 h x hx
    rw [Nat.beq_eq.mpr e] at this; cases this
theorem inOrd_suffix {B : List Nat} : ∀ {A : List Nat} {p : Nat}, inOrd cls p (A ++ B) = true → ∃ q, inOrd cls q B = true
 | [], _, h => ⟨_, h⟩
 | _ :: _, _, h => inOrd_suffix (inOrd_cons h).2
theorem quick_zero {c : Nat} (h : quick c = 0) : second c = false ∧ ∀ e, dfind c = some e → e.2.2.2 = true := by
 rw [quick_eq] at h
 split at h
 · cases h
 · rename_i hn
   split at h
   · cases h
   · rename_i hs
     refine ⟨by simpa using hs, fun e he => ?_⟩
     cases hf : e.2.2.2 with
     | true => rfl
     | false => exact absurd ⟨by rw [he]; rfl, by unfold composes; rw [he]; exact hf⟩ hn
theorem GoodC.of {c : Nat} (hq : quick c = 0) (hc : cls c = 0) : GoodC c := by
 obtain ⟨hs, hf⟩ := quick_zero hq
 cases hh : isH c with
 | true =>
  obtain ⟨s, bs, h1, h2, h3, h4, h5⟩ := Ch.hangul hh
  refine ⟨s, bs, [], by rw [List.append_nil]; exact h1, cls_h (.inl (by omega)), fun a => ?_, h5, (fun x hx => by cases hx), List.Pairwise.nil, by rw [List.append_nil]; exact h2⟩
  cases ht : two a s with
  | none => rfl
  | some x =>
   exfalso
   rcases two_second ht with h | h
   · rw [jamo_iff] at h; omega
   · have hall : ∀ z ∈ secs, z < 4352 ∨ 4371 ≤ z := by decide
     have := hall s h; omega
 | false =>
  obtain ⟨s, bs, h1, h2⟩ := Ch.flag 3 c (deep3 c) hh hf
  cases hd : dfind c with
  | none =>
   rw [full_no hh hd] at h1
   injection h1 with e1 e2
   subst e1 e2
   exact ⟨c, [], [], full_no hh hd, hc, second_two hs, (fun x hx => by cases hx), (fun x hx => by cases hx), List.Pairwise.nil, .nil c⟩
  | some e =>
   obtain ⟨k1, k2⟩ := dfind_some hd
   have hk := ckQ_1 e k1
   unfold ckQ1 at hk
   rw [hf e hd, k2, fullT_eq (deep3 c) hh, show fullF 3 c = s :: bs from h1] at hk
   have hcl : clsT Cl = cls := funext fun x => by unfold clsT cls; rw [fC_eq]; cases cfind x <;> rfl
   rw [hcl] at hk
   simp only [cond_true, Bool.and_eq_true, hdOf, tlOf, Bool.not_eq_true'] at hk
   obtain ⟨⟨⟨_, g2⟩, g3⟩, g4⟩ := hk
   obtain ⟨Z, Ms, rfl, z1, z2⟩ := zeroFst_split bs g4
   have ho := full_ord c
   rw [h1] at ho
   obtain ⟨q, hq⟩ := inOrd_suffix (A := s :: Z) (B := Ms) ho
   refine ⟨s, Z, Ms, h1, Nat.beq_eq.mp g3, fun a => ?_, z1, z2, ((inOrd_run Ms q z2).1 hq).2, h2⟩
   cases ht : two a s with
   | none => rfl
   | some x =>
    exfalso
    rcases two_second ht with h | h
    · rw [Bool.or_eq_false_iff] at g2; rw [g2.2] at h; cases h
    · rw [Bool.or_eq_false_iff] at g2; exact inSecs_of g2.1 s h rfl
theorem compG_chain (R : List Nat) : ∀ {Z : List Nat} {s a : Nat}, Ch s Z a → compG (Z ++ R) s [] 0 = compG R a [] 0
 | [], s, a, h => by cases h; rfl
 | b :: Z, s, a, h => by
  cases h with
  | cons h k =>
   rw [List.cons_append, compG_some (x := _) (by unfold tryTwo opn; simpa using h)]
   exact compG_chain R k
theorem compG_keep (a : Nat) : ∀ (N2 N1 : List Nat), Marks N2 → (∀ n ∈ N2, ∀ a, two a n = none) → compG N2 a N1 (lastC N1) = a :: (N1 ++ N2)
 | [], N1, _, _ => by rw [compG_nil, List.append_nil]
 | n :: N2, N1, hm, h2 => by
  rw [compG_m (by unfold tryTwo; rw [h2 n (by simp)]; split <;> rfl) (hm n (by simp)), ← lastC_snoc N1 n, compG_keep a N2 (N1 ++ [n]) (fun x hx => hm x (List.mem_cons_of_mem _ hx)) fun x hx => h2 x (List.mem_cons_of_mem _ hx)]
  simp
theorem sortedC_cons {a : Nat} {l : List Nat} (h : SortedC (a :: l)) : (∀ x ∈ l, cls a ≤ cls x) ∧ SortedC l := List.pairwise_cons.1 h
theorem lastC_mem {N : List Nat} (h : N ≠ []) : ∃ n ∈ N, lastC N = cls n := by
 obtain ⟨B, y, rfl⟩ := snoc_of h
 exact ⟨y, by simp, lastC_snoc B y⟩
theorem compG_block : ∀ (k : Nat) (Ms N2 N1 : List Nat) (a c : Nat), Ms.length + N2.length = k → Ch a Ms c → Marks Ms → SortedC Ms → Marks N1 → Marks N2 → SortedC N2 → (∀ n ∈ N2, ∀ a, two a n = none) → (∀ n ∈ N1, ∀ b ∈ Ms, cls n < cls b) →
    compG (srt (Ms ++ N2)) a N1 (lastC N1) = c :: (N1 ++ N2)
 | k, [], N2, N1, a, c, _, hch, _, _, _, hm2, hs2, h2, _ => by
  cases hch
  rw [List.nil_append, srt_of_sorted hs2, compG_keep a N2 N1 hm2 h2]
 | 0, b :: Ms, N2, N1, a, c, hk, _, _, _, _, _, _, _, _ => by simp at hk
 | k + 1, b :: Ms, N2, N1, a, c, hk, hch, hmM, hsM, hm1, hm2, hs2, h2, h12 => by
  have hMs := sortedC_cons hsM
  have hmM' : Marks Ms := fun x hx => hmM x (List.mem_cons_of_mem _ hx)
  by_cases hfirst : ∀ n ∈ N2, cls b ≤ cls n
  · -- b comes first
    have e : srt (b :: Ms ++ N2) = b :: srt (Ms ++ N2) := by
     refine sorted_uniq (srt_sorted _) ?_ fun k => ?_
     · unfold SortedC
       rw [List.pairwise_cons]
       refine ⟨fun x hx => ?_, srt_sorted _⟩
       rcases List.mem_append.1 (srt_mem.1 hx) with hx | hx
       · exact hMs.1 x hx
       · exact hfirst x hx
     · rw [srt_fk, List.cons_append, fk_cons, fk_cons, srt_fk]
    rw [e]
    cases hch with
    | cons h hch =>
     rename_i y
     have ho : tryTwo a N1 (lastC N1) b = some y := by
      have hop : opn N1 (lastC N1) (cls b) = true := by
       unfold opn
       by_cases hn : N1 = []
       · rw [hn]; rfl
       · obtain ⟨n, hn1, hn2⟩ := lastC_mem hn
         have h3 := h12 n hn1 b (by simp)
         have h4 := hm1 n hn1
         rw [hn2, Bool.or_eq_true, Bool.and_eq_true, decide_eq_true_eq]
         exact .inr ⟨by simpa using h4, h3⟩
      unfold tryTwo; rw [if_pos hop]; exact h
     rw [compG_some ho]
     exact compG_block k Ms N2 N1 y c (by simp at hk; omega) hch hmM' hMs.2 hm1 hm2 hs2 h2 fun n hn b hb => h12 n hn b (List.mem_cons_of_mem _ hb)
  · -- the first one behind comes first
    cases N2 with
    | nil => exact absurd (fun n hn => by cases hn) hfirst
    | cons n N2 =>
     have hs2' := sortedC_cons hs2
     have hnb : cls n < cls b := by
      refine Decidable.byContradiction fun hc => hfirst fun x hx => ?_
      rcases List.mem_cons.1 hx with rfl | hx
      · omega
      · have := hs2'.1 x hx; omega
     have hbs : ∀ x ∈ b :: Ms, cls n < cls x := fun x hx => by
      rcases List.mem_cons.1 hx with rfl | hx
      · exact hnb
      · have := hMs.1 x hx; omega
     have e : srt (b :: Ms ++ n :: N2) = n :: srt (b :: Ms ++ N2) := by
      refine sorted_uniq (srt_sorted _) ?_ fun k => ?_
      · unfold SortedC
        rw [List.pairwise_cons]
        refine ⟨fun x hx => ?_, srt_sorted _⟩
        rcases List.mem_append.1 (srt_mem.1 hx) with hx | hx
        · have := hbs x hx; omega
        · exact hs2'.1 x hx
      · rw [srt_fk, fk_append, fk_cons (x := n), fk_cons (x := n), srt_fk, fk_append]
        by_cases hk : cls n = k
        · have : fk k (b :: Ms) = [] := by
            rw [List.eq_nil_iff_forall_not_mem]
            intro x hx
            have := hbs x (fk_mem.1 hx).1
            have := (fk_mem.1 hx).2
            omega
          rw [if_pos hk, if_pos hk, this]; rfl
        · rw [if_neg hk, if_neg hk]
     have hmn := hm2 n (by simp)
     rw [e, compG_m (by unfold tryTwo; rw [h2 n (by simp)]; split <;> rfl) hmn, ← lastC_snoc N1 n]
     have ih := compG_block k (b :: Ms) N2 (N1 ++ [n]) a c (by simp at hk ⊢; omega) hch hmM hsM (fun x hx => by
         rcases List.mem_append.1 hx with hx | hx
         · exact hm1 x hx
         · rw [List.mem_singleton] at hx; rw [hx]; exact hmn) (fun x hx => hm2 x (List.mem_cons_of_mem _ hx)) hs2'.2 (fun x hx => h2 x (List.mem_cons_of_mem _ hx)) (fun x hx b' hb' => by
         rcases List.mem_append.1 hx with hx | hx
         · exact h12 x hx b' hb'
         · rw [List.mem_singleton] at hx; rw [hx]; exact hbs b' hb')
     rw [ih]; simp
theorem ordL_zeros : ∀ {Z : List Nat} (R : List Nat), (∀ z ∈ Z, cls z = 0) → ordL (Z ++ R) = Z ++ ordL R
 | [], R, _ => rfl
 | z :: Z, R, h => by rw [List.cons_append, ordL_cons (h z (by simp)), ordL_zeros R fun x hx => h x (List.mem_cons_of_mem _ hx)]; rfl
theorem GoodC.block {c : Nat} (g : GoodC c) {N : List Nat} (hm : Marks N) (hs : SortedC N) (h2 : ∀ n ∈ N, ∀ a, two a n = none) : comp (ordL (full c ++ N)) = c :: N := by
 obtain ⟨h, Z, Ms, e, hh, _, hZ, hM, hMs, hch⟩ := g.split
 obtain ⟨a, k1, k2⟩ := hch.split
 rw [e, List.cons_append, ordL_cons hh, comp_s hh, List.append_assoc, ordL_zeros _ hZ, ordL_run (fun x hx => by
  rcases List.mem_append.1 hx with hx | hx
  · exact hM x hx
  · exact hm x hx), compG_chain _ k1]
 have := compG_block _ Ms N [] a c rfl k2 hM hMs (fun x hx => by cases hx) hm hs h2 (fun x hx => by cases hx)
 rw [show lastC [] = 0 from rfl] at this
 exact this
theorem nfc_parts {c : Nat} (g : GoodC c) (A B : List Nat) : nfc (A ++ c :: B) = nfc A ++ nfc (c :: B) := by
 obtain ⟨h, Z, Ms, e, hh, h2, _⟩ := g.split
 unfold nfc nfd
 rw [fullL_append, fullL_cons, e, List.cons_append, ordL_starter hh, ordL_cons hh, comp_parts hh h2]
theorem comp_marks : ∀ {A : List Nat}, Marks A → comp A = A
 | [], _ => comp_nil
 | a :: A, h => by rw [comp_m (h a (by simp)), comp_marks fun x hx => h x (List.mem_cons_of_mem _ hx)]
theorem mark_whole {c : Nat} (hq : quick c = 0) (hc : cls c ≠ 0) : full c = [c] := by
 obtain ⟨_, hf⟩ := quick_zero hq
 have hh : isH c = false := by
  cases h : isH c with
  | false => rfl
  | true => exact absurd (cls_h (.inr ((isH_iff c).1 h))) hc
 cases hd : dfind c with
 | none => exact full_no hh hd
 | some e => exact absurd (dec_pair hd (hf e hd)).2.2.2 hc
theorem nfc_quick (l : List Nat) (ho : inOrd cls 0 l = true) (hq : ∀ c ∈ l, quick c = 0) : nfc l = l := by
 obtain ⟨n, hn⟩ : ∃ n, l.length = n := ⟨_, rfl⟩
 induction n using Nat.strongRecOn generalizing l with
 | _ n ih =>
  have hwm : ∀ A : List Nat, Marks A → (∀ c ∈ A, quick c = 0) → fullL A = A := fun A hm hq => fullL_of_whole fun x hx => mark_whole (hq x hx) (hm x hx)
  rcases run_cases l with hm | ⟨A, s, B, rfl, hmA, hs⟩
  · unfold nfc nfd
    rw [hwm l hm hq, ordL_of ho, comp_marks hm]
  · have gs := GoodC.of (hq s (by simp)) hs
    rw [nfc_parts gs]
    rw [inOrd_starter hs, Bool.and_eq_true] at ho
    have hA : nfc A = A := by unfold nfc nfd; rw [hwm A hmA fun c hc => hq c (by simp [hc]), ordL_of ho.1, comp_marks hmA]
    rw [hA]
    congr 1
    rcases run_cases B with hmB | ⟨N, s2, B2, rfl, hmN, hs2⟩
    · unfold nfc nfd
      rw [fullL_cons, hwm B hmB fun c hc => hq c (by simp [hc])]
      exact gs.block hmB ((inOrd_run B 0 hmB).1 ho.2).2 fun n hn => second_two (quick_zero (hq n (by simp [hn]))).1
    · have g2 := GoodC.of (hq s2 (by simp)) hs2
      rw [inOrd_starter hs2, Bool.and_eq_true] at ho
      have := nfc_parts g2 (s :: N) B2
      rw [List.cons_append] at this
      rw [this, ih (s2 :: B2).length (by simp at hn ⊢; omega) (s2 :: B2) (by rw [show s2 :: B2 = [] ++ s2 :: B2 from rfl, inOrd_starter hs2, ho.2.2]; rfl) (fun c hc => hq c (by
       rcases List.mem_cons.1 hc with rfl | hc
       · simp
       · simp [hc])) rfl]
      have hb := gs.block hmN ((inOrd_run N 0 hmN).1 ho.2.1).2 fun n hn => second_two (quick_zero (hq n (by simp [hn]))).1
      have e : nfc (s :: N) = s :: N := by
       unfold nfc nfd
       rw [fullL_cons, hwm N hmN fun c hc => hq c (by simp [hc])]; exact hb
      rw [e]; rfl
end Go.Proofs.YthlflglkdaainaaGreatDoor
namespace Go.Proofs.YthlflglkdaainaaGreatDoor
open Go.RowKit
theorem hasL (l : Nat) (hl : l < 4294967296) : decide (IntKind.u32.wrap ((l : Int) - 4352) < 19) = isL l := by
 rw [Bool.eq_iff_iff, decide_eq_true_eq, isL_iff, IntKind.wrap_u32]; omega
theorem hasV (l : Nat) (hl : l < 4294967296) : decide (IntKind.u32.wrap ((l : Int) - 4449) < 21) = isV l := by
 rw [Bool.eq_iff_iff, decide_eq_true_eq, isV_iff, IntKind.wrap_u32]; omega
theorem hasT (l : Nat) (hl : l < 4294967296) : decide (IntKind.u32.wrap ((l : Int) - 4520) < 27) = isT l := by
 rw [Bool.eq_iff_iff, decide_eq_true_eq, isT_iff, IntKind.wrap_u32]; omega
theorem put_no2 (l v x p : Int) (w : World) (h1 : IntKind.u32.wrap (l - 4352) = x) (hi : decide (x < 19) = true) (h2 : IntKind.u32.wrap (v - 4449) = p) (hp : decide (p < 21) = false) :
    Calls Tryz.prog 188 #[.int .u32 l, .int .u32 v, .int .u32 0] w fun e w' => e = .returned (.tuple #[.int .u32 0, .int .i64 2]) ∧ Gr w w' := by
 have HL := hid (fun w => has_any 4352 19 l x true w h1 hi)
 have HV := hid (fun w => has_any 4449 21 v p false w h2 hp)
 have g := Gr.refl w
 go_enter Tryz.func188, Tryz.ntmps188
 go_wp2_with (first
  | (go_at_call 202; refine (lead_any _).mono ?_; rintro e w1 ⟨rfl, g1⟩; replace g := g.trans g1; clear g1)
  | (go_at_call 203; refine (vowel_any _).mono ?_; rintro e w1 ⟨rfl, g1⟩; replace g := g.trans g1; clear g1)
  | (go_at_call 191; refine (HL.out _).mono ?_; clear HL; rintro e w1 ⟨rfl, g1⟩; replace g := g.trans g1; clear g1)
  | (go_at_call 191; refine (HV.out _).mono ?_; clear HV; rintro e w1 ⟨rfl, g1⟩; replace g := g.trans g1; clear g1))
 exact bodyPost_ret (v := .tuple #[.int .u32 0, .int .i64 2]) (by simp [results, Tryz.results188, go_sem]) rfl ⟨rfl, g⟩
theorem put_fails (a b : Nat) (ha : a < 4294967296) (hb : b < 4294967296) (h : (isL a && isV b) = false) (w : World) :
    Calls Tryz.prog 188 #[.int .u32 a, .int .u32 b, .int .u32 0] w fun e w' => e = .returned (.tuple #[.int .u32 0, .int .i64 2]) ∧ Gr w w' := by
 cases hL : isL a with
 | false => exact put_no a b _ w rfl ((hasL a ha).trans hL)
 | true =>
  rw [hL, Bool.true_and] at h
  exact put_no2 a b _ _ w rfl ((hasL a ha).trans hL) rfl ((hasV b hb).trans h)
theorem put_goes (a b : Nat) (h : (isL a && isV b) = true) (w : World) :
    Calls Tryz.prog 188 #[.int .u32 a, .int .u32 b, .int .u32 0] w fun e w' => e = .returned (.tuple #[.int .u32 ((44032 + ((a - 4352) * 21 + (b - 4449)) * 28 : Nat) : Int), .int .i64 0]) ∧ Gr w w' := by
 rw [Bool.and_eq_true, isL_iff, isV_iff] at h
 exact put_lv _ _ ((a - 4352 : Nat) : Int) ((b - 4449 : Nat) : Int) (((a - 4352) * 21 : Nat) : Int) (((a - 4352) * 21 + b : Nat) : Int) _ w (by rw [IntKind.wrap_u32]; omega) (by rw [IntKind.wrap_u32]; omega) (decide_eq_true (by omega)) (decide_eq_true (by omega)) (by rw [IntKind.wrap_u32]; omega) (by rw [IntKind.wrap_u32]; omega) (by omega)
def joinV (a b : Nat) : Value := match joinH a b with | some x => .tuple #[.int .u32 (x : Int), .bool true] | none => .tuple #[.int .u32 0, .bool false]
theorem joinV_some {a b x : Nat} (h : joinH a b = some x) : joinV a b = .tuple #[.int .u32 (x : Int), .bool true] := by unfold joinV; rw [h]
theorem joinV_none {a b : Nat} (h : joinH a b = none) : joinV a b = .tuple #[.int .u32 0, .bool false] := by unfold joinV; rw [h]
theorem join_any (a b : Nat) (ha : a < 4294967296) (hb : b < 4294967296) (w : World) : Calls Tryz.prog 167 #[.int .u32 a, .int .u32 b] w fun e w' => e = .returned (joinV a b) ∧ Gr w w' := by
 cases hLV : isL a && isV b with
 | true =>
  rw [joinV_some (x := 44032 + ((a - 4352) * 21 + (b - 4449)) * 28) (by unfold joinH; rw [hLV]; rfl)]
  exact join_lv a b _ w fun w => put_goes a b hLV w
 | false =>
  have HP := hid (fun w => put_fails a b ha hb hLV w)
  cases hH : isH a with
  | false =>
   rw [joinV_none (by unfold joinH; rw [hLV, hH]; rfl)]
   have HI := hid (fun w => his_any a w)
   rw [hH] at HI
   clear hLV hH
   go_enter Tryz.func167, Tryz.ntmps167
   go_wp2_with (first
    | (go_at_call 188; refine (HP.out _).mono ?_; rintro e w1 ⟨rfl, g1⟩)
    | (go_at_call 189; refine (HI.out _).mono ?_; rintro e w2 ⟨rfl, rfl⟩))
   exact bodyPost_ret (v := .tuple #[.int .u32 0, .bool false]) (by simp [results, Tryz.results167, go_sem]) rfl ⟨rfl, g1⟩
  | true =>
   have hH' := (isH_iff a).1 hH
   have HI := hid (fun w => his_any a w)
   rw [hH] at HI
   have hm0 : ((a : Int) - 44032) % 4294967296 = ((a - 44032 : Nat) : Int) := by omega
   by_cases hm : (a - 44032) % 28 = 0
   · cases hT : isT b with
     | true =>
      rw [joinV_some (x := a + b - 4519) (by unfold joinH; rw [hLV, hH, hT, Nat.beq_eq.mpr hm]; rfl)]
      have hT' := (isT_iff b).1 hT
      exact join_t a b ((b - 4520 : Nat) : Int) _ w HP.out HI.out (by rw [hm0]; omega) (by rw [IntKind.wrap_u32]; omega) (decide_eq_true (by omega)) (by omega)
     | false =>
      rw [joinV_none (by unfold joinH; rw [hLV, hH, hT, Bool.and_false]; rfl)]
      have HT := hid (fun w => has_any 4520 27 b _ false w rfl ((hasT b hb).trans hT))
      have hmz : ((a : Int) - 44032) % 4294967296 % 28 = 0 := by rw [hm0]; omega
      have g := Gr.refl w
      clear hLV hH hH' hm0 hm hT
      go_enter Tryz.func167, Tryz.ntmps167
      go_wp2_with (first
       | (go_at_call 188; refine (HP.out _).mono ?_; rintro e w1 ⟨rfl, g1⟩; replace g := g.trans g1; clear g1)
       | (go_at_call 189; refine (HI.out _).mono ?_; rintro e w2 ⟨rfl, rfl⟩)
       | (go_at_call 190; refine (trail_any _).mono ?_; rintro e w3 ⟨rfl, g1⟩; replace g := g.trans g1; clear g1)
       | (go_at_call 191; refine (HT.out _).mono ?_; clear HT; rintro e w4 ⟨rfl, g1⟩; replace g := g.trans g1; clear g1))
      exact bodyPost_ret (v := .tuple #[.int .u32 0, .bool false]) (by simp [results, Tryz.results167, go_sem]) rfl ⟨rfl, g⟩
   · have hmb : Nat.beq ((a - 44032) % 28) 0 = false := by rw [← Bool.not_eq_true, Nat.beq_eq]; exact hm
     rw [joinV_none (by unfold joinH; rw [hLV, hH, hmb]; rfl)]
     have hmz : ¬ ((a : Int) - 44032) % 4294967296 % 28 = 0 := by rw [hm0]; omega
     have hmd : (((a : Int) - 44032) % 4294967296 % 28 == 0) = false := by rw [beq_eq_false_iff_ne]; exact hmz
     clear hLV hH hH' hm0 hm hmb
     go_enter Tryz.func167, Tryz.ntmps167
     go_wp2_with (first
      | (go_at_call 188; refine (HP.out _).mono ?_; rintro e w1 ⟨rfl, g1⟩)
      | (go_at_call 189; refine (HI.out _).mono ?_; rintro e w2 ⟨rfl, rfl⟩))
     exact bodyPost_ret (v := .tuple #[.int .u32 0, .bool false]) (by simp [results, Tryz.results167, go_sem]) rfl ⟨rfl, g1⟩
noncomputable def twoV (a b : Nat) : Value := match two a b with | some x => .tuple #[.int .u32 (x : Int), .bool true] | none => .tuple #[.int .u32 0, .bool false]
theorem twoV_some {a b x : Nat} (h : two a b = some x) : twoV a b = .tuple #[.int .u32 (x : Int), .bool true] := by unfold twoV; rw [h]
theorem twoV_none {a b : Nat} (h : two a b = none) : twoV a b = .tuple #[.int .u32 0, .bool false] := by unfold twoV; rw [h]
theorem two_any (a b : Nat) (ha : a < 4294967296) (hb : b < 4294967296) (w : World) (ht : Tz w) : Calls Tryz.prog 135 #[.int .u32 a, .int .u32 b] w fun e w' => e = .returned (twoV a b) ∧ Gr w w' := by
 have hj := fun w => join_any a b ha hb w
 cases h : joinH a b with
 | some x =>
  rw [joinV_some h] at hj
  rw [twoV_some (x := x) (by unfold two; rw [h])]
  have HJ := hid hj
  clear hj h
  go_enter Tryz.func135, Tryz.ntmps135
  go_wp2_with (go_at_call 167; refine (HJ.out _).mono ?_; rintro e w1 ⟨rfl, g1⟩)
  exact bodyPost_ret (v := .tuple #[.int .u32 x, .bool true]) (by simp [results, Tryz.results135, go_sem]) rfl ⟨rfl, g1⟩
 | none =>
  rw [joinV_none h] at hj
  have HJ := hid hj
  clear hj
  cases hp : pfind a b with
  | none =>
   rw [twoV_none (by unfold two; rw [h, hp]; rfl)]
   have HP := hid (fun w (t : Tz w) => pair_no a b ha hb w t hp)
   clear h hp
   go_enter Tryz.func135, Tryz.ntmps135
   go_wp2_with (first
    | (go_at_call 167; refine (HJ.out _).mono ?_; rintro e w1 ⟨rfl, g1⟩)
    | (go_at_call 168; refine (HP.out _ (ht.gr g1)).mono ?_; rintro e w2 ⟨rfl, g2⟩))
   exact bodyPost_ret (v := .tuple #[.int .u32 0, .bool false]) (by simp [results, Tryz.results135, go_sem]) rfl ⟨rfl, g1.trans g2⟩
  | some e =>
   rw [twoV_some (x := e.2.2) (by unfold two; rw [h, hp]; rfl)]
   have HP := hid (fun w (t : Tz w) => pair_yes a b ha hb w t e hp)
   clear h hp
   go_enter Tryz.func135, Tryz.ntmps135
   go_wp2_with (first
    | (go_at_call 167; refine (HJ.out _).mono ?_; rintro e w1 ⟨rfl, g1⟩)
    | (go_at_call 168; refine (HP.out _ (ht.gr g1)).mono ?_; rintro e w2 ⟨rfl, g2⟩))
   exact bodyPost_ret (v := .tuple #[.int .u32 e.2.2, .bool true]) (by simp [results, Tryz.results135, go_sem]) rfl ⟨rfl, g1.trans g2⟩
end Go.Proofs.YthlflglkdaainaaGreatDoor
namespace Go.Proofs.YthlflglkdaainaaGreatDoor
open Go.RowKit
end Go.Proofs.YthlflglkdaainaaGreatDoor
namespace Go.Proofs.YthlflglkdaainaaGreatDoor
open Go.RowKit
end Go.Proofs.YthlflglkdaainaaGreatDoor
namespace Go.Proofs.YthlflglkdaainaaGreatDoor
open Go.RowKit
def SlC (w : World) (v : Value) (L : List Nat) : Prop := ∃ (ao : Option Addr) (cap : Nat), v = .slice ao L.length cap ∧ L.length ≤ cap ∧ cap ≤ maxLen ∧ ∀ k, k < L.length → ∃ g o, ao = some ⟨g, o, none⟩ ∧ w.cell? ⟨g, o + k, none⟩ = some (.int .u32 ((L.getD k 0 : Nat) : Int))
def cutA (cap g o : Nat) : Option Addr := if cap = 1 then some ⟨g, o, none⟩ else some ⟨g, o + 1, none⟩
theorem SlC.cut {w : World} {g o n cap : Nat} {x : Nat} {L : List Nat} (h : SlC w (.slice (some ⟨g, o, none⟩) (n + 1) cap) (x :: L)) : SlC w (.slice (cutA cap g o) n (cap - 1)) L := by
 obtain ⟨ao, cap', h1, h0, hm, h2⟩ := h
 injection h1 with e1 e2 e3
 subst e1 e3
 simp only [List.length_cons] at e2 h0 h2
 have hn : n = L.length := by omega
 subst hn
 refine ⟨_, _, rfl, by omega, by omega, fun k hk => ?_⟩
 obtain ⟨g', o', e, hc⟩ := h2 (k + 1) (by omega)
 injection e with e; injection e with e1 e2
 subst e1 e2
 rw [cutA, if_neg (by omega)]
 refine ⟨g, o + 1, rfl, ?_⟩
 rw [show o + 1 + k = o + (k + 1) by omega, hc]
 simp [List.getD]
theorem SlC.head {w : World} {v : Value} {x : Nat} {L : List Nat} (h : SlC w v (x :: L)) : ∃ g o cap, v = .slice (some ⟨g, o, none⟩) (L.length + 1) cap ∧ w.cell? ⟨g, o, none⟩ = some (.int .u32 (x : Int)) ∧ L.length + 1 ≤ cap ∧ cap ≤ maxLen := by
 obtain ⟨ao, cap, h1, h0, hm, h2⟩ := h
 obtain ⟨g, o, rfl, hc⟩ := h2 0 (by simp)
 exact ⟨g, o, cap, h1, by simpa [List.getD] using hc, by simpa using h0, hm⟩
theorem SlC.nil_ {w : World} {v : Value} (h : SlC w v []) : ∃ ao cap, v = .slice ao 0 cap := by
 obtain ⟨ao, cap, h1, _⟩ := h
 exact ⟨ao, cap, h1⟩
theorem SlC.of_row {w : World} {base : Nat} {v : Value} {L : List Nat} (h : w.ownsRow base 134 1 v L.length (u32s L)) : SlC w v L := by
 rcases h.2 with ⟨h1, h2⟩ | ⟨g, cap, cur, h1, _, _, hnc, hcm, _⟩
 · exact ⟨none, 0, by rw [h1, h2], by omega, by omega, fun k hk => by omega⟩
 · subst h1
   exact ⟨_, cap, rfl, hnc, hcm, fun k hk => ⟨g, 0, rfl, by rw [Nat.zero_add]; exact row_cell h k hk⟩⟩
theorem isnil_sl (v : Option Addr) (n c : Nat) (W : World) : Sem.run Tryz.prog (binOp BinOp.eql 108 (.slice v n c) (.slice none 0 0)) W = .ok (.bool v.isNone) W :=
 Lib.run_eql_slice_nil W _ 134 v n c 0 0 rfl
theorem Clone_any (v : Value) (L : List Nat) (w : World) (hv : Sl w v L) (hl : L.length ≤ 1000000) : Calls Tryz.prog 98 #[v] w fun e w' => (∃ v', e = .returned v' ∧ SlC w' v' L) ∧ Gr w w' := by
 have S0 := hid hv
 obtain ⟨ao, ca, rfl, h0, hA⟩ := hv
 cases ao with
 | none =>
  have hL : L = [] := List.eq_nil_of_length_eq_zero (by
   rcases Nat.eq_zero_or_pos L.length with h | h
   · exact h
   · obtain ⟨g, o, e, _⟩ := hA 0 h; cases e)
  subst hL
  have hc := h0 rfl
  subst hc
  clear S0 hA h0 hl
  have hq : ∀ W, Sem.run Tryz.prog (binOp BinOp.eql 108 (.slice none 0 0) (.slice none 0 0)) W = .ok (.bool true) W := fun W => isnil_sl none 0 0 W
  go_enter Tryz.func98, Tryz.ntmps98
  go_wp2
  go_ret
  exact ⟨⟨_, rfl, none, 0, rfl, Nat.le_refl _, by unfold maxLen; omega, fun k hk => by simp at hk⟩, Gr.refl _⟩
 | some a =>
  clear hA h0
  have hq : ∀ W, Sem.run Tryz.prog (binOp BinOp.eql 108 (.slice (some a) L.length ca) (.slice none 0 0)) W = .ok (.bool false) W := fun W => isnil_sl (some a) _ _ W
  go_enter Tryz.func98, Tryz.ntmps98
  go_wp2_with (at_builtin; refine wpList_copy_sl rfl _ _ rfl L rfl _ rfl S0.out hl ?_; intro vi wi hvi gi; have HVI := hid (SlC.of_row hvi); clear hvi)
  go_ret
  exact ⟨⟨vi, rfl, HVI.out⟩, gi⟩
theorem cut_run (g o m cap : Nat) (W : World) : (Instr.slice 108 (.slice (some ⟨g, o, none⟩) (m + 1) cap) (some (.int .i64 1)) none none).run Tryz.prog W = .ok (.slice (cutA cap g o) m (cap - 1)) W := by
 rw [run_slice_l (P := Tryz.prog) W 108 (some ⟨g, o, none⟩) (m + 1) cap (by kernel_rfl) .i64 1 (by omega) (by omega)]
 have h : (sizeOf (Tryz.prog.elem 108)).run Tryz.prog W = .ok 1 W := by kernel_rfl
 rw [h]
 by_cases hc : cap = 1
 · subst hc; rfl
 · have hc1 : ¬ cap = Int.toNat 1 := hc
   simp only [Result.andThen, sliced, cutA]
   rw [if_neg hc, if_neg hc1]
   rfl
theorem cutAt_run (g o m cap : Nat) (W : World) : (Instr.sliceAt 108 (.slice (some ⟨g, o, none⟩) (m + 1) cap) (some (.int .i64 1)) none none).run Tryz.prog W = .ok (.slice (cutA cap g o) m (cap - 1)) W := by
 rw [run_sliceAt_slice (P := Tryz.prog) W 108 _ _ _ _ (by kernel_rfl)]
 exact cut_run g o m cap W
def slLen : Value → Nat | .slice _ n _ => n | _ => 0
theorem blocks_ne {W wr : World} {b e1 e2 z1 z2 k1 k2 : Nat} {v5 v3 : Value} {x5 x3 : List Value} (h5 : W.ownsRow wr.heap.size e1 z1 v5 k1 x5) (h3 : wr.ownsRow b e2 z2 v3 k2 x3) : v5.ownBlock = none ∨ v5.ownBlock ≠ v3.ownBlock := by
 cases e : v5.ownBlock with
 | none => exact .inl rfl
 | some k =>
  right; intro h
  have h1 := (h5.lt k e).1
  have h2 := (h3.lt k h.symm).2
  omega
theorem step_append_own {P : Program} {ops : Array Oper} {o : Oper} {a : Act} {w : World} {K : Act → World → Prop} {Q : Exit → Act → World → Prop} {E : Prop}
    (hg : o.guard = none) (s x : Operand) (t : TypeId) (hop : o.op = Op.call { callee := Callee.builtin Builtin.append, args := #[s, x], argTypes := #[t, t] })
    (base : Nat) (e : TypeId) (i : TypeInfo) (z : Value) (size bytes : Nat) (h1 : P.underlying t = some (.slice e)) (h2 : P.info? e = some i) (h3 : i.zero = some z) (h4 : i.size = size) (h5 : i.bytes = bytes) (h6 : z.cells.size = size) (h7 : 0 < size)
    (v : Value) (n : Nat) (xs : List Value) (hs : a.eval s = v) (hown : w.ownsRow base e size v n xs)
    (ad : Addr) (m c : Nat) (news : List Value) (hx : a.eval x = .slice (some ad) m c) (hl : news.length = m * size) (hnews : ∀ j u, news[j]? = some u → w.cell? (ad.add j) = some u) (h1c : ∀ u ∈ news, u.oneCell' = true)
    (h63 : n + m ≤ maxLen) (hbytes : (n + m) * bytes ≤ 140737488355328) (hbase : base ≤ w.heap.size)
    (hK : ∀ v' w', w'.ownsRow base e size v' (n + m) (xs ++ news) → w.grownBy w' v.ownBlock → K (a.put o.dst v') w') :
    if Region.wanted o (yielded ops a.tmps) = true then Oper.wp P o a w K Q else E := by
 rw [if_pos (by simp [Region.wanted, hg])]
 exact wp_append_own w s x t hop base e i z size bytes h1 h2 h3 h4 h5 h6 h7 v n xs hs hown ad m c news hx hl hnews h1c h63 hbytes hbase fun v' w' k1 k2 _ => hK v' w' k1 k2
theorem twoV_shape (a b : Nat) : ∃ (y : Nat) (r : Bool), twoV a b = .tuple #[.int .u32 (y : Int), .bool r] := by
 cases h : two a b with
 | none => exact ⟨0, false, twoV_none h⟩
 | some y => exact ⟨y, true, twoV_some h⟩
def CP (F : List Nat) (n : Nat) (w1 : World) (s0 s3 : Value) (T O : List Nat) (wx : World) : Prop :=
 Hid (SlC w1 s0 T) ∧ Hid (wx.ownsRow w1.heap.size 134 1 s3 O.length (u32s O)) ∧ Hid (O ++ comp T = F) ∧ Hid (O.length + T.length ≤ n) ∧ Hid (∀ x ∈ T, x < 4294967296) ∧ Gr w1 wx
def CQ (F : List Nat) (n : Nat) (w1 wo : World) (s0 s3 s5 : Value) (st : Nat) (U M O : List Nat) (wx : World) : Prop :=
 Hid (SlC w1 s0 U) ∧ Hid (wo.ownsRow w1.heap.size 134 1 s3 O.length (u32s O)) ∧ Hid (wx.ownsRow wo.heap.size 134 1 s5 M.length (u32s M)) ∧ Hid (O ++ compG U st M (lastC M) = F) ∧ Hid (O.length + 1 + M.length + U.length ≤ n) ∧ Hid (∀ x ∈ U, x < 4294967296) ∧ st < 4294967296 ∧ Gr w1 wo ∧ Gr wo wx
theorem Compose_any (v : Value) (L : List Nat) (w : World) (ht : Tz w) (hv : Sl w v L) (hb : ∀ x ∈ L, x < 4294967296) (hl : L.length ≤ 100000) : Calls Tryz.prog 102 #[v] w (RowOf (comp L) w) := by
 have HCl := hid (Clone_any v L w hv (by omega))
 obtain ⟨F, hF⟩ : ∃ F, comp L = F := ⟨_, rfl⟩
 rw [hF]
 have HF := hid hF
 have HB := hid hb
 obtain ⟨n, hn⟩ : ∃ n, L.length = n := ⟨_, rfl⟩
 have HN := hid hn
 rw [hn] at hl
 clear hF hb hv hn
 obtain ⟨i0, hi, hz0, hz1, hz2⟩ := info_parts info_u32
 go_enter Tryz.func102, Tryz.ntmps102
 go_wp2
 go_step3
 go_upto_block 0 with (go_at_call 98; refine HCl.out.mono ?_; clear HCl; rintro e w1 ⟨⟨v1, rfl, hs1⟩, g1⟩; have HS1 := hid hs1; clear hs1)
 have htw := fun W (k : Gr w1 W) => ht.gr (g1.trans k)
 go_cut [0, 3] (fun s0 s3 wx => ∃ (T O : List Nat), (T = [] ∨ cls (T.headD 0) = 0) ∧ Hid (CP F n w1 s0 s3 T O wx))
 case first =>
  go_wp2_with fail
  go_loopw [0, 3] (fun s0 s3 wr => ∃ (T O : List Nat), Hid (CP F n w1 s0 s3 T O wr)) (fun s0 _ _ => slLen s0)
  case atStart => exact ⟨L, [], HS1, World.ownsRow_nil _ _ _ _, by show _ = _; rw [List.nil_append]; exact HF.out, by show _ ≤ _; rw [HN.out]; simp, HB, Gr.refl _⟩
  case round =>
   obtain ⟨T, O, HC⟩ := hrel
   clear HS1 HF HB HN
   obtain ⟨HT, HO, HE, HL, HX, hg⟩ := HC.out
   cases T with
   | nil =>
    obtain ⟨ao, cap, rfl⟩ := HT.out.nil_
    clear HT HO HE HL HX
    go_wp2_with fail
    go_meet
    case rel => exact ⟨[], O, .inl rfl, HC⟩
   | cons x t =>
    obtain ⟨g, o, cap, rfl, hc, hcap, hcm⟩ := HT.out.head
    have hc := hg.cell hc
    have hx : x < 4294967296 := HX.out x (by simp)
    have HK := hid (class_any x hx wr (htw _ hg))
    obtain ⟨m, hm⟩ : ∃ m, t.length = m := ⟨_, rfl⟩
    have HM := hid hm
    rw [hm] at HT hcap HC ⊢
    by_cases h0 : cls x = 0
    · have H0 := hid h0
      rw [h0] at HK
      clear HT HO HE HL HX hm hx h0
      go_wp2_with (go_at_call 129; refine HK.out.mono ?_; clear HK; rintro e w2 ⟨rfl, g2⟩)
      go_meet
      case rel =>
       obtain ⟨HT, HO, HE, HL, HX, hg⟩ := HC.out
       exact ⟨x :: t, O, .inr H0.out, HT, ownsRow_gr HO.out g2, HE, HL, HX, hg.trans g2⟩
    · have H0 := hid h0
      have h0z : ¬ (cls x : Int) = 0 := by omega
      have h0y : ((cls x : Int) != 0) = true := by rw [bne_iff_ne]; exact h0z
      obtain ⟨q, hq⟩ : ∃ q, cls x = q := ⟨_, rfl⟩
      rw [hq] at HK h0z h0y
      have hcut := cut_run g o m cap
      have hcut2 := cutAt_run g o m cap
      have HS2 := hid HT.out.cut
      have hOb : O.length ≤ 100000 := by have := HL.out; omega
      have HOb := hid hOb
      clear HT HC hm hx h0 hq hOb
      go_wp2_with (first
       | (go_at_call 129; refine HK.out.mono ?_; clear HK; rintro e w2 ⟨rfl, g2⟩; have HO2 := hid (ownsRow_gr HO.out g2); have hc2 := g2.cell hc)
       | (at_builtin; go_loud (refine wpList_append_own _ rfl _ _ 108 rfl w1.heap.size 134 i0 (.int .u32 0) 1 4 Tryz.underlying108 hi hz0 hz1 hz2 rfl (by decide) _ _ _ rfl (HO2.out.alloc _) ⟨w2.heap.size, 0, none⟩ 1 1 [.int .u32 (x : Int)] rfl rfl (cell_one_new _ _ _) (by simp [Value.oneCell']) (by have := HOb.out; unfold maxLen; omega) (by have := HOb.out; omega) (by have := g2.size; have := hg.size; simp; omega) ?_; intro v' w5 hown' hgrow _; obtain ⟨g', cap', rfl⟩ := ownsRow_succ hown'; have g5 := gr_added (hg.trans g2) HO2.out hgrow; have HO5 : Hid (w5.ownsRow w1.heap.size 134 1 (.slice (some ⟨g', 0, none⟩) (O.length + 1) cap') (O ++ [x]).length (u32s (O ++ [x]))) := own_conv hown' rfl rfl rfl; clear hown' hgrow)))
      go_roundw
      case rel =>
       refine ⟨t, O ++ [x], HS2, ?_, ?_, ?_, fun y hy => HX.out y (List.mem_cons_of_mem _ hy), g5⟩
       · exact HO5.out
       · show _ = _
         rw [← HE.out, comp_m H0.out, List.append_assoc]; rfl
       · have := HL.out
         show _ ≤ _
         simp at this ⊢; omega
      case measure => simp [slLen]
 case rest =>
  obtain ⟨T, O, hT, HC⟩ := hcut
  clear HS1 HF HB HN
  go_wp2_with fail
  go_step3
  go_wp2_with fail
  go_loopg [0, 3] n (fun gk s0 s3 wr => ∃ (T O : List Nat), T.length ≤ gk ∧ (T = [] ∨ cls (T.headD 0) = 0) ∧ Hid (CP F n w1 s0 s3 T O wr))
  case atStart =>
   refine ⟨T, O, ?_, hT, HC⟩
   obtain ⟨HT, HO, HE, HL, HX, hg⟩ := HC.out
   have := HL.out; omega
  case round =>
   clear HC hT
   obtain ⟨T, O, hTk, hT, HC⟩ := hrel
   obtain ⟨HT, HO, HE, HL, HX, hg⟩ := HC.out
   clear HC
   cases T with
   | nil =>
    obtain ⟨ao, cap, rfl⟩ := HT.out.nil_
    have HR : Hid (O = F) := by have := HE.out; rw [comp_nil, List.append_nil] at this; exact this
    clear HE HT HL HX hT hTk
    go_wp2_with fail
    go_ret
    exact ⟨_, rfl, by rw [← HR.out]; exact HO.out.mono' g1.size, g1.trans hg⟩
   | cons x t =>
    have h0 : cls x = 0 := by simpa using hT
    obtain ⟨g, o, cap, rfl, hc, hcap, hcm⟩ := HT.out.head
    have hc := hg.cell hc
    have hx : x < 4294967296 := HX.out x (by simp)
    have HCE : Hid (O ++ compG t x [] 0 = F) := by show _ = _; rw [← HE.out, comp_s h0]
    have HCX : Hid (∀ y ∈ t, y < 4294967296) := fun y hy => HX.out y (List.mem_cons_of_mem _ hy)
    have HCL : Hid (O.length + 1 + t.length ≤ n) := by have := HL.out; show _ ≤ _; simp at this; omega
    have htk : t.length < gk := by simp at hTk; omega
    obtain ⟨m, hm⟩ : ∃ m, t.length = m := ⟨_, rfl⟩
    have HM := hid hm
    have hcut := cut_run g o m cap
    have hcut2 := cutAt_run g o m cap
    rw [hm] at HT hcap htk ⊢
    have HS2 := hid HT.out.cut
    clear HT HE HL HX hT hTk h0 hm
    go_wp2_with fail
    clear hcut hcut2 hc
    obtain ⟨wo, rfl⟩ : ∃ wo, wo = wr := ⟨wr, rfl⟩
    obtain ⟨vo, rfl⟩ : ∃ vo, vo = u3 := ⟨u3, rfl⟩
    go_loopg [0, 3, 4, 5, 6] m (fun gj s0 s3 s4 s5 s6 wq => ∃ (U M : List Nat) (st : Nat), U.length ≤ gj ∧ U.length ≤ m ∧ s3 = vo ∧ s4 = .int .u32 st ∧ s6 = .int .i64 (lastC M) ∧ Hid (CQ F n w1 wo s0 vo s5 st U M O wq))
    case atStart => exact ⟨t, [], x, by rw [HM.out]; exact Nat.le_refl _, by rw [HM.out]; exact Nat.le_refl _, rfl, rfl, rfl, HS2, HO, World.ownsRow_nil _ _ _ _, HCE, by have := HCL.out; show _ ≤ _; simp; omega, HCX, hx, hg, Gr.refl _⟩
    case round =>
     clear HS2 HCE HCL HCX HM hcap hcm HO hx
     obtain ⟨U, M, st, hU, hUm, rfl, rfl, rfl, HQ⟩ := hrel
     obtain ⟨HT, HOO, HMM, HE, HL, HX, hst, hgo, hgq⟩ := HQ.out
     clear HQ
     have hgk := hgo.trans hgq
     have HOb : Hid (O.length + 1 + M.length ≤ 100000) := by have := HL.out; show _ ≤ _; omega
     cases U with
     | nil =>
      obtain ⟨ao, cap, rfl⟩ := HT.out.nil_
      have HMW := HMM
      have HOW := hid (ownsRow_gr HOO.out hgq)
      have gWZ := hgk
      have HE2 : Hid (O ++ [st] ++ M ++ comp [] = F) := by show _ = _; rw [← HE.out, compG_nil, comp_nil]; simp
      go_wp2_with (first
       | (at_builtin; refine wpList_append_own _ rfl _ _ 108 rfl w1.heap.size 134 i0 (.int .u32 0) 1 4 Tryz.underlying108 hi hz0 hz1 hz2 rfl (by decide) _ _ _ rfl (HOW.out.alloc _) ⟨_, 0, none⟩ 1 1 [.int .u32 (st : Int)] rfl rfl (cell_one_new _ _ _) (by simp [Value.oneCell']) (by have := HOb.out; unfold maxLen; omega) (by have := HOb.out; omega) (by have := gWZ.size; simp; omega) ?_; intro v5 w5 hown' hgrow _; have HM5 := hid (Sl.of_row ((HMW.out.alloc _).kept hgrow (blocks_ne HMW.out HOO.out))); have g5 := gr_added gWZ HOW.out hgrow; have HO5 : Hid (w5.ownsRow w1.heap.size 134 1 v5 (O ++ [st]).length (u32s (O ++ [st]))) := own_conv hown' rfl rfl rfl; clear hown' hgrow)
       | (at_builtin; refine wpList_append_sl rfl _ _ rfl w1.heap.size _ (O ++ [st]) M rfl HO5.out _ rfl HM5.out (by have := HOb.out; simp at this ⊢; omega) g5.size ?_; intro v6 w6 hown6 hgrow6; have HO6 := hid hown6; have g6 := gr_add2 g5 HO5.out hgrow6; clear hown6 hgrow6))
      go_roundg 0
      case rel => exact ⟨[], O ++ [st] ++ M, Nat.zero_le _, .inl rfl, HT, HO6, HE2, by have := HL.out; show _ ≤ _; simp at this ⊢; omega, HX, g6⟩
      case measure => omega
     | cons c u =>
      obtain ⟨g, o, cap, rfl, hc, hcap, hcm⟩ := HT.out.head
      have hc := hgk.cell hc
      have hcx : c < 4294967296 := HX.out c (by simp)
      have HK := class_any c hcx wr (htw _ hgk)
      have hcut := cut_run g o u.length cap
      have hcut2 := cutAt_run g o u.length cap
      have HS2 := hid HT.out.cut
      have hT := fun W (k : Gr w1 W) => two_any st c hst hcx W (htw _ k)
      have HUX : Hid (∀ y ∈ u, y < 4294967296) := fun y hy => HX.out y (List.mem_cons_of_mem _ hy)
      obtain ⟨a5, c5, rfl⟩ := row_shape HMM.out
      obtain ⟨q, hq⟩ : ∃ q, cls c = q := ⟨_, rfl⟩
      have HQc := hid hq
      rw [hq] at HK
      have HK := hid HK
      obtain ⟨la, hla⟩ : ∃ la, lastC M = la := ⟨_, rfl⟩
      have HLA := hid hla
      rw [hla] at HE ⊢
      clear hcx hq hla
      go_upto_region 13 with (go_at_call 129; refine HK.out.mono ?_; clear HK; rintro e w2 ⟨rfl, g2⟩; have g2k := hgk.trans g2; have hc2 := g2.cell hc)
      go_cut [8] from 39 to 89 (fun s8 wx => s8 = .bool (opn M la q) ∧ wx = w2)
      case first => as_aux_lemma =>
       clear hT hcut hcut2
       by_cases hm0 : M.length = 0
       · have ho : opn M la q = true := by
           have : M = [] := List.eq_nil_of_length_eq_zero (by omega)
           subst this; rfl
         have e1 : (M.length : Int) = 0 := by omega
         have e2 : ((M.length : Int) == 0) = true := by rw [e1]; rfl
         have HO := hid ho
         clear hm0 ho
         go_wp2_with fail
         go_meet
         case rel => exact ⟨by rw [HO.out], rfl⟩
       · have hM : M.isEmpty = false := by cases M with | nil => simp at hm0 | cons a b => rfl
         have e1 : ¬ (M.length : Int) = 0 := by omega
         have e2 : ((M.length : Int) == 0) = false := by rw [beq_eq_false_iff_ne]; exact e1
         by_cases hl0 : la = 0
         · have ho : opn M la q = false := by unfold opn; rw [hM, hl0]; rfl
           have e3 : (la : Int) = 0 := by omega
           have e4 : ((la : Int) != 0) = false := by rw [e3]; rfl
           have HO := hid ho
           clear hm0 ho hl0 hM
           go_wp2_with fail
           go_meet
           case rel => exact ⟨by rw [HO.out], rfl⟩
         · have e3 : ¬ (la : Int) = 0 := by omega
           have e4 : ((la : Int) != 0) = true := by rw [bne_iff_ne]; exact e3
           have hl1 : (la == 0) = false := by rw [beq_eq_false_iff_ne]; exact hl0
           by_cases hlq : la < q
           · have ho : opn M la q = true := by unfold opn; rw [hM, hl1, decide_eq_true hlq]; rfl
             have e5 : (la : Int) < (q : Int) := by omega
             have HO := hid ho
             clear hm0 ho hl0 hM hl1 hlq
             go_wp2_with fail
             go_meet
             case rel => exact ⟨by rw [HO.out], rfl⟩
           · have ho : opn M la q = false := by unfold opn; rw [hM, hl1, decide_eq_false hlq]; rfl
             have e5 : ¬ (la : Int) < (q : Int) := by omega
             have HO := hid ho
             clear hm0 ho hl0 hM hl1 hlq
             go_wp2_with fail
             go_meet
             case rel => exact ⟨by rw [HO.out], rfl⟩
      case rest =>
       obtain ⟨rfl, rfl⟩ := hcut
       obtain ⟨b, hop⟩ : ∃ b, opn M la q = b := ⟨_, rfl⟩
       rw [hop]
       cases b with
       | true =>
        cases h2 : two st c with
        | some y =>
         rw [twoV_some h2] at hT
         have hys := (two_of h2).small
         have HT0 : Hid (tryTwo st M la c = some y) := by show _ = _; unfold tryTwo; rw [HQc.out, hop]; exact h2
         have HE2 : Hid (O ++ compG u y M (lastC M) = F) := by show _ = _; rw [← HE.out, compG_some HT0.out, HLA.out]
         have HTW := hid hT
         clear hT hop h2
         go_wp2_with (first              | (go_at_call 135; refine (HTW.out _ g2k).mono ?_; clear HTW; rintro e w3 ⟨rfl, g3⟩; have gWZ := g2k.trans g3; have HOW := hid (ownsRow_gr HOO.out ((hgq.trans g2).trans g3)); have HMW := hid (ownsRow_gr HMM.out (g2.trans g3)); have hc3 := g3.cell hc2))
         go_region
         all_goals (
          go_wp2_with fail
          go_roundg u.length)
         case rel =>
          exact ⟨u, M, y, Nat.le_refl _, by simp at hUm; omega, rfl, rfl, by rw [HLA.out], HS2, HOO, ownsRow_gr HMM.out ((g2.trans g3).trans (Gr.drewN _ 1)), HE2, by have := HL.out; show _ ≤ _; simp at this ⊢; omega, HUX, by omega, hgo, ((hgq.trans g2).trans g3).trans (Gr.drewN _ 1)⟩
         case measure => simp at hU; omega
        | none =>
         rw [twoV_none h2] at hT
         have HT0 : Hid (tryTwo st M la c = none) := by show _ = _; unfold tryTwo; rw [HQc.out, hop]; exact h2
         have HTW := hid hT
         clear hT hop h2
         by_cases h0 : cls c = 0
         · have H0 := hid h0
           have hqz : q = 0 := by rw [← HQc.out]; exact h0
           have HE2 : Hid (O ++ [st] ++ M ++ comp (c :: u) = F) := by show _ = _; rw [← HE.out, comp_s h0, ← HLA.out, compG_s (by rw [HLA.out]; exact HT0.out) h0]; simp
           subst hqz
           clear h0
           go_wp2_with (first
                       | (at_builtin; refine wpList_append_own _ rfl _ _ 108 rfl w1.heap.size 134 i0 (.int .u32 0) 1 4 Tryz.underlying108 hi hz0 hz1 hz2 rfl (by decide) _ _ _ rfl (HOW.out.alloc _) ⟨_, 0, none⟩ 1 1 [.int .u32 (st : Int)] rfl rfl (cell_one_new _ _ _) (by simp [Value.oneCell']) (by have := HOb.out; unfold maxLen; omega) (by have := HOb.out; omega) (by have := gWZ.size; simp; omega) ?_; intro v5 w5 hown' hgrow _; have HM5 := hid (Sl.of_row ((HMW.out.alloc _).kept hgrow (blocks_ne HMW.out HOO.out))); have g5 := gr_added gWZ HOW.out hgrow; have HO5 : Hid (w5.ownsRow w1.heap.size 134 1 v5 (O ++ [st]).length (u32s (O ++ [st]))) := own_conv hown' rfl rfl rfl; clear hown' hgrow)
                       | (at_builtin; refine wpList_append_sl rfl _ _ rfl w1.heap.size _ (O ++ [st]) M rfl HO5.out _ rfl HM5.out (by have := HOb.out; simp at this ⊢; omega) g5.size ?_; intro v6 w6 hown6 hgrow6; have HO6 := hid hown6; have g6 := gr_add2 g5 HO5.out hgrow6; clear hown6 hgrow6)
                       | (go_at_call 135; refine (HTW.out _ g2k).mono ?_; clear HTW; rintro e w3 ⟨rfl, g3⟩; have gWZ := g2k.trans g3; have HOW := hid (ownsRow_gr HOO.out ((hgq.trans g2).trans g3)); have HMW := hid (ownsRow_gr HMM.out (g2.trans g3)); have hc3 := g3.cell hc2))
           go_roundg (u.length + 1)
           case rel => exact ⟨c :: u, O ++ [st] ++ M, Nat.le_refl _, .inr H0.out, HT, HO6, HE2, by have := HL.out; show _ ≤ _; simp at this ⊢; omega, HX, g6⟩
           case measure => simp at hUm; omega
         · have hqz : ¬ (q : Int) = 0 := by rw [HQc.out] at h0; omega
           have hqy : ((q : Int) == 0) = false := by rw [beq_eq_false_iff_ne]; exact hqz
           have HE2 : Hid (O ++ compG u st (M ++ [c]) (lastC (M ++ [c])) = F) := by show _ = _; rw [← HE.out, ← HLA.out, compG_m (by rw [HLA.out]; exact HT0.out) h0, lastC_snoc]
           have HQL : Hid (lastC (M ++ [c]) = q) := by show _ = _; rw [lastC_snoc]; exact HQc.out
           clear h0
           go_wp2_with (first | (go_at_call 135; refine (HTW.out _ g2k).mono ?_; clear HTW; rintro e w3 ⟨rfl, g3⟩; have gWZ := g2k.trans g3; have HOW := hid (ownsRow_gr HOO.out ((hgq.trans g2).trans g3)); have HMW := hid (ownsRow_gr HMM.out (g2.trans g3)); have hc3 := g3.cell hc2))
           go_region_law ((refine step_append_own rfl _ _ 108 rfl wo.heap.size 134 i0 (.int .u32 0) 1 4 Tryz.underlying108 hi hz0 hz1 hz2 rfl (by decide) (.slice a5 M.length c5) _ _ (by simp [Act.eval]) (HMW.out.alloc _) ⟨_, 0, none⟩ 1 1 [.int .u32 (c : Int)] (by simp [Act.eval]) rfl (cell_one_new _ _ _) (by simp [Value.oneCell']) (by have := HOb.out; unfold maxLen; omega) (by have := HOb.out; omega) (by have := (hgq.trans g2).size; have := g3.size; simp; omega) ?_; intro v' w5 hown' hgrow; obtain ⟨g', cap', rfl⟩ := ownsRow_succ hown'; have g5 := gr_added (((hgq.trans g2).trans g3).trans (Gr.drewN _ 1)) HMW.out hgrow; have HM5 : Hid (w5.ownsRow wo.heap.size 134 1 (.slice (some ⟨g', 0, none⟩) (M.length + 1) cap') (M ++ [c]).length (u32s (M ++ [c]))) := own_conv hown' rfl rfl rfl; clear hown' hgrow))
           all_goals (
            go_wp2_with fail
            go_roundg u.length)
           case rel => exact ⟨u, M ++ [c], st, Nat.le_refl _, by simp at hUm; omega, rfl, rfl, by rw [HQL.out], HS2, HOO, HM5, HE2, by have := HL.out; show _ ≤ _; simp at this ⊢; omega, HUX, hst, hgo, g5⟩
           case measure => simp at hU; omega
       | false =>
        have HT0 : Hid (tryTwo st M la c = none) := by show _ = _; unfold tryTwo; rw [HQc.out, hop]; rfl
        obtain ⟨y, r, hy⟩ := twoV_shape st c
        rw [hy] at hT
        have HTW := hid hT
        clear hT hop hy
        cases r with
        | true =>
         by_cases h0 : cls c = 0
         · have H0 := hid h0
           have hqz : q = 0 := by rw [← HQc.out]; exact h0
           have HE2 : Hid (O ++ [st] ++ M ++ comp (c :: u) = F) := by show _ = _; rw [← HE.out, comp_s h0, ← HLA.out, compG_s (by rw [HLA.out]; exact HT0.out) h0]; simp
           subst hqz
           clear h0
           go_wp2_with (first
                       | (at_builtin; refine wpList_append_own _ rfl _ _ 108 rfl w1.heap.size 134 i0 (.int .u32 0) 1 4 Tryz.underlying108 hi hz0 hz1 hz2 rfl (by decide) _ _ _ rfl (HOW.out.alloc _) ⟨_, 0, none⟩ 1 1 [.int .u32 (st : Int)] rfl rfl (cell_one_new _ _ _) (by simp [Value.oneCell']) (by have := HOb.out; unfold maxLen; omega) (by have := HOb.out; omega) (by have := gWZ.size; simp; omega) ?_; intro v5 w5 hown' hgrow _; have HM5 := hid (Sl.of_row ((HMW.out.alloc _).kept hgrow (blocks_ne HMW.out HOO.out))); have g5 := gr_added gWZ HOW.out hgrow; have HO5 : Hid (w5.ownsRow w1.heap.size 134 1 v5 (O ++ [st]).length (u32s (O ++ [st]))) := own_conv hown' rfl rfl rfl; clear hown' hgrow)
                       | (at_builtin; refine wpList_append_sl rfl _ _ rfl w1.heap.size _ (O ++ [st]) M rfl HO5.out _ rfl HM5.out (by have := HOb.out; simp at this ⊢; omega) g5.size ?_; intro v6 w6 hown6 hgrow6; have HO6 := hid hown6; have g6 := gr_add2 g5 HO5.out hgrow6; clear hown6 hgrow6)
                       | (go_at_call 135; refine (HTW.out _ g2k).mono ?_; clear HTW; rintro e w3 ⟨rfl, g3⟩; have gWZ := g2k.trans g3; have HOW := hid (ownsRow_gr HOO.out ((hgq.trans g2).trans g3)); have HMW := hid (ownsRow_gr HMM.out (g2.trans g3)); have hc3 := g3.cell hc2))
           go_roundg (u.length + 1)
           case rel => exact ⟨c :: u, O ++ [st] ++ M, Nat.le_refl _, .inr H0.out, HT, HO6, HE2, by have := HL.out; show _ ≤ _; simp at this ⊢; omega, HX, g6⟩
           case measure => simp at hUm; omega
         · have hqz : ¬ (q : Int) = 0 := by rw [HQc.out] at h0; omega
           have hqy : ((q : Int) == 0) = false := by rw [beq_eq_false_iff_ne]; exact hqz
           have HE2 : Hid (O ++ compG u st (M ++ [c]) (lastC (M ++ [c])) = F) := by show _ = _; rw [← HE.out, ← HLA.out, compG_m (by rw [HLA.out]; exact HT0.out) h0, lastC_snoc]
           have HQL : Hid (lastC (M ++ [c]) = q) := by show _ = _; rw [lastC_snoc]; exact HQc.out
           clear h0
           go_wp2_with (first | (go_at_call 135; refine (HTW.out _ g2k).mono ?_; clear HTW; rintro e w3 ⟨rfl, g3⟩; have gWZ := g2k.trans g3; have HOW := hid (ownsRow_gr HOO.out ((hgq.trans g2).trans g3)); have HMW := hid (ownsRow_gr HMM.out (g2.trans g3)); have hc3 := g3.cell hc2))
           go_region_law ((refine step_append_own rfl _ _ 108 rfl wo.heap.size 134 i0 (.int .u32 0) 1 4 Tryz.underlying108 hi hz0 hz1 hz2 rfl (by decide) (.slice a5 M.length c5) _ _ (by simp [Act.eval]) (HMW.out.alloc _) ⟨_, 0, none⟩ 1 1 [.int .u32 (c : Int)] (by simp [Act.eval]) rfl (cell_one_new _ _ _) (by simp [Value.oneCell']) (by have := HOb.out; unfold maxLen; omega) (by have := HOb.out; omega) (by have := (hgq.trans g2).size; have := g3.size; simp; omega) ?_; intro v' w5 hown' hgrow; obtain ⟨g', cap', rfl⟩ := ownsRow_succ hown'; have g5 := gr_added (((hgq.trans g2).trans g3).trans (Gr.drewN _ 1)) HMW.out hgrow; have HM5 : Hid (w5.ownsRow wo.heap.size 134 1 (.slice (some ⟨g', 0, none⟩) (M.length + 1) cap') (M ++ [c]).length (u32s (M ++ [c]))) := own_conv hown' rfl rfl rfl; clear hown' hgrow))
           all_goals (
            go_wp2_with fail
            go_roundg u.length)
           case rel => exact ⟨u, M ++ [c], st, Nat.le_refl _, by simp at hUm; omega, rfl, rfl, by rw [HQL.out], HS2, HOO, HM5, HE2, by have := HL.out; show _ ≤ _; simp at this ⊢; omega, HUX, hst, hgo, g5⟩
           case measure => simp at hU; omega
        | false =>
         by_cases h0 : cls c = 0
         · have H0 := hid h0
           have hqz : q = 0 := by rw [← HQc.out]; exact h0
           have HE2 : Hid (O ++ [st] ++ M ++ comp (c :: u) = F) := by show _ = _; rw [← HE.out, comp_s h0, ← HLA.out, compG_s (by rw [HLA.out]; exact HT0.out) h0]; simp
           subst hqz
           clear h0
           go_wp2_with (first
                       | (at_builtin; refine wpList_append_own _ rfl _ _ 108 rfl w1.heap.size 134 i0 (.int .u32 0) 1 4 Tryz.underlying108 hi hz0 hz1 hz2 rfl (by decide) _ _ _ rfl (HOW.out.alloc _) ⟨_, 0, none⟩ 1 1 [.int .u32 (st : Int)] rfl rfl (cell_one_new _ _ _) (by simp [Value.oneCell']) (by have := HOb.out; unfold maxLen; omega) (by have := HOb.out; omega) (by have := gWZ.size; simp; omega) ?_; intro v5 w5 hown' hgrow _; have HM5 := hid (Sl.of_row ((HMW.out.alloc _).kept hgrow (blocks_ne HMW.out HOO.out))); have g5 := gr_added gWZ HOW.out hgrow; have HO5 : Hid (w5.ownsRow w1.heap.size 134 1 v5 (O ++ [st]).length (u32s (O ++ [st]))) := own_conv hown' rfl rfl rfl; clear hown' hgrow)
                       | (at_builtin; refine wpList_append_sl rfl _ _ rfl w1.heap.size _ (O ++ [st]) M rfl HO5.out _ rfl HM5.out (by have := HOb.out; simp at this ⊢; omega) g5.size ?_; intro v6 w6 hown6 hgrow6; have HO6 := hid hown6; have g6 := gr_add2 g5 HO5.out hgrow6; clear hown6 hgrow6)
                       | (go_at_call 135; refine (HTW.out _ g2k).mono ?_; clear HTW; rintro e w3 ⟨rfl, g3⟩; have gWZ := g2k.trans g3; have HOW := hid (ownsRow_gr HOO.out ((hgq.trans g2).trans g3)); have HMW := hid (ownsRow_gr HMM.out (g2.trans g3)); have hc3 := g3.cell hc2))
           go_roundg (u.length + 1)
           case rel => exact ⟨c :: u, O ++ [st] ++ M, Nat.le_refl _, .inr H0.out, HT, HO6, HE2, by have := HL.out; show _ ≤ _; simp at this ⊢; omega, HX, g6⟩
           case measure => simp at hUm; omega
         · have hqz : ¬ (q : Int) = 0 := by rw [HQc.out] at h0; omega
           have hqy : ((q : Int) == 0) = false := by rw [beq_eq_false_iff_ne]; exact hqz
           have HE2 : Hid (O ++ compG u st (M ++ [c]) (lastC (M ++ [c])) = F) := by show _ = _; rw [← HE.out, ← HLA.out, compG_m (by rw [HLA.out]; exact HT0.out) h0, lastC_snoc]
           have HQL : Hid (lastC (M ++ [c]) = q) := by show _ = _; rw [lastC_snoc]; exact HQc.out
           clear h0
           go_wp2_with (first | (go_at_call 135; refine (HTW.out _ g2k).mono ?_; clear HTW; rintro e w3 ⟨rfl, g3⟩; have gWZ := g2k.trans g3; have HOW := hid (ownsRow_gr HOO.out ((hgq.trans g2).trans g3)); have HMW := hid (ownsRow_gr HMM.out (g2.trans g3)); have hc3 := g3.cell hc2))
           go_region_law ((refine step_append_own rfl _ _ 108 rfl wo.heap.size 134 i0 (.int .u32 0) 1 4 Tryz.underlying108 hi hz0 hz1 hz2 rfl (by decide) (.slice a5 M.length c5) _ _ (by simp [Act.eval]) (HMW.out.alloc _) ⟨_, 0, none⟩ 1 1 [.int .u32 (c : Int)] (by simp [Act.eval]) rfl (cell_one_new _ _ _) (by simp [Value.oneCell']) (by have := HOb.out; unfold maxLen; omega) (by have := HOb.out; omega) (by have := (hgq.trans g2).size; have := g3.size; simp; omega) ?_; intro v' w5 hown' hgrow; obtain ⟨g', cap', rfl⟩ := ownsRow_succ hown'; have g5 := gr_added (((hgq.trans g2).trans g3).trans (Gr.drewN _ 1)) HMW.out hgrow; have HM5 : Hid (w5.ownsRow wo.heap.size 134 1 (.slice (some ⟨g', 0, none⟩) (M.length + 1) cap') (M ++ [c]).length (u32s (M ++ [c]))) := own_conv hown' rfl rfl rfl; clear hown' hgrow))
           all_goals (
            go_wp2_with fail
            go_roundg u.length)
           case rel => exact ⟨u, M ++ [c], st, Nat.le_refl _, by simp at hUm; omega, rfl, rfl, by rw [HQL.out], HS2, HOO, HM5, HE2, by have := HL.out; show _ ≤ _; simp at this ⊢; omega, HUX, hst, hgo, g5⟩
           case measure => simp at hU; omega
end Go.Proofs.YthlflglkdaainaaGreatDoor
namespace Go.Proofs.YthlflglkdaainaaGreatDoor
open Go.RowKit
end Go.Proofs.YthlflglkdaainaaGreatDoor
namespace Go.Proofs.YthlflglkdaainaaGreatDoor
open Go.RowKit
theorem comp_small {L : List Nat} (h : ∀ x ∈ L, x < 4294967296) : ∀ x ∈ comp L, x < 4294967296 := fun x hx => by
 rcases comp_mem L x hx with h1 | ⟨a, b, h1⟩
 · exact h x h1
 · have := (two_of h1).small; omega
structure NF (L A D C E : List Nat) : Prop where
 full : fullL L = A
 ord : ordL A = D
 comp : Go.Proofs.YthlflglkdaainaaGreatDoor.comp D = C
 full2 : fullL C = E
 ord2 : ordL E = D
 again : Go.Proofs.YthlflglkdaainaaGreatDoor.comp C = C
 sA : ∀ x ∈ A, x < 4294967296
 sD : ∀ x ∈ D, x < 4294967296
 sC : ∀ x ∈ C, x < 4294967296
 sE : ∀ x ∈ E, x < 4294967296
 lA : A.length ≤ 4 * L.length
 lD : D.length = A.length
 lC : C.length ≤ D.length
 lE : E.length ≤ 4 * C.length
theorem NF.of {L : List Nat} (b : ∀ x ∈ L, x < 4294967296) : ∃ A D C E, NF L A D C E := by
 have s1 : ∀ x ∈ fullL L, x < 4294967296 := fun x hx => (fullL_whole b x hx).2
 have s2 : ∀ x ∈ nfd L, x < 4294967296 := fun x hx => s1 x (ordL_mem.1 hx)
 have s3 : ∀ x ∈ nfc L, x < 4294967296 := comp_small s2
 exact ⟨fullL L, nfd L, nfc L, fullL (nfc L), rfl, rfl, rfl, rfl, nfd_nfc L, comp_nfc L, s1, s2, s3, fun x hx => (fullL_whole s3 x hx).2, (fullL_len L).2, ordL_length _, nfc_length L, (fullL_len _).2⟩
end Go.Proofs.YthlflglkdaainaaGreatDoor
