import Derived.WalkSpells
import Derived.Deep.CutBlock
import Derived.Deep.DeepCutAuto
import Derived.Deep.LoopGhost
import Derived.Deep.RegionLaw
import Derived.Test.YthlflglkdaainaaGreatDoorGB
import Derived.Test.YthlflglkdaainaaGreatDoorGL
import Derived.Test.YthlflglkdaainaaGreatDoorGO
import Derived.Test.YthlflglkdaainaaGreatDoorGR
/- Texts of this seat: KC. -/
set_option maxRecDepth 100000
set_option maxHeartbeats 16000000
namespace Go.Proofs.YthlflglkdaainaaGreatDoor
def isL (a : Nat) : Bool := Nat.ble 4352 a && Nat.blt a 4371
def isV (b : Nat) : Bool := Nat.ble 4449 b && Nat.blt b 4470
def isT (b : Nat) : Bool := Nat.ble 4520 b && Nat.blt b 4547
def iG (a b : Nat) : Option Nat := if isL a && isV b then some (44032 + ((a - 4352) * 21 + (b - 4449)) * 28) else if isH a && Nat.beq ((a - 44032) % 28) 0 && isT b then some (a + b - 4519) else none
noncomputable def two (a b : Nat) : Option Nat := match iG a b with | some x => some x | none => (iO a b).map (fun e => e.2.2)
theorem mZ (a : Nat) : isL a = true ↔ 4352 ≤ a ∧ a < 4371 := by unfold isL; rw [Bool.and_eq_true, Nat.ble_eq, Nat.blt_eq]
theorem ng (a : Nat) : isV a = true ↔ 4449 ≤ a ∧ a < 4470 := by unfold isV; rw [Bool.and_eq_true, Nat.ble_eq, Nat.blt_eq]
theorem nP (a : Nat) : isT a = true ↔ 4520 ≤ a ∧ a < 4547 := by unfold isT; rw [Bool.and_eq_true, Nat.ble_eq, Nat.blt_eq]
theorem rC {c : Nat} (h : 4352 ≤ c ∧ c ≤ 4546) : full c = [c] := by
 refine jI ?_ (zY h)
 cases hi : isH c with
 | false => rfl
 | true => have := (fH c).1 hi; omega
theorem yJ {a b x : Nat} (h : iG a b = some x) : (isL a = true ∧ isV b = true ∧ x = 44032 + ((a - 4352) * 21 + (b - 4449)) * 28) ∨ (isH a = true ∧ (a - 44032) % 28 = 0 ∧ isT b = true ∧ x = a + b - 4519) := by
 unfold iG at h
 split at h
 · rename_i h1
   rw [Bool.and_eq_true] at h1
   exact .inl ⟨h1.1, h1.2, (Option.some.inj h).symm⟩
 · split at h
   · rename_i h1
     rw [Bool.and_eq_true, Bool.and_eq_true, Nat.beq_eq] at h1
     exact .inr ⟨h1.1.1, h1.1.2, h1.2, (Option.some.inj h).symm⟩
   · cases h
structure ajy (a b x : Nat) : Prop where
 full : full x = full a ++ [b]
 whole : Go.Proofs.YthlflglkdaainaaGreatDoor.full b = [b]
 clsx : cls x = 0
 clsa : cls a = 0
 small : x < 1114112
theorem rU {a b x : Nat} (h : two a b = some x) : ajy a b x := by
 unfold two at h
 cases hj : iG a b with
 | some y =>
  rw [hj] at h
  obtain rfl := Option.some.inj h
  rcases yJ hj with ⟨h1, h2, h3⟩ | ⟨h1, h2, h3, h4⟩
  · rw [mZ] at h1
    rw [ng] at h2
    have hx : isH y = true := (fH y).2 (by omega)
    refine ⟨?_, rC (by omega), yt (.inr ((fH y).1 hx)), yt (.inl (by omega)), by omega⟩
    rw [mY hx, rC (c := a) (by omega)]
    have e1 : hT y = 0 := by unfold hT; rw [if_pos (by omega)]
    have e2 : hL y = a := by unfold hL; omega
    have e3 : hV y = b := by unfold hV; omega
    unfold hsp; rw [if_pos e1, e2, e3]; rfl
  · rw [nP] at h3
    have ha := (fH a).1 h1
    have hx : isH y = true := (fH y).2 (by omega)
    refine ⟨?_, rC (by omega), yt (.inr ((fH y).1 hx)), yt (.inr ha), by omega⟩
    rw [mY hx, mY h1]
    have e0 : hT a = 0 := by unfold hT; rw [if_pos h2]
    have e1 : hT y = b := by unfold hT; rw [if_neg (by omega)]; omega
    have e2 : hL y = hL a := by unfold hL; omega
    have e3 : hV y = hV a := by unfold hV; omega
    unfold hsp; rw [if_pos e0, e1, e2, e3, if_neg (by omega)]; rfl
 | none =>
  rw [hj] at h
  cases hp : iO a b with
  | none => rw [hp] at h; cases h
  | some e =>
   rw [hp] at h
   obtain rfl := Option.some.inj h
   have hd := ZR hp
   have hm := (bU hd).1
   have hno := Dp hm
   obtain ⟨_, h2, h3, h4⟩ := FX hd rfl
   have hb : full b = [b] := jI hno.2.2 (Am hd).1
   refine ⟨?_, hb, h4, h3, by have := aiL e (iL hp).1; show e.2.2 < _; omega⟩
   rw [Jt hno.1 hd, if_neg (by simp only at h2 ⊢; omega), hb]
def opn (marks : List Nat) (last k : Nat) : Bool := marks.isEmpty || (!(last == 0) && decide (last < k))
noncomputable def cO (st : Nat) (marks : List Nat) (last c : Nat) : Option Nat := if opn marks last (cls c) then two st c else none
noncomputable def dQ : List Nat → Nat → List Nat → Nat → List Nat
 | [], st, marks, _ => st :: marks
 | c :: t, st, marks, last => match cO st marks last c with
  | some x => dQ t x marks last
  | none => if cls c = 0 then st :: marks ++ dQ t c [] 0 else dQ t st (marks ++ [c]) (cls c)
noncomputable def comp : List Nat → List Nat
 | [] => []
 | c :: t => if cls c = 0 then dQ t c [] 0 else c :: comp t
theorem jy (st : Nat) (marks : List Nat) (last : Nat) : dQ [] st marks last = st :: marks := by rw [dQ]
theorem gy {c st last x : Nat} {marks : List Nat} (h : cO st marks last c = some x) (t : List Nat) : dQ (c :: t) st marks last = dQ t x marks last := by rw [dQ, h]
theorem kM {c st last : Nat} {marks : List Nat} (h : cO st marks last c = none) (hc : cls c = 0) (t : List Nat) : dQ (c :: t) st marks last = st :: marks ++ dQ t c [] 0 := by rw [dQ, h]; simp only; rw [if_pos hc]
theorem jJ {c st last : Nat} {marks : List Nat} (h : cO st marks last c = none) (hc : cls c ≠ 0) (t : List Nat) : dQ (c :: t) st marks last = dQ t st (marks ++ [c]) (cls c) := by rw [dQ, h]; simp only; rw [if_neg hc]
theorem lS {c : Nat} (h : cls c = 0) (t : List Nat) : comp (c :: t) = dQ t c [] 0 := by rw [comp, if_pos h]
theorem qc {c : Nat} (h : cls c ≠ 0) (t : List Nat) : comp (c :: t) = c :: comp t := by rw [comp, if_neg h]
theorem jR : comp [] = [] := by rw [comp]
theorem qQ {st last c x : Nat} {marks : List Nat} (h : cO st marks last c = some x) : two st c = some x ∧ (marks = [] ∨ last < cls c) := by
 unfold cO at h
 split at h
 · rename_i ho
   refine ⟨h, ?_⟩
   unfold opn at ho
   rw [Bool.or_eq_true, Bool.and_eq_true, decide_eq_true_eq, List.isEmpty_iff] at ho
   exact ho.imp id (·.2)
 · cases h
theorem pF : ∀ (t : List Nat) (st : Nat) (marks : List Nat) (last : Nat), (dQ t st marks last).length ≤ 1 + marks.length + t.length
 | [], st, marks, last => by rw [jy]; simp; omega
 | c :: t, st, marks, last => by
  cases h : cO st marks last c with
  | some x => rw [gy h]; have := pF t x marks last; simp; omega
  | none =>
   by_cases hc : cls c = 0
   · rw [kM h hc]; have := pF t c [] 0; simp at this ⊢; omega
   · rw [jJ h hc]; have := pF t st (marks ++ [c]) (cls c); simp at this ⊢; omega
theorem Dw : ∀ (l : List Nat), (comp l).length ≤ l.length
 | [] => by rw [jR]; exact Nat.le_refl _
 | c :: t => by
  by_cases hc : cls c = 0
  · rw [lS hc]; have := pF t c [] 0; simp at this ⊢; omega
  · rw [qc hc]; have := Dw t; simp; omega
theorem rD {s : Nat} (hs : cls s = 0) (h2 : ∀ a, two a s = none) (B : List Nat) : ∀ (A : List Nat) (st : Nat) (marks : List Nat) (last : Nat), dQ (A ++ s :: B) st marks last = dQ A st marks last ++ dQ B s [] 0
 | [], st, marks, last => by
  rw [jy, List.nil_append, kM (by unfold cO; rw [h2]; split <;> rfl) hs]
 | c :: A, st, marks, last => by
  rw [List.cons_append]
  cases h : cO st marks last c with
  | some x => rw [gy h, gy h, rD hs h2 B A]
  | none =>
   by_cases hc : cls c = 0
   · rw [kM h hc, kM h hc, rD hs h2 B A]; simp
   · rw [jJ h hc, jJ h hc, rD hs h2 B A]
theorem Ic {s : Nat} (hs : cls s = 0) (h2 : ∀ a, two a s = none) (B : List Nat) : ∀ (A : List Nat), comp (A ++ s :: B) = comp A ++ comp (s :: B)
 | [] => by rw [jR]; rfl
 | c :: A => by
  rw [List.cons_append]
  by_cases hc : cls c = 0
  · rw [lS hc, lS hc, lS hs, rD hs h2]
  · rw [qc hc, qc hc, Ic hs h2 B A]; rfl
theorem xR : ∀ (t : List Nat) (st : Nat) (marks : List Nat) (last x : Nat), x ∈ dQ t st marks last → x = st ∨ x ∈ marks ∨ x ∈ t ∨ ∃ a b, two a b = some x
 | [], st, marks, last, x, h => by
  rw [jy] at h
  rcases List.mem_cons.1 h with h | h
  · exact .inl h
  · exact .inr (.inl h)
 | c :: t, st, marks, last, x, h => by
  cases ht : cO st marks last c with
  | some y =>
   rw [gy ht] at h
   rcases xR t y marks last x h with h | h | h | h
   · exact .inr (.inr (.inr ⟨st, c, by rw [h]; exact (qQ ht).1⟩))
   · exact .inr (.inl h)
   · exact .inr (.inr (.inl (List.mem_cons_of_mem _ h)))
   · exact .inr (.inr (.inr h))
  | none =>
   by_cases hc : cls c = 0
   · rw [kM ht hc] at h
     rcases List.mem_cons.1 h with h | h
     · exact .inl h
     rcases List.mem_append.1 h with h | h
     · exact .inr (.inl h)
     rcases xR t c [] 0 x h with h | h | h | h
     · exact .inr (.inr (.inl (by rw [h]; simp)))
     · cases h
     · exact .inr (.inr (.inl (List.mem_cons_of_mem _ h)))
     · exact .inr (.inr (.inr h))
   · rw [jJ ht hc] at h
     rcases xR t st _ _ x h with h | h | h | h
     · exact .inl h
     · rcases List.mem_append.1 h with h | h
       · exact .inr (.inl h)
       · rw [List.mem_singleton] at h; exact .inr (.inr (.inl (by rw [h]; simp)))
     · exact .inr (.inr (.inl (List.mem_cons_of_mem _ h)))
     · exact .inr (.inr (.inr h))
theorem Fa : ∀ (l : List Nat) (x : Nat), x ∈ comp l → x ∈ l ∨ ∃ a b, two a b = some x
 | [], x, h => by rw [jR] at h; cases h
 | c :: t, x, h => by
  by_cases hc : cls c = 0
  · rw [lS hc] at h
    rcases xR t c [] 0 x h with h | h | h | h
    · exact .inl (by rw [h]; simp)
    · cases h
    · exact .inl (List.mem_cons_of_mem _ h)
    · exact .inr h
  · rw [qc hc] at h
    rcases List.mem_cons.1 h with h | h
    · exact .inl (by rw [h]; simp)
    · exact (Fa t x h).imp (List.mem_cons_of_mem _) id
theorem jQ (a : Nat) (L : List Nat) : bT (a :: L) = full a ++ bT L := by unfold bT; rw [List.flatMap_cons]
def Whole (l : List Nat) : Prop := ∀ x ∈ l, full x = [x]
theorem iZ : ∀ {l : List Nat}, Whole l → bT l = l
 | [], _ => rfl
 | a :: l, h => by rw [jQ, h a (by simp), iZ fun x hx => h x (List.mem_cons_of_mem _ hx)]; rfl
theorem kE {p c : Nat} {t : List Nat} (h : dU cls p (c :: t) = true) : (cls c = 0 ∨ p ≤ cls c) ∧ dU cls (cls c) t = true := by
 rw [dU, Bool.and_eq_true, Bool.or_eq_true, Nat.beq_eq, Nat.ble_eq] at h
 exact h
structure Kept (marks : List Nat) (last p : Nat) : Prop where
 all : ∀ m ∈ marks, cls m ≠ 0 ∧ cls m ≤ last
 le : last ≤ p
 nil : marks = [] → last = 0
theorem Kept.start (p : Nat) : Kept [] 0 p := ⟨(fun m h => by cases h), Nat.zero_le _, fun _ => rfl⟩
theorem Kept.snoc {marks : List Nat} {last p c : Nat} (h : Kept marks last p) (hc : cls c ≠ 0) (hp : p ≤ cls c) : Kept (marks ++ [c]) (cls c) (cls c) :=
 ⟨fun m hm => by
  rcases List.mem_append.1 hm with hm | hm
  · have := h.all m hm; have := h.le; omega
  · rw [List.mem_singleton] at hm; rw [hm]; exact ⟨hc, Nat.le_refl _⟩, Nat.le_refl _, fun e => by simp at e⟩
theorem Kept.aff {marks : List Nat} {last p c : Nat} (h : Kept marks last p) (ho : marks = [] ∨ last < cls c) : Kept marks last (cls c) :=
 ⟨h.all, ho.elim (fun ho => by rw [h.nil ho]; exact Nat.zero_le _) (fun ho => Nat.le_of_lt ho), h.nil⟩
theorem xU : ∀ (t : List Nat) (st : Nat) (marks : List Nat) (last p : Nat), Kept marks last p → dU cls p t = true → Whole marks → Whole t → Eqv (bT (dQ t st marks last)) (full st ++ marks ++ t)
 | [], st, marks, last, p, _, _, hw, _ => by rw [jy, jQ, iZ hw, List.append_nil]; exact rfl
 | c :: t, st, marks, last, p, hk, ho, hw, hwt => by
  obtain ⟨h1, h2⟩ := kE ho
  have hwc : full c = [c] := hwt c (by simp)
  have Yv : Whole t := fun x hx => hwt x (List.mem_cons_of_mem _ hx)
  cases ht : cO st marks last c with
  | some x =>
   rw [gy ht]
   obtain ⟨h3, h4⟩ := qQ ht
   have ih := xU t x marks last (cls c) (hk.aff h4) h2 hw Yv
   rw [(rU h3).full] at ih
   refine ih.trans ?_
   rcases h4 with rfl | h4
   · show fO _ = fO _; congr 1; simp
   · have hc : cls c ≠ 0 := by omega
     have := (Sw.back hc (full st) _ marks rfl fun y hy => ⟨(hk.all y hy).1, by have := (hk.all y hy).2; omega⟩).ord
     have e : Eqv (full st ++ c :: marks ++ t) (full st ++ marks ++ [c] ++ t) := Eqv.append (show Eqv _ _ from this.symm) (show Eqv t t from rfl)
     have e2 : full st ++ [c] ++ marks ++ t = full st ++ c :: marks ++ t := by simp
     have e3 : full st ++ marks ++ c :: t = full st ++ marks ++ [c] ++ t := by simp
     rw [e2, e3]; exact e
  | none =>
   by_cases hc : cls c = 0
   · rw [kM ht hc, List.cons_append, jQ, zZ, iZ hw]
     have ih := xU t c [] 0 (cls c) (Kept.start _) h2 (fun x h => by cases h) Yv
     rw [hwc] at ih
     have := Eqv.append (show Eqv (full st ++ marks) (full st ++ marks) from rfl) ih
     rw [List.append_nil, List.append_assoc] at this
     exact this
   · rw [jJ ht hc]
     have hp : p ≤ cls c := h1.resolve_left hc
     have ih := xU t st (marks ++ [c]) (cls c) (cls c) (hk.snoc hc hp) h2 (fun x hx => by
      rcases List.mem_append.1 hx with hx | hx
      · exact hw x hx
      · rw [List.mem_singleton] at hx; rw [hx]; exact hwc) Yv
     rw [List.append_assoc, List.append_assoc] at ih
     rw [List.append_assoc]
     exact ih
theorem Qv : ∀ (d : List Nat) (p : Nat), dU cls p d = true → Whole d → Eqv (bT (comp d)) d
 | [], _, _, _ => by rw [jR]; exact rfl
 | c :: t, p, ho, hw => by
  obtain ⟨h1, h2⟩ := kE ho
  have hwc : full c = [c] := hw c (by simp)
  have Yv : Whole t := fun x hx => hw x (List.mem_cons_of_mem _ hx)
  by_cases hc : cls c = 0
  · rw [lS hc]
    have := xU t c [] 0 (cls c) (Kept.start _) h2 (fun x h => by cases h) Yv
    rw [hwc, List.append_nil] at this; exact this
  · rw [qc hc, jQ, hwc]
    exact Eqv.append (show Eqv [c] [c] from rfl) (Qv t _ h2 Yv)
noncomputable def dM (M : List Nat) : Nat := match M.getLast? with | some m => cls m | none => 0
theorem eX (M : List Nat) (m : Nat) : dM (M ++ [m]) = cls m := by unfold dM; simp
def Clean (st : Nat) (M : List Nat) : Prop := ∀ M1 m M2, M = M1 ++ m :: M2 → cO st M1 (dM M1) m = none
theorem Clean.nil (st : Nat) : Clean st [] := fun M1 m M2 h => by simp at h
theorem Clean.snoc {st c : Nat} {M : List Nat} (h : Clean st M) (hc : cO st M (dM M) c = none) : Clean st (M ++ [c]) := by
 intro M1 m M2 e
 by_cases hM : M2 = []
 · subst hM
   obtain ⟨rfl, e2⟩ := List.append_inj' e rfl
   injection e2 with e2; subst e2; exact hc
 · obtain ⟨M3, z, rfl⟩ := wZ hM
   have e' : M ++ [c] = (M1 ++ m :: M3) ++ [z] := by rw [e]; simp
   obtain ⟨rfl, _⟩ := List.append_inj' e' rfl
   exact h M1 m M3 rfl
theorem IW {u : Nat} {A : List Nat} {b c : Nat} (hu : dU cls 0 (full u) = true) (h : full u = A ++ [b, c]) : cls c = 0 ∨ cls b ≤ cls c := by
 rw [h] at hu
 have gen : ∀ (A : List Nat) (p : Nat), dU cls p (A ++ [b, c]) = true → cls c = 0 ∨ cls b ≤ cls c := by
  intro A
  induction A with
  | nil => intro p hp; exact (kE (kE hp).2).1
  | cons a A ih => intro p hp; exact ih _ (kE hp).2
 exact gen A 0 hu
theorem Qw (u : Nat) : dU cls 0 (full u) = true := by
 cases hh : isH u with
 | true =>
  have hl := uo u hh
  rw [mY hh]
  have gen : ∀ (l : List Nat), (∀ x ∈ l, 4352 ≤ x ∧ x ≤ 4546) → ∀ p, dU cls p l = true := by
   intro l
   induction l with
   | nil => intro _ p; rfl
   | cons a l ih =>
    intro h p
    rw [dU, yt (.inl (h a (by simp))), Bool.and_eq_true]
    exact ⟨rfl, ih (fun x hx => h x (List.mem_cons_of_mem _ hx)) _⟩
  exact gen _ hl 0
 | false =>
  cases hd : bD u with
  | none => rw [jI hh hd]; simp [dU]
  | some e =>
   have he := bU hd
   have hk := (dJ _ _).1 (and3 ZT).2.2 e he.1
   unfold ckD3 at hk
   have hc : ∀ c, Rw (dc12 tC.data.toList) c = cls c := fun c => by
    unfold Rw cls
    rw [show fC (dc12 tC.data.toList) c = jd c from Vz c]
    cases jd c <;> rfl
   rw [he.2, show qP (dc16 tD.data.toList) 3 u = fF 3 u from EZ (vI u) hh] at hk
   rw [funext hc] at hk
   exact hk
theorem Clean.aff {st c x last p : Nat} {M : List Nat} (hk : Kept M last p) (h2 : two st c = some x) (ho : M = [] ∨ last < cls c) : Clean x M := by
 intro M1 m M2 e
 have hm := hk.all m (by rw [e]; simp)
 have hlast : last < cls c := ho.resolve_left (by rw [e]; simp)
 unfold cO
 split
 · cases hu : two x m with
   | none => rfl
   | some u =>
    have h3 := (rU hu).full
    rw [(rU h2).full, List.append_assoc] at h3
    rcases IW (Qw u) h3 with h | h
    · exact absurd h hm.1
    · omega
 · rfl
theorem wL (st : Nat) (tail : List Nat) : ∀ (M2 M1 : List Nat), Clean st (M1 ++ M2) → Marks M2 → dQ (M2 ++ tail) st M1 (dM M1) = dQ tail st (M1 ++ M2) (dM (M1 ++ M2))
 | [], M1, _, _ => by simp
 | m :: M2, M1, h, hm => by
  rw [List.cons_append, jJ (h M1 m M2 rfl) (hm m (by simp))]
  have e : M1 ++ m :: M2 = (M1 ++ [m]) ++ M2 := by simp
  rw [e] at h ⊢
  rw [← eX M1 m]
  exact wL st tail M2 (M1 ++ [m]) h fun x hx => hm x (List.mem_cons_of_mem _ hx)
theorem Kept.marks {M : List Nat} {last p : Nat} (h : Kept M last p) : Marks M := fun x hx => (h.all x hx).1
theorem rE : ∀ (t : List Nat) (st : Nat) (M : List Nat) (p : Nat), Kept M (dM M) p → dU cls p t = true → Clean st M → cls st = 0 →
    ∃ s r, dQ t st M (dM M) = s :: r ∧ dQ r s [] 0 = s :: r ∧ (s = st ∨ ∃ a b, two a b = some s) ∧ cls s = 0
 | [], st, M, p, hk, _, hc, hs => by
  refine ⟨st, M, jy _ _ _, ?_, .inl rfl, hs⟩
  have := wL st [] M [] hc hk.marks
  rw [jy, List.append_nil] at this
  exact this
 | c :: t, st, M, p, hk, ho, hcl, hs => by
  obtain ⟨h1, h2⟩ := kE ho
  cases ht : cO st M (dM M) c with
  | some x =>
   rw [gy ht]
   obtain ⟨h3, h4⟩ := qQ ht
   obtain ⟨s, r, k1, k2, k3, k4⟩ := rE t x M (cls c) (hk.aff h4) h2 (Clean.aff hk h3 h4) (rU h3).clsx
   exact ⟨s, r, k1, k2, .inr (k3.elim (fun e => ⟨st, c, by rw [e]; exact h3⟩) id), k4⟩
  | none =>
   by_cases hc : cls c = 0
   · rw [kM ht hc]
     obtain ⟨s, r, k1, k2, k3, k4⟩ := rE t c [] (cls c) (Kept.start _) h2 (Clean.nil c) hc
     rw [show dM [] = 0 from rfl] at k1
     refine ⟨st, M ++ s :: r, by rw [k1]; rfl, ?_, .inl rfl, hs⟩
     have e := wL st (s :: r) M [] hcl hk.marks
     rw [List.nil_append] at e
     rw [show dM [] = 0 from rfl] at e
     rw [e]
     have hn : cO st M (dM M) s = none := by
      unfold cO
      split
      · rename_i hop
        have hM : M = [] := by
         unfold opn at hop
         rw [k4, Bool.or_eq_true, List.isEmpty_iff] at hop
         exact hop.resolve_right (by simp)
        subst hM
        cases h2' : two st s with
        | none => rfl
        | some u =>
         have hw := (rU h2').whole
         rcases k3 with k3 | ⟨a, b, k3⟩
         · rw [k3] at h2'
           have : cO st [] (dM []) c = some u := by unfold cO opn; simpa using h2'
           rw [this] at ht; cases ht
         · have hf := (rU k3).full
           rw [hw] at hf
           have hl := congrArg List.length hf
           have := (vH a).1
           rw [List.length_append] at hl
           simp only [List.length_cons, List.length_nil] at hl; omega
      · rfl
     rw [kM hn k4, k2]; rfl
   · rw [jJ ht hc]
     have hp : p ≤ cls c := h1.resolve_left hc
     rw [← eX M c]
     exact rE t st (M ++ [c]) (cls c) (by rw [eX]; exact hk.snoc hc hp) h2 (hcl.snoc ht) hs
theorem Ie : ∀ (d : List Nat) (p : Nat), dU cls p d = true → comp (comp d) = comp d
 | [], _, _ => by rw [jR, jR]
 | c :: t, p, ho => by
  obtain ⟨h1, h2⟩ := kE ho
  by_cases hc : cls c = 0
  · rw [lS hc]
    obtain ⟨s, r, k1, k2, k3, k4⟩ := rE t c [] (cls c) (Kept.start _) h2 (Clean.nil c) hc
    rw [show dM [] = 0 from rfl] at k1
    rw [k1, lS k4, k2]
  · rw [qc hc, qc hc, Ie t _ h2]
noncomputable def nfd (l : List Nat) : List Nat := fO (bT l)
noncomputable def nfc (l : List Nat) : List Nat := comp (nfd l)
theorem Qx (c : Nat) : Whole (full c) := by
 intro x hx
 cases hh : isH c with
 | true => rw [mY hh] at hx; exact rC (uo c hh x hx)
 | false =>
  obtain ⟨_, h2, h3⟩ := Jb (vI c) hh x hx
  exact jI h3 h2
theorem Oa (l : List Nat) : Whole (bT l) := by
 intro x hx
 unfold bT at hx
 obtain ⟨c, _, hx⟩ := List.mem_flatMap.1 hx
 exact Qx c x hx
theorem Yw (l : List Nat) : Whole (nfd l) := fun x hx => Oa l x (su.1 hx)
theorem Wp (l : List Nat) : dU cls 0 (nfd l) = true := QO _
theorem BF (l : List Nat) : nfd (nfc l) = nfd l := by
 have : fO (bT (comp (nfd l))) = fO (nfd l) := Qv (nfd l) 0 (Wp l) (Yw l)
 show fO (bT (comp (nfd l))) = nfd l
 rw [this]; exact WM _
theorem adz (l : List Nat) : nfc (nfc l) = nfc l := by show comp (nfd (nfc l)) = nfc l; rw [BF]; rfl
theorem acf (l : List Nat) : comp (nfc l) = nfc l := Ie _ 0 (Wp l)
theorem yH (l : List Nat) : (nfc l).length ≤ (nfd l).length := Dw _
def secs : List Nat := [768, 769, 770, 771, 772, 774, 775, 776, 777, 778, 779, 780, 783, 785, 787, 788, 795, 803, 804, 805, 806, 807, 808, 813, 814, 816, 817, 824, 834, 837, 1619, 1620, 1621, 2364, 2494, 2519, 2878, 2902, 2903, 3006, 3031, 3158, 3266, 3285, 3286, 3390, 3415, 3530, 3535, 3551, 4142, 6965, 12441, 12442, 69818, 69927, 70462, 70487, 70832, 70842, 70845, 71087, 71984]
def wM (c : Nat) : Bool := !(allB (fun s => !(Nat.beq s c)) secs)
def EC (f : Nat → Nat) : List Nat → Bool
 | [] => true
 | c :: l => cond (Nat.beq (f c) 0) (EC f l) (allB (fun x => !(Nat.beq (f x) 0)) (c :: l))
def afg : List Nat → Nat | [] => 0 | a :: _ => a
def tlOf : List Nat → List Nat | [] => [] | _ :: l => l
def ckQ1 (D : List (Nat × Nat × Nat × Bool)) (C : List (Nat × Nat × Nat)) (e : Nat × Nat × Nat × Bool) : Bool := cond e.2.2.2
 ((match fD D e.2.1 with | none => true | some x => x.2.2.2) && !(wM (afg (qP D 3 e.1)) || Ci (afg (qP D 3 e.1))) && Nat.beq (Rw C (afg (qP D 3 e.1))) 0 && EC (Rw C) (tlOf (qP D 3 e.1))) true
def ckQ2 (e : Nat × Nat × Nat) : Bool := wM e.2.1 && !(Ci e.2.1)
def ckQ (lD lP lC : List UInt8) : Bool := allB (ckQ1 (dc16 lD) (dc12 lC)) (dc16 lD) && allB ckQ2 (dc15 lP)
theorem afH : ckQ tD.data.toList tP.data.toList tC.data.toList = true := by decide +kernel
theorem Yx {c : Nat} (h : wM c = false) : ∀ s ∈ secs, s ≠ c := by
 unfold wM at h
 rw [Bool.not_eq_false'] at h
 intro s hs e
 have := (dJ _ _).1 h s hs
 rw [Bool.not_eq_true'] at this
 rw [Nat.beq_eq.mpr e] at this; cases this
theorem Td {c : Nat} (h : wM c = true) : c ∈ secs := by
 have h2 : ¬ wM c = false := by rw [h]; decide
 refine Decidable.byContradiction fun hn => h2 ?_
 unfold wM
 rw [Bool.not_eq_false']
 refine (dJ _ _).2 fun s hs => ?_
 rw [Bool.not_eq_true', ← Bool.not_eq_true, Nat.beq_eq]
 intro e; rw [e] at hs; exact hn hs
theorem afI : ∀ e ∈ Dl, ckQ1 Dl Cl e = true := by
 have h := afH; unfold ckQ at h; rw [Bool.and_eq_true] at h
 exact (dJ _ _).1 h.1
theorem afJ : ∀ e ∈ Pl, wM e.2.1 = true ∧ Ci e.2.1 = false := by
 have h := afH; unfold ckQ at h; rw [Bool.and_eq_true] at h
 intro e he
 have := (dJ _ _).1 h.2 e he
 unfold ckQ2 at this
 rw [Bool.and_eq_true, Bool.not_eq_true'] at this
 exact this
theorem Qy (c : Nat) : Ci c = true ↔ (4449 ≤ c ∧ c ≤ 4469) ∨ (4520 ≤ c ∧ c ≤ 4546) := by
 unfold Ci; rw [Bool.or_eq_true, Bool.and_eq_true, Bool.and_eq_true, Nat.ble_eq, Nat.ble_eq, Nat.ble_eq, Nat.ble_eq]
theorem zh {a b x : Nat} (h : iG a b = some x) : Ci b = true := by
 rw [Qy]
 rcases yJ h with ⟨_, h, _⟩ | ⟨_, _, h, _⟩
 · rw [ng] at h; exact .inl (by omega)
 · rw [nP] at h; exact .inr (by omega)
theorem Ig {a b x : Nat} (h : two a b = some x) : Ci b = true ∨ b ∈ secs := by
 unfold two at h
 cases hj : iG a b with
 | some y => exact .inl (zh hj)
 | none =>
  rw [hj] at h
  cases hp : iO a b with
  | none => rw [hp] at h; cases h
  | some e =>
   obtain ⟨h1, _, h3⟩ := iL hp
   have := Td (afJ e h1).1
   rw [h3] at this
   exact .inr this
theorem zi {c : Nat} (h : second c = false) (a : Nat) : two a c = none := by
 unfold second at h
 rw [Bool.or_eq_false_iff] at h
 cases ht : two a c with
 | none => rfl
 | some x =>
  unfold two at ht
  cases hj : iG a c with
  | some y => rw [zh hj] at h; cases h.1
  | none =>
   rw [hj] at ht
   cases hp : iO a c with
   | none => rw [hp] at ht; cases ht
   | some e =>
    obtain ⟨h1, _, h3⟩ := iL hp
    exact absurd (Nat.beq_eq.mpr h3) (List.any_eq_false.1 h.2 e h1)
theorem acg {c : Nat} {e} (hd : bD c = some e) (hf : e.2.2.2 = true) : two e.2.1 e.2.2.1 = some c := by
 obtain ⟨⟨x, h1, h2⟩, _⟩ := FX hd hf
 have hj : iG e.2.1 e.2.2.1 = none := by
  cases hj : iG e.2.1 e.2.2.1 with
  | none => rfl
  | some y =>
   have h3 := zh hj
   obtain ⟨k1, _, k3⟩ := iL h1
   have := (afJ x k1).2
   rw [k3, h3] at this; cases this
 unfold two
 rw [hj, h1, ← h2]; rfl
inductive Ch : Nat → List Nat → Nat → Prop
 | nil (a : Nat) : Ch a [] a
 | cons {a b y c : Nat} {bs : List Nat} (h : two a b = some y) (k : Ch y bs c) : Ch a (b :: bs) c
theorem Ch.snoc {s a b c : Nat} {bs : List Nat} (h : Ch s bs a) (k : two a b = some c) : Ch s (bs ++ [b]) c := by
 induction h with
 | nil a => exact .cons k (.nil c)
 | cons h _ ih => exact .cons h (ih k)
theorem Ch.split {B : List Nat} : ∀ {A : List Nat} {s c : Nat}, Ch s (A ++ B) c → ∃ a, Ch s A a ∧ Ch a B c
 | [], s, c, h => ⟨s, .nil s, h⟩
 | a :: A, s, c, h => by
  cases h with
  | cons h k => obtain ⟨y, k1, k2⟩ := Ch.split k; exact ⟨y, .cons h k1, k2⟩
theorem Ch.flag : ∀ (n c : Nat), Deep n c → isH c = false → (∀ e, bD c = some e → e.2.2.2 = true) → ∃ s bs, full c = s :: bs ∧ Ch s bs c
 | n, c, hD, hh, hf => by
  cases hd : bD c with
  | none => exact ⟨c, [], jI hh hd, .nil c⟩
  | some e =>
   cases n with
   | zero => rw [show bD c = none from hD] at hd; cases hd
   | succ n =>
    rcases hD with h0 | ⟨e', h1, h2, h3⟩
    · rw [h0] at hd; cases hd
    · rw [h1] at hd; obtain rfl := Option.some.inj hd
      have hm := (bU h1).1
      have hno := Dp hm
      have hfl := hf e' h1
      have hk := afI e' hm
      unfold ckQ1 at hk
      rw [hfl] at hk
      simp only [cond_true, Bool.and_eq_true] at hk
      have hk1 := hk.1.1.1
      rw [FV] at hk1
      obtain ⟨s, bs, k1, k2⟩ := Ch.flag n e'.2.1 h2 hno.2.1 (fun x hx => by rw [hx] at hk1; exact hk1)
      have ht := acg h1 hfl
      refine ⟨s, bs ++ [e'.2.2.1], ?_, k2.snoc ht⟩
      rw [(rU ht).full, k1]; rfl
theorem ach {a b : Nat} (h1 : isL a = true) (h2 : isV b = true) : two a b = some (44032 + ((a - 4352) * 21 + (b - 4449)) * 28) := by
 have : iG a b = some (44032 + ((a - 4352) * 21 + (b - 4449)) * 28) := by unfold iG; rw [h1, h2]; rfl
 unfold two; rw [this]
theorem Yy {a b : Nat} (h0 : isL a = false) (h1 : isH a = true) (h2 : Nat.beq ((a - 44032) % 28) 0 = true) (h3 : isT b = true) : two a b = some (a + b - 4519) := by
 have : iG a b = some (a + b - 4519) := by unfold iG; rw [h0, h1, h2, h3]; rfl
 unfold two; rw [this]
theorem Ch.ahS {c : Nat} (h : isH c = true) : ∃ s bs, full c = s :: bs ∧ Ch s bs c ∧ 4352 ≤ s ∧ s < 4371 ∧ ∀ b ∈ bs, cls b = 0 := by
 have hc := (fH c).1 h
 have hl := uo c h
 rw [mY h]
 have j1 : two (hL c) (hV c) = some (44032 + (c - 44032) / 28 * 28) := by
  have e1 : isL (hL c) = true := (mZ _).2 (by unfold hL; omega)
  have e2 : isV (hV c) = true := (ng _).2 (by unfold hV; omega)
  have e3 : 44032 + ((hL c - 4352) * 21 + (hV c - 4449)) * 28 = 44032 + (c - 44032) / 28 * 28 := by unfold hL hV; omega
  rw [ach e1 e2, e3]
 by_cases ht : hT c = 0
 · have hm : (c - 44032) % 28 = 0 := by unfold hT at ht; split at ht <;> omega
   refine ⟨hL c, [hV c], by unfold hsp; rw [if_pos ht], ?_, by unfold hL; omega, by unfold hL; omega, fun b hb => ?_⟩
   · exact .cons j1 (by rw [show 44032 + (c - 44032) / 28 * 28 = c by omega]; exact .nil c)
   · rw [List.mem_singleton] at hb; rw [hb]; exact yt (.inl (by unfold hV; omega))
 · have hm : (c - 44032) % 28 ≠ 0 := fun e => ht (by unfold hT; rw [if_pos e])
   have e3 : hT c = 4519 + (c - 44032) % 28 := by unfold hT; rw [if_neg hm]
   have j2 : two (44032 + (c - 44032) / 28 * 28) (hT c) = some c := by
    have e0 : isL (44032 + (c - 44032) / 28 * 28) = false := by rw [← Bool.not_eq_true, mZ]; omega
    have e1 : isH (44032 + (c - 44032) / 28 * 28) = true := (fH _).2 (by omega)
    have e2 : isT (hT c) = true := (nP _).2 (by omega)
    have e4 : Nat.beq ((44032 + (c - 44032) / 28 * 28 - 44032) % 28) 0 = true := Nat.beq_eq.mpr (by omega)
    have e5 : 44032 + (c - 44032) / 28 * 28 + hT c - 4519 = c := by omega
    rw [Yy e0 e1 e4 e2, e5]
   refine ⟨hL c, [hV c, hT c], by unfold hsp; rw [if_neg ht], .cons j1 (.cons j2 (.nil c)), by unfold hL; omega, by unfold hL; omega, fun b hb => ?_⟩
   simp only [List.mem_cons, List.not_mem_nil, or_false] at hb
   rcases hb with hb | hb
   · rw [hb]; exact yt (.inl (by unfold hV; omega))
   · rw [hb]; exact yt (.inl (by omega))
structure Ih (c : Nat) : Prop where
 split : ∃ h Z Ms, full c = h :: (Z ++ Ms) ∧ cls h = 0 ∧ (∀ a, two a h = none) ∧ (∀ z ∈ Z, cls z = 0) ∧ Marks Ms ∧ eF Ms ∧ Ch h (Z ++ Ms) c
theorem yB : ∀ (l : List Nat), EC cls l = true → ∃ Z Ms, l = Z ++ Ms ∧ (∀ z ∈ Z, cls z = 0) ∧ Marks Ms
 | [], _ => ⟨[], [], rfl, (fun z h => by cases h), (fun z h => by cases h)⟩
 | c :: l, h => by
  unfold EC at h
  by_cases hc : cls c = 0
  · rw [Nat.beq_eq.mpr hc] at h
    obtain ⟨Z, Ms, rfl, h1, h2⟩ := yB l h
    exact ⟨c :: Z, Ms, rfl, fun z hz => by
     rcases List.mem_cons.1 hz with rfl | hz
     · exact hc
     · exact h1 z hz, h2⟩
  · rw [show Nat.beq (cls c) 0 = false by rw [← Bool.not_eq_true, Nat.beq_eq]; exact hc, cond_false] at h
    refine ⟨[], c :: l, rfl, (fun z h => by cases h), fun x hx e => ?_⟩
    have := (dJ _ _).1 h x hx
    rw [Nat.beq_eq.mpr e] at this; cases this
theorem BI {B : List Nat} : ∀ {A : List Nat} {p : Nat}, dU cls p (A ++ B) = true → ∃ q, dU cls q B = true
 | [], _, h => ⟨_, h⟩
 | _ :: _, _, h => BI (kE h).2
theorem uQ {c : Nat} (h : quick c = 0) : second c = false ∧ ∀ e, bD c = some e → e.2.2.2 = true := by
 rw [ace] at h
 split at h
 · cases h
 · rename_i hn
   split at h
   · cases h
   · rename_i hs
     refine ⟨by simpa using hs, fun e he => ?_⟩
     cases hf : e.2.2.2 with
     | true => rfl
     | false => exact absurd ⟨by rw [he]; rfl, by unfold composes; rw [he]; exact hf⟩ hn
theorem Ih.of {c : Nat} (hq : quick c = 0) (hc : cls c = 0) : Ih c := by
 obtain ⟨hs, hf⟩ := uQ hq
 cases hh : isH c with
 | true =>
  obtain ⟨s, bs, h1, h2, h3, h4, h5⟩ := Ch.ahS hh
  refine ⟨s, bs, [], by rw [List.append_nil]; exact h1, yt (.inl (by omega)), fun a => ?_, h5, (fun x hx => by cases hx), List.Pairwise.nil, by rw [List.append_nil]; exact h2⟩
  cases ht : two a s with
  | none => rfl
  | some x =>
   exfalso
   rcases Ig ht with h | h
   · rw [Qy] at h; omega
   · have hall : ∀ z ∈ secs, z < 4352 ∨ 4371 ≤ z := by decide
     have := hall s h; omega
 | false =>
  obtain ⟨s, bs, h1, h2⟩ := Ch.flag 3 c (vI c) hh hf
  cases hd : bD c with
  | none =>
   rw [jI hh hd] at h1
   injection h1 with e1 e2
   subst e1 e2
   exact ⟨c, [], [], jI hh hd, hc, zi hs, (fun x hx => by cases hx), (fun x hx => by cases hx), List.Pairwise.nil, .nil c⟩
  | some e =>
   obtain ⟨k1, k2⟩ := bU hd
   have hk := afI e k1
   unfold ckQ1 at hk
   rw [hf e hd, k2, EZ (vI c) hh, show fF 3 c = s :: bs from h1] at hk
   have hcl : Rw Cl = cls := funext fun x => by unfold Rw cls; rw [Vz]; cases jd x <;> rfl
   rw [hcl] at hk
   simp only [cond_true, Bool.and_eq_true, afg, tlOf, Bool.not_eq_true'] at hk
   obtain ⟨⟨⟨_, g2⟩, g3⟩, g4⟩ := hk
   obtain ⟨Z, Ms, rfl, z1, z2⟩ := yB bs g4
   have ho := Qw c
   rw [h1] at ho
   obtain ⟨q, hq⟩ := BI (A := s :: Z) (B := Ms) ho
   refine ⟨s, Z, Ms, h1, Nat.beq_eq.mp g3, fun a => ?_, z1, z2, ((lY Ms q z2).1 hq).2, h2⟩
   cases ht : two a s with
   | none => rfl
   | some x =>
    exfalso
    rcases Ig ht with h | h
    · rw [Bool.or_eq_false_iff] at g2; rw [g2.2] at h; cases h
    · rw [Bool.or_eq_false_iff] at g2; exact Yx g2.1 s h rfl
theorem Dx (R : List Nat) : ∀ {Z : List Nat} {s a : Nat}, Ch s Z a → dQ (Z ++ R) s [] 0 = dQ R a [] 0
 | [], s, a, h => by cases h; rfl
 | b :: Z, s, a, h => by
  cases h with
  | cons h k =>
   rw [List.cons_append, gy (x := _) (by unfold cO opn; simpa using h)]
   exact Dx R k
theorem Ii (a : Nat) : ∀ (N2 N1 : List Nat), Marks N2 → (∀ n ∈ N2, ∀ a, two a n = none) → dQ N2 a N1 (dM N1) = a :: (N1 ++ N2)
 | [], N1, _, _ => by rw [jy, List.append_nil]
 | n :: N2, N1, hm, h2 => by
  rw [jJ (by unfold cO; rw [h2 n (by simp)]; split <;> rfl) (hm n (by simp)), ← eX N1 n, Ii a N2 (N1 ++ [n]) (fun x hx => hm x (List.mem_cons_of_mem _ hx)) fun x hx => h2 x (List.mem_cons_of_mem _ hx)]
  simp
theorem BJ {a : Nat} {l : List Nat} (h : eF (a :: l)) : (∀ x ∈ l, cls a ≤ cls x) ∧ eF l := List.pairwise_cons.1 h
theorem Yz {N : List Nat} (h : N ≠ []) : ∃ n ∈ N, dM N = cls n := by
 obtain ⟨B, y, rfl⟩ := wZ h
 exact ⟨y, by simp, eX B y⟩
theorem wO : ∀ (k : Nat) (Ms N2 N1 : List Nat) (a c : Nat), Ms.length + N2.length = k → Ch a Ms c → Marks Ms → eF Ms → Marks N1 → Marks N2 → eF N2 → (∀ n ∈ N2, ∀ a, two a n = none) → (∀ n ∈ N1, ∀ b ∈ Ms, cls n < cls b) →
    dQ (srt (Ms ++ N2)) a N1 (dM N1) = c :: (N1 ++ N2)
 | k, [], N2, N1, a, c, _, hch, _, _, _, hm2, hs2, h2, _ => by
  cases hch
  rw [List.nil_append, lg hs2, Ii a N2 N1 hm2 h2]
 | 0, b :: Ms, N2, N1, a, c, hk, _, _, _, _, _, _, _, _ => by simp at hk
 | k + 1, b :: Ms, N2, N1, a, c, hk, hch, hmM, hsM, hm1, hm2, hs2, h2, h12 => by
  have hMs := BJ hsM
  have hmM' : Marks Ms := fun x hx => hmM x (List.mem_cons_of_mem _ hx)
  by_cases hfirst : ∀ n ∈ N2, cls b ≤ cls n
  · -- b comes first
    have e : srt (b :: Ms ++ N2) = b :: srt (Ms ++ N2) := by
     refine lX (dL _) ?_ fun k => ?_
     · unfold eF
       rw [List.pairwise_cons]
       refine ⟨fun x hx => ?_, dL _⟩
       rcases List.mem_append.1 (En.1 hx) with hx | hx
       · exact hMs.1 x hx
       · exact hfirst x hx
     · rw [uw, List.cons_append, jH, jH, uw]
    rw [e]
    cases hch with
    | cons h hch =>
     rename_i y
     have ho : cO a N1 (dM N1) b = some y := by
      have hop : opn N1 (dM N1) (cls b) = true := by
       unfold opn
       by_cases hn : N1 = []
       · rw [hn]; rfl
       · obtain ⟨n, hn1, hn2⟩ := Yz hn
         have h3 := h12 n hn1 b (by simp)
         have h4 := hm1 n hn1
         rw [hn2, Bool.or_eq_true, Bool.and_eq_true, decide_eq_true_eq]
         exact .inr ⟨by simpa using h4, h3⟩
      unfold cO; rw [if_pos hop]; exact h
     rw [gy ho]
     exact wO k Ms N2 N1 y c (by simp at hk; omega) hch hmM' hMs.2 hm1 hm2 hs2 h2 fun n hn b hb => h12 n hn b (List.mem_cons_of_mem _ hb)
  · -- the first one behind comes first
    cases N2 with
    | nil => exact absurd (fun n hn => by cases hn) hfirst
    | cons n N2 =>
     have hs2' := BJ hs2
     have hnb : cls n < cls b := by
      refine Decidable.byContradiction fun hc => hfirst fun x hx => ?_
      rcases List.mem_cons.1 hx with rfl | hx
      · omega
      · have := hs2'.1 x hx; omega
     have hbs : ∀ x ∈ b :: Ms, cls n < cls x := fun x hx => by
      rcases List.mem_cons.1 hx with rfl | hx
      · exact hnb
      · have := hMs.1 x hx; omega
     have e : srt (b :: Ms ++ n :: N2) = n :: srt (b :: Ms ++ N2) := by
      refine lX (dL _) ?_ fun k => ?_
      · unfold eF
        rw [List.pairwise_cons]
        refine ⟨fun x hx => ?_, dL _⟩
        rcases List.mem_append.1 (En.1 hx) with hx | hx
        · have := hbs x hx; omega
        · exact hs2'.1 x hx
      · rw [uw, iU, jH (x := n), jH (x := n), uw, iU]
        by_cases hk : cls n = k
        · have : fk k (b :: Ms) = [] := by
            rw [List.eq_nil_iff_forall_not_mem]
            intro x hx
            have := hbs x (rG.1 hx).1
            have := (rG.1 hx).2
            omega
          rw [if_pos hk, if_pos hk, this]; rfl
        · rw [if_neg hk, if_neg hk]
     have hmn := hm2 n (by simp)
     rw [e, jJ (by unfold cO; rw [h2 n (by simp)]; split <;> rfl) hmn, ← eX N1 n]
     have ih := wO k (b :: Ms) N2 (N1 ++ [n]) a c (by simp at hk ⊢; omega) hch hmM hsM (fun x hx => by
         rcases List.mem_append.1 hx with hx | hx
         · exact hm1 x hx
         · rw [List.mem_singleton] at hx; rw [hx]; exact hmn) (fun x hx => hm2 x (List.mem_cons_of_mem _ hx)) hs2'.2 (fun x hx => h2 x (List.mem_cons_of_mem _ hx)) (fun x hx b' hb' => by
         rcases List.mem_append.1 hx with hx | hx
         · exact h12 x hx b' hb'
         · rw [List.mem_singleton] at hx; rw [hx]; exact hbs b' hb')
     rw [ih]; simp
theorem Ij : ∀ {Z : List Nat} (R : List Nat), (∀ z ∈ Z, cls z = 0) → fO (Z ++ R) = Z ++ fO R
 | [], R, _ => rfl
 | z :: Z, R, h => by rw [List.cons_append, xk (h z (by simp)), Ij R fun x hx => h x (List.mem_cons_of_mem _ hx)]; rfl
theorem Ih.block {c : Nat} (g : Ih c) {N : List Nat} (hm : Marks N) (hs : eF N) (h2 : ∀ n ∈ N, ∀ a, two a n = none) : comp (fO (full c ++ N)) = c :: N := by
 obtain ⟨h, Z, Ms, e, hh, _, hZ, hM, hMs, hch⟩ := g.split
 obtain ⟨a, k1, k2⟩ := hch.split
 rw [e, List.cons_append, xk hh, lS hh, List.append_assoc, Ij _ hZ, iV (fun x hx => by
  rcases List.mem_append.1 hx with hx | hx
  · exact hM x hx
  · exact hm x hx), Dx _ k1]
 have := wO _ Ms N [] a c rfl k2 hM hMs (fun x hx => by cases hx) hm hs h2 (fun x hx => by cases hx)
 rw [show dM [] = 0 from rfl] at this
 exact this
theorem JV {c : Nat} (g : Ih c) (A B : List Nat) : nfc (A ++ c :: B) = nfc A ++ nfc (c :: B) := by
 obtain ⟨h, Z, Ms, e, hh, h2, _⟩ := g.split
 unfold nfc nfd
 rw [zZ, jQ, e, List.cons_append, iF hh, xk hh, Ic hh h2]
theorem zk : ∀ {A : List Nat}, Marks A → comp A = A
 | [], _ => jR
 | a :: A, h => by rw [qc (h a (by simp)), zk fun x hx => h x (List.mem_cons_of_mem _ hx)]
theorem Tf {c : Nat} (hq : quick c = 0) (hc : cls c ≠ 0) : full c = [c] := by
 obtain ⟨_, hf⟩ := uQ hq
 have hh : isH c = false := by
  cases h : isH c with
  | false => rfl
  | true => exact absurd (yt (.inr ((fH c).1 h))) hc
 cases hd : bD c with
 | none => exact jI hh hd
 | some e => exact absurd (FX hd (hf e hd)).2.2.2 hc
theorem WO (l : List Nat) (ho : dU cls 0 l = true) (hq : ∀ c ∈ l, quick c = 0) : nfc l = l := by
 obtain ⟨n, hn⟩ : ∃ n, l.length = n := ⟨_, rfl⟩
 induction n using Nat.strongRecOn generalizing l with
 | _ n ih =>
  have hwm : ∀ A : List Nat, Marks A → (∀ c ∈ A, quick c = 0) → bT A = A := fun A hm hq => iZ fun x hx => Tf (hq x hx) (hm x hx)
  rcases BZ l with hm | ⟨A, s, B, rfl, hmA, hs⟩
  · unfold nfc nfd
    rw [hwm l hm hq, Vo ho, zk hm]
  · have gs := Ih.of (hq s (by simp)) hs
    rw [JV gs]
    rw [jw hs, Bool.and_eq_true] at ho
    have hA : nfc A = A := by unfold nfc nfd; rw [hwm A hmA fun c hc => hq c (by simp [hc]), Vo ho.1, zk hmA]
    rw [hA]
    congr 1
    rcases BZ B with hmB | ⟨N, s2, B2, rfl, hmN, hs2⟩
    · unfold nfc nfd
      rw [jQ, hwm B hmB fun c hc => hq c (by simp [hc])]
      exact gs.block hmB ((lY B 0 hmB).1 ho.2).2 fun n hn => zi (uQ (hq n (by simp [hn]))).1
    · have g2 := Ih.of (hq s2 (by simp)) hs2
      rw [jw hs2, Bool.and_eq_true] at ho
      have := JV g2 (s :: N) B2
      rw [List.cons_append] at this
      rw [this, ih (s2 :: B2).length (by simp at hn ⊢; omega) (s2 :: B2) (by rw [show s2 :: B2 = [] ++ s2 :: B2 from rfl, jw hs2, ho.2.2]; rfl) (fun c hc => hq c (by
       rcases List.mem_cons.1 hc with rfl | hc
       · simp
       · simp [hc])) rfl]
      have hb := gs.block hmN ((lY N 0 hmN).1 ho.2.1).2 fun n hn => zi (uQ (hq n (by simp [hn]))).1
      have e : nfc (s :: N) = s :: N := by
       unfold nfc nfd
       rw [jQ, hwm N hmN fun c hc => hq c (by simp [hc])]; exact hb
      rw [e]; rfl
open Go.RowKit
theorem hasL (l : Nat) (hl : l < 4294967296) : decide (IntKind.u32.wrap ((l : Int) - 4352) < 19) = isL l := by
 rw [Bool.eq_iff_iff, decide_eq_true_eq, mZ, IntKind.wrap_u32]; omega
theorem hasV (l : Nat) (hl : l < 4294967296) : decide (IntKind.u32.wrap ((l : Int) - 4449) < 21) = isV l := by
 rw [Bool.eq_iff_iff, decide_eq_true_eq, ng, IntKind.wrap_u32]; omega
theorem hasT (l : Nat) (hl : l < 4294967296) : decide (IntKind.u32.wrap ((l : Int) - 4520) < 27) = isT l := by
 rw [Bool.eq_iff_iff, decide_eq_true_eq, nP, IntKind.wrap_u32]; omega
theorem afh (l v x p : Int) (w : World) (h1 : IntKind.u32.wrap (l - 4352) = x) (hi : decide (x < 19) = true) (h2 : IntKind.u32.wrap (v - 4449) = p) (hp : decide (p < 21) = false) :
    Calls Tryz.prog 188 #[.int .u32 l, .int .u32 v, .int .u32 0] w fun e w' => e = .returned (.tuple #[.int .u32 0, .int .i64 2]) ∧ Gr w w' := by
 have HL := hid (fun w => uq 4352 19 l x true w h1 hi)
 have HV := hid (fun w => uq 4449 21 v p false w h2 hp)
 have g := Gr.refl w
 go_enter Tryz.func188, Tryz.ntmps188
 go_wp2_with (first
  | (go_at_call 202; refine (lead_any _).mono ?_; rintro e w1 ⟨rfl, g1⟩; replace g := g.trans g1; clear g1)
  | (go_at_call 203; refine (wY _).mono ?_; rintro e w1 ⟨rfl, g1⟩; replace g := g.trans g1; clear g1)
  | (go_at_call 191; refine (HL.out _).mono ?_; clear HL; rintro e w1 ⟨rfl, g1⟩; replace g := g.trans g1; clear g1)
  | (go_at_call 191; refine (HV.out _).mono ?_; clear HV; rintro e w1 ⟨rfl, g1⟩; replace g := g.trans g1; clear g1))
 exact bodyPost_ret (v := .tuple #[.int .u32 0, .int .i64 2]) (by simp [results, Tryz.results188, go_sem]) rfl ⟨rfl, g⟩
theorem YA (a b : Nat) (ha : a < 4294967296) (hb : b < 4294967296) (h : (isL a && isV b) = false) (w : World) :
    Calls Tryz.prog 188 #[.int .u32 a, .int .u32 b, .int .u32 0] w fun e w' => e = .returned (.tuple #[.int .u32 0, .int .i64 2]) ∧ Gr w w' := by
 cases hL : isL a with
 | false => exact agw a b _ w rfl ((hasL a ha).trans hL)
 | true =>
  rw [hL, Bool.true_and] at h
  exact afh a b _ _ w rfl ((hasL a ha).trans hL) rfl ((hasV b hb).trans h)
theorem aci (a b : Nat) (h : (isL a && isV b) = true) (w : World) :
    Calls Tryz.prog 188 #[.int .u32 a, .int .u32 b, .int .u32 0] w fun e w' => e = .returned (.tuple #[.int .u32 ((44032 + ((a - 4352) * 21 + (b - 4449)) * 28 : Nat) : Int), .int .i64 0]) ∧ Gr w w' := by
 rw [Bool.and_eq_true, mZ, ng] at h
 exact agv _ _ ((a - 4352 : Nat) : Int) ((b - 4449 : Nat) : Int) (((a - 4352) * 21 : Nat) : Int) (((a - 4352) * 21 + b : Nat) : Int) _ w (by rw [IntKind.wrap_u32]; omega) (by rw [IntKind.wrap_u32]; omega) (decide_eq_true (by omega)) (decide_eq_true (by omega)) (by rw [IntKind.wrap_u32]; omega) (by rw [IntKind.wrap_u32]; omega) (by omega)
def Ik (a b : Nat) : Value := match iG a b with | some x => .tuple #[.int .u32 (x : Int), .bool true] | none => .tuple #[.int .u32 0, .bool false]
theorem nK {a b x : Nat} (h : iG a b = some x) : Ik a b = .tuple #[.int .u32 (x : Int), .bool true] := by unfold Ik; rw [h]
theorem kF {a b : Nat} (h : iG a b = none) : Ik a b = .tuple #[.int .u32 0, .bool false] := by unfold Ik; rw [h]
theorem acj (a b : Nat) (ha : a < 4294967296) (hb : b < 4294967296) (w : World) : Calls Tryz.prog 167 #[.int .u32 a, .int .u32 b] w fun e w' => e = .returned (Ik a b) ∧ Gr w w' := by
 cases hLV : isL a && isV b with
 | true =>
  rw [nK (x := 44032 + ((a - 4352) * 21 + (b - 4449)) * 28) (by unfold iG; rw [hLV]; rfl)]
  exact adk a b _ w fun w => aci a b hLV w
 | false =>
  have HP := hid (fun w => YA a b ha hb hLV w)
  cases hH : isH a with
  | false =>
   rw [kF (by unfold iG; rw [hLV, hH]; rfl)]
   have HI := hid (fun w => Ep a w)
   rw [hH] at HI
   clear hLV hH
   go_enter Tryz.func167, Tryz.ntmps167
   go_wp2_with (first
    | (go_at_call 188; refine (HP.out _).mono ?_; rintro e w1 ⟨rfl, g1⟩)
    | (go_at_call 189; refine (HI.out _).mono ?_; rintro e w2 ⟨rfl, rfl⟩))
   exact bodyPost_ret (v := .tuple #[.int .u32 0, .bool false]) (by simp [results, Tryz.results167, go_sem]) rfl ⟨rfl, g1⟩
  | true =>
   have hH' := (fH a).1 hH
   have HI := hid (fun w => Ep a w)
   rw [hH] at HI
   have hm0 : ((a : Int) - 44032) % 4294967296 = ((a - 44032 : Nat) : Int) := by omega
   by_cases hm : (a - 44032) % 28 = 0
   · cases hT : isT b with
     | true =>
      rw [nK (x := a + b - 4519) (by unfold iG; rw [hLV, hH, hT, Nat.beq_eq.mpr hm]; rfl)]
      have hT' := (nP b).1 hT
      exact agx a b ((b - 4520 : Nat) : Int) _ w HP.out HI.out (by rw [hm0]; omega) (by rw [IntKind.wrap_u32]; omega) (decide_eq_true (by omega)) (by omega)
     | false =>
      rw [kF (by unfold iG; rw [hLV, hH, hT, Bool.and_false]; rfl)]
      have HT := hid (fun w => uq 4520 27 b _ false w rfl ((hasT b hb).trans hT))
      have hmz : ((a : Int) - 44032) % 4294967296 % 28 = 0 := by rw [hm0]; omega
      have g := Gr.refl w
      clear hLV hH hH' hm0 hm hT
      go_enter Tryz.func167, Tryz.ntmps167
      go_wp2_with (first
       | (go_at_call 188; refine (HP.out _).mono ?_; rintro e w1 ⟨rfl, g1⟩; replace g := g.trans g1; clear g1)
       | (go_at_call 189; refine (HI.out _).mono ?_; rintro e w2 ⟨rfl, rfl⟩)
       | (go_at_call 190; refine (BU _).mono ?_; rintro e w3 ⟨rfl, g1⟩; replace g := g.trans g1; clear g1)
       | (go_at_call 191; refine (HT.out _).mono ?_; clear HT; rintro e w4 ⟨rfl, g1⟩; replace g := g.trans g1; clear g1))
      exact bodyPost_ret (v := .tuple #[.int .u32 0, .bool false]) (by simp [results, Tryz.results167, go_sem]) rfl ⟨rfl, g⟩
   · have hmb : Nat.beq ((a - 44032) % 28) 0 = false := by rw [← Bool.not_eq_true, Nat.beq_eq]; exact hm
     rw [kF (by unfold iG; rw [hLV, hH, hmb]; rfl)]
     have hmz : ¬ ((a : Int) - 44032) % 4294967296 % 28 = 0 := by rw [hm0]; omega
     have hmd : (((a : Int) - 44032) % 4294967296 % 28 == 0) = false := by rw [beq_eq_false_iff_ne]; exact hmz
     clear hLV hH hH' hm0 hm hmb
     go_enter Tryz.func167, Tryz.ntmps167
     go_wp2_with (first
      | (go_at_call 188; refine (HP.out _).mono ?_; rintro e w1 ⟨rfl, g1⟩)
      | (go_at_call 189; refine (HI.out _).mono ?_; rintro e w2 ⟨rfl, rfl⟩))
     exact bodyPost_ret (v := .tuple #[.int .u32 0, .bool false]) (by simp [results, Tryz.results167, go_sem]) rfl ⟨rfl, g1⟩
noncomputable def Ob (a b : Nat) : Value := match two a b with | some x => .tuple #[.int .u32 (x : Int), .bool true] | none => .tuple #[.int .u32 0, .bool false]
theorem pU {a b x : Nat} (h : two a b = some x) : Ob a b = .tuple #[.int .u32 (x : Int), .bool true] := by unfold Ob; rw [h]
theorem xW {a b : Nat} (h : two a b = none) : Ob a b = .tuple #[.int .u32 0, .bool false] := by unfold Ob; rw [h]
theorem two_any (a b : Nat) (ha : a < 4294967296) (hb : b < 4294967296) (w : World) (ht : Tz w) : Calls Tryz.prog 135 #[.int .u32 a, .int .u32 b] w fun e w' => e = .returned (Ob a b) ∧ Gr w w' := by
 have hj := fun w => acj a b ha hb w
 cases h : iG a b with
 | some x =>
  rw [nK h] at hj
  rw [pU (x := x) (by unfold two; rw [h])]
  have HJ := hid hj
  clear hj h
  go_enter Tryz.func135, Tryz.ntmps135
  go_wp2_with (go_at_call 167; refine (HJ.out _).mono ?_; rintro e w1 ⟨rfl, g1⟩)
  exact bodyPost_ret (v := .tuple #[.int .u32 x, .bool true]) (by simp [results, Tryz.results135, go_sem]) rfl ⟨rfl, g1⟩
 | none =>
  rw [kF h] at hj
  have HJ := hid hj
  clear hj
  cases hp : iO a b with
  | none =>
   rw [xW (by unfold two; rw [h, hp]; rfl)]
   have HP := hid (fun w (t : Tz w) => adC a b ha hb w t hp)
   clear h hp
   go_enter Tryz.func135, Tryz.ntmps135
   go_wp2_with (first
    | (go_at_call 167; refine (HJ.out _).mono ?_; rintro e w1 ⟨rfl, g1⟩)
    | (go_at_call 168; refine (HP.out _ (ht.gr g1)).mono ?_; rintro e w2 ⟨rfl, g2⟩))
   exact bodyPost_ret (v := .tuple #[.int .u32 0, .bool false]) (by simp [results, Tryz.results135, go_sem]) rfl ⟨rfl, g1.trans g2⟩
  | some e =>
   rw [pU (x := e.2.2) (by unfold two; rw [h, hp]; rfl)]
   have HP := hid (fun w (t : Tz w) => ZG a b ha hb w t e hp)
   clear h hp
   go_enter Tryz.func135, Tryz.ntmps135
   go_wp2_with (first
    | (go_at_call 167; refine (HJ.out _).mono ?_; rintro e w1 ⟨rfl, g1⟩)
    | (go_at_call 168; refine (HP.out _ (ht.gr g1)).mono ?_; rintro e w2 ⟨rfl, g2⟩))
   exact bodyPost_ret (v := .tuple #[.int .u32 e.2.2, .bool true]) (by simp [results, Tryz.results135, go_sem]) rfl ⟨rfl, g1.trans g2⟩
theorem Ti (c : Nat) (w : World) : Calls Tryz.prog 204 #[.int .u32 c] w fun e w' => e = .returned (.bool (isL c)) ∧ w = w' := by
 have h1 : (isL c = true ∧ decide ((4352 : Int) ≤ c) = true ∧ decide ((c : Int) < 4371) = true) ∨ (isL c = false ∧ decide ((4352 : Int) ≤ c) = false) ∨ (isL c = false ∧ decide ((4352 : Int) ≤ c) = true ∧ decide ((c : Int) < 4371) = false) := by
  cases h : isL c with
  | true => have := (mZ c).1 h; exact .inl ⟨rfl, decide_eq_true (by omega), decide_eq_true (by omega)⟩
  | false =>
   have hn : ¬ (4352 ≤ c ∧ c < 4371) := fun h' => by rw [(mZ c).2 h'] at h; cases h
   by_cases h4 : 4352 ≤ c
   · exact .inr (.inr ⟨rfl, decide_eq_true (by omega), decide_eq_false (by omega)⟩)
   · exact .inr (.inl ⟨rfl, decide_eq_false (by omega)⟩)
 rcases h1 with ⟨h, h1, h2⟩ | ⟨h, h1⟩ | ⟨h, h1, h2⟩
 all_goals
  rw [h]
  clear h
  go_enter Tryz.func204, Tryz.ntmps204
  go_wp2
  go_ret
  exact ⟨rfl, rfl⟩
theorem Tj (c : Nat) (w : World) : Calls Tryz.prog 205 #[.int .u32 c] w fun e w' => e = .returned (.bool (isV c)) ∧ w = w' := by
 have h1 : (isV c = true ∧ decide ((4449 : Int) ≤ c) = true ∧ decide ((c : Int) < 4470) = true) ∨ (isV c = false ∧ decide ((4449 : Int) ≤ c) = false) ∨ (isV c = false ∧ decide ((4449 : Int) ≤ c) = true ∧ decide ((c : Int) < 4470) = false) := by
  cases h : isV c with
  | true => have := (ng c).1 h; exact .inl ⟨rfl, decide_eq_true (by omega), decide_eq_true (by omega)⟩
  | false =>
   have hn : ¬ (4449 ≤ c ∧ c < 4470) := fun h' => by rw [(ng c).2 h'] at h; cases h
   by_cases h4 : 4449 ≤ c
   · exact .inr (.inr ⟨rfl, decide_eq_true (by omega), decide_eq_false (by omega)⟩)
   · exact .inr (.inl ⟨rfl, decide_eq_false (by omega)⟩)
 rcases h1 with ⟨h, h1, h2⟩ | ⟨h, h1⟩ | ⟨h, h1, h2⟩
 all_goals
  rw [h]
  clear h
  go_enter Tryz.func205, Tryz.ntmps205
  go_wp2
  go_ret
  exact ⟨rfl, rfl⟩
theorem acn (c : Nat) (w : World) : Calls Tryz.prog 208 #[.int .u32 c] w fun e w' => e = .returned (.bool (isT c)) ∧ w = w' := by
 have h1 : (isT c = true ∧ decide ((4520 : Int) ≤ c) = true ∧ decide ((c : Int) < 4547) = true) ∨ (isT c = false ∧ decide ((4520 : Int) ≤ c) = false) ∨ (isT c = false ∧ decide ((4520 : Int) ≤ c) = true ∧ decide ((c : Int) < 4547) = false) := by
  cases h : isT c with
  | true => have := (nP c).1 h; exact .inl ⟨rfl, decide_eq_true (by omega), decide_eq_true (by omega)⟩
  | false =>
   have hn : ¬ (4520 ≤ c ∧ c < 4547) := fun h' => by rw [(nP c).2 h'] at h; cases h
   by_cases h4 : 4520 ≤ c
   · exact .inr (.inr ⟨rfl, decide_eq_true (by omega), decide_eq_false (by omega)⟩)
   · exact .inr (.inl ⟨rfl, decide_eq_false (by omega)⟩)
 rcases h1 with ⟨h, h1, h2⟩ | ⟨h, h1⟩ | ⟨h, h1, h2⟩
 all_goals
  rw [h]
  clear h
  go_enter Tryz.func208, Tryz.ntmps208
  go_wp2
  go_ret
  exact ⟨rfl, rfl⟩
theorem ajB (a b : Nat) (h1 : isL a = true) (h2 : isV b = true) (w : World) :
    Calls Tryz.prog 206 #[.int .u32 a, .int .u32 b, .int .u32 0] w fun e w' => e = .returned (.tuple #[.int .u32 ((44032 + ((a - 4352) * 21 + (b - 4449)) * 28 : Nat) : Int), .int .i64 0]) ∧ w = w' := by
 have HL := hid (fun w => Ti a w)
 have HV := hid (fun w => Tj b w)
 rw [h1] at HL
 rw [h2] at HV
 have h1' := (mZ a).1 h1
 have h2' := (ng b).1 h2
 have HE : Hid ((44032 + (21 * (((a : Int) - 4352) % 4294967296) + (b : Int) - 4449) % 4294967296 * 28) % 4294967296 = ((44032 + ((a - 4352) * 21 + (b - 4449)) * 28 : Nat) : Int)) := by show _ = _; omega
 clear h1 h2 h1' h2'
 go_enter Tryz.func206, Tryz.ntmps206
 go_wp2_with (first
  | (go_at_call 204; refine (HL.out _).mono ?_; rintro e w1 ⟨rfl, rfl⟩)
  | (go_at_call 205; refine (HV.out _).mono ?_; rintro e w1 ⟨rfl, rfl⟩))
 refine bodyPost_ret (v := .tuple #[.int .u32 ((44032 + (21 * (((a : Int) - 4352) % 4294967296) + (b : Int) - 4449) % 4294967296 * 28) % 4294967296), .int .i64 0]) (by simp [results, Tryz.results206, go_sem]) rfl ⟨?_, rfl⟩
 rw [HE.out]
theorem ahT (a b t : Nat) (h1 : isL a = true) (h2 : isV b = true) (h3 : isT t = true) (w : World) :
    Calls Tryz.prog 206 #[.int .u32 a, .int .u32 b, .int .u32 t] w fun e w' => e = .returned (.tuple #[.int .u32 ((44032 + ((a - 4352) * 21 + (b - 4449)) * 28 + (t - 4519) : Nat) : Int), .int .i64 0]) ∧ w = w' := by
 have HL := hid (fun w => Ti a w)
 have HV := hid (fun w => Tj b w)
 have HT := hid (fun w => acn t w)
 rw [h1] at HL
 rw [h2] at HV
 rw [h3] at HT
 have h1' := (mZ a).1 h1
 have h2' := (ng b).1 h2
 have h3' := (nP t).1 h3
 have ht : ((t : Int) != 0) = true := by rw [bne_iff_ne]; omega
 have ht2 : ¬ (t : Int) = 0 := by omega
 have HE : Hid (((44032 + (21 * (((a : Int) - 4352) % 4294967296) + (b : Int) - 4449) % 4294967296 * 28) % 4294967296 + ((t : Int) - 4519) % 4294967296) % 4294967296 = ((44032 + ((a - 4352) * 21 + (b - 4449)) * 28 + (t - 4519) : Nat) : Int)) := by show _ = _; omega
 clear h1 h2 h3 h1' h2' h3'
 go_enter Tryz.func206, Tryz.ntmps206
 go_wp2_with (first
  | (go_at_call 204; refine (HL.out _).mono ?_; rintro e w1 ⟨rfl, rfl⟩)
  | (go_at_call 205; refine (HV.out _).mono ?_; rintro e w1 ⟨rfl, rfl⟩)
  | (go_at_call 208; refine (HT.out _).mono ?_; rintro e w1 ⟨rfl, rfl⟩))
 go_ret2
 refine ⟨?_, rfl⟩
 rw [← HE.out]
 show Ending.returned (.tuple #[.int .u32 _, .int .i64 0]) = Ending.returned (.tuple #[.int .u32 _, .int .i64 0])
 congr 4
theorem YB (a b : Nat) (w : World) : Calls Tryz.prog 192 #[.int .u32 a, .int .u32 b] w fun e w' => e = .returned (Ik a b) ∧ w = w' := by
 have HL := hid (fun w => Ti a w)
 have HV := hid (fun w => Tj b w)
 have HT := hid (fun w => acn b w)
 have HS := hid (fun w => Ru a w)
 cases hLV : isL a && isV b with
 | true =>
  have h := hLV
  rw [Bool.and_eq_true] at h
  rw [nK (x := 44032 + ((a - 4352) * 21 + (b - 4449)) * 28) (by unfold iG; rw [hLV]; rfl)]
  have HP := hid (fun w => ajB a b h.1 h.2 w)
  rw [h.1] at HL
  rw [h.2] at HV
  clear hLV h HT HS
  go_enter Tryz.func192, Tryz.ntmps192
  go_wp2_with (first
   | (go_at_call 204; refine (HL.out _).mono ?_; rintro e w1 ⟨rfl, rfl⟩)
   | (go_at_call 205; refine (HV.out _).mono ?_; rintro e w1 ⟨rfl, rfl⟩)
   | (go_at_call 206; refine (HP.out _).mono ?_; rintro e w1 ⟨rfl, rfl⟩))
  go_ret2
  exact ⟨rfl, rfl⟩
 | false =>
  have key : ∀ (bl bv : Bool), (bl && bv) = false → isL a = bl → isV b = bv → Calls Tryz.prog 192 #[.int .u32 a, .int .u32 b] w fun e w' => e = .returned (Ik a b) ∧ w = w' := by
   intro bl bv hbb hbl hbv
   rw [hbl] at HL
   rw [hbv] at HV
   cases hH : isH a with
   | false =>
    rw [kF (by unfold iG; rw [hLV, hH]; rfl)]
    unfold splitV at HS
    rw [hH] at HS
    simp only [Bool.false_eq_true, if_false] at HS
    clear hLV hbl hbv hH HT
    cases bl <;> cases bv <;> first | (cases hbb; done) | skip
    all_goals
     go_enter Tryz.func192, Tryz.ntmps192
     go_wp2_with (first
      | (go_at_call 204; refine (HL.out _).mono ?_; rintro e w1 ⟨rfl, rfl⟩)
      | (go_at_call 205; refine (HV.out _).mono ?_; rintro e w1 ⟨rfl, rfl⟩)
      | (go_at_call 207; refine (HS.out _).mono ?_; rintro e w1 ⟨rfl, rfl⟩))
     go_ret2
     exact ⟨rfl, rfl⟩
   | true =>
    have hH' := (fH a).1 hH
    unfold splitV at HS
    rw [hH] at HS
    simp only [if_true] at HS
    by_cases hm : (a - 44032) % 28 = 0
    · have h0 : hT a = 0 := by unfold hT; rw [if_pos hm]
      rw [h0] at HS
      cases hbT : isT b with
      | true =>
       have hb := (nP b).1 hbT
       rw [nK (x := a + b - 4519) (by unfold iG; rw [hLV, hH, hbT, Nat.beq_eq.mpr hm]; rfl)]
       have HP := fun w => ahT (hL a) (hV a) b ((mZ _).2 (by unfold hL; omega)) ((ng _).2 (by unfold hV; omega)) hbT w
       rw [show 44032 + ((hL a - 4352) * 21 + (hV a - 4449)) * 28 + (b - 4519) = a + b - 4519 by unfold hL hV; omega] at HP
       rw [hbT] at HT
       have HP' := hid HP
       clear HP hLV hbl hbv hH hH' hm h0 hb hbT
       generalize hL a = la at HS HP'
       generalize hV a = va at HS HP'
       cases bl <;> cases bv <;> first | (cases hbb; done) | skip
       all_goals
        go_enter Tryz.func192, Tryz.ntmps192
        go_wp2_with (first
         | (go_at_call 204; refine (HL.out _).mono ?_; rintro e w1 ⟨rfl, rfl⟩)
         | (go_at_call 205; refine (HV.out _).mono ?_; rintro e w1 ⟨rfl, rfl⟩)
         | (go_at_call 208; refine (HT.out _).mono ?_; rintro e w1 ⟨rfl, rfl⟩)
         | (go_at_call 206; refine (HP'.out _).mono ?_; rintro e w1 ⟨rfl, rfl⟩)
         | (go_at_call 207; refine (HS.out _).mono ?_; rintro e w1 ⟨rfl, rfl⟩))
        go_ret2
        exact ⟨rfl, rfl⟩
      | false =>
       rw [kF (by unfold iG; rw [hLV, hH, hbT, Bool.and_false]; rfl)]
       rw [hbT] at HT
       clear hLV hbl hbv hH hH' hm h0 hbT
       generalize hL a = la at HS
       generalize hV a = va at HS
       cases bl <;> cases bv <;> first | (cases hbb; done) | skip
       all_goals
        go_enter Tryz.func192, Tryz.ntmps192
        go_wp2_with (first
         | (go_at_call 204; refine (HL.out _).mono ?_; rintro e w1 ⟨rfl, rfl⟩)
         | (go_at_call 205; refine (HV.out _).mono ?_; rintro e w1 ⟨rfl, rfl⟩)
         | (go_at_call 208; refine (HT.out _).mono ?_; rintro e w1 ⟨rfl, rfl⟩)
         | (go_at_call 207; refine (HS.out _).mono ?_; rintro e w1 ⟨rfl, rfl⟩))
        go_ret2
        exact ⟨rfl, rfl⟩
    · have hmb : Nat.beq ((a - 44032) % 28) 0 = false := by rw [← Bool.not_eq_true, Nat.beq_eq]; exact hm
      rw [kF (by unfold iG; rw [hLV, hH, hmb]; rfl)]
      obtain ⟨q, hq⟩ : ∃ q, hT a = q := ⟨_, rfl⟩
      have hq0 : q ≠ 0 := by rw [← hq]; unfold hT; rw [if_neg hm]; omega
      rw [hq] at HS
      have hqz : ¬ (q : Int) = 0 := by omega
      have hqy : ((q : Int) == 0) = false := by rw [beq_eq_false_iff_ne]; exact hqz
      clear hLV hbl hbv hH hH' hm hmb hq hq0 HT
      generalize hL a = la at HS
      generalize hV a = va at HS
      cases bl <;> cases bv <;> first | (cases hbb; done) | skip
      all_goals
       go_enter Tryz.func192, Tryz.ntmps192
       go_wp2_with (first
        | (go_at_call 204; refine (HL.out _).mono ?_; rintro e w1 ⟨rfl, rfl⟩)
        | (go_at_call 205; refine (HV.out _).mono ?_; rintro e w1 ⟨rfl, rfl⟩)
        | (go_at_call 207; refine (HS.out _).mono ?_; rintro e w1 ⟨rfl, rfl⟩))
       go_ret2
       exact ⟨rfl, rfl⟩
  exact key _ _ hLV rfl rfl
theorem aco (a b : Nat) (ha : a < 4294967296) (hb : b < 4294967296) (w : World) : Calls Tryz.prog 172 #[.int .u32 a, .int .u32 b] w fun e w' => e = .returned (Ob a b) ∧ Gr w w' := by
 have hj := fun w => YB a b w
 cases h : iG a b with
 | some x =>
  rw [nK h] at hj
  rw [pU (x := x) (by unfold two; rw [h])]
  have HJ := hid hj
  clear hj h
  go_enter Tryz.func172, Tryz.ntmps172
  go_wp2_with (go_at_call 192; refine (HJ.out _).mono ?_; rintro e w1 ⟨rfl, rfl⟩)
  exact bodyPost_ret (v := .tuple #[.int .u32 x, .bool true]) (by simp [results, Tryz.results172, go_sem]) rfl ⟨rfl, Gr.refl _⟩
 | none =>
  rw [kF h] at hj
  have HJ := hid hj
  clear hj
  have hp := fun w => Yu a b ha hb w
  have htw : Ob a b = IV a b := by
   unfold Ob two IV
   rw [h]
   cases iO a b <;> rfl
  rw [htw]
  cases hpf : iO a b with
  | none =>
   have e : IV a b = .tuple #[.int .u32 0, .bool false] := by unfold IV; rw [hpf]
   rw [e] at hp ⊢
   have HP := hid hp
   clear h hp hpf htw e
   go_enter Tryz.func172, Tryz.ntmps172
   go_wp2_with (first
    | (go_at_call 192; refine (HJ.out _).mono ?_; rintro e w1 ⟨rfl, rfl⟩)
    | (go_at_call 193; refine (HP.out _).mono ?_; rintro e w2 ⟨rfl, g2⟩))
   exact bodyPost_ret (v := .tuple #[.int .u32 0, .bool false]) (by simp [results, Tryz.results172, go_sem]) rfl ⟨rfl, g2⟩
  | some x =>
   have e : IV a b = .tuple #[.int .u32 x.2.2, .bool true] := by unfold IV; rw [hpf]
   rw [e] at hp ⊢
   have HP := hid hp
   clear h hp hpf htw e
   go_enter Tryz.func172, Tryz.ntmps172
   go_wp2_with (first
    | (go_at_call 192; refine (HJ.out _).mono ?_; rintro e w1 ⟨rfl, rfl⟩)
    | (go_at_call 193; refine (HP.out _).mono ?_; rintro e w2 ⟨rfl, g2⟩))
   exact bodyPost_ret (v := .tuple #[.int .u32 x.2.2, .bool true]) (by simp [results, Tryz.results172, go_sem]) rfl ⟨rfl, g2⟩
noncomputable def Tm (last : Bool) (y c : Nat) : Bool := !last && (Nat.beq (cls y) 0 || Nat.ble (cls c) (cls y))
theorem Qz (g n cap : Nat) (s : Nat) (y c : Nat) (hy : y < 4294967296) (hc : c < 4294967296) (w : World) (hn : n + 1 ≤ 1000000) (hcell : w.cell? ⟨g, n, none⟩ = some (.int .u32 (y : Int))) :
    Calls Tryz.prog 171 #[.slice (some ⟨g, 0, none⟩) (n + 1) cap, .int .i64 (s : Int), .int .u32 (c : Int)] w fun e w' => e = .returned (.bool (Tm (Nat.beq s n) y c)) ∧ Gr w w' := by
 have hnb : (n : Int) ≤ 1000000 := by omega
 have hwn : IntKind.i64.wrap (n : Int) = (n : Int) := by rw [IntKind.wrap_i64]; omega
 by_cases hs : s = n
 · subst hs
   rw [show Tm (Nat.beq s s) y c = false by unfold Tm; rw [Nat.beq_eq.mpr rfl]; rfl]
   clear hcell
   go_enter Tryz.func171, Tryz.ntmps171
   go_wp2
   go_ret
   exact ⟨rfl, Gr.refl _⟩
 · rw [show Tm (Nat.beq s n) y c = (Nat.beq (cls y) 0 || Nat.ble (cls c) (cls y)) by unfold Tm; rw [show Nat.beq s n = false by rw [← Bool.not_eq_true, Nat.beq_eq]; exact hs]; rfl]
   have hsz : ¬ (s : Int) = (n : Int) := by omega
   have hsy : ((s : Int) == (n : Int)) = false := by rw [beq_eq_false_iff_ne]; exact hsz
   have HY := hid (fun W => ql y hy W)
   have HC := hid (fun W => ql c hc W)
   obtain ⟨p, hp⟩ : ∃ p, cls y = p := ⟨_, rfl⟩
   obtain ⟨q, hq⟩ : ∃ q, cls c = q := ⟨_, rfl⟩
   rw [hp] at HY ⊢
   rw [hq] at HC ⊢
   clear hp hq hy hc hs
   by_cases h0 : p = 0
   · subst h0
     clear HC
     go_enter Tryz.func171, Tryz.ntmps171
     go_wp2_with (go_at_call 173; refine (HY.out _).mono ?_; rintro e w1 ⟨rfl, g1⟩)
     go_ret
     exact ⟨rfl, g1⟩
   · have h0z : ¬ (p : Int) = 0 := by omega
     have h0y : ((p : Int) == 0) = false := by rw [beq_eq_false_iff_ne]; exact h0z
     have h0x : Nat.beq p 0 = false := by rw [← Bool.not_eq_true, Nat.beq_eq]; exact h0
     rw [h0x, Bool.false_or]
     clear h0x h0
     by_cases hpq : q ≤ p
     · have hpz : (q : Int) ≤ (p : Int) := by omega
       rw [show Nat.ble q p = true from Nat.ble_eq.mpr hpq]
       go_enter Tryz.func171, Tryz.ntmps171
       go_wp2_with (first
        | (go_at_call 173; refine (HY.out _).mono ?_; clear HY; rintro e w1 ⟨rfl, g1⟩)
        | (go_at_call 173; refine (HC.out _).mono ?_; rintro e w2 ⟨rfl, g2⟩))
       go_ret
       exact ⟨rfl, g1.trans g2⟩
     · have hpz : ¬ (q : Int) ≤ (p : Int) := by omega
       rw [show Nat.ble q p = false by rw [← Bool.not_eq_true, Nat.ble_eq]; exact hpq]
       go_enter Tryz.func171, Tryz.ntmps171
       go_wp2_with (first
        | (go_at_call 173; refine (HY.out _).mono ?_; clear HY; rintro e w1 ⟨rfl, g1⟩)
        | (go_at_call 173; refine (HC.out _).mono ?_; rintro e w2 ⟨rfl, g2⟩))
       go_ret
       exact ⟨rfl, g1.trans g2⟩
theorem xX {w : World} {B m k : Nat} {v : Value} {K : List Nat} {c : Nat} (hKm : K.length = m + 1) (h : w.ownsRow B 134 1 v (m + 1 + 1) (bZ K ++ [.int .u32 (c : Int)])) (hk : k = (K ++ [c]).length := by rfl) : w.ownsRow B 134 1 v k (bZ (K ++ [c])) := by
 subst hk; rw [← hKm] at h; exact fE h rfl rfl rfl
theorem YC (l : List Nat) (k x : Nat) : (bZ l).set k (.int .u32 (x : Int)) = bZ (l.set k x) := by unfold bZ; rw [List.map_set]
def RS (L : List Nat) (i : Nat) (K : List Nat) (s : Int) : Prop :=
 (s = -1 ∧ Marks K ∧ comp L = K ++ comp (L.drop i)) ∨ (∃ out st M, K = out ++ st :: M ∧ s = (out.length : Int) ∧ Marks M ∧ comp L = out ++ dQ (L.drop i) st M (dM M))
theorem RS.ajC {L K : List Nat} {i c : Nat} (hm : Marks K) (hd : L.drop i = c :: L.drop (i + 1)) (hL : comp L = K ++ comp (L.drop i)) (hc : cls c ≠ 0) : RS L (i + 1) (K ++ [c]) (-1) := by
 refine .inl ⟨rfl, fun x hx => ?_, by rw [hL, hd, qc hc]; simp⟩
 rcases List.mem_append.1 hx with hx | hx
 · exact hm x hx
 · rw [List.mem_singleton] at hx; rw [hx]; exact hc
theorem RS.startA {L K : List Nat} {i c : Nat} (hd : L.drop i = c :: L.drop (i + 1)) (hL : comp L = K ++ comp (L.drop i)) (hc : cls c = 0) : RS L (i + 1) (K ++ [c]) (K.length : Int) :=
 .inr ⟨K, c, [], rfl, rfl, (fun x hx => by cases hx), by rw [hL, hd, lS hc]; rfl⟩
theorem RS.twoB {L out M : List Nat} {i c st x : Nat} (hm : Marks M) (hd : L.drop i = c :: L.drop (i + 1)) (hL : comp L = out ++ dQ (L.drop i) st M (dM M)) (ht : cO st M (dM M) c = some x) : RS L (i + 1) (out ++ x :: M) (out.length : Int) :=
 .inr ⟨out, x, M, rfl, rfl, hm, by rw [hL, hd, gy ht]⟩
theorem RS.afK {L out M : List Nat} {i c st : Nat} (hm : Marks M) (hd : L.drop i = c :: L.drop (i + 1)) (hL : comp L = out ++ dQ (L.drop i) st M (dM M)) (ht : cO st M (dM M) c = none) (hc : cls c ≠ 0) : RS L (i + 1) (out ++ st :: M ++ [c]) (out.length : Int) :=
 .inr ⟨out, st, M ++ [c], by simp, rfl, fun x hx => by
  rcases List.mem_append.1 hx with hx | hx
  · exact hm x hx
  · rw [List.mem_singleton] at hx; rw [hx]; exact hc, by rw [hL, hd, jJ ht hc, eX]⟩
theorem RS.acp {L out M : List Nat} {i c st : Nat} (hd : L.drop i = c :: L.drop (i + 1)) (hL : comp L = out ++ dQ (L.drop i) st M (dM M)) (ht : cO st M (dM M) c = none) (hc : cls c = 0) : RS L (i + 1) (out ++ st :: M ++ [c]) ((out ++ st :: M).length : Int) :=
 .inr ⟨out ++ st :: M, c, [], rfl, rfl, (fun x hx => by cases hx), by rw [hL, hd, kM ht hc]; simp [dM]⟩
theorem afi {st c : Nat} {out M : List Nat} (hm : Marks M) {n y : Nat} (hn : (out ++ st :: M).length = n + 1) (hy : (out ++ st :: M)[n]? = some y) : Tm (Nat.beq out.length n) y c = !opn M (dM M) (cls c) := by
 unfold Tm opn
 by_cases hM : M = []
 · subst hM
   have : out.length = n := by simp at hn; omega
   rw [this, Nat.beq_eq.mpr rfl]; rfl
 · obtain ⟨B, z, rfl⟩ := wZ hM
   have hne : Nat.beq out.length n = false := by
    rw [← Bool.not_eq_true, Nat.beq_eq]
    intro h; simp at hn; omega
   have hyz : y = z := by
    have hl : n = (out ++ st :: B).length := by simp at hn ⊢; omega
    rw [show out ++ st :: (B ++ [z]) = (out ++ st :: B) ++ [z] by simp, hl, List.getElem?_append_right (Nat.le_refl _), Nat.sub_self] at hy
    simpa using hy.symm
   have hz : cls z ≠ 0 := hm z (by simp)
   rw [hne, hyz, eX]
   have e1 : (B ++ [z]).isEmpty = false := by simp
   have e2 : Nat.beq (cls z) 0 = false := by rw [← Bool.not_eq_true, Nat.beq_eq]; exact hz
   have e3 : (cls z == 0) = false := by rw [beq_eq_false_iff_ne]; exact hz
   rw [e1, e2, e3]
   simp only [Bool.not_false, Bool.true_and, Bool.false_or]
   rw [Bool.eq_iff_iff, Nat.ble_eq, Bool.not_eq_true', decide_eq_false_iff_not]; omega
theorem MH (v : Value) (L : List Nat) (w : World) (hv : Sl w v L) (hb : ∀ x ∈ L, x < 4294967296) (hl : L.length ≤ 100000) : Calls Tryz.prog 139 #[v] w (RowOf (comp L) w) := by
 obtain ⟨ao, ca, rfl, _, hA⟩ := hv
 obtain ⟨n, hn⟩ : ∃ n, L.length = n := ⟨_, rfl⟩
 rw [hn] at hA ⊢
 have hnb : (n : Int) ≤ 100000 := by omega
 have HN := hid hn
 have HA := hid hA
 have HB := hid hb
 clear hn hA hb hl
 obtain ⟨i0, hi, hz0, hz1, hz2⟩ := info_parts jP
 go_enter Tryz.func139, Tryz.ntmps139
 go_wp2_with fail
 go_loopw [3, 4, 5] (fun vk vs vi wr => ∃ (i : Nat) (K : List Nat) (s : Int), i ≤ n ∧ vi = .int .i64 i ∧ vs = .int .i64 s ∧ Hid (RS L i K s) ∧ Hid (∀ x ∈ K, x < 4294967296) ∧ K.length ≤ i ∧ Hid (wr.ownsRow w.heap.size 134 1 vk K.length (bZ K)) ∧ Gr w wr) (fun _ _ vi _ => n - (intOf vi).toNat)
 case atStart => exact ⟨0, [], -1, Nat.zero_le _, rfl, rfl, .inl ⟨rfl, (fun x hx => by cases hx), rfl⟩, (fun x hx => by cases hx), Nat.le_refl _, World.ownsRow_nil _ _ _ _, Gr.refl _⟩
 case round =>
  obtain ⟨i, K, s, hin, rfl, rfl, HR, HKB, hKi, HO, hgk⟩ := hrel
  by_cases hlt : i < n
  · obtain ⟨g, off, rfl, hcell⟩ := HA.out i hlt
    have hcell := hgk.cell hcell
    have hiL : i < L.length := by rw [HN.out]; exact hlt
    have hx : L.getD i 0 < 4294967296 := by
     rw [List.getD, List.getElem?_eq_getElem hiL]; exact HB.out _ (List.getElem_mem _)
    have HD := hid (drop_cons hiL)
    have HCX := hid (fun W => ql (L.getD i 0) hx W)
    have HX := hid hx
    clear hx
    generalize L.getD i 0 = c at hcell HD HCX HX
    have hltz : (i : Int) < n := by omega
    have HKC : Hid (∀ x ∈ K ++ [c], x < 4294967296) := fun x hx => by
     rcases List.mem_append.1 hx with hx | hx
     · exact HKB.out x hx
     · rw [List.mem_singleton] at hx; rw [hx]; exact HX.out
    rcases HR.out with ⟨rfl, hm, hL⟩ | ⟨out, st, M, rfl, rfl, hm, hL⟩
    · -- no starter yet
      by_cases h0 : cls c = 0
      · have HS := hid (RS.startA HD.out hL h0)
        rw [h0] at HCX
        clear hm hL h0 HR
        go_wp2_with (first
         | (at_builtin; refine wpList_append_own _ rfl _ _ 108 rfl w.heap.size 134 i0 (.int .u32 0) 1 4 Tryz.underlying108 hi hz0 hz1 hz2 rfl (by decide) _ _ _ rfl (HO.out.alloc _) ⟨wr.heap.size, 0, none⟩ 1 1 [.int .u32 (c : Int)] rfl rfl (cell_one_new _ _ _) (by simp [Value.oneCell']) (by unfold maxLen; omega) (by omega) (by have := hgk.size; simp; omega) ?_; intro v' w1 hown' hgrow _; obtain ⟨g', cap', rfl⟩ := ownsRow_succ hown'; have g1 := dZ hgk HO.out hgrow; have HO1 : Hid (w1.ownsRow w.heap.size 134 1 (.slice (some ⟨g', 0, none⟩) (K.length + 1) cap') (K ++ [c]).length (bZ (K ++ [c]))) := fE hown' rfl rfl rfl; clear hown' hgrow)
         | (go_at_call 173; refine (HCX.out _).mono ?_; rintro e w2 ⟨rfl, g2⟩))
        go_roundw
        case rel => exact ⟨i + 1, K ++ [c], (K.length : Int), hlt, by go_num, by first | rfl | (congr 1; omega), HS, HKC, by simp; omega, aU HO1.out g2, g1.trans g2⟩
        case measure => simp [intOf]; omega
      · have HS := hid (RS.ajC hm HD.out hL h0)
        have h0z : ¬ (cls c : Int) = 0 := by omega
        have h0y : ((cls c : Int) == 0) = false := by rw [beq_eq_false_iff_ne]; exact h0z
        obtain ⟨q, hq⟩ : ∃ q, cls c = q := ⟨_, rfl⟩
        rw [hq] at HCX h0z h0y
        clear hm hL h0 HR hq
        go_wp2_with (first
         | (at_builtin; refine wpList_append_own _ rfl _ _ 108 rfl w.heap.size 134 i0 (.int .u32 0) 1 4 Tryz.underlying108 hi hz0 hz1 hz2 rfl (by decide) _ _ _ rfl (HO.out.alloc _) ⟨wr.heap.size, 0, none⟩ 1 1 [.int .u32 (c : Int)] rfl rfl (cell_one_new _ _ _) (by simp [Value.oneCell']) (by unfold maxLen; omega) (by omega) (by have := hgk.size; simp; omega) ?_; intro v' w1 hown' hgrow _; obtain ⟨g', cap', rfl⟩ := ownsRow_succ hown'; have g1 := dZ hgk HO.out hgrow; have HO1 : Hid (w1.ownsRow w.heap.size 134 1 (.slice (some ⟨g', 0, none⟩) (K.length + 1) cap') (K ++ [c]).length (bZ (K ++ [c]))) := fE hown' rfl rfl rfl; clear hown' hgrow)
         | (go_at_call 173; refine (HCX.out _).mono ?_; rintro e w2 ⟨rfl, g2⟩))
        go_roundw
        case rel => exact ⟨i + 1, K ++ [c], -1, hlt, by go_num, rfl, HS, HKC, by simp; omega, aU HO1.out g2, g1.trans g2⟩
        case measure => simp [intOf]; omega
    · -- behind a starter
      have hlen : (out ++ st :: M).length = out.length + M.length + 1 := by simp; omega
      obtain ⟨K, hK⟩ : ∃ K, out ++ st :: M = K := ⟨_, rfl⟩
      obtain ⟨m, hmm⟩ : ∃ m, out.length + M.length = m := ⟨_, rfl⟩
      rw [hK, hmm] at hlen
      rw [hK] at HKB HKC hKi HO
      have hKm := hlen
      have hom : out.length ≤ m := by omega
      have hym : K[m]? = some (K.getD m 0) := by rw [List.getD, List.getElem?_eq_getElem (by omega)]; rfl
      have hso : K[out.length]? = some st := by rw [← hK, List.getElem?_append_right (Nat.le_refl _), Nat.sub_self]; rfl
      have hbo := afi (c := c) hm (by rw [hK]; exact hKm) (by rw [hK]; exact hym)
      have hyb : K.getD m 0 < 4294967296 := HKB.out _ (by rw [List.getD, List.getElem?_eq_getElem (by omega)]; exact List.getElem_mem _)
      have hsb : st < 4294967296 := HKB.out _ (List.mem_of_getElem? hso)
      obtain ⟨gb, cap, e, hg1, hg2⟩ := EP HO.out (by omega)
      rw [hKm] at e
      subst e
      have HO' : Hid (wr.ownsRow w.heap.size 134 1 (.slice (some ⟨gb, 0, none⟩) (m + 1) cap) (m + 1) (bZ K)) := by
       have := HO.out
       rw [hKm] at this
       exact this
      clear HO
      have HO := HO'
      clear HO'
      have hO := HO.out
      have hly : wr.cell? ⟨gb, m, none⟩ = some (.int .u32 ((K.getD m 0 : Nat) : Int)) := by
       have := hO
       rw [← hKm] at this
       exact vF this m (by omega)
      have hst : wr.cell? ⟨gb, out.length, none⟩ = some (.int .u32 (st : Int)) := by
       have := hO
       rw [← hKm] at this
       have h := vF this out.length (by omega)
       rw [List.getD, hso] at h; exact h
      have HBL := hid (Qz gb m cap out.length (K.getD m 0) c hyb HX.out wr (by omega) hly)
      rw [hbo] at HBL
      have HTW := hid (fun W => aco st c hsb HX.out W)
      have HK := hid hK
      clear hym hso hbo hyb hsb hO hly hK hlen
      generalize K.getD m 0 = y at HBL
      have homz : (out.length : Int) < (m : Int) + 1 := by omega
      have hoz : (0 : Int) ≤ (out.length : Int) := by omega
      cases hop : opn M (dM M) (cls c) with
      | true =>
       rw [hop] at HBL
       cases ht2 : two st c with
       | some x =>
        have ht : cO st M (dM M) c = some x := by unfold cO; rw [if_pos hop]; exact ht2
        rw [pU ht2] at HTW
        have HS := hid (RS.twoB hm HD.out hL ht)
        have hxs := (rU ht2).small
        have HKX : Hid (∀ z ∈ out ++ x :: M, z < 4294967296) := fun z hz => by
         rcases List.mem_append.1 hz with hz | hz
         · exact HKB.out z (by rw [← HK.out]; exact List.mem_append_left _ hz)
         · rcases List.mem_cons.1 hz with hz | hz
           · omega
           · exact HKB.out z (by rw [← HK.out]; exact List.mem_append_right _ (List.mem_cons_of_mem _ hz))
        clear ht2 hop ht hL hxs
        go_wp2_with (first
         | (go_at_call 171; refine HBL.out.mono ?_; clear HBL; rintro e w1 ⟨rfl, g1'⟩; have g1 := hgk.trans g1'; have hst1 := g1'.cell hst; have HO1 := hid (aU HO.out g1'))
         | (go_at_call 172; (refine (HTW.out _).mono ?_; clear HTW; rintro e w2 ⟨rfl, g2'⟩; have g2 := g1.trans g2'; have HO2 := hid (aU HO1.out g2'); have hc2 := g2'.cell hst1; have hf2 := HO2.out.frozenAt out.length)))
        go_roundw
        case rel =>
         have hl2 : (out ++ x :: M).length = K.length := by rw [← HK.out]; simp
         have h3 := (HO2.out.stored out.length (.int .u32 (x : Int))).1
         rw [YC, ← HK.out, List.set_append_right _ _ (Nat.le_refl _), Nat.sub_self, List.set_cons_zero] at h3
         exact ⟨i + 1, out ++ x :: M, (out.length : Int), hlt, by go_num, rfl, HS, HKX, by rw [hl2]; omega, by rw [hl2, hKm]; exact h3, g2.setCell hg1 _⟩
        case measure => simp [intOf]; omega
       | none =>
        have ht : cO st M (dM M) c = none := by unfold cO; rw [if_pos hop]; exact ht2
        rw [xW ht2] at HTW
        clear ht2 hop
        by_cases h0 : cls c = 0
        · have HS := hid (RS.acp HD.out hL ht h0)
          rw [h0] at HCX
          rw [HK.out] at HS
          clear hL h0 ht
          go_wp2_with (first
           | (go_at_call 171; refine HBL.out.mono ?_; clear HBL; rintro e w1 ⟨rfl, g1'⟩; have g1 := hgk.trans g1'; have hst1 := g1'.cell hst; have HO1 := hid (aU HO.out g1'))
           | (go_at_call 172; refine (HTW.out _).mono ?_; clear HTW; rintro e w2 ⟨rfl, g2'⟩; have g2 := g1.trans g2'; have HO2 := hid (aU HO1.out g2'))
           | (at_builtin; refine wpList_append_own _ rfl _ _ 108 rfl w.heap.size 134 i0 (.int .u32 0) 1 4 Tryz.underlying108 hi hz0 hz1 hz2 rfl (by decide) _ _ _ rfl (HO2.out.alloc _) ⟨w2.heap.size, 0, none⟩ 1 1 [.int .u32 (c : Int)] rfl rfl (cell_one_new _ _ _) (by simp [Value.oneCell']) (by unfold maxLen; omega) (by omega) (by have := g2.size; simp; omega) ?_; intro v' w5 hown' hgrow _; obtain ⟨g', cap', rfl⟩ := ownsRow_succ hown'; have g5 := dZ g2 HO2.out hgrow; have HO5 : Hid (w5.ownsRow w.heap.size 134 1 (.slice (some ⟨g', 0, none⟩) (m + 1 + 1) cap') (K ++ [c]).length (bZ (K ++ [c]))) := xX hKm hown'; clear hown' hgrow)
           | (go_at_call 173; refine (HCX.out _).mono ?_; rintro e w6 ⟨rfl, g6⟩))
          go_roundw
          case rel => exact ⟨i + 1, K ++ [c], (K.length : Int), hlt, by go_num, by rw [hKm]; first | rfl | (congr 1; omega) | (congr 1; simp), HS, HKC, by simp; omega, aU HO5.out g6, g5.trans g6⟩
          case measure => simp [intOf]; omega
        · have HS := hid (RS.afK hm HD.out hL ht h0)
          rw [HK.out] at HS
          have h0z : ¬ (cls c : Int) = 0 := by omega
          have h0y : ((cls c : Int) == 0) = false := by rw [beq_eq_false_iff_ne]; exact h0z
          obtain ⟨q, hq⟩ : ∃ q, cls c = q := ⟨_, rfl⟩
          rw [hq] at HCX h0z h0y
          clear hL h0 hq ht
          go_wp2_with (first
           | (go_at_call 171; refine HBL.out.mono ?_; clear HBL; rintro e w1 ⟨rfl, g1'⟩; have g1 := hgk.trans g1'; have hst1 := g1'.cell hst; have HO1 := hid (aU HO.out g1'))
           | (go_at_call 172; refine (HTW.out _).mono ?_; clear HTW; rintro e w2 ⟨rfl, g2'⟩; have g2 := g1.trans g2'; have HO2 := hid (aU HO1.out g2'))
           | (at_builtin; refine wpList_append_own _ rfl _ _ 108 rfl w.heap.size 134 i0 (.int .u32 0) 1 4 Tryz.underlying108 hi hz0 hz1 hz2 rfl (by decide) _ _ _ rfl (HO2.out.alloc _) ⟨w2.heap.size, 0, none⟩ 1 1 [.int .u32 (c : Int)] rfl rfl (cell_one_new _ _ _) (by simp [Value.oneCell']) (by unfold maxLen; omega) (by omega) (by have := g2.size; simp; omega) ?_; intro v' w5 hown' hgrow _; obtain ⟨g', cap', rfl⟩ := ownsRow_succ hown'; have g5 := dZ g2 HO2.out hgrow; have HO5 : Hid (w5.ownsRow w.heap.size 134 1 (.slice (some ⟨g', 0, none⟩) (m + 1 + 1) cap') (K ++ [c]).length (bZ (K ++ [c]))) := xX hKm hown'; clear hown' hgrow)
           | (go_at_call 173; refine (HCX.out _).mono ?_; rintro e w6 ⟨rfl, g6⟩))
          go_roundw
          case rel => exact ⟨i + 1, K ++ [c], (out.length : Int), hlt, by go_num, rfl, HS, HKC, by simp; omega, aU HO5.out g6, g5.trans g6⟩
          case measure => simp [intOf]; omega
      | false =>
       rw [hop] at HBL
       have ht : cO st M (dM M) c = none := by unfold cO; rw [if_neg (by rw [hop]; exact Bool.false_ne_true)]
       clear hop HTW
       by_cases h0 : cls c = 0
       · have HS := hid (RS.acp HD.out hL ht h0)
         rw [h0] at HCX
         rw [HK.out] at HS
         clear hL h0 ht
         go_wp2_with (first
          | (go_at_call 171; refine HBL.out.mono ?_; clear HBL; rintro e w1 ⟨rfl, g1'⟩; have g1 := hgk.trans g1'; have hst1 := g1'.cell hst; have HO1 := hid (aU HO.out g1'))
          | (at_builtin; refine wpList_append_own _ rfl _ _ 108 rfl w.heap.size 134 i0 (.int .u32 0) 1 4 Tryz.underlying108 hi hz0 hz1 hz2 rfl (by decide) _ _ _ rfl (HO1.out.alloc _) ⟨w1.heap.size, 0, none⟩ 1 1 [.int .u32 (c : Int)] rfl rfl (cell_one_new _ _ _) (by simp [Value.oneCell']) (by unfold maxLen; omega) (by omega) (by have := g1.size; simp; omega) ?_; intro v' w5 hown' hgrow _; obtain ⟨g', cap', rfl⟩ := ownsRow_succ hown'; have g5 := dZ g1 HO1.out hgrow; have HO5 : Hid (w5.ownsRow w.heap.size 134 1 (.slice (some ⟨g', 0, none⟩) (m + 1 + 1) cap') (K ++ [c]).length (bZ (K ++ [c]))) := xX hKm hown'; clear hown' hgrow)
          | (go_at_call 173; refine (HCX.out _).mono ?_; rintro e w6 ⟨rfl, g6⟩))
         go_roundw
         case rel => exact ⟨i + 1, K ++ [c], (K.length : Int), hlt, by go_num, by rw [hKm]; first | rfl | (congr 1; omega) | (congr 1; simp), HS, HKC, by simp; omega, aU HO5.out g6, g5.trans g6⟩
         case measure => simp [intOf]; omega
       · have HS := hid (RS.afK hm HD.out hL ht h0)
         rw [HK.out] at HS
         have h0z : ¬ (cls c : Int) = 0 := by omega
         have h0y : ((cls c : Int) == 0) = false := by rw [beq_eq_false_iff_ne]; exact h0z
         obtain ⟨q, hq⟩ : ∃ q, cls c = q := ⟨_, rfl⟩
         rw [hq] at HCX h0z h0y
         clear hL h0 hq ht
         go_wp2_with (first
          | (go_at_call 171; refine HBL.out.mono ?_; clear HBL; rintro e w1 ⟨rfl, g1'⟩; have g1 := hgk.trans g1'; have hst1 := g1'.cell hst; have HO1 := hid (aU HO.out g1'))
          | (at_builtin; refine wpList_append_own _ rfl _ _ 108 rfl w.heap.size 134 i0 (.int .u32 0) 1 4 Tryz.underlying108 hi hz0 hz1 hz2 rfl (by decide) _ _ _ rfl (HO1.out.alloc _) ⟨w1.heap.size, 0, none⟩ 1 1 [.int .u32 (c : Int)] rfl rfl (cell_one_new _ _ _) (by simp [Value.oneCell']) (by unfold maxLen; omega) (by omega) (by have := g1.size; simp; omega) ?_; intro v' w5 hown' hgrow _; obtain ⟨g', cap', rfl⟩ := ownsRow_succ hown'; have g5 := dZ g1 HO1.out hgrow; have HO5 : Hid (w5.ownsRow w.heap.size 134 1 (.slice (some ⟨g', 0, none⟩) (m + 1 + 1) cap') (K ++ [c]).length (bZ (K ++ [c]))) := xX hKm hown'; clear hown' hgrow)
          | (go_at_call 173; refine (HCX.out _).mono ?_; rintro e w6 ⟨rfl, g6⟩))
         go_roundw
         case rel => exact ⟨i + 1, K ++ [c], (out.length : Int), hlt, by go_num, rfl, HS, HKC, by simp; omega, aU HO5.out g6, g5.trans g6⟩
         case measure => simp [intOf]; omega
  · have hin' : i = n := by omega
    have hcomp : comp L = K := by
     rcases HR.out with ⟨rfl, hm, hL⟩ | ⟨out, st, M, rfl, rfl, hm, hL⟩
     · rw [hL, List.drop_of_length_le (by rw [HN.out]; omega), jR, List.append_nil]
     · rw [hL, List.drop_of_length_le (by rw [HN.out]; omega), jy]
    have HCM := hid hcomp
    clear hcomp HR
    go_wp2
    go_ret
    exact ⟨_, rfl, by rw [HCM.out]; exact HO.out, hgk⟩
def SlC (w : World) (v : Value) (L : List Nat) : Prop := ∃ (ao : Option Addr) (cap : Nat), v = .slice ao L.length cap ∧ L.length ≤ cap ∧ cap ≤ maxLen ∧ ∀ k, k < L.length → ∃ g o, ao = some ⟨g, o, none⟩ ∧ w.cell? ⟨g, o + k, none⟩ = some (.int .u32 ((L.getD k 0 : Nat) : Int))
def acr (cap g o : Nat) : Option Addr := if cap = 1 then some ⟨g, o, none⟩ else some ⟨g, o + 1, none⟩
theorem SlC.cut {w : World} {g o n cap : Nat} {x : Nat} {L : List Nat} (h : SlC w (.slice (some ⟨g, o, none⟩) (n + 1) cap) (x :: L)) : SlC w (.slice (acr cap g o) n (cap - 1)) L := by
 obtain ⟨ao, cap', h1, h0, hm, h2⟩ := h
 injection h1 with e1 e2 e3
 subst e1 e3
 simp only [List.length_cons] at e2 h0 h2
 have hn : n = L.length := by omega
 subst hn
 refine ⟨_, _, rfl, by omega, by omega, fun k hk => ?_⟩
 obtain ⟨g', o', e, hc⟩ := h2 (k + 1) (by omega)
 injection e with e; injection e with e1 e2
 subst e1 e2
 rw [acr, if_neg (by omega)]
 refine ⟨g, o + 1, rfl, ?_⟩
 rw [show o + 1 + k = o + (k + 1) by omega, hc]
 simp [List.getD]
theorem SlC.head {w : World} {v : Value} {x : Nat} {L : List Nat} (h : SlC w v (x :: L)) : ∃ g o cap, v = .slice (some ⟨g, o, none⟩) (L.length + 1) cap ∧ w.cell? ⟨g, o, none⟩ = some (.int .u32 (x : Int)) ∧ L.length + 1 ≤ cap ∧ cap ≤ maxLen := by
 obtain ⟨ao, cap, h1, h0, hm, h2⟩ := h
 obtain ⟨g, o, rfl, hc⟩ := h2 0 (by simp)
 exact ⟨g, o, cap, h1, by simpa [List.getD] using hc, by simpa using h0, hm⟩
theorem SlC.nil_ {w : World} {v : Value} (h : SlC w v []) : ∃ ao cap, v = .slice ao 0 cap := by
 obtain ⟨ao, cap, h1, _⟩ := h
 exact ⟨ao, cap, h1⟩
theorem SlC.jB {w : World} {base : Nat} {v : Value} {L : List Nat} (h : w.ownsRow base 134 1 v L.length (bZ L)) : SlC w v L := by
 rcases h.2 with ⟨h1, h2⟩ | ⟨g, cap, cur, h1, _, _, hnc, hcm, _⟩
 · exact ⟨none, 0, by rw [h1, h2], by omega, by omega, fun k hk => by omega⟩
 · subst h1
   exact ⟨_, cap, rfl, hnc, hcm, fun k hk => ⟨g, 0, rfl, by rw [Nat.zero_add]; exact vF h k hk⟩⟩
theorem Ae (v : Option Addr) (n c : Nat) (W : World) : Sem.run Tryz.prog (binOp BinOp.eql 108 (.slice v n c) (.slice none 0 0)) W = .ok (.bool v.isNone) W :=
 Lib.run_eql_slice_nil W _ 134 v n c 0 0 rfl
theorem YD (v : Value) (L : List Nat) (w : World) (hv : Sl w v L) (hl : L.length ≤ 1000000) : Calls Tryz.prog 98 #[v] w fun e w' => (∃ v', e = .returned v' ∧ SlC w' v' L) ∧ Gr w w' := by
 have S0 := hid hv
 obtain ⟨ao, ca, rfl, h0, hA⟩ := hv
 cases ao with
 | none =>
  have hL : L = [] := List.eq_nil_of_length_eq_zero (by
   rcases Nat.eq_zero_or_pos L.length with h | h
   · exact h
   · obtain ⟨g, o, e, _⟩ := hA 0 h; cases e)
  subst hL
  have hc := h0 rfl
  subst hc
  clear S0 hA h0 hl
  have hq : ∀ W, Sem.run Tryz.prog (binOp BinOp.eql 108 (.slice none 0 0) (.slice none 0 0)) W = .ok (.bool true) W := fun W => Ae none 0 0 W
  go_enter Tryz.func98, Tryz.ntmps98
  go_wp2
  go_ret
  exact ⟨⟨_, rfl, none, 0, rfl, Nat.le_refl _, by unfold maxLen; omega, fun k hk => by simp at hk⟩, Gr.refl _⟩
 | some a =>
  clear hA h0
  have hq : ∀ W, Sem.run Tryz.prog (binOp BinOp.eql 108 (.slice (some a) L.length ca) (.slice none 0 0)) W = .ok (.bool false) W := fun W => Ae (some a) _ _ W
  go_enter Tryz.func98, Tryz.ntmps98
  go_wp2_with (at_builtin; refine pW rfl _ _ rfl L rfl _ rfl S0.out hl ?_; intro vi wi hvi gi; have HVI := hid (SlC.jB hvi); clear hvi)
  go_ret
  exact ⟨⟨vi, rfl, HVI.out⟩, gi⟩
theorem ED (g o m cap : Nat) (W : World) : (Instr.slice 108 (.slice (some ⟨g, o, none⟩) (m + 1) cap) (some (.int .i64 1)) none none).run Tryz.prog W = .ok (.slice (acr cap g o) m (cap - 1)) W := by
 rw [run_slice_l (P := Tryz.prog) W 108 (some ⟨g, o, none⟩) (m + 1) cap (by kernel_rfl) .i64 1 (by omega) (by omega)]
 have h : (sizeOf (Tryz.prog.elem 108)).run Tryz.prog W = .ok 1 W := by kernel_rfl
 rw [h]
 by_cases hc : cap = 1
 · subst hc; rfl
 · have hc1 : ¬ cap = Int.toNat 1 := hc
   simp only [Result.andThen, sliced, acr]
   rw [if_neg hc, if_neg hc1]
   rfl
theorem Dc (g o m cap : Nat) (W : World) : (Instr.sliceAt 108 (.slice (some ⟨g, o, none⟩) (m + 1) cap) (some (.int .i64 1)) none none).run Tryz.prog W = .ok (.slice (acr cap g o) m (cap - 1)) W := by
 rw [run_sliceAt_slice (P := Tryz.prog) W 108 _ _ _ _ (by kernel_rfl)]
 exact ED g o m cap W
def afL : Value → Nat | .slice _ n _ => n | _ => 0
theorem xY {W wr : World} {b e1 e2 z1 z2 k1 k2 : Nat} {v5 v3 : Value} {x5 x3 : List Value} (h5 : W.ownsRow wr.heap.size e1 z1 v5 k1 x5) (h3 : wr.ownsRow b e2 z2 v3 k2 x3) : v5.ownBlock = none ∨ v5.ownBlock ≠ v3.ownBlock := by
 cases e : v5.ownBlock with
 | none => exact .inl rfl
 | some k =>
  right; intro h
  have h1 := (h5.lt k e).1
  have h2 := (h3.lt k h.symm).2
  omega
theorem oJ {P : Program} {ops : Array Oper} {o : Oper} {a : Act} {w : World} {K : Act → World → Prop} {Q : Exit → Act → World → Prop} {E : Prop}
    (hg : o.guard = none) (s x : Operand) (t : TypeId) (hop : o.op = Op.call { callee := Callee.builtin Builtin.append, args := #[s, x], argTypes := #[t, t] })
    (base : Nat) (e : TypeId) (i : TypeInfo) (z : Value) (size bytes : Nat) (h1 : P.underlying t = some (.slice e)) (h2 : P.info? e = some i) (h3 : i.zero = some z) (h4 : i.size = size) (h5 : i.bytes = bytes) (h6 : z.cells.size = size) (h7 : 0 < size)
    (v : Value) (n : Nat) (xs : List Value) (hs : a.eval s = v) (hown : w.ownsRow base e size v n xs)
    (ad : Addr) (m c : Nat) (news : List Value) (hx : a.eval x = .slice (some ad) m c) (hl : news.length = m * size) (hnews : ∀ j u, news[j]? = some u → w.cell? (ad.add j) = some u) (h1c : ∀ u ∈ news, u.oneCell' = true)
    (h63 : n + m ≤ maxLen) (hbytes : (n + m) * bytes ≤ 140737488355328) (hbase : base ≤ w.heap.size)
    (hK : ∀ v' w', w'.ownsRow base e size v' (n + m) (xs ++ news) → w.grownBy w' v.ownBlock → K (a.put o.dst v') w') :
    if Region.wanted o (yielded ops a.tmps) = true then Oper.wp P o a w K Q else E := by
 rw [if_pos (by simp [Region.wanted, hg])]
 exact wp_append_own w s x t hop base e i z size bytes h1 h2 h3 h4 h5 h6 h7 v n xs hs hown ad m c news hx hl hnews h1c h63 hbytes hbase fun v' w' k1 k2 _ => hK v' w' k1 k2
theorem Tn (a b : Nat) : ∃ (y : Nat) (r : Bool), Ob a b = .tuple #[.int .u32 (y : Int), .bool r] := by
 cases h : two a b with
 | none => exact ⟨0, false, xW h⟩
 | some y => exact ⟨y, true, pU h⟩
def CP (F : List Nat) (n : Nat) (w1 : World) (s0 s3 : Value) (T O : List Nat) (wx : World) : Prop :=
 Hid (SlC w1 s0 T) ∧ Hid (wx.ownsRow w1.heap.size 134 1 s3 O.length (bZ O)) ∧ Hid (O ++ comp T = F) ∧ Hid (O.length + T.length ≤ n) ∧ Hid (∀ x ∈ T, x < 4294967296) ∧ Gr w1 wx
def CQ (F : List Nat) (n : Nat) (w1 wo : World) (s0 s3 s5 : Value) (st : Nat) (U M O : List Nat) (wx : World) : Prop :=
 Hid (SlC w1 s0 U) ∧ Hid (wo.ownsRow w1.heap.size 134 1 s3 O.length (bZ O)) ∧ Hid (wx.ownsRow wo.heap.size 134 1 s5 M.length (bZ M)) ∧ Hid (O ++ dQ U st M (dM M) = F) ∧ Hid (O.length + 1 + M.length + U.length ≤ n) ∧ Hid (∀ x ∈ U, x < 4294967296) ∧ st < 4294967296 ∧ Gr w1 wo ∧ Gr wo wx
theorem Ou (v : Value) (L : List Nat) (w : World) (ht : Tz w) (hv : Sl w v L) (hb : ∀ x ∈ L, x < 4294967296) (hl : L.length ≤ 100000) : Calls Tryz.prog 102 #[v] w (RowOf (comp L) w) := by
 have HCl := hid (YD v L w hv (by omega))
 obtain ⟨F, hF⟩ : ∃ F, comp L = F := ⟨_, rfl⟩
 rw [hF]
 have HF := hid hF
 have HB := hid hb
 obtain ⟨n, hn⟩ : ∃ n, L.length = n := ⟨_, rfl⟩
 have HN := hid hn
 rw [hn] at hl
 clear hF hb hv hn
 obtain ⟨i0, hi, hz0, hz1, hz2⟩ := info_parts jP
 go_enter Tryz.func102, Tryz.ntmps102
 go_wp2
 go_step3
 go_upto_block 0 with (go_at_call 98; refine HCl.out.mono ?_; clear HCl; rintro e w1 ⟨⟨v1, rfl, hs1⟩, g1⟩; have HS1 := hid hs1; clear hs1)
 have htw := fun W (k : Gr w1 W) => ht.gr (g1.trans k)
 go_cut [0, 3] (fun s0 s3 wx => ∃ (T O : List Nat), (T = [] ∨ cls (T.headD 0) = 0) ∧ Hid (CP F n w1 s0 s3 T O wx))
 case first =>
  go_wp2_with fail
  go_loopw [0, 3] (fun s0 s3 wr => ∃ (T O : List Nat), Hid (CP F n w1 s0 s3 T O wr)) (fun s0 _ _ => afL s0)
  case atStart => exact ⟨L, [], HS1, World.ownsRow_nil _ _ _ _, by show _ = _; rw [List.nil_append]; exact HF.out, by show _ ≤ _; rw [HN.out]; simp, HB, Gr.refl _⟩
  case round =>
   obtain ⟨T, O, HC⟩ := hrel
   clear HS1 HF HB HN
   obtain ⟨HT, HO, HE, HL, HX, hg⟩ := HC.out
   cases T with
   | nil =>
    obtain ⟨ao, cap, rfl⟩ := HT.out.nil_
    clear HT HO HE HL HX
    go_wp2_with fail
    go_meet
    case rel => exact ⟨[], O, .inl rfl, HC⟩
   | cons x t =>
    obtain ⟨g, o, cap, rfl, hc, hcap, hcm⟩ := HT.out.head
    have hc := hg.cell hc
    have hx : x < 4294967296 := HX.out x (by simp)
    have HK := hid (xu x hx wr (htw _ hg))
    obtain ⟨m, hm⟩ : ∃ m, t.length = m := ⟨_, rfl⟩
    have HM := hid hm
    rw [hm] at HT hcap HC ⊢
    by_cases h0 : cls x = 0
    · have H0 := hid h0
      rw [h0] at HK
      clear HT HO HE HL HX hm hx h0
      go_wp2_with (go_at_call 129; refine HK.out.mono ?_; clear HK; rintro e w2 ⟨rfl, g2⟩)
      go_meet
      case rel =>
       obtain ⟨HT, HO, HE, HL, HX, hg⟩ := HC.out
       exact ⟨x :: t, O, .inr H0.out, HT, aU HO.out g2, HE, HL, HX, hg.trans g2⟩
    · have H0 := hid h0
      have h0z : ¬ (cls x : Int) = 0 := by omega
      have h0y : ((cls x : Int) != 0) = true := by rw [bne_iff_ne]; exact h0z
      obtain ⟨q, hq⟩ : ∃ q, cls x = q := ⟨_, rfl⟩
      rw [hq] at HK h0z h0y
      have hcut := ED g o m cap
      have Dy := Dc g o m cap
      have HS2 := hid HT.out.cut
      have hOb : O.length ≤ 100000 := by have := HL.out; omega
      have HOb := hid hOb
      clear HT HC hm hx h0 hq hOb
      go_wp2_with (first
       | (go_at_call 129; refine HK.out.mono ?_; clear HK; rintro e w2 ⟨rfl, g2⟩; have HO2 := hid (aU HO.out g2); have hc2 := g2.cell hc)
       | (at_builtin; go_loud (refine wpList_append_own _ rfl _ _ 108 rfl w1.heap.size 134 i0 (.int .u32 0) 1 4 Tryz.underlying108 hi hz0 hz1 hz2 rfl (by decide) _ _ _ rfl (HO2.out.alloc _) ⟨w2.heap.size, 0, none⟩ 1 1 [.int .u32 (x : Int)] rfl rfl (cell_one_new _ _ _) (by simp [Value.oneCell']) (by have := HOb.out; unfold maxLen; omega) (by have := HOb.out; omega) (by have := g2.size; have := hg.size; simp; omega) ?_; intro v' w5 hown' hgrow _; obtain ⟨g', cap', rfl⟩ := ownsRow_succ hown'; have g5 := dZ (hg.trans g2) HO2.out hgrow; have HO5 : Hid (w5.ownsRow w1.heap.size 134 1 (.slice (some ⟨g', 0, none⟩) (O.length + 1) cap') (O ++ [x]).length (bZ (O ++ [x]))) := fE hown' rfl rfl rfl; clear hown' hgrow)))
      go_roundw
      case rel =>
       refine ⟨t, O ++ [x], HS2, ?_, ?_, ?_, fun y hy => HX.out y (List.mem_cons_of_mem _ hy), g5⟩
       · exact HO5.out
       · show _ = _
         rw [← HE.out, qc H0.out, List.append_assoc]; rfl
       · have := HL.out
         show _ ≤ _
         simp at this ⊢; omega
      case measure => simp [afL]
 case rest =>
  obtain ⟨T, O, hT, HC⟩ := hcut
  clear HS1 HF HB HN
  go_wp2_with fail
  go_step3
  go_wp2_with fail
  go_loopg [0, 3] n (fun gk s0 s3 wr => ∃ (T O : List Nat), T.length ≤ gk ∧ (T = [] ∨ cls (T.headD 0) = 0) ∧ Hid (CP F n w1 s0 s3 T O wr))
  case atStart =>
   refine ⟨T, O, ?_, hT, HC⟩
   obtain ⟨HT, HO, HE, HL, HX, hg⟩ := HC.out
   have := HL.out; omega
  case round =>
   clear HC hT
   obtain ⟨T, O, hTk, hT, HC⟩ := hrel
   obtain ⟨HT, HO, HE, HL, HX, hg⟩ := HC.out
   clear HC
   cases T with
   | nil =>
    obtain ⟨ao, cap, rfl⟩ := HT.out.nil_
    have HR : Hid (O = F) := by have := HE.out; rw [jR, List.append_nil] at this; exact this
    clear HE HT HL HX hT hTk
    go_wp2_with fail
    go_ret
    exact ⟨_, rfl, by rw [← HR.out]; exact HO.out.mono' g1.size, g1.trans hg⟩
   | cons x t =>
    have h0 : cls x = 0 := by simpa using hT
    obtain ⟨g, o, cap, rfl, hc, hcap, hcm⟩ := HT.out.head
    have hc := hg.cell hc
    have hx : x < 4294967296 := HX.out x (by simp)
    have HCE : Hid (O ++ dQ t x [] 0 = F) := by show _ = _; rw [← HE.out, lS h0]
    have HCX : Hid (∀ y ∈ t, y < 4294967296) := fun y hy => HX.out y (List.mem_cons_of_mem _ hy)
    have HCL : Hid (O.length + 1 + t.length ≤ n) := by have := HL.out; show _ ≤ _; simp at this; omega
    have htk : t.length < gk := by simp at hTk; omega
    obtain ⟨m, hm⟩ : ∃ m, t.length = m := ⟨_, rfl⟩
    have HM := hid hm
    have hcut := ED g o m cap
    have Dy := Dc g o m cap
    rw [hm] at HT hcap htk ⊢
    have HS2 := hid HT.out.cut
    clear HT HE HL HX hT hTk h0 hm
    go_wp2_with fail
    clear hcut Dy hc
    obtain ⟨wo, rfl⟩ : ∃ wo, wo = wr := ⟨wr, rfl⟩
    obtain ⟨vo, rfl⟩ : ∃ vo, vo = u3 := ⟨u3, rfl⟩
    go_loopg [0, 3, 4, 5, 6] m (fun gj s0 s3 s4 s5 s6 wq => ∃ (U M : List Nat) (st : Nat), U.length ≤ gj ∧ U.length ≤ m ∧ s3 = vo ∧ s4 = .int .u32 st ∧ s6 = .int .i64 (dM M) ∧ Hid (CQ F n w1 wo s0 vo s5 st U M O wq))
    case atStart => exact ⟨t, [], x, by rw [HM.out]; exact Nat.le_refl _, by rw [HM.out]; exact Nat.le_refl _, rfl, rfl, rfl, HS2, HO, World.ownsRow_nil _ _ _ _, HCE, by have := HCL.out; show _ ≤ _; simp; omega, HCX, hx, hg, Gr.refl _⟩
    case round =>
     clear HS2 HCE HCL HCX HM hcap hcm HO hx
     obtain ⟨U, M, st, hU, hUm, rfl, rfl, rfl, HQ⟩ := hrel
     obtain ⟨HT, HOO, HMM, HE, HL, HX, hst, hgo, hgq⟩ := HQ.out
     clear HQ
     have hgk := hgo.trans hgq
     have HOb : Hid (O.length + 1 + M.length ≤ 100000) := by have := HL.out; show _ ≤ _; omega
     cases U with
     | nil =>
      obtain ⟨ao, cap, rfl⟩ := HT.out.nil_
      have HMW := HMM
      have HOW := hid (aU HOO.out hgq)
      have gWZ := hgk
      have HE2 : Hid (O ++ [st] ++ M ++ comp [] = F) := by show _ = _; rw [← HE.out, jy, jR]; simp
      go_wp2_with (first
       | (at_builtin; refine wpList_append_own _ rfl _ _ 108 rfl w1.heap.size 134 i0 (.int .u32 0) 1 4 Tryz.underlying108 hi hz0 hz1 hz2 rfl (by decide) _ _ _ rfl (HOW.out.alloc _) ⟨_, 0, none⟩ 1 1 [.int .u32 (st : Int)] rfl rfl (cell_one_new _ _ _) (by simp [Value.oneCell']) (by have := HOb.out; unfold maxLen; omega) (by have := HOb.out; omega) (by have := gWZ.size; simp; omega) ?_; intro v5 w5 hown' hgrow _; have HM5 := hid (Sl.jB ((HMW.out.alloc _).kept hgrow (xY HMW.out HOO.out))); have g5 := dZ gWZ HOW.out hgrow; have HO5 : Hid (w5.ownsRow w1.heap.size 134 1 v5 (O ++ [st]).length (bZ (O ++ [st]))) := fE hown' rfl rfl rfl; clear hown' hgrow)
       | (at_builtin; refine iT rfl _ _ rfl w1.heap.size _ (O ++ [st]) M rfl HO5.out _ rfl HM5.out (by have := HOb.out; simp at this ⊢; omega) g5.size ?_; intro v6 w6 hown6 hgrow6; have HO6 := hid hown6; have g6 := oQ g5 HO5.out hgrow6; clear hown6 hgrow6))
      go_roundg 0
      case rel => exact ⟨[], O ++ [st] ++ M, Nat.zero_le _, .inl rfl, HT, HO6, HE2, by have := HL.out; show _ ≤ _; simp at this ⊢; omega, HX, g6⟩
      case measure => omega
     | cons c u =>
      obtain ⟨g, o, cap, rfl, hc, hcap, hcm⟩ := HT.out.head
      have hc := hgk.cell hc
      have hcx : c < 4294967296 := HX.out c (by simp)
      have HK := xu c hcx wr (htw _ hgk)
      have hcut := ED g o u.length cap
      have Dy := Dc g o u.length cap
      have HS2 := hid HT.out.cut
      have hT := fun W (k : Gr w1 W) => two_any st c hst hcx W (htw _ k)
      have HUX : Hid (∀ y ∈ u, y < 4294967296) := fun y hy => HX.out y (List.mem_cons_of_mem _ hy)
      obtain ⟨a5, c5, rfl⟩ := Jq HMM.out
      obtain ⟨q, hq⟩ : ∃ q, cls c = q := ⟨_, rfl⟩
      have HQc := hid hq
      rw [hq] at HK
      have HK := hid HK
      obtain ⟨la, hla⟩ : ∃ la, dM M = la := ⟨_, rfl⟩
      have HLA := hid hla
      rw [hla] at HE ⊢
      clear hcx hq hla
      go_upto_region 13 with (go_at_call 129; refine HK.out.mono ?_; clear HK; rintro e w2 ⟨rfl, g2⟩; have g2k := hgk.trans g2; have hc2 := g2.cell hc)
      go_cut [8] from 39 to 89 (fun s8 wx => s8 = .bool (opn M la q) ∧ wx = w2)
      case first => as_aux_lemma =>
       clear hT hcut Dy
       by_cases hm0 : M.length = 0
       · have ho : opn M la q = true := by
           have : M = [] := List.eq_nil_of_length_eq_zero (by omega)
           subst this; rfl
         have e1 : (M.length : Int) = 0 := by omega
         have e2 : ((M.length : Int) == 0) = true := by rw [e1]; rfl
         have HO := hid ho
         clear hm0 ho
         go_wp2_with fail
         go_meet
         case rel => exact ⟨by rw [HO.out], rfl⟩
       · have hM : M.isEmpty = false := by cases M with | nil => simp at hm0 | cons a b => rfl
         have e1 : ¬ (M.length : Int) = 0 := by omega
         have e2 : ((M.length : Int) == 0) = false := by rw [beq_eq_false_iff_ne]; exact e1
         by_cases hl0 : la = 0
         · have ho : opn M la q = false := by unfold opn; rw [hM, hl0]; rfl
           have e3 : (la : Int) = 0 := by omega
           have e4 : ((la : Int) != 0) = false := by rw [e3]; rfl
           have HO := hid ho
           clear hm0 ho hl0 hM
           go_wp2_with fail
           go_meet
           case rel => exact ⟨by rw [HO.out], rfl⟩
         · have e3 : ¬ (la : Int) = 0 := by omega
           have e4 : ((la : Int) != 0) = true := by rw [bne_iff_ne]; exact e3
           have hl1 : (la == 0) = false := by rw [beq_eq_false_iff_ne]; exact hl0
           by_cases hlq : la < q
           · have ho : opn M la q = true := by unfold opn; rw [hM, hl1, decide_eq_true hlq]; rfl
             have e5 : (la : Int) < (q : Int) := by omega
             have HO := hid ho
             clear hm0 ho hl0 hM hl1 hlq
             go_wp2_with fail
             go_meet
             case rel => exact ⟨by rw [HO.out], rfl⟩
           · have ho : opn M la q = false := by unfold opn; rw [hM, hl1, decide_eq_false hlq]; rfl
             have e5 : ¬ (la : Int) < (q : Int) := by omega
             have HO := hid ho
             clear hm0 ho hl0 hM hl1 hlq
             go_wp2_with fail
             go_meet
             case rel => exact ⟨by rw [HO.out], rfl⟩
      case rest =>
       obtain ⟨rfl, rfl⟩ := hcut
       obtain ⟨b, hop⟩ : ∃ b, opn M la q = b := ⟨_, rfl⟩
       rw [hop]
       cases b with
       | true =>
        cases h2 : two st c with
        | some y =>
         rw [pU h2] at hT
         have hys := (rU h2).small
         have HT0 : Hid (cO st M la c = some y) := by show _ = _; unfold cO; rw [HQc.out, hop]; exact h2
         have HE2 : Hid (O ++ dQ u y M (dM M) = F) := by show _ = _; rw [← HE.out, gy HT0.out, HLA.out]
         have HTW := hid hT
         clear hT hop h2
         go_wp2_with (first              | (go_at_call 135; refine (HTW.out _ g2k).mono ?_; clear HTW; rintro e w3 ⟨rfl, g3⟩; have gWZ := g2k.trans g3; have HOW := hid (aU HOO.out ((hgq.trans g2).trans g3)); have HMW := hid (aU HMM.out (g2.trans g3)); have hc3 := g3.cell hc2))
         go_region
         all_goals (
          go_wp2_with fail
          go_roundg u.length)
         case rel =>
          exact ⟨u, M, y, Nat.le_refl _, by simp at hUm; omega, rfl, rfl, by rw [HLA.out], HS2, HOO, aU HMM.out ((g2.trans g3).trans (Gr.drewN _ 1)), HE2, by have := HL.out; show _ ≤ _; simp at this ⊢; omega, HUX, by omega, hgo, ((hgq.trans g2).trans g3).trans (Gr.drewN _ 1)⟩
         case measure => simp at hU; omega
        | none =>
         rw [xW h2] at hT
         have HT0 : Hid (cO st M la c = none) := by show _ = _; unfold cO; rw [HQc.out, hop]; exact h2
         have HTW := hid hT
         clear hT hop h2
         by_cases h0 : cls c = 0
         · have H0 := hid h0
           have hqz : q = 0 := by rw [← HQc.out]; exact h0
           have HE2 : Hid (O ++ [st] ++ M ++ comp (c :: u) = F) := by show _ = _; rw [← HE.out, lS h0, ← HLA.out, kM (by rw [HLA.out]; exact HT0.out) h0]; simp
           subst hqz
           clear h0
           go_wp2_with (first
                       | (at_builtin; refine wpList_append_own _ rfl _ _ 108 rfl w1.heap.size 134 i0 (.int .u32 0) 1 4 Tryz.underlying108 hi hz0 hz1 hz2 rfl (by decide) _ _ _ rfl (HOW.out.alloc _) ⟨_, 0, none⟩ 1 1 [.int .u32 (st : Int)] rfl rfl (cell_one_new _ _ _) (by simp [Value.oneCell']) (by have := HOb.out; unfold maxLen; omega) (by have := HOb.out; omega) (by have := gWZ.size; simp; omega) ?_; intro v5 w5 hown' hgrow _; have HM5 := hid (Sl.jB ((HMW.out.alloc _).kept hgrow (xY HMW.out HOO.out))); have g5 := dZ gWZ HOW.out hgrow; have HO5 : Hid (w5.ownsRow w1.heap.size 134 1 v5 (O ++ [st]).length (bZ (O ++ [st]))) := fE hown' rfl rfl rfl; clear hown' hgrow)
                       | (at_builtin; refine iT rfl _ _ rfl w1.heap.size _ (O ++ [st]) M rfl HO5.out _ rfl HM5.out (by have := HOb.out; simp at this ⊢; omega) g5.size ?_; intro v6 w6 hown6 hgrow6; have HO6 := hid hown6; have g6 := oQ g5 HO5.out hgrow6; clear hown6 hgrow6)
                       | (go_at_call 135; refine (HTW.out _ g2k).mono ?_; clear HTW; rintro e w3 ⟨rfl, g3⟩; have gWZ := g2k.trans g3; have HOW := hid (aU HOO.out ((hgq.trans g2).trans g3)); have HMW := hid (aU HMM.out (g2.trans g3)); have hc3 := g3.cell hc2))
           go_roundg (u.length + 1)
           case rel => exact ⟨c :: u, O ++ [st] ++ M, Nat.le_refl _, .inr H0.out, HT, HO6, HE2, by have := HL.out; show _ ≤ _; simp at this ⊢; omega, HX, g6⟩
           case measure => simp at hUm; omega
         · have hqz : ¬ (q : Int) = 0 := by rw [HQc.out] at h0; omega
           have hqy : ((q : Int) == 0) = false := by rw [beq_eq_false_iff_ne]; exact hqz
           have HE2 : Hid (O ++ dQ u st (M ++ [c]) (dM (M ++ [c])) = F) := by show _ = _; rw [← HE.out, ← HLA.out, jJ (by rw [HLA.out]; exact HT0.out) h0, eX]
           have HQL : Hid (dM (M ++ [c]) = q) := by show _ = _; rw [eX]; exact HQc.out
           clear h0
           go_wp2_with (first | (go_at_call 135; refine (HTW.out _ g2k).mono ?_; clear HTW; rintro e w3 ⟨rfl, g3⟩; have gWZ := g2k.trans g3; have HOW := hid (aU HOO.out ((hgq.trans g2).trans g3)); have HMW := hid (aU HMM.out (g2.trans g3)); have hc3 := g3.cell hc2))
           go_region_law ((refine oJ rfl _ _ 108 rfl wo.heap.size 134 i0 (.int .u32 0) 1 4 Tryz.underlying108 hi hz0 hz1 hz2 rfl (by decide) (.slice a5 M.length c5) _ _ (by simp [Act.eval]) (HMW.out.alloc _) ⟨_, 0, none⟩ 1 1 [.int .u32 (c : Int)] (by simp [Act.eval]) rfl (cell_one_new _ _ _) (by simp [Value.oneCell']) (by have := HOb.out; unfold maxLen; omega) (by have := HOb.out; omega) (by have := (hgq.trans g2).size; have := g3.size; simp; omega) ?_; intro v' w5 hown' hgrow; obtain ⟨g', cap', rfl⟩ := ownsRow_succ hown'; have g5 := dZ (((hgq.trans g2).trans g3).trans (Gr.drewN _ 1)) HMW.out hgrow; have HM5 : Hid (w5.ownsRow wo.heap.size 134 1 (.slice (some ⟨g', 0, none⟩) (M.length + 1) cap') (M ++ [c]).length (bZ (M ++ [c]))) := fE hown' rfl rfl rfl; clear hown' hgrow))
           all_goals (
            go_wp2_with fail
            go_roundg u.length)
           case rel => exact ⟨u, M ++ [c], st, Nat.le_refl _, by simp at hUm; omega, rfl, rfl, by rw [HQL.out], HS2, HOO, HM5, HE2, by have := HL.out; show _ ≤ _; simp at this ⊢; omega, HUX, hst, hgo, g5⟩
           case measure => simp at hU; omega
       | false =>
        have HT0 : Hid (cO st M la c = none) := by show _ = _; unfold cO; rw [HQc.out, hop]; rfl
        obtain ⟨y, r, hy⟩ := Tn st c
        rw [hy] at hT
        have HTW := hid hT
        clear hT hop hy
        cases r with
        | true =>
         by_cases h0 : cls c = 0
         · have H0 := hid h0
           have hqz : q = 0 := by rw [← HQc.out]; exact h0
           have HE2 : Hid (O ++ [st] ++ M ++ comp (c :: u) = F) := by show _ = _; rw [← HE.out, lS h0, ← HLA.out, kM (by rw [HLA.out]; exact HT0.out) h0]; simp
           subst hqz
           clear h0
           go_wp2_with (first
                       | (at_builtin; refine wpList_append_own _ rfl _ _ 108 rfl w1.heap.size 134 i0 (.int .u32 0) 1 4 Tryz.underlying108 hi hz0 hz1 hz2 rfl (by decide) _ _ _ rfl (HOW.out.alloc _) ⟨_, 0, none⟩ 1 1 [.int .u32 (st : Int)] rfl rfl (cell_one_new _ _ _) (by simp [Value.oneCell']) (by have := HOb.out; unfold maxLen; omega) (by have := HOb.out; omega) (by have := gWZ.size; simp; omega) ?_; intro v5 w5 hown' hgrow _; have HM5 := hid (Sl.jB ((HMW.out.alloc _).kept hgrow (xY HMW.out HOO.out))); have g5 := dZ gWZ HOW.out hgrow; have HO5 : Hid (w5.ownsRow w1.heap.size 134 1 v5 (O ++ [st]).length (bZ (O ++ [st]))) := fE hown' rfl rfl rfl; clear hown' hgrow)
                       | (at_builtin; refine iT rfl _ _ rfl w1.heap.size _ (O ++ [st]) M rfl HO5.out _ rfl HM5.out (by have := HOb.out; simp at this ⊢; omega) g5.size ?_; intro v6 w6 hown6 hgrow6; have HO6 := hid hown6; have g6 := oQ g5 HO5.out hgrow6; clear hown6 hgrow6)
                       | (go_at_call 135; refine (HTW.out _ g2k).mono ?_; clear HTW; rintro e w3 ⟨rfl, g3⟩; have gWZ := g2k.trans g3; have HOW := hid (aU HOO.out ((hgq.trans g2).trans g3)); have HMW := hid (aU HMM.out (g2.trans g3)); have hc3 := g3.cell hc2))
           go_roundg (u.length + 1)
           case rel => exact ⟨c :: u, O ++ [st] ++ M, Nat.le_refl _, .inr H0.out, HT, HO6, HE2, by have := HL.out; show _ ≤ _; simp at this ⊢; omega, HX, g6⟩
           case measure => simp at hUm; omega
         · have hqz : ¬ (q : Int) = 0 := by rw [HQc.out] at h0; omega
           have hqy : ((q : Int) == 0) = false := by rw [beq_eq_false_iff_ne]; exact hqz
           have HE2 : Hid (O ++ dQ u st (M ++ [c]) (dM (M ++ [c])) = F) := by show _ = _; rw [← HE.out, ← HLA.out, jJ (by rw [HLA.out]; exact HT0.out) h0, eX]
           have HQL : Hid (dM (M ++ [c]) = q) := by show _ = _; rw [eX]; exact HQc.out
           clear h0
           go_wp2_with (first | (go_at_call 135; refine (HTW.out _ g2k).mono ?_; clear HTW; rintro e w3 ⟨rfl, g3⟩; have gWZ := g2k.trans g3; have HOW := hid (aU HOO.out ((hgq.trans g2).trans g3)); have HMW := hid (aU HMM.out (g2.trans g3)); have hc3 := g3.cell hc2))
           go_region_law ((refine oJ rfl _ _ 108 rfl wo.heap.size 134 i0 (.int .u32 0) 1 4 Tryz.underlying108 hi hz0 hz1 hz2 rfl (by decide) (.slice a5 M.length c5) _ _ (by simp [Act.eval]) (HMW.out.alloc _) ⟨_, 0, none⟩ 1 1 [.int .u32 (c : Int)] (by simp [Act.eval]) rfl (cell_one_new _ _ _) (by simp [Value.oneCell']) (by have := HOb.out; unfold maxLen; omega) (by have := HOb.out; omega) (by have := (hgq.trans g2).size; have := g3.size; simp; omega) ?_; intro v' w5 hown' hgrow; obtain ⟨g', cap', rfl⟩ := ownsRow_succ hown'; have g5 := dZ (((hgq.trans g2).trans g3).trans (Gr.drewN _ 1)) HMW.out hgrow; have HM5 : Hid (w5.ownsRow wo.heap.size 134 1 (.slice (some ⟨g', 0, none⟩) (M.length + 1) cap') (M ++ [c]).length (bZ (M ++ [c]))) := fE hown' rfl rfl rfl; clear hown' hgrow))
           all_goals (
            go_wp2_with fail
            go_roundg u.length)
           case rel => exact ⟨u, M ++ [c], st, Nat.le_refl _, by simp at hUm; omega, rfl, rfl, by rw [HQL.out], HS2, HOO, HM5, HE2, by have := HL.out; show _ ≤ _; simp at this ⊢; omega, HUX, hst, hgo, g5⟩
           case measure => simp at hU; omega
        | false =>
         by_cases h0 : cls c = 0
         · have H0 := hid h0
           have hqz : q = 0 := by rw [← HQc.out]; exact h0
           have HE2 : Hid (O ++ [st] ++ M ++ comp (c :: u) = F) := by show _ = _; rw [← HE.out, lS h0, ← HLA.out, kM (by rw [HLA.out]; exact HT0.out) h0]; simp
           subst hqz
           clear h0
           go_wp2_with (first
                       | (at_builtin; refine wpList_append_own _ rfl _ _ 108 rfl w1.heap.size 134 i0 (.int .u32 0) 1 4 Tryz.underlying108 hi hz0 hz1 hz2 rfl (by decide) _ _ _ rfl (HOW.out.alloc _) ⟨_, 0, none⟩ 1 1 [.int .u32 (st : Int)] rfl rfl (cell_one_new _ _ _) (by simp [Value.oneCell']) (by have := HOb.out; unfold maxLen; omega) (by have := HOb.out; omega) (by have := gWZ.size; simp; omega) ?_; intro v5 w5 hown' hgrow _; have HM5 := hid (Sl.jB ((HMW.out.alloc _).kept hgrow (xY HMW.out HOO.out))); have g5 := dZ gWZ HOW.out hgrow; have HO5 : Hid (w5.ownsRow w1.heap.size 134 1 v5 (O ++ [st]).length (bZ (O ++ [st]))) := fE hown' rfl rfl rfl; clear hown' hgrow)
                       | (at_builtin; refine iT rfl _ _ rfl w1.heap.size _ (O ++ [st]) M rfl HO5.out _ rfl HM5.out (by have := HOb.out; simp at this ⊢; omega) g5.size ?_; intro v6 w6 hown6 hgrow6; have HO6 := hid hown6; have g6 := oQ g5 HO5.out hgrow6; clear hown6 hgrow6)
                       | (go_at_call 135; refine (HTW.out _ g2k).mono ?_; clear HTW; rintro e w3 ⟨rfl, g3⟩; have gWZ := g2k.trans g3; have HOW := hid (aU HOO.out ((hgq.trans g2).trans g3)); have HMW := hid (aU HMM.out (g2.trans g3)); have hc3 := g3.cell hc2))
           go_roundg (u.length + 1)
           case rel => exact ⟨c :: u, O ++ [st] ++ M, Nat.le_refl _, .inr H0.out, HT, HO6, HE2, by have := HL.out; show _ ≤ _; simp at this ⊢; omega, HX, g6⟩
           case measure => simp at hUm; omega
         · have hqz : ¬ (q : Int) = 0 := by rw [HQc.out] at h0; omega
           have hqy : ((q : Int) == 0) = false := by rw [beq_eq_false_iff_ne]; exact hqz
           have HE2 : Hid (O ++ dQ u st (M ++ [c]) (dM (M ++ [c])) = F) := by show _ = _; rw [← HE.out, ← HLA.out, jJ (by rw [HLA.out]; exact HT0.out) h0, eX]
           have HQL : Hid (dM (M ++ [c]) = q) := by show _ = _; rw [eX]; exact HQc.out
           clear h0
           go_wp2_with (first | (go_at_call 135; refine (HTW.out _ g2k).mono ?_; clear HTW; rintro e w3 ⟨rfl, g3⟩; have gWZ := g2k.trans g3; have HOW := hid (aU HOO.out ((hgq.trans g2).trans g3)); have HMW := hid (aU HMM.out (g2.trans g3)); have hc3 := g3.cell hc2))
           go_region_law ((refine oJ rfl _ _ 108 rfl wo.heap.size 134 i0 (.int .u32 0) 1 4 Tryz.underlying108 hi hz0 hz1 hz2 rfl (by decide) (.slice a5 M.length c5) _ _ (by simp [Act.eval]) (HMW.out.alloc _) ⟨_, 0, none⟩ 1 1 [.int .u32 (c : Int)] (by simp [Act.eval]) rfl (cell_one_new _ _ _) (by simp [Value.oneCell']) (by have := HOb.out; unfold maxLen; omega) (by have := HOb.out; omega) (by have := (hgq.trans g2).size; have := g3.size; simp; omega) ?_; intro v' w5 hown' hgrow; obtain ⟨g', cap', rfl⟩ := ownsRow_succ hown'; have g5 := dZ (((hgq.trans g2).trans g3).trans (Gr.drewN _ 1)) HMW.out hgrow; have HM5 : Hid (w5.ownsRow wo.heap.size 134 1 (.slice (some ⟨g', 0, none⟩) (M.length + 1) cap') (M ++ [c]).length (bZ (M ++ [c]))) := fE hown' rfl rfl rfl; clear hown' hgrow))
           all_goals (
            go_wp2_with fail
            go_roundg u.length)
           case rel => exact ⟨u, M ++ [c], st, Nat.le_refl _, by simp at hUm; omega, rfl, rfl, by rw [HQL.out], HS2, HOO, HM5, HE2, by have := HL.out; show _ ≤ _; simp at this ⊢; omega, HUX, hst, hgo, g5⟩
           case measure => simp at hU; omega
theorem Tq {L : List Nat} (h : ∀ x ∈ L, x < 4294967296) : ∀ x ∈ comp L, x < 4294967296 := fun x hx => by
 rcases Fa L x hx with h1 | ⟨a, b, h1⟩
 · exact h x h1
 · have := (rU h1).small; omega
structure NF (L A D C E : List Nat) : Prop where
 full : bT L = A
 ord : fO A = D
 comp : Go.Proofs.YthlflglkdaainaaGreatDoor.comp D = C
 full2 : bT C = E
 ord2 : fO E = D
 again : Go.Proofs.YthlflglkdaainaaGreatDoor.comp C = C
 sA : ∀ x ∈ A, x < 4294967296
 sD : ∀ x ∈ D, x < 4294967296
 sC : ∀ x ∈ C, x < 4294967296
 sE : ∀ x ∈ E, x < 4294967296
 lA : A.length ≤ 4 * L.length
 lD : D.length = A.length
 lC : C.length ≤ D.length
 lE : E.length ≤ 4 * C.length
theorem NF.of {L : List Nat} (b : ∀ x ∈ L, x < 4294967296) : ∃ A D C E, NF L A D C E := by
 have s1 : ∀ x ∈ bT L, x < 4294967296 := fun x hx => (qN b x hx).2
 have s2 : ∀ x ∈ nfd L, x < 4294967296 := fun x hx => s1 x (su.1 hx)
 have s3 : ∀ x ∈ nfc L, x < 4294967296 := Tq s2
 exact ⟨bT L, nfd L, nfc L, bT (nfc L), rfl, rfl, rfl, rfl, BF L, acf L, s1, s2, s3, fun x hx => (qN s3 x hx).2, (pG L).2, qO _, yH L, (pG _).2⟩
end Go.Proofs.YthlflglkdaainaaGreatDoor
