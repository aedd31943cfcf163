import Derived.Below
import Derived.Deep.Draws
import Derived.Deep.AppendLies
import Derived.Maps.AppendAt
import Derived.OwnWalk
import Derived.Laws.BytesArg
import Derived.Laws.MakeOwn
import Derived.Laws.OwnMore
import Derived.Deep.OwnRows
import Derived.Tactics
import Derived.Lib.ConvBytes
import Derived.Laws.Slices
import Derived.WalkKit
import Derived.KernelRfl
import Derived.RowKit3
import Derived.Deep.LoopGhost
import Derived.Deep.QuietTactic
import Derived.BigQuiet
import Derived.WideLaws
import Derived.Deep.DeepCutAuto
import Derived.Deep.CutBlock
import Derived.Deep.RegionHeld3
import Derived.Laws.Rows
import Derived.Lib.AppendStr
import Derived.ArgAppend
import Derived.Laws.IdiomCopy
import Derived.RowKit
import Derived.OrdersHeld
import Derived.Laws.BitsLemmas
import Derived.Laws.StructEq
/- Texts of this seat: WWords, WLast, WTab, WFour, WQPut, WApart, WArr, WZeros, WFoot, WKept, WShare, WN, amw, WAt, ahX, aiS, WInv, ahY, WGuard, WNEv, WMore. -/
set_option maxRecDepth 100000
set_option maxHeartbeats 16000000
set_option linter.unusedVariables false
set_option linter.unusedSimpArgs false
namespace Go.Proofs.YthlflglkdaainaaGreatDoorW.aN
open Go.RowKit
structure ah (p : Prop) : Prop where mk :: (out : p)
structure aY (w w' : World) : Prop where mk :: (out : ∃ n, w' = w.drewN n)
theorem aY.refl (w : World) : aY w w := ⟨⟨0, rfl⟩⟩
theorem aY.step {w w' : World} (h : aY w w') (n : Nat) : aY w (w'.drewN n) := by
 obtain ⟨m, rfl⟩ := h
 exact ⟨⟨m + n, World.drewN_drewN ..⟩⟩
theorem aY.below {w w' : World} (h : aY w w') : Below w.heap.size w w' := by
 obtain ⟨n, rfl⟩ := h
 induction n with
 | zero => exact Below.refl _ _
 | succ n ih => rw [← World.drew_drewN]; exact ih.drew
def rd (xs : List Int) (i : Int) : Int := xs.getD i.toNat 0
def bt (s : ByteArray) (i : Int) : Int := if h : i.toNat < s.size then ((s[i.toNat]'h).toNat : Int) else 0
theorem Og (s : ByteArray) (i : Int) : ∀ h : i.toNat < s.size, ((s[i.toNat]'h).toNat : Int) = bt s i := fun h => by simp [bt, h]
theorem aI {w W : World} (h : Below w.heap.size w W) (o : Obj) : Below w.heap.size w (W.alloc o) := h.alloc h.size o
theorem uI {B : Nat} {w W : World} (h : Below B w W) : Below B w W.drew := ⟨h.os, h.tape, h.output, h.size, h.block⟩
theorem bG {B : Nat} {w W : World} (h : Below B w W) (n : Nat) : Below B w (W.drewN n) := ⟨h.os, h.tape, h.output, h.size, h.block⟩
theorem yQ {B : Nat} {w w1 w2 : World} (h : Below B w w1) (hB : B ≤ w1.heap.size) (k : Below w1.heap.size w1 w2) : Below B w w2 :=
 h.trans ⟨k.os, k.tape, k.output, k.size, fun i hi => k.block i (Nat.lt_of_lt_of_le hi hB)⟩
theorem fZ {w w1 : World} (h : Below w.heap.size w w1) {a : Addr} {v : Value} (hc : w.cell? a = some v) : w1.cell? a = some v := (h.cell (World.block_lt_of_cell? w a hc)).trans hc
theorem add_plain (g j : Nat) : (⟨g, 0, none⟩ : Addr).add j = ⟨g, j, none⟩ := by unfold Addr.add; split <;> simp_all
def aas (w : World) (k : IntKind) (A : Option Addr) (n : Nat) (xs : List Int) : Prop :=
 xs.length = n ∧ n ≤ 9223372036854775807 ∧ (0 < n → ∃ ad, A = some ad ∧ ∀ j, j < n → w.cell? (ad.add j) = some (.int k (xs.getD j 0)))
theorem adQ (W : World) (base : Nat) (e : TypeId) (size : Nat) : W.ownsRow base e size (.slice none 0 0) 0 [] := ⟨by simp, .inl ⟨rfl, rfl⟩⟩
theorem own_base {w : World} {base : Nat} {e : TypeId} {size n : Nat} {v : Value} {xs : List Value} (h : w.ownsRow base e size v n xs) (k : Nat) (hk : v.ownBlock = some k) : base ≤ k := by
 rcases h.2 with ⟨rfl, _⟩ | ⟨g, cap, cur, rfl, hb, _⟩
 · simp [Value.ownBlock] at hk
 · have : g = k := by simpa [Value.ownBlock] using hk
   omega
theorem aat {w : World} {base : Nat} {e : TypeId} {size n : Nat} {v : Value} {xs : List Value} (h : w.ownsRow base e size v n xs) (k : Nat) (hk : v.ownBlock = some k) : k < w.heap.size := by
 rcases h.2 with ⟨rfl, _⟩ | ⟨g, cap, cur, rfl, hb, hh, _⟩
 · simp [Value.ownBlock] at hk
 · have : g = k := by simpa [Value.ownBlock] using hk
   subst this
   exact (Array.getElem?_eq_some_iff.1 hh).1
def kY {α : Type} (R : α → List Value → Prop) (size : Nat) (ps : List α) (cs : List Value) : Prop :=
 cs.length = ps.length * size ∧ ∀ j p, ps[j]? = some p → R p ((cs.drop (j * size)).take size)
theorem kY.none {α : Type} (R : α → List Value → Prop) (size : Nat) : kY R size [] [] := ⟨by simp, fun j p h => by simp at h⟩
theorem kY.snoc {α : Type} {R : α → List Value → Prop} {size : Nat} {ps : List α} {cs c : List Value} {p : α} (h : kY R size ps cs) (hp : R p c) (hc : c.length = size) : kY R size (ps ++ [p]) (cs ++ c) := by
 refine ⟨by rw [List.length_append, h.1, hc, List.length_append, List.length_singleton, Nat.add_mul, Nat.one_mul], fun j q hq => ?_⟩
 rcases Nat.lt_or_ge j ps.length with hj | hj
 · rw [List.getElem?_append_left hj] at hq
   have h1 : j * size + size ≤ cs.length := by rw [h.1, ← Nat.succ_mul]; exact Nat.mul_le_mul_right _ hj
   have h2 := h.2 j q hq
   rw [List.drop_append_of_le_length (by omega), List.take_append_of_le_length (by rw [List.length_drop]; omega)]
   exact h2
 · have hj' : j = ps.length := by
     have := (List.getElem?_eq_some_iff.1 hq).1
     rw [List.length_append, List.length_singleton] at this
     omega
   subst hj'
   have hq' : p = q := by simpa using hq
   subst hq'
   rw [← h.1, List.drop_left, ← hc, List.take_length]
   exact hp
theorem kY.yR {α : Type} {R R' : α → List Value → Prop} {size : Nat} {ps : List α} {cs : List Value} (h : kY R size ps cs) (hR : ∀ p c, R p c → R' p c) : kY R' size ps cs := ⟨h.1, fun j p hj => hR _ _ (h.2 j p hj)⟩
def iH {α : Type} (R : α → List Value → Prop) (size : Nat) (w : World) (A : Option Addr) (n : Nat) (ps : List α) : Prop :=
 ps.length = n ∧ n ≤ 9223372036854775807 ∧ (0 < n → ∃ ad, A = some ad ∧ ∀ j p, ps[j]? = some p → ∃ c, c.length = size ∧ R p c ∧ ∀ i u, c[i]? = some u → w.cell? (ad.add (j * size + i)) = some u)
theorem iH.get_ {α : Type} {R : α → List Value → Prop} {size : Nat} {w : World} {A : Option Addr} {n : Nat} {ps : List α} (h : iH R size w A n ps) (d : α) (i : Int) (h0 : 0 ≤ i) (h1 : i < n) :
    ∃ ad c, A = some ad ∧ c.length = size ∧ R (ps.getD i.toNat d) c ∧ ∀ j u, c[j]? = some u → w.cell? (ad.add (i.toNat * size + j)) = some u := by
 obtain ⟨ad, e, hc⟩ := h.2.2 (by omega)
 have hl : i.toNat < ps.length := by have := h.1; omega
 obtain ⟨c, hs, hr, hcell⟩ := hc i.toNat _ (List.getElem?_eq_getElem hl)
 refine ⟨ad, c, e, hs, ?_, hcell⟩
 rw [List.getD_eq_getElem?_getD, List.getElem?_eq_getElem hl]
 exact hr
theorem iH.yR {α : Type} {R R' : α → List Value → Prop} {size : Nat} {w w1 : World} {A : Option Addr} {n : Nat} {ps : List α} (h : iH R size w A n ps) (hb : Below w.heap.size w w1) (hR : ∀ p c, R p c → R' p c) : iH R' size w1 A n ps :=
 ⟨h.1, h.2.1, fun hn => by
  obtain ⟨ad, e, hc⟩ := h.2.2 hn
  refine ⟨ad, e, fun j p hj => ?_⟩
  obtain ⟨c, hs, hr, hcell⟩ := hc j p hj
  exact ⟨c, hs, hR _ _ hr, fun i u hu => fZ hb (hcell i u hu)⟩⟩
theorem IC {α : Type} {R : α → List Value → Prop} {w : World} {base n size : Nat} {e : TypeId} {v : Value} {ps : List α} {cs : List Value} (h : w.ownsRow base e size v n cs) (hR : kY R size ps cs) (hn : ps.length = n) :
    ∃ A c, v = .slice A n c ∧ iH R size w A n ps := by
 rcases Nat.eq_zero_or_pos n with h0 | h0
 · rcases h.2 with ⟨rfl, rfl⟩ | ⟨g, cap, cur, rfl, _⟩
   · exact ⟨none, 0, rfl, hn, by omega, fun hp => absurd hp (by omega)⟩
   · exact ⟨_, cap, rfl, hn, by omega, fun hp => absurd hp (by omega)⟩
 · obtain ⟨g, cap, rfl, _, _⟩ := h.form h0
   have hm : n ≤ 9223372036854775807 := by
    rcases h.2 with ⟨_, h1⟩ | ⟨g', cap', cur, he, _, _, h1, h2, _⟩
    · omega
    · simp only [maxLen] at h2
      omega
   refine ⟨_, cap, rfl, hn, hm, fun _ => ⟨_, rfl, fun j p hj => ⟨(cs.drop (j * size)).take size, ?_, hR.2 j p hj, fun i u hu => ?_⟩⟩⟩
   · have hjl := (List.getElem?_eq_some_iff.1 hj).1
     have h1 : j * size + size ≤ cs.length := by rw [hR.1, ← Nat.succ_mul]; exact Nat.mul_le_mul_right _ hjl
     rw [List.length_take, List.length_drop]
     omega
   · refine h.cells (g := g) rfl _ u ?_
     rw [List.getElem?_take] at hu
     split at hu
     · rw [List.getElem?_drop] at hu
       exact hu
     · cases hu
theorem kG (ad : Addr) (m j : Nat) (hj : 0 < j) : ad.add (m + j) = ⟨(ad.add m).block, (ad.add m).off + j, none⟩ := by
 unfold Addr.add
 by_cases hm : m = 0
 · subst hm
   simp [Nat.ne_of_gt hj]
 · simp [hm, Nat.add_assoc]
section
variable {P : Program} {ops : Array Oper} {rest : List Oper} {o : Oper} {a : Act} {Q : Exit → Act → World → Prop}
theorem yS {w0 W : World} (base : Nat) (hgd : o.guard = none) (s x : Operand) (t e : TypeId) (z : Value) (size bytes : Nat)
    (ho : o.op = .call { callee := .builtin .append, args := #[s, x], argTypes := #[t, t] })
    (ht : P.underlying t = some (.slice e)) (hinfo : (P.info? e).map (fun i => (i.zero, i.size, i.bytes)) = some (some z, size, bytes)) (hz : z.cells.size = size) (hs0 : 0 < size) (hb0 : 0 < bytes)
    (v : Value) (n : Nat) (xs ys : List Value) (hs : a.eval s = v) (hx : a.eval x = .slice (some ⟨W.heap.size, 0, none⟩) 1 1) (hys : ys.length = size) (h1 : ∀ u ∈ ys, u.oneCell' = true)
    (HO : W.ownsRow base e size v n xs) (HB : Below base w0 W) (hbase : base ≤ W.heap.size) (hl : (n + 1) * bytes ≤ 140737488355328)
    (h : ∀ v1 w1, w1.ownsRow base e size v1 (n + 1) (xs ++ ys) → Below base w0 w1 → W.grownBy w1 v.ownBlock → (v1.ownBlock = v.ownBlock ∨ ∃ b, v1.ownBlock = some b ∧ W.heap.size ≤ b) → wpList P ops Q rest (a.put o.dst v1) w1) :
    wpList P ops Q (o :: rest) a (W.alloc (.cells ys.toArray e)) := by
 obtain ⟨i0, hi, hzz⟩ := Option.map_eq_some_iff.1 hinfo
 simp only [Prod.mk.injEq] at hzz
 obtain ⟨hz0, hz1, hz2⟩ := hzz
 have hlen : n + 1 ≤ 140737488355328 := Nat.le_trans (Nat.le_mul_of_pos_right _ hb0) hl
 refine wpList_append_own_at (W.alloc (.cells ys.toArray e)) hgd s x t ho base e i0 z size bytes ht hi hz0 hz1 hz2 hz hs0 v n xs hs (HO.alloc _) ⟨W.heap.size, 0, none⟩ 1 1 ys hx (by rw [hys]; simp)
  (by simpa using World.news_of_block (cs := ys.toArray) (t := e) (fr := (0, 0)) (heap_alloc_new W (.cells ys.toArray e))) h1 (by simp only [maxLen]; omega) hl (by simp; omega) ?_
 intro v1 w1 hown hg _ hat
 refine h v1 w1 hown ((HB.alloc hbase _).grown hg (by simp; omega) (own_base HO)) (World.grownBy.trans (World.grownBy_alloc W _ _) hg) ?_
 rcases hat with hat | hat
 · exact .inl hat
 · exact .inr ⟨_, hat, by simp⟩
end
theorem VE {w : World} {g : Nat} {t : TypeId} {cs : Array Value} (h : w.heap[g]? = some (.cells cs t (0, 0))) (i : Nat) (u : Value) : (w.setCell ⟨g, i, none⟩ u).heap[g]? = some (.cells (cs.setIfInBounds i u) t (0, 0)) := by
 simp [World.setCell, Array.getElem?_modify, h]
theorem aV {w : World} {g : Nat} {t : TypeId} {cs : Array Value} (h : w.heap[g]? = some (.cells cs t (0, 0))) (i : Nat) : w.cell? ⟨g, i, none⟩ = cs[i]? := cell_of_row w g i cs t (0, 0) h
theorem aA {w : World} {g : Nat} {t : TypeId} {cs : Array Value} (h : w.heap[g]? = some (.cells cs t (0, 0))) (i : Nat) : w.frozen? ⟨g, i, none⟩ = false := by simp [World.frozen?, h]
def Ev {α : Type} (g : Nat → Option α) (r : α) : Prop := ∃ K, ∀ k, K ≤ k → g k = some r
theorem Ev.rounds {α : Type} {g : Nat → Option α} {r : α} (h : Ev g r) : ∃ k, g k = some r := by
 obtain ⟨K, h⟩ := h
 exact ⟨K, h K (Nat.le_refl _)⟩
theorem Ev.congr {α : Type} {g f : Nat → Option α} {r : α} (h : ∀ k, g k = f k) (k : Ev f r) : Ev g r := by
 obtain ⟨K, k⟩ := k
 exact ⟨K, fun n hn => (h n).trans (k n hn)⟩
section
variable {P : Program} {ops : Array Oper} {o : Oper} {a : Act} {Q : Exit → Act → World → Prop} {K : Act → World → Prop}
theorem AP {w0 W : World} (base : Nat) (hw : Region.wanted o (yielded ops a.tmps) = true) (s x : Operand) (t e : TypeId) (z : Value) (size bytes : Nat)
    (ho : o.op = .call { callee := .builtin .append, args := #[s, x], argTypes := #[t, t] })
    (ht : P.underlying t = some (.slice e)) (hinfo : (P.info? e).map (fun i => (i.zero, i.size, i.bytes)) = some (some z, size, bytes)) (hz : z.cells.size = size) (hs0 : 0 < size) (hb0 : 0 < bytes)
    (v : Value) (n : Nat) (xs ys : List Value) (hs : a.eval s = v) (hx : a.eval x = .slice (some ⟨W.heap.size, 0, none⟩) 1 1) (hys : ys.length = size) (h1 : ∀ u ∈ ys, u.oneCell' = true)
    (HO : W.ownsRow base e size v n xs) (HB : Below base w0 W) (hbase : base ≤ W.heap.size) (hl : (n + 1) * bytes ≤ 140737488355328)
    (h : ∀ v1 w1, w1.ownsRow base e size v1 (n + 1) (xs ++ ys) → Below base w0 w1 → W.grownBy w1 v.ownBlock → (v1.ownBlock = v.ownBlock ∨ ∃ b, v1.ownBlock = some b ∧ W.heap.size ≤ b) → K (a.put o.dst v1) w1) :
    if Region.wanted o (yielded ops a.tmps) = true then Oper.wp P o a (W.alloc (.cells ys.toArray e)) K Q else K (a.put o.dst undef) (W.alloc (.cells ys.toArray e)) := by
 obtain ⟨i0, hi, hzz⟩ := Option.map_eq_some_iff.1 hinfo
 simp only [Prod.mk.injEq] at hzz
 obtain ⟨hz0, hz1, hz2⟩ := hzz
 have hlen : n + 1 ≤ 140737488355328 := Nat.le_trans (Nat.le_mul_of_pos_right _ hb0) hl
 rw [if_pos hw]
 obtain ⟨v1, w1, hr, hown, hg, _, hat⟩ := run_append_own_at (P := P) (W.alloc (.cells ys.toArray e)) base t o.type e i0 z size bytes ht hi hz0 hz1 hz2 hz hs0 v n xs (HO.alloc _) ⟨W.heap.size, 0, none⟩ 1 1 ys (by rw [hys]; simp)
  (by simpa using World.news_of_block (cs := ys.toArray) (t := e) (fr := (0, 0)) (heap_alloc_new W (.cells ys.toArray e))) h1 (by simp only [maxLen]; omega) hl (by simp; omega)
 unfold Oper.wp execOp
 simp only [ho, resolve, invoke, builtin, Sem.run_bind, Sem.run_pure, Result.andThen_ok, List.map_toArray, List.map_cons, List.map_nil, hs, hx, hr]
 refine h v1 w1 hown ((HB.alloc hbase _).grown hg (by simp; omega) (own_base HO)) (World.grownBy.trans (World.grownBy_alloc W _ _) hg) ?_
 rcases hat with hat | hat
 · exact .inl hat
 · exact .inr ⟨_, hat, by simp⟩
end
theorem RD {w : World} {base base' : Nat} {e : TypeId} {size n : Nat} {v : Value} {xs : List Value} (h : w.ownsRow base e size v n xs) (hb : base' ≤ base) : w.ownsRow base' e size v n xs := by
 obtain ⟨h1, h2⟩ := h
 refine ⟨h1, ?_⟩
 rcases h2 with h2 | ⟨g, cap, cur, rfl, hg, r⟩
 · exact .inl h2
 · exact .inr ⟨g, cap, cur, rfl, Nat.le_trans hb hg, r⟩
section
variable {α : Type} {enc : α → Value} {d : α}
def encs (enc : α → Value) (xs : List α) : List Value := xs.map enc
def fQ (d : α) (xs : List α) (i : Int) : α := xs.getD i.toNat d
theorem Du (xs : List α) : (encs enc xs).length = xs.length := by simp [encs]
theorem aau (xs : List α) (j : Nat) (h : j < xs.length) : (encs enc xs)[j]? = some (enc (xs.getD j d)) := by
 simp [encs, List.getElem?_eq_getElem h, List.getD_eq_getElem?_getD]
def AQ (enc : α → Value) (d : α) (w : World) (A : Option Addr) (n : Nat) (xs : List α) : Prop :=
 xs.length = n ∧ n ≤ 9223372036854775807 ∧ (0 < n → ∃ ad, A = some ad ∧ ∀ j, j < n → w.cell? (ad.add j) = some (enc (xs.getD j d)))
theorem AQ.at_ {w : World} {A : Option Addr} {n : Nat} {xs : List α} (h : AQ enc d w A n xs) (i : Int) (h0 : 0 ≤ i) (h1 : i < n) : ∃ ad, A = some ad ∧ w.cell? (ad.add i.toNat) = some (enc (fQ d xs i)) := by
 obtain ⟨ad, e, hc⟩ := h.2.2 (by omega)
 exact ⟨ad, e, hc _ (by omega)⟩
theorem JA {W : World} {base g n cap : Nat} {e : TypeId} {xs : List α} (h : W.ownsRow base e 1 (.slice (some ⟨g, 0, none⟩) n cap) n (encs enc xs)) (i : Int) (h0 : 0 ≤ i) (h1 : i < n) :
    W.cell? ⟨g, i.toNat, none⟩ = some (enc (fQ d xs i)) ∧ W.frozen? ⟨g, i.toNat, none⟩ = false := by
 have hl : xs.length = n := by have := h.1; simp [encs] at this; exact this
 constructor
 · have hc := h.cells (g := g) rfl i.toNat _ (aau (d := d) xs i.toNat (by omega))
   rwa [add_plain] at hc
 · rcases h.2 with ⟨h', _⟩ | ⟨g', cap', cur, h', _, hh, _⟩
   · cases h'
   · have : g = g' := by injection h' with h'; injection h' with h'; injection h' with h'
     subst this
     simp [World.frozen?, hh]
theorem AU {W : World} {base g n cap : Nat} {e : TypeId} {xs : List α} (h : W.ownsRow base e 1 (.slice (some ⟨g, 0, none⟩) n cap) n (encs enc xs)) (i : Int) (x : α) :
    (W.setCell ⟨g, i.toNat, none⟩ (enc x)).ownsRow base e 1 (.slice (some ⟨g, 0, none⟩) n cap) n (encs enc (xs.set i.toNat x)) ∧ W.grownBy (W.setCell ⟨g, i.toNat, none⟩ (enc x)) (some g) := by
 have hs := h.stored i.toNat (enc x)
 have he : (encs enc xs).set i.toNat (enc x) = encs enc (xs.set i.toNat x) := by simp [encs, List.map_set]
 rwa [he] at hs
end
theorem kK {w : World} {g : Nat} {o : Obj} (h : w.heap[g]? = some o) (n : Nat) : (w.drewN n).heap[g]? = some o := h
theorem Na (w : World) (o : Obj) : (w.alloc o).heap[w.heap.size]? = some o := heap_alloc_new w o
theorem agT {w : World} {base n m c size : Nat} {e : TypeId} {A : Option Addr} {xs : List Value} (h : w.ownsRow base e size (.slice A m c) n xs) : m ≤ c := by
 rcases h.2 with ⟨he, _⟩ | ⟨g, cap, cur, he, _, _, hnc, _⟩
 · injection he with _ h2 h3
   omega
 · injection he with _ h2 h3
   omega
def rJ {α : Type} (R : α → List Value → Prop) (e : TypeId) (size : Nat) (w : World) (base : Nat) (v : Value) (ps : List α) : Prop :=
 ∃ inner, w.ownsRow base e size v ps.length inner ∧ kY R size ps inner
section
variable {α : Type} {R R' : α → List Value → Prop} {e : TypeId} {size : Nat} {w w1 : World} {base : Nat} {v : Value} {ps : List α}
theorem rJ.none_ (R : α → List Value → Prop) (e : TypeId) (size : Nat) (w : World) (base : Nat) : rJ R e size w base (.slice none 0 0) [] := ⟨[], adQ _ _ _ _, kY.none _ _⟩
theorem rJ.yR (h : rJ R e size w base v ps) (hR : ∀ p c, R p c → R' p c) : rJ R' e size w base v ps := by
 obtain ⟨inner, ho, hr⟩ := h
 exact ⟨inner, ho, hr.yR hR⟩
theorem rJ.reads (h : rJ R e size w base v ps) : ∃ A c, v = .slice A ps.length c ∧ ps.length ≤ c ∧ iH R size w A ps.length ps := by
 obtain ⟨inner, ho, hr⟩ := h
 obtain ⟨A, c, rfl, hrow⟩ := IC ho hr rfl
 exact ⟨A, c, rfl, agT ho, hrow⟩
end
theorem iH.agU {α : Type} {R : α → List Value → Prop} {size : Nat} {w : World} {ad : Addr} {n : Nat} {ps : List α} (h : iH R size w (some ad) n ps) :
    ∃ inner, kY R size ps inner ∧ ∀ j u, inner[j]? = some u → w.cell? (ad.add j) = some u := by
 have key : ∀ m, m ≤ ps.length → ∃ inner, kY R size (ps.take m) inner ∧ ∀ j u, inner[j]? = some u → w.cell? (ad.add j) = some u := by
  intro m
  induction m with
  | zero => exact fun _ => ⟨[], kY.none _ _, fun j u hu => by simp at hu⟩
  | succ m ih =>
   intro hm
   obtain ⟨inner, hr, hc⟩ := ih (by omega)
   obtain ⟨ad', he, hcell⟩ := h.2.2 (by have := h.1; omega)
   injection he with he
   subst he
   obtain ⟨c, hcl, hp, hcc⟩ := hcell m _ (List.getElem?_eq_getElem (show m < ps.length by omega))
   refine ⟨inner ++ c, ?_, fun j u hu => ?_⟩
   · rw [List.take_succ_eq_append_getElem (show m < ps.length by omega)]
     exact hr.snoc hp hcl
   · have hil : inner.length = m * size := by rw [hr.1, List.length_take, Nat.min_eq_left (by omega)]
     rcases Nat.lt_or_ge j inner.length with hj | hj
     · rw [List.getElem?_append_left hj] at hu
       exact hc j u hu
     · rw [List.getElem?_append_right hj] at hu
       have := hcc (j - inner.length) u hu
       rwa [hil, Nat.add_sub_cancel' (by omega)] at this
 obtain ⟨inner, hr, hc⟩ := key ps.length (Nat.le_refl _)
 rw [List.take_length] at hr
 exact ⟨inner, hr, hc⟩
structure Kd (α : Type) where
 sz : Nat
 E : List Nat
 K : World → α → List Value → Prop
 M : World → Nat → (Nat → Prop) → α → List Value → Prop
 qW : ∀ {w x cs}, K w x cs → cs.length = sz
 qX : ∀ {w x cs}, K w x cs → ∀ u ∈ cs, u.oneCell' = true
 oW : ∀ {w w1 : World} {x cs}, Below w.heap.size w w1 → K w x cs → K w1 x cs
 jC : ∀ {w base ok x cs}, M w base ok x cs → K w x cs
 iy : ∀ {w base ok ok' x cs}, (∀ k, ok k → ok' k) → M w base ok x cs → M w base ok' x cs
 jK : ∀ {w : World} {base ok x cs}, M w base ok x cs → M w base (fun k => ok k ∧ base ≤ k ∧ k < w.heap.size ∧ ∃ q, q ∈ E ∧ ∃ cells, w.heap[k]? = some (.cells cells q (0, 0))) x cs
 ni : ∀ {w w1 : World} {base ok x cs}, (∀ k, ok k → w1.heap[k]? = w.heap[k]?) → M w base ok x cs → M w1 base ok x cs
 oZ : ∀ {w base base' ok x cs}, base' ≤ base → M w base ok x cs → M w base' ok x cs
theorem aav {w w1 : World} {base : Nat} {e : TypeId} {size n : Nat} {v : Value} {xs : List Value} (h : w.ownsRow base e size v n xs) (hm : ∀ k, v.ownBlock = some k → w1.heap[k]? = w.heap[k]?) : w1.ownsRow base e size v n xs := by
 obtain ⟨h1, h2⟩ := h
 refine ⟨h1, ?_⟩
 rcases h2 with h2 | ⟨g, cap, cur, rfl, hg, hh, r⟩
 · exact .inl h2
 · exact .inr ⟨g, cap, cur, rfl, hg, (hm g (by simp [Value.ownBlock])).trans hh, r⟩
theorem Cm {w : World} {base : Nat} {e : TypeId} {size n : Nat} {v : Value} {xs : List Value} (h : w.ownsRow base e size v n xs) (k : Nat) (hk : v.ownBlock = some k) : ∃ cells, w.heap[k]? = some (.cells cells e (0, 0)) := by
 rcases h.2 with ⟨rfl, _⟩ | ⟨g, cap, cur, rfl, hg, hh, r⟩
 · simp [Value.ownBlock] at hk
 · have : g = k := by simpa [Value.ownBlock] using hk
   subst this
   exact ⟨cur, hh⟩
namespace Kd
def C {α : Type} (d : Kd α) (w : World) (A : Option Addr) (n : Nat) (xs : List α) : Prop := iH (d.K w) d.sz w A n xs
def R {α : Type} (d : Kd α) (e : Nat) (w : World) (base : Nat) (ok : Nat → Prop) (v : Value) (xs : List α) : Prop :=
 (∀ k, v.ownBlock = some k → ok k) ∧ rJ (d.M w base (fun k => ok k ∧ some k ≠ v.ownBlock)) e d.sz w base v xs
section
variable {α : Type} {d : Kd α} {e : Nat} {w w1 : World} {base : Nat} {ok ok' : Nat → Prop} {v : Value} {xs : List α}
theorem aT {A : Option Addr} {n : Nat} (h : d.C w A n xs) (hb : Below w.heap.size w w1) : d.C w1 A n xs := iH.yR h hb (fun _ _ hp => d.oW hb hp)
theorem mP (d : Kd α) (e : Nat) (w : World) (base : Nat) (ok : Nat → Prop) : d.R e w base ok (.slice none 0 0) [] := ⟨fun k hk => by simp [Value.ownBlock] at hk, rJ.none_ _ _ _ _ _⟩
theorem dF (h : d.R e w base ok v xs) (hok : ∀ k, ok k → ok' k) : d.R e w base ok' v xs := ⟨fun k hk => hok k (h.1 k hk), h.2.yR (fun _ _ hp => d.iy (fun k hk => ⟨hok k hk.1, hk.2⟩) hp)⟩
theorem dR (h : d.R e w base ok v xs) : d.R e w base (fun k => ok k ∧ base ≤ k ∧ k < w.heap.size ∧ ∃ q, q ∈ e :: d.E ∧ ∃ cells, w.heap[k]? = some (.cells cells q (0, 0))) v xs := by
 obtain ⟨h0, inner, ho, hr⟩ := h
 refine ⟨fun k hk => ?_, inner, ho, hr.yR (fun _ _ hp => d.iy (fun k hk => ?_) (d.jK hp))⟩
 · obtain ⟨cells, hc⟩ := Cm ho k hk
   exact ⟨h0 k hk, own_base ho k hk, aat ho k hk, e, List.mem_cons_self, cells, hc⟩
 · obtain ⟨⟨h1, h2⟩, h3, h4, q, hq, hc⟩ := hk
   exact ⟨⟨h1, h3, h4, q, List.mem_cons_of_mem _ hq, hc⟩, h2⟩
theorem yT (h : d.R e w base ok v xs) (hm : ∀ k, ok k → w1.heap[k]? = w.heap[k]?) : d.R e w1 base ok v xs := by
 obtain ⟨h0, inner, ho, hr⟩ := h
 exact ⟨h0, inner, aav ho (fun k hk => hm k (h0 k hk)), hr.yR (fun _ _ hp => d.ni (fun k hk => hm k hk.1) hp)⟩
theorem dY {base' : Nat} (h : d.R e w base ok v xs) (hb : base' ≤ base) : d.R e w base' ok v xs := by
 obtain ⟨h0, inner, ho, hr⟩ := h
 exact ⟨h0, inner, RD ho hb, hr.yR (fun _ _ hp => d.oZ hb hp)⟩
theorem CB (h : d.R e w base ok v xs) (hm : ∀ k, ok k → k < w.heap.size → w1.heap[k]? = w.heap[k]?) : d.R e w1 base ok v xs :=
 dF (yT (dR h) (fun k hk => hm k hk.1 hk.2.2.1)) (fun _ hk => hk.1)
theorem RF {x : α} {cs : List Value} (h : d.M w base ok x cs) (hm : ∀ k, ok k → k < w.heap.size → w1.heap[k]? = w.heap[k]?) : d.M w1 base ok x cs :=
 d.iy (fun _ hk => hk.1) (d.ni (fun k hk => hm k hk.1 hk.2.2.1) (d.jK h))
theorem dw (h : d.R e w base ok v xs) (hb : Below w.heap.size w w1) : d.R e w1 base ok v xs := CB h (fun k _ hk => hb.block k hk)
theorem adR {x : α} {cs : List Value} (h : d.M w base ok x cs) (hb : Below w.heap.size w w1) : d.M w1 base ok x cs := RF h (fun k _ hk => hb.block k hk)
theorem nR (h : d.R e w base ok v xs) {row : Option Nat} (hg : w.grownBy w1 row) (hok : ∀ k, ok k → some k ≠ row) : d.R e w1 base ok v xs := CB h (fun k ho hk => hg.block k hk (hok k ho))
theorem Gp (h : d.R e w base ok v xs) {p : Addr} (hok : ∀ k, ok k → k ≠ p.block) (u : Value) : d.R e (w.setCell p u) base ok v xs := CB h (fun k ho _ => Below.heap_setCell w p u k (hok k ho))
theorem aaw {x : α} {cs : List Value} (h : d.M w base ok x cs) {p : Addr} (hok : ∀ k, ok k → k ≠ p.block) (u : Value) : d.M (w.setCell p u) base ok x cs := RF h (fun k ho _ => Below.heap_setCell w p u k (hok k ho))
theorem Nb (h : d.R e w base ok v xs) : ∃ A c, v = .slice A xs.length c ∧ xs.length ≤ c ∧ d.C w A xs.length xs := by
 obtain ⟨A, c, he, hl, hr⟩ := rJ.reads h.2
 exact ⟨A, c, he, hl, hr.yR (Below.refl _ _) (fun _ _ hp => d.jC hp)⟩
theorem bW (h : d.R e w base ok v xs) : ∃ A c, v = .slice A xs.length c := by
 obtain ⟨A, c, he, _⟩ := Nb h
 exact ⟨A, c, he⟩
theorem aax (h : d.R e w base ok v xs) : ∃ inner, w.ownsRow base e d.sz v xs.length inner := by
 obtain ⟨_, inner, ho, _⟩ := h
 exact ⟨inner, ho⟩
end
def scalar {α : Type} (enc : α → Value) (h1 : ∀ x, (enc x).oneCell' = true) : Kd α where
 sz := 1
 E := []
 K := fun _ x cs => cs = [enc x]
 M := fun _ _ _ x cs => cs = [enc x]
 qW := fun h => by rw [h]; rfl
 qX := fun h u hu => by
  rw [h] at hu
  rw [List.mem_singleton.1 hu]
  exact h1 _
 oW := fun _ h => h
 jC := fun h => h
 iy := fun _ h => h
 jK := fun h => h
 ni := fun _ h => h
 oZ := fun _ h => h
def int (k : IntKind) : Kd Int := scalar (Value.int k) (fun _ => rfl)
def bool : Kd Bool := scalar Value.bool (fun _ => rfl)
def string : Kd ByteArray := scalar Value.string (fun _ => rfl)
def slice {α : Type} (e : Nat) (d : Kd α) : Kd (List α) where
 sz := 1
 E := e :: d.E
 K := fun w xs cs => ∃ A c, cs = [.slice A xs.length c] ∧ xs.length ≤ c ∧ d.C w A xs.length xs
 M := fun w base ok xs cs => ∃ v, cs = [v] ∧ d.R e w base ok v xs
 qW := by
  rintro w x cs ⟨A, c, rfl, _⟩
  rfl
 qX := by
  rintro w x cs ⟨A, c, rfl, _⟩ u hu
  rw [List.mem_singleton.1 hu]
  rfl
 oW := by
  rintro w w1 x cs hb ⟨A, c, rfl, hl, hr⟩
  exact ⟨A, c, rfl, hl, aT hr hb⟩
 jC := by
  rintro w base ok x cs ⟨v, rfl, h⟩
  obtain ⟨A, c, rfl, hl, hr⟩ := Nb h
  exact ⟨A, c, rfl, hl, hr⟩
 iy := by
  rintro w base ok ok' x cs hok ⟨v, rfl, h⟩
  exact ⟨v, rfl, dF h hok⟩
 jK := by
  rintro w base ok x cs ⟨v, rfl, h⟩
  exact ⟨v, rfl, dR h⟩
 ni := by
  rintro w w1 base ok x cs hm ⟨v, rfl, h⟩
  exact ⟨v, rfl, yT h hm⟩
 oZ := by
  rintro w base base' ok x cs hb ⟨v, rfl, h⟩
  exact ⟨v, rfl, dY h hb⟩
def pair {α β : Type} (a : Kd α) (b : Kd β) : Kd (α × β) where
 sz := a.sz + b.sz
 E := a.E ++ b.E
 K := fun w x cs => ∃ c0 c1, cs = c0 ++ c1 ∧ a.K w x.1 c0 ∧ b.K w x.2 c1
 M := fun w base ok x cs => ∃ c0 c1, cs = c0 ++ c1 ∧ a.M w base ok x.1 c0 ∧ b.M w base ok x.2 c1
 qW := by
  rintro w x cs ⟨c0, c1, rfl, h0, h1⟩
  rw [List.length_append, a.qW h0, b.qW h1]
 qX := by
  rintro w x cs ⟨c0, c1, rfl, h0, h1⟩ u hu
  rcases List.mem_append.1 hu with hu | hu
  · exact a.qX h0 u hu
  · exact b.qX h1 u hu
 oW := by
  rintro w w1 x cs hb ⟨c0, c1, rfl, h0, h1⟩
  exact ⟨c0, c1, rfl, a.oW hb h0, b.oW hb h1⟩
 jC := by
  rintro w base ok x cs ⟨c0, c1, rfl, h0, h1⟩
  exact ⟨c0, c1, rfl, a.jC h0, b.jC h1⟩
 iy := by
  rintro w base ok ok' x cs hok ⟨c0, c1, rfl, h0, h1⟩
  exact ⟨c0, c1, rfl, a.iy hok h0, b.iy hok h1⟩
 jK := by
  rintro w base ok x cs ⟨c0, c1, rfl, h0, h1⟩
  refine ⟨c0, c1, rfl, a.iy ?_ (a.jK h0), b.iy ?_ (b.jK h1)⟩
  · rintro k ⟨h2, h3, h4, q, hq, hc⟩
    exact ⟨h2, h3, h4, q, List.mem_append_left _ hq, hc⟩
  · rintro k ⟨h2, h3, h4, q, hq, hc⟩
    exact ⟨h2, h3, h4, q, List.mem_append_right _ hq, hc⟩
 ni := by
  rintro w w1 base ok x cs hm ⟨c0, c1, rfl, h0, h1⟩
  exact ⟨c0, c1, rfl, a.ni hm h0, b.ni hm h1⟩
 oZ := by
  rintro w base base' ok x cs hb ⟨c0, c1, rfl, h0, h1⟩
  exact ⟨c0, c1, rfl, a.oZ hb h0, b.oZ hb h1⟩
def iso {α β : Type} (d : Kd α) (f : β → α) : Kd β where
 sz := d.sz
 E := d.E
 K := fun w x cs => d.K w (f x) cs
 M := fun w base ok x cs => d.M w base ok (f x) cs
 qW := d.qW
 qX := d.qX
 oW := d.oW
 jC := d.jC
 iy := d.iy
 jK := d.jK
 ni := d.ni
 oZ := d.oZ
theorem Df {α : Type} {d : Kd α} {w : World} {A : Option Addr} {n : Nat} {xs : List α} (h : d.C w A n xs) (z : α) (i : Int) (h0 : 0 ≤ i) (h1 : i < n) :
    ∃ ad c, A = some ad ∧ c.length = d.sz ∧ d.K w (xs.getD i.toNat z) c ∧ ∀ j u, c[j]? = some u → w.cell? (ad.add (i.toNat * d.sz + j)) = some u := iH.get_ h z i h0 h1
theorem Gq {α : Type} {d : Kd α} {e base : Nat} {ok okp : Nat → Prop} {W w1 : World} {v v1 : Value} {xs : List α} {p : α} {inner cs : List Value} (h0 : ∀ k, v.ownBlock = some k → ok k) (hr : kY (d.M W base (fun k => ok k ∧ some k ≠ v.ownBlock)) d.sz xs inner) (hp : d.M W base okp p cs) (nI : ∀ k, okp k → ok k ∧ some k ≠ v.ownBlock) (hfresh : ∀ k, W.heap.size ≤ k → ok k)
    (hown : w1.ownsRow base e d.sz v1 (xs.length + 1) (inner ++ cs)) (hg : W.grownBy w1 v.ownBlock) (hat : v1.ownBlock = v.ownBlock ∨ ∃ b, v1.ownBlock = some b ∧ W.heap.size ≤ b) : d.R e w1 base ok v1 (xs ++ [p]) := by
 have hne : ∀ k, some k ≠ v.ownBlock → k < W.heap.size → some k ≠ v1.ownBlock := by
  intro k hk hlt
  rcases hat with hat | ⟨b, hb, hle⟩
  · rw [hat]; exact hk
  · rw [hb]
    intro he
    injection he with he
    omega
 have step : ∀ {q : α} {c : List Value} {o : Nat → Prop}, d.M W base o q c → (∀ k, o k → ok k ∧ some k ≠ v.ownBlock) → d.M w1 base (fun k => ok k ∧ some k ≠ v1.ownBlock) q c := by
  intro q c o hq ho
  have h1 := d.ni (w1 := w1) (fun k hk => hg.block k hk.2.2.1 (ho k hk.1).2) (d.jK hq)
  exact d.iy (fun k hk => ⟨(ho k hk.1).1, hne k (ho k hk.1).2 hk.2.2.1⟩) h1
 refine ⟨fun k hk => ?_, inner ++ cs, by rw [List.length_append, List.length_singleton]; exact hown, ?_⟩
 · rcases hat with hat | ⟨b, hb, hle⟩
   · exact h0 k (hat ▸ hk)
   · rw [hb] at hk
     injection hk with hk
     exact hfresh k (by omega)
 · exact (hr.yR (fun _ _ hq => step hq (fun _ hk => hk))).snoc (step hp nI) (d.qW (d.jC hp))
section
variable {P : Program} {ops : Array Oper} {rest : List Oper} {o : Oper} {a : Act} {Q : Exit → Act → World → Prop} {α : Type}
theorem nX (d : Kd α) {w0 W : World} (base : Nat) (hgd : o.guard = none) (s x : Operand) (t e : TypeId) (z : Value) (bytes : Nat)
    (ho : o.op = .call { callee := .builtin .append, args := #[s, x], argTypes := #[t, t] })
    (ht : P.underlying t = some (.slice e)) (hinfo : (P.info? e).map (fun i => (i.zero, i.size, i.bytes)) = some (some z, d.sz, bytes)) (hz : z.cells.size = d.sz) (hs0 : 0 < d.sz) (hb0 : 0 < bytes)
    (v : Value) (xs : List α) (p : α) (cs : List Value) (ok okp : Nat → Prop) (hs : a.eval s = v) (hx : a.eval x = .slice (some ⟨W.heap.size, 0, none⟩) 1 1) (hp : d.M W base okp p cs) (nI : ∀ k, okp k → ok k ∧ some k ≠ v.ownBlock) (hfresh : ∀ k, W.heap.size ≤ k → ok k)
    (HO : d.R e W base ok v xs) (HB : Below base w0 W) (hbase : base ≤ W.heap.size) (hl : (xs.length + 1) * bytes ≤ 140737488355328)
    (h : ∀ v1 w1, d.R e w1 base ok v1 (xs ++ [p]) → Below base w0 w1 → W.grownBy w1 v.ownBlock → (v1.ownBlock = v.ownBlock ∨ ∃ b, v1.ownBlock = some b ∧ W.heap.size ≤ b) → wpList P ops Q rest (a.put o.dst v1) w1) :
    wpList P ops Q (o :: rest) a (W.alloc (.cells cs.toArray e)) := by
 obtain ⟨h0, inner, hown, hr⟩ := HO
 refine yS base hgd s x t e z d.sz bytes ho ht hinfo hz hs0 hb0 v xs.length inner cs hs hx (d.qW (d.jC hp)) (d.qX (d.jC hp)) hown HB hbase hl ?_
 intro v1 w1 hown1 hb1 hg1 hat1
 exact h v1 w1 (Gq h0 hr hp nI hfresh hown1 hg1 hat1) hb1 hg1 hat1
end
section
variable {P : Program} {ops : Array Oper} {o : Oper} {a : Act} {Q : Exit → Act → World → Prop} {Kc : Act → World → Prop} {α : Type}
theorem IE (d : Kd α) {w0 W : World} (base : Nat) (hw : Region.wanted o (yielded ops a.tmps) = true) (s x : Operand) (t e : TypeId) (z : Value) (bytes : Nat)
    (ho : o.op = .call { callee := .builtin .append, args := #[s, x], argTypes := #[t, t] })
    (ht : P.underlying t = some (.slice e)) (hinfo : (P.info? e).map (fun i => (i.zero, i.size, i.bytes)) = some (some z, d.sz, bytes)) (hz : z.cells.size = d.sz) (hs0 : 0 < d.sz) (hb0 : 0 < bytes)
    (v : Value) (xs : List α) (p : α) (cs : List Value) (ok okp : Nat → Prop) (hs : a.eval s = v) (hx : a.eval x = .slice (some ⟨W.heap.size, 0, none⟩) 1 1) (hp : d.M W base okp p cs) (nI : ∀ k, okp k → ok k ∧ some k ≠ v.ownBlock) (hfresh : ∀ k, W.heap.size ≤ k → ok k)
    (HO : d.R e W base ok v xs) (HB : Below base w0 W) (hbase : base ≤ W.heap.size) (hl : (xs.length + 1) * bytes ≤ 140737488355328)
    (h : ∀ v1 w1, d.R e w1 base ok v1 (xs ++ [p]) → Below base w0 w1 → W.grownBy w1 v.ownBlock → (v1.ownBlock = v.ownBlock ∨ ∃ b, v1.ownBlock = some b ∧ W.heap.size ≤ b) → Kc (a.put o.dst v1) w1) :
    if Region.wanted o (yielded ops a.tmps) = true then Oper.wp P o a (W.alloc (.cells cs.toArray e)) Kc Q else Kc (a.put o.dst undef) (W.alloc (.cells cs.toArray e)) := by
 obtain ⟨h0, inner, hown, hr⟩ := HO
 refine AP base hw s x t e z d.sz bytes ho ht hinfo hz hs0 hb0 v xs.length inner cs hs hx (d.qW (d.jC hp)) (d.qX (d.jC hp)) hown HB hbase hl ?_
 intro v1 w1 hown1 hb1 hg1 hat1
 exact h v1 w1 (Gq h0 hr hp nI hfresh hown1 hg1 hat1) hb1 hg1 hat1
end
theorem Pv {α : Type} {enc : α → Value} (xs : List α) : kY (fun (x : α) (cs : List Value) => cs = [enc x]) 1 xs (encs enc xs) := by
 refine ⟨by simp [encs], fun j p hj => ?_⟩
 obtain ⟨hl, hp⟩ := List.getElem?_eq_some_iff.1 hj
 have hl' : j < (encs enc xs).length := by rw [Du]; exact hl
 rw [Nat.mul_one, List.drop_eq_getElem_cons hl']
 simp [encs, hp]
theorem sO {α : Type} {enc : α → Value} {h1 : ∀ x, (enc x).oneCell' = true} {e : Nat} {w : World} {base : Nat} {ok : Nat → Prop} {v : Value} {xs : List α} (ho : w.ownsRow base e 1 v xs.length (encs enc xs)) (hok : ∀ k, v.ownBlock = some k → ok k) : (scalar enc h1).R e w base ok v xs := ⟨hok, encs enc xs, ho, Pv xs⟩
theorem vZ {α : Type} {enc : α → Value} {h1 : ∀ x, (enc x).oneCell' = true} {e : Nat} {w : World} {base : Nat} {ok : Nat → Prop} {v : Value} {xs : List α} (h : (scalar enc h1).R e w base ok v xs) : w.ownsRow base e 1 v xs.length (encs enc xs) := by
 obtain ⟨_, inner, ho, hr⟩ := h
 have : inner = encs enc xs := by
  apply List.ext_getElem?
  intro j
  rcases Nat.lt_or_ge j xs.length with hj | hj
  · have h2 := hr.2 j _ (List.getElem?_eq_getElem hj)
    have hl : j < inner.length := by have := hr.1; simp [scalar] at this; omega
    have h3 : (inner.drop (j * 1)).take 1 = [enc xs[j]] := h2
    rw [Nat.mul_one, List.drop_eq_getElem_cons hl] at h3
    have h4 : inner[j] = enc xs[j] := by
     have h5 := congrArg List.head? h3
     rw [List.take_succ_cons] at h5
     exact Option.some.inj h5
    rw [List.getElem?_eq_getElem hl, h4]
    simp [encs, List.getElem?_eq_getElem hj]
  · have h3 : inner.length = xs.length := by have := hr.1; simp [scalar] at this; omega
    rw [List.getElem?_eq_none (by omega), List.getElem?_eq_none (by rw [Du]; omega)]
 rw [← this]
 exact ho
theorem yU {α : Type} {enc : α → Value} {d : α} {h1 : ∀ x, (enc x).oneCell' = true} {w : World} {A : Option Addr} {n : Nat} {xs : List α} (h : (scalar enc h1).C w A n xs) : AQ enc d w A n xs := by
 refine ⟨h.1, h.2.1, fun hn => ?_⟩
 obtain ⟨ad, e, hc⟩ := h.2.2 hn
 refine ⟨ad, e, fun j hj => ?_⟩
 have hl : j < xs.length := by have := h.1; omega
 obtain ⟨c, _, hK, hcell⟩ := hc j _ (List.getElem?_eq_getElem hl)
 have hK' : c = [enc xs[j]] := hK
 subst hK'
 have := hcell 0 _ rfl
 simpa [scalar, List.getD_eq_getElem?_getD, List.getElem?_eq_getElem hl] using this
theorem Ed {α : Type} {d : Kd α} {e base : Nat} {ok : Nat → Prop} {W w1 : World} {u v v1 : Value} {xs : List α} (h : d.R e W base (fun k => ok k ∧ some k ≠ v.ownBlock) u xs) (hg : W.grownBy w1 v.ownBlock) (hat : v1.ownBlock = v.ownBlock ∨ ∃ b, v1.ownBlock = some b ∧ W.heap.size ≤ b) : d.R e w1 base (fun k => ok k ∧ some k ≠ v1.ownBlock) u xs := by
 refine dF (yT (dR h) (fun k hk => hg.block k hk.2.2.1 hk.1.2)) (fun k hk => ⟨hk.1.1, ?_⟩)
 rcases hat with hat | ⟨b, hb, hle⟩
 · rw [hat]; exact hk.1.2
 · rw [hb]
   intro he
   injection he with he
   have := hk.2.2.1
   omega
section
variable {α β : Type} {d : Kd α} {d' : Kd β} {e e' : Nat} {w w1 W : World} {base b b' : Nat} {ok ok' okv oku : Nat → Prop} {v u : Value} {xs : List α} {ys : List β}
theorem pq (h : d.R e w base ok v xs) (o : Obj) : d.R e (w.alloc o) base ok v xs := dw h (aI (Below.refl _ _) o)
theorem afV (h : d.R e w base ok v xs) : d.R e w.drew base ok v xs := dw h (uI (Below.refl _ _))
theorem aay (d : Kd α) (w : World) : d.C w none ([] : List α).length [] := ⟨rfl, by simp, fun h => absurd h (Nat.lt_irrefl 0)⟩
theorem bJ {A : Option Addr} {n c : Nat} (h : d.R e w base ok (.slice A n c) xs) : n = xs.length ∧ n ≤ c ∧ d.C w A xs.length xs := by
 obtain ⟨A', c', he, hl, hr⟩ := Nb h
 injection he with h1 h2 h3
 subst h1
 exact ⟨h2, by omega, hr⟩
theorem Ip (h : d.R e w base ok v xs) : ∀ k, v.ownBlock = some k → k < w.heap.size := by
 obtain ⟨inner, ho⟩ := aax h
 exact aat ho
theorem YP (h : d.R e w base ok v xs) : ∀ k, v.ownBlock = some k → base ≤ k := by
 obtain ⟨inner, ho⟩ := aax h
 exact own_base ho
theorem jf (h : d.R e w base ok v xs) (hp : 0 < xs.length) : ∃ g cap, v = .slice (some ⟨g, 0, none⟩) xs.length cap ∧ base ≤ g ∧ g < w.heap.size ∧ ∃ cells, w.heap[g]? = some (.cells cells e (0, 0)) := by
 obtain ⟨inner, ho⟩ := aax h
 obtain ⟨g, cap, he, hb, hl⟩ := ho.form hp
 obtain ⟨cells, hc⟩ := Cm ho g (by rw [he]; simp [Value.ownBlock])
 exact ⟨g, cap, he, hb, hl, cells, hc⟩
end
section
variable {w W : World} {A : Option Addr} {n : Nat}
theorem CG {k : IntKind} {xs : List Int} (h : (Kd.int k).C w A n xs) (i : Int) (h0 : 0 ≤ i) (h1 : i < n) : ∃ ad, A = some ad ∧ w.cell? (ad.add i.toNat) = some (.int k (rd xs i)) :=
 AQ.at_ (yU (enc := Value.int k) (d := (0 : Int)) (h1 := fun _ => rfl) h) i h0 h1
theorem jv {xs : List ByteArray} (h : Kd.string.C w A n xs) (i : Int) (h0 : 0 ≤ i) (h1 : i < n) : ∃ ad, A = some ad ∧ w.cell? (ad.add i.toNat) = some (.string (fQ ByteArray.empty xs i)) :=
 AQ.at_ (yU (enc := Value.string) (d := ByteArray.empty) (h1 := fun _ => rfl) h) i h0 h1
variable {α : Type} {enc : α → Value} {h1 : ∀ x, (enc x).oneCell' = true} {e base g cap : Nat} {ok : Nat → Prop} {xs : List α}
theorem agV (d : α) (h : (scalar enc h1).R e W base ok (.slice (some ⟨g, 0, none⟩) xs.length cap) xs) (i : Int) (h0 : 0 ≤ i) (hi : i < xs.length) : W.cell? ⟨g, i.toNat, none⟩ = some (enc (fQ d xs i)) ∧ W.frozen? ⟨g, i.toNat, none⟩ = false := JA (vZ h) i h0 hi
theorem aft (h : (scalar enc h1).R e W base ok (.slice (some ⟨g, 0, none⟩) xs.length cap) xs) (i : Int) (x : α) : (scalar enc h1).R e (W.setCell ⟨g, i.toNat, none⟩ (enc x)) base ok (.slice (some ⟨g, 0, none⟩) xs.length cap) (xs.set i.toNat x) ∧ W.grownBy (W.setCell ⟨g, i.toNat, none⟩ (enc x)) (some g) := by
 obtain ⟨ho, hg⟩ := AU (vZ h) i x
 exact ⟨sO (by rw [List.length_set]; exact ho) h.1, hg⟩
end
section
variable {P : Program} {ops : Array Oper} {rest : List Oper} {o : Oper} {a : Act} {Q : Exit → Act → World → Prop}
theorem xH {W w1 : World} {v : Value} (hgd : o.guard = none) (hrun : (execOp a.eval o).run P W = .ok (.value v) w1) (h : wpList P ops Q rest (a.put o.dst v) w1) : wpList P ops Q (o :: rest) a W := by
 refine wpList_plain hgd fun K hK => ?_
 unfold Oper.wp
 rw [hrun]
 exact hK _ _ h
variable {α : Type}
theorem Uu (d : Kd α) {w0 W : World} (base e : Nat) (hgd : o.guard = none) {N : Tmp} (_hd : o.dst = some N) {xs : List α} {inner : List Value} {ok okp : Nat → Prop}
    (hrun : (execOp a.eval o).run P W = .ok (.value (.slice (some ⟨W.heap.size, 0, none⟩) xs.length xs.length)) (W.alloc (.cells inner.toArray e)))
    (hrep : kY (d.M W base okp) d.sz xs inner) (hok : ∀ k, okp k → ok k) (hfresh : ok W.heap.size) (HB : Below base w0 W) (hbase : base ≤ W.heap.size) (hm : xs.length ≤ 9223372036854775807)
    (h : ∀ v1 w1, d.R e w1 base ok v1 xs → Below base w0 w1 → W.grownBy w1 none → (∃ b, v1.ownBlock = some b ∧ W.heap.size ≤ b) → wpList P ops Q rest (a.put o.dst v1) w1) : wpList P ops Q (o :: rest) a W := by
 refine xH hgd hrun (h _ _ ⟨fun k hk => ?_, inner, ?_, ?_⟩ (HB.alloc hbase _) (World.grownBy_alloc W _ none) ⟨W.heap.size, by simp [Value.ownBlock], Nat.le_refl _⟩)
 · have : W.heap.size = k := by simpa [Value.ownBlock] using hk
   subst this
   exact hfresh
 · have h2 := World.ownsRow_lit (base := base) (e := e) (size := d.sz) W inner.toArray xs.length hbase (by simpa [maxLen] using hm) (by simpa using hrep.1)
   simpa using h2
 · refine hrep.yR (fun p c hp => d.iy (fun k hk => ⟨hok k hk.1, fun he => ?_⟩) (adR (d.jK hp) (aI (Below.refl _ _) _)))
   have h3 : k = W.heap.size := by simpa [Value.ownBlock] using he
   have := hk.2.2.1
   omega
theorem Xv {α : Type} {R : α → List Value → Prop} {z : Value} {size : Nat} {z0 : α} (hz : z.cells.size = size) (hs : 0 < size) (h0 : R z0 z.cells.toList) (m : Nat) : kY R size (List.replicate m z0) (madeCells z.cells (m * size)).toList := by
 refine ⟨by simp [size_madeCells], fun j p hj => ?_⟩
 obtain ⟨hjl, hp⟩ := List.getElem?_eq_some_iff.1 hj
 have hjm : j < m := by simpa using hjl
 have hp' : z0 = p := by simpa using hp
 subst hp'
 have hle : j * size + size ≤ m * size := by rw [← Nat.succ_mul]; exact Nat.mul_le_mul_right _ hjm
 have : ((madeCells z.cells (m * size)).toList.drop (j * size)).take size = z.cells.toList := by
  apply List.ext_getElem
  · simp [size_madeCells, hz]
    omega
  · intro i h1 h2
    have hi : i < size := by rw [Array.length_toList, hz] at h2; exact h2
    have hmod : (j * size + i) % size = i := by
     rw [Nat.mul_comm, Nat.mul_add_mod]
     exact Nat.mod_eq_of_lt hi
    simp [madeCells, hz, hmod]
    rw [getElem!_pos z.cells i (by omega)]
 rw [this]
 exact h0
theorem rM (d : Kd α) {w0 W : World} (base e : Nat) (hgd : o.guard = none) {N : Tmp} (hd : o.dst = some N) (t : TypeId) (x y : Operand) (ho : o.op = .makeSlice t x y) (n : Int) (hx : a.eval x = .int .i64 n) (hy : a.eval y = .int .i64 n)
    (ht : P.underlying t = some (.slice e)) (z : Value) (bytes : Nat) (hinfo : (P.info? e).map (fun i => (i.zero, i.size, i.bytes)) = some (some z, d.sz, bytes)) (hz : z.cells.size = d.sz) (hs0 : 0 < d.sz) (hb0 : 0 < bytes)
    (z0 : α) {ok okp : Nat → Prop} (hzero : d.M W base okp z0 z.cells.toList) (hok : ∀ k, okp k → ok k) (hfresh : ok W.heap.size) (h0 : 0 ≤ n) (hl : n.toNat * bytes ≤ 281474976710656) (HB : Below base w0 W) (hbase : base ≤ W.heap.size)
    (h : ∀ v1 w1, d.R e w1 base ok v1 (List.replicate n.toNat z0) → Below base w0 w1 → W.grownBy w1 none → (∃ b, v1.ownBlock = some b ∧ W.heap.size ≤ b) → wpList P ops Q rest (a.put o.dst v1) w1) : wpList P ops Q (o :: rest) a W := by
 obtain ⟨m, rfl⟩ := Int.eq_ofNat_of_zero_le h0
 simp only [Int.toNat_natCast] at hl h
 obtain ⟨i0, hi, hzz⟩ := Option.map_eq_some_iff.1 hinfo
 simp only [Prod.mk.injEq] at hzz
 obtain ⟨hz0, hz1, hz2⟩ := hzz
 have hm : m ≤ 281474976710656 := Nat.le_trans (Nat.le_mul_of_pos_right _ hb0) hl
 have hr := run_make (P := P) W t e i0 z ht hi hz0 .i64 .i64 (m : Int) (m : Int) (by omega) (by omega)
  (by
   have h3 : ((i0.bytes * m : Nat) : Int) ≤ 281474976710656 := by rw [hz2, Nat.mul_comm]; omega
   rwa [Int.natCast_mul] at h3) (by omega)
 simp only [Int.toNat_natCast] at hr
 rw [hz1] at hr
 refine Uu d base e hgd hd (xs := List.replicate m z0) (inner := (madeCells z.cells (m * d.sz)).toList) (okp := okp) (ok := ok) ?_ (Xv hz hs0 hzero m) hok hfresh HB hbase (by simp; omega) h
 simp [execOp, ho, hx, hy, hr]
end
end Kd
section
variable {P : Program}
theorem agW (t e : TypeId) (kh : IntKind) {i : TypeInfo} (ht : P.underlying t = some (.slice e)) (hi : P.info? e = some i) (A : Option Addr) (n c : Nat) (j : Int) (h0 : 0 ≤ j) (hm : j ≤ n) (hc : n ≤ c) :
    ∀ W : World, (Instr.slice t (.slice A n c) none (some (.int kh j)) none).run P W = .ok (.slice A j.toNat c) W := by
 intro W
 have hel : P.elem t = e := by simp [Program.elem, ht]
 have hu : P.underlying t = some (.slice (P.elem t)) := by rw [hel]; exact ht
 have ha : (A.map fun x => x.add 0) = A := by cases A <;> simp [Addr.add]
 rw [run_slice_h W t A n c hu kh j h0 (by omega), hel]
 simp [sizeOf, typeInfo, hi, sliced, Result.andThen, ha]
theorem aaz (t e : TypeId) (kl : IntKind) {i : TypeInfo} (ht : P.underlying t = some (.slice e)) (hi : P.info? e = some i) (size : Nat) (hsz : i.size = size) (A : Option Addr) (n c : Nat) (j : Int) (h0 : 0 ≤ j) (hm : j ≤ n) :
    ∀ W : World, (Instr.slice t (.slice A n c) (some (.int kl j)) none none).run P W = .ok (.slice (if c = j.toNat then A else A.map (·.add (j.toNat * size))) (n - j.toNat) (c - j.toNat)) W := by
 intro W
 have hel : P.elem t = e := by simp [Program.elem, ht]
 have hu : P.underlying t = some (.slice (P.elem t)) := by rw [hel]; exact ht
 rw [run_slice_l W t A n c hu kl j h0 hm, hel]
 simp [sizeOf, typeInfo, hi, hsz, sliced, Result.andThen]
end
section
variable {w w1 : World} {base n size : Nat} {e : TypeId} {v : Value} {xs : List Value}
theorem AV {g : Nat} : ∀ (vs : List Value) (o : Nat) {w : World} (k : Nat), k ≠ g → (w.setCells g o vs).heap[k]? = w.heap[k]?
 | [], _, _, _, _ => rfl
 | v :: r, o, w, k, hk => by
  rw [World.setCells, AV r (o + 1) k hk]
  exact Below.heap_setCell w ⟨g, o, none⟩ v k hk
theorem yu (g : Nat) : ∀ (vs : List Value) (o : Nat) (w : World), (w.setCells g o vs).os = w.os ∧ (w.setCells g o vs).tape = w.tape ∧ (w.setCells g o vs).output = w.output ∧ (w.setCells g o vs).heap.size = w.heap.size
 | [], _, _ => ⟨rfl, rfl, rfl, rfl⟩
 | v :: r, o, w => by
  obtain ⟨h1, h2, h3, h4⟩ := yu g r (o + 1) (w.setCell ⟨g, o, none⟩ v)
  rw [World.setCells]
  exact ⟨h1, h2, h3, by rw [h4]; simp [World.setCell]⟩
theorem AX {g : Nat} {e : TypeId} : ∀ (vs : List Value) (o : Nat) (w : World) (cur : Array Value), w.heap[g]? = some (.cells cur e (0, 0)) → o + vs.length ≤ cur.size →
    ∃ cur', (w.setCells g o vs).heap[g]? = some (.cells cur' e (0, 0)) ∧ cur'.size = cur.size ∧ cur'.toList = cur.toList.take o ++ vs ++ cur.toList.drop (o + vs.length)
 | [], o, w, cur, h, _ => ⟨cur, h, rfl, by simp⟩
 | v :: r, o, w, cur, h, hl => by
  have h2 := VE h o v
  simp only [List.length_cons] at hl
  obtain ⟨cur', h3, h4, h5⟩ := AX r (o + 1) (w.setCell ⟨g, o, none⟩ v) _ h2 (by simp; omega)
  refine ⟨cur', h3, by rw [h4]; simp, ?_⟩
  rw [h5, Array.toList_setIfInBounds]
  have ho : o < cur.toList.length := by rw [Array.length_toList]; omega
  rw [List.take_set, List.drop_set_of_lt (by omega)]
  simp only [List.length_cons]
  rw [show o + 1 + r.length = o + (r.length + 1) by omega]
  congr 1
  rw [List.take_succ_eq_append_getElem ho, List.set_append_right _ _ (by rw [List.length_take]; omega)]
  have ho' : o < cur.size := by omega
  simp [Nat.min_eq_left (Nat.le_of_lt ho')]
end
namespace Kd
section
variable {α : Type} {d : Kd α} {e e' : Nat} {w w1 W : World} {base : Nat} {ok : Nat → Prop} {u v : Value} {xs : List α}
theorem YO (hu : d.R e W base ok u xs) (hbase : ∀ k, v.ownBlock = some k → W.heap.size ≤ k) (hb : Below W.heap.size W w1) : d.R e w1 base (fun k => ok k ∧ some k ≠ v.ownBlock) u xs :=
 dF (yT (dR hu) (fun k hk => hb.block k hk.2.2.1)) (fun k hk => ⟨hk.1, fun he => by have := hbase k he.symm; have := hk.2.2.1; omega⟩)
theorem agl (h : d.R e w1 W.heap.size ok v xs) (hlt : ∀ k, u.ownBlock = some k → k < W.heap.size) : d.R e w1 W.heap.size (fun k => ok k ∧ some k ≠ u.ownBlock) v xs :=
 dF (dR h) (fun k hk => ⟨hk.1, fun he => by have := hlt k he.symm; have := hk.2.1; omega⟩)
theorem fresh' (hlt : ∀ k, u.ownBlock = some k → k < W.heap.size) : ∀ k, W.heap.size ≤ k → some k ≠ u.ownBlock := fun k hk he => by have := hlt k he.symm; omega
end
end Kd
theorem AY {α : Type} (a seg : List α) (o : Nat) (h : o + seg.length ≤ a.length) (q : Nat) :
    (a.take o ++ seg ++ a.drop (o + seg.length))[q]? = if q < o then a[q]? else if q < o + seg.length then seg[q - o]? else a[q]? := by
 have hl : (a.take o).length = o := by rw [List.length_take]; omega
 rw [List.append_assoc]
 by_cases h1 : q < o
 · rw [if_pos h1, List.getElem?_append_left (by omega), List.getElem?_take, if_pos h1]
 · rw [if_neg h1, List.getElem?_append_right (by omega), hl]
   by_cases h2 : q < o + seg.length
   · rw [if_pos h2, List.getElem?_append_left (by omega)]
   · rw [if_neg h2, List.getElem?_append_right (by omega), List.getElem?_drop]
     congr 1
     omega
namespace Kd
section
variable {α : Type} {d : Kd α} {e base g n cap : Nat} {ok okp : Nat → Prop} {W : World} {xs : List α}
theorem agX (h : d.R e W base ok (.slice (some ⟨g, 0, none⟩) n cap) xs) (z : α) (i : Int) (h0 : 0 ≤ i) (h1 : i < n) :
    ∃ c, c.length = d.sz ∧ d.M W base (fun k => ok k ∧ k ≠ g) (xs.getD i.toNat z) c ∧ (∀ j u, c[j]? = some u → W.cell? ⟨g, i.toNat * d.sz + j, none⟩ = some u) ∧ ∀ j, W.frozen? ⟨g, i.toNat * d.sz + j, none⟩ = false := by
 obtain ⟨hn, hnc, hC⟩ := bJ h
 obtain ⟨_, inner, ho, hr⟩ := h
 have hil : i.toNat < xs.length := by omega
 have hseg : i.toNat * d.sz + d.sz ≤ inner.length := by rw [hr.1, ← Nat.succ_mul]; exact Nat.mul_le_mul_right _ hil
 have hM := hr.2 i.toNat _ (List.getElem?_eq_getElem hil)
 refine ⟨(inner.drop (i.toNat * d.sz)).take d.sz, by rw [List.length_take, List.length_drop]; omega, ?_, fun j u hu => ?_, fun j => ?_⟩
 · rw [List.getD_eq_getElem?_getD, List.getElem?_eq_getElem hil]
   exact d.iy (fun k hk => ⟨hk.1, fun he => hk.2 (by rw [he]; simp [Value.ownBlock])⟩) hM
 · rw [List.getElem?_take] at hu
   split at hu
   · rw [List.getElem?_drop] at hu
     have := ho.cells (g := g) (by simp [Value.ownBlock]) _ u hu
     rwa [add_plain] at this
   · cases hu
 · obtain ⟨cells, hc⟩ := Cm ho g (by simp [Value.ownBlock])
   exact aA hc _
theorem aiT (h : d.R e W base ok (.slice (some ⟨g, 0, none⟩) n cap) xs) (i : Int) (h0 : 0 ≤ i) (h1 : i < n) {c seg : List Value} {j : Nat} (hcl : c.length = d.sz) (hcc : ∀ j u, c[j]? = some u → W.cell? ⟨g, i.toNat * d.sz + j, none⟩ = some u)
    (hj : j + seg.length ≤ d.sz) {x' : α} (hM : d.M W base okp x' (c.take j ++ seg ++ c.drop (j + seg.length))) (nI : ∀ k, okp k → ok k ∧ k ≠ g) :
    d.R e (W.setCells g (i.toNat * d.sz + j) seg) base ok (.slice (some ⟨g, 0, none⟩) n cap) (xs.set i.toNat x') ∧ W.grownBy (W.setCells g (i.toNat * d.sz + j) seg) (some g) := by
 obtain ⟨hn, hnc, _⟩ := bJ h
 obtain ⟨hok, inner, ho, hr⟩ := h
 have hil : i.toNat < xs.length := by omega
 have hseg : i.toNat * d.sz + d.sz ≤ inner.length := by rw [hr.1, ← Nat.succ_mul]; exact Nat.mul_le_mul_right _ hil
 have hin : inner.length = n * d.sz := by rw [hr.1, hn]
 obtain ⟨ho1, ho2⟩ := ho
 rcases ho2 with ⟨hv, _⟩ | ⟨g', cap', cur, hv, hb, hh, hnc', hcm, hcs, ht⟩
 · cases hv
 injection hv with ha _ hc
 injection ha with ha
 injection ha with hg
 subst hg; subst hc
 have hfit : i.toNat * d.sz + j + seg.length ≤ cur.size := by
  have : n * d.sz ≤ cap * d.sz := Nat.mul_le_mul_right _ hnc
  omega
 obtain ⟨cur', h3, h4, h5⟩ := AX seg (i.toNat * d.sz + j) W cur hh hfit
 obtain ⟨s1, s2, s3, s4⟩ := yu g seg (i.toNat * d.sz + j) W
 have agY : ∀ k, k ≠ g → (W.setCells g (i.toNat * d.sz + j) seg).heap[k]? = W.heap[k]? := fun k hk => AV seg _ k hk
 -- the element's cells before are what was read
 have hcin : ∀ q, q < d.sz → c[q]? = inner[i.toNat * d.sz + q]? := by
  intro q hq
  have hq' : q < c.length := by omega
  have h6 := hcc q _ (List.getElem?_eq_getElem hq')
  rw [cell_of_row W g _ cur e (0, 0) hh] at h6
  rw [List.getElem?_eq_getElem hq', ← h6, ← ht, List.getElem?_take, if_pos (by rw [← hn]; omega), Array.getElem?_toList]
 refine ⟨⟨hok, inner.take (i.toNat * d.sz + j) ++ seg ++ inner.drop (i.toNat * d.sz + j + seg.length), ⟨?_, .inr ⟨g, cap, cur', by rw [List.length_set, hn], hb, h3, by rw [List.length_set, ← hn]; exact hnc, hcm, by rw [h4, hcs], ?_⟩⟩, ?_⟩,
  ⟨s1, s2, s3, by rw [s4]; exact Nat.le_refl _, fun k _ hk => agY k (fun he => hk (by rw [he]))⟩⟩
 · rw [List.length_set]
   simp only [List.length_append, List.length_take, List.length_drop]
   rw [hr.1] at hseg ⊢
   omega
 · rw [List.length_set, ← hn]
   apply List.ext_getElem?
   intro q
   rw [List.getElem?_take, h5]
   rw [AY cur.toList seg (i.toNat * d.sz + j) (by rw [Array.length_toList]; omega) q, AY inner seg (i.toNat * d.sz + j) (by omega) q]
   have hcur : ∀ q, q < n * d.sz → cur.toList[q]? = inner[q]? := by
    intro q hq
    rw [← ht, List.getElem?_take, if_pos (by rw [← hn]; exact hq)]
   by_cases hq : q < n * d.sz
   · rw [if_pos hq, hcur q hq]
   · rw [if_neg hq, if_neg (by omega), if_neg (by omega), List.getElem?_eq_none (by omega)]
 · refine ⟨?_, fun m p hm => ?_⟩
   · rw [List.length_set]
     simp only [List.length_append, List.length_take, List.length_drop]
     rw [hr.1] at hseg ⊢
     omega
   · have hml : m < xs.length := by
       have := (List.getElem?_eq_some_iff.1 hm).1
       rwa [List.length_set] at this
     have hmfit : m * d.sz + d.sz ≤ inner.length := by rw [hr.1, ← Nat.succ_mul]; exact Nat.mul_le_mul_right _ hml
     have hgo : some g = (Value.slice (some ⟨g, 0, none⟩) n cap).ownBlock := by simp [Value.ownBlock]
     by_cases hmi : m = i.toNat
     · subst hmi
       rw [List.getElem?_set_self (by omega)] at hm
       injection hm with hm
       subst hm
       have hcells : ((inner.take (i.toNat * d.sz + j) ++ seg ++ inner.drop (i.toNat * d.sz + j + seg.length)).drop (i.toNat * d.sz)).take d.sz = c.take j ++ seg ++ c.drop (j + seg.length) := by
        apply List.ext_getElem?
        intro q
        rw [List.getElem?_take, List.getElem?_drop, AY inner seg _ (by omega), AY c seg j (by omega) q]
        by_cases hq : q < d.sz
        · rw [if_pos hq, hcin q hq]
          by_cases hq1 : q < j
          · rw [if_pos (by omega), if_pos hq1]
          · rw [if_neg (by omega), if_neg hq1]
            by_cases hq2 : q < j + seg.length
            · rw [if_pos (by omega), if_pos hq2]
              congr 1
              omega
            · rw [if_neg (by omega), if_neg hq2]
        · rw [if_neg hq, if_neg (by omega), if_neg (by omega), List.getElem?_eq_none (by omega)]
       rw [hcells]
       refine d.iy (fun k hk => ?_) (d.ni (w1 := W.setCells g (i.toNat * d.sz + j) seg) (fun k hk => agY k (nI k hk).2) hM)
       exact ⟨(nI k hk).1, fun he => (nI k hk).2 (by rw [← hgo] at he; injection he)⟩
     · rw [List.getElem?_set_ne (by omega)] at hm
       have hold := hr.2 m p hm
       have hcells : ((inner.take (i.toNat * d.sz + j) ++ seg ++ inner.drop (i.toNat * d.sz + j + seg.length)).drop (m * d.sz)).take d.sz = (inner.drop (m * d.sz)).take d.sz := by
        apply List.ext_getElem?
        intro q
        rw [List.getElem?_take, List.getElem?_take, List.getElem?_drop, List.getElem?_drop, AY inner seg _ (by omega)]
        by_cases hq : q < d.sz
        · rw [if_pos hq, if_pos hq]
          rcases Nat.lt_or_gt_of_ne hmi with hlt | hgt
          · have : m * d.sz + d.sz ≤ i.toNat * d.sz := by rw [← Nat.succ_mul]; exact Nat.mul_le_mul_right _ hlt
            rw [if_pos (by omega)]
          · have : i.toNat * d.sz + d.sz ≤ m * d.sz := by rw [← Nat.succ_mul]; exact Nat.mul_le_mul_right _ hgt
            rw [if_neg (by omega), if_neg (by omega)]
        · rw [if_neg hq, if_neg hq]
       rw [hcells]
       refine d.ni (fun k hk => agY k (fun he => hk.2 (by rw [he]; exact hgo))) hold
end
theorem Px {α : Type} {R : α → List Value → Prop} {size : Nat} {ps qs : List α} {cs ds : List Value} (h : kY R size ps cs) (h' : kY R size qs ds) : kY R size (ps ++ qs) (cs ++ ds) := by
 refine ⟨by rw [List.length_append, List.length_append, h.1, h'.1, Nat.add_mul], fun j p hj => ?_⟩
 rcases Nat.lt_or_ge j ps.length with hlt | hge
 · rw [List.getElem?_append_left hlt] at hj
   have hle : j * size + size ≤ cs.length := by rw [h.1, ← Nat.succ_mul]; exact Nat.mul_le_mul_right _ hlt
   rw [List.drop_append_of_le_length (by omega), List.take_append_of_le_length (by rw [List.length_drop]; omega)]
   exact h.2 j p hj
 · rw [List.getElem?_append_right hge] at hj
   have h2 := h'.2 (j - ps.length) p hj
   have hle : ps.length * size ≤ j * size := Nat.mul_le_mul_right _ hge
   rw [List.drop_append, List.drop_eq_nil_of_le (by rw [h.1]; exact hle), List.nil_append, h.1, ← Nat.sub_mul]
   exact h2
section
variable {P : Program} {ops : Array Oper} {rest : List Oper} {o : Oper} {a : Act} {Q : Exit → Act → World → Prop} {α : Type}
theorem kZ (d : Kd α) {Rr : α → List Value → Prop} {w0 W : World} (base : Nat) (hgd : o.guard = none) (s x : Operand) (t e : TypeId) (z : Value) (bytes : Nat)
    (ho : o.op = .call { callee := .builtin .append, args := #[s, x], argTypes := #[t, t] })
    (ht : P.underlying t = some (.slice e)) (hinfo : (P.info? e).map (fun i => (i.zero, i.size, i.bytes)) = some (some z, d.sz, bytes)) (hz : z.cells.size = d.sz) (hs0 : 0 < d.sz) (hb0 : 0 < bytes)
    (v : Value) (xs ys : List α) (A : Option Addr) (m c : Nat) (ok okp : Nat → Prop) (hs : a.eval s = v) (hx : a.eval x = .slice A m c)
    (HO : d.R e W base ok v xs) (HR : iH Rr d.sz W A m ys) (hKM : ∀ x cs, Rr x cs → d.M W base okp x cs) (nI : ∀ k, okp k → ok k ∧ some k ≠ v.ownBlock) (hfresh : ∀ k, W.heap.size ≤ k → ok k)
    (HB : Below base w0 W) (hbase : base ≤ W.heap.size) (hl : (xs.length + m) * bytes ≤ 140737488355328)
    (h : ∀ v1 w1, d.R e w1 base ok v1 (xs ++ ys) → Below base w0 w1 → W.grownBy w1 v.ownBlock → (v1.ownBlock = v.ownBlock ∨ ∃ b, v1.ownBlock = some b ∧ W.heap.size ≤ b) → wpList P ops Q rest (a.put o.dst v1) w1) :
    wpList P ops Q (o :: rest) a W := by
 obtain ⟨i0, hi, hzz⟩ := Option.map_eq_some_iff.1 hinfo
 simp only [Prod.mk.injEq] at hzz
 obtain ⟨hz0, hz1, hz2⟩ := hzz
 have hm : ys.length = m := HR.1
 have hlen : xs.length + m ≤ 140737488355328 := Nat.le_trans (Nat.le_mul_of_pos_right _ hb0) hl
 obtain ⟨hok, inner, hown, hr⟩ := HO
 have hrun : ∃ v1 w1, (Builtin.append_ #[t, t] o.type #[v, .slice A m c]).run P W = .ok v1 w1 ∧ d.R e w1 base ok v1 (xs ++ ys) ∧ W.grownBy w1 v.ownBlock ∧ (v1.ownBlock = v.ownBlock ∨ ∃ b, v1.ownBlock = some b ∧ W.heap.size ≤ b) := by
  rcases A with _ | ad
  · have h0 : m = 0 := by
      rcases Nat.eq_zero_or_pos m with h0 | h0
      · exact h0
      · obtain ⟨ad, h, _⟩ := HR.2.2 h0
        cases h
    subst h0
    obtain rfl : ys = [] := List.eq_nil_of_length_eq_zero hm
    refine ⟨v, W, ?_, by rw [List.append_nil]; exact ⟨hok, inner, hown, hr⟩, World.grownBy.refl W _, .inl rfl⟩
    rcases hown.2 with ⟨rfl, hn⟩ | ⟨g, cap, cur, rfl, _, _, hnc, _⟩
    · simp [Builtin.append_, run_underlying ht, sizeOf, typeInfo, hi, Builtin.lenOf, Builtin.firstCells]
    · simp [Builtin.append_, run_underlying ht, sizeOf, typeInfo, hi, Builtin.lenOf, Builtin.firstCells, hnc, storeCells]
  · obtain ⟨news, hnr, hnc⟩ := iH.agU HR
    have hnM : kY (d.M W base okp) d.sz ys news := hnr.yR (fun p c hp => hKM p c hp)
    have hone : ∀ u ∈ news, u.oneCell' = true := by
     intro u hu
     obtain ⟨q, hq, rfl⟩ := List.mem_iff_getElem.1 hu
     have hql : q / d.sz < ys.length := by
      rw [Nat.div_lt_iff_lt_mul hs0]
      rw [← hnM.1]
      exact hq
     have hc := hnM.2 (q / d.sz) _ (List.getElem?_eq_getElem hql)
     refine d.qX (d.jC hc) _ ?_
     rw [List.mem_iff_getElem?]
     refine ⟨q % d.sz, ?_⟩
     rw [List.getElem?_take, if_pos (Nat.mod_lt _ hs0), List.getElem?_drop, Nat.mul_comm, Nat.div_add_mod, List.getElem?_eq_getElem hq]
    obtain ⟨v1, w1, hrun, h2, hg, _, hat⟩ := run_append_own_at (P := P) W base t o.type e i0 z d.sz bytes ht hi hz0 hz1 hz2 hz hs0 v xs.length inner hown ad m c news (by rw [hnM.1, hm]) hnc hone (by simp only [maxLen]; omega) hl hbase
    have hat' : v1.ownBlock = v.ownBlock ∨ ∃ b, v1.ownBlock = some b ∧ W.heap.size ≤ b := by
     rcases hat with hat | hat
     · exact .inl hat
     · exact .inr ⟨_, hat, Nat.le_refl _⟩
    have hne : ∀ k, some k ≠ v.ownBlock → k < W.heap.size → some k ≠ v1.ownBlock := by
     intro k hk hlt
     rcases hat' with hat | ⟨b, hb, hle⟩
     · rw [hat]; exact hk
     · rw [hb]
       intro he
       injection he with he
       omega
    have step : ∀ {q : α} {c : List Value} {o : Nat → Prop}, d.M W base o q c → (∀ k, o k → ok k ∧ some k ≠ v.ownBlock) → d.M w1 base (fun k => ok k ∧ some k ≠ v1.ownBlock) q c := by
     intro q c o hq ho
     have h1 := d.ni (w1 := w1) (fun k hk => hg.block k hk.2.2.1 (ho k hk.1).2) (d.jK hq)
     exact d.iy (fun k hk => ⟨(ho k hk.1).1, hne k (ho k hk.1).2 hk.2.2.1⟩) h1
    refine ⟨v1, w1, hrun, ⟨fun k hk => ?_, inner ++ news, by rw [List.length_append, hm]; exact h2, Px (hr.yR (fun _ _ hq => step hq (fun _ hk => hk))) (hnM.yR (fun _ _ hq => step hq nI))⟩, hg, hat'⟩
    rcases hat' with hat | ⟨b, hb, hle⟩
    · exact hok k (hat ▸ hk)
    · rw [hb] at hk
      injection hk with hk
      exact hfresh k (by omega)
 obtain ⟨v1, w1, hr1, h1, hg, hat⟩ := hrun
 refine wpList_plain hgd fun K hK => ?_
 unfold Oper.wp execOp
 simp only [ho, resolve, invoke, builtin, Sem.run_bind, Sem.run_pure, Result.andThen_ok, List.map_toArray, List.map_cons, List.map_nil, hs, hx, hr1]
 exact hK _ _ (h v1 w1 h1 (HB.grown hg hbase (own_base hown)) hg hat)
end
end Kd
theorem add_add (a : Addr) (i j : Nat) : (a.add i).add j = a.add (i + j) := by
 unfold Addr.add
 by_cases h1 : i = 0 <;> by_cases h2 : j = 0 <;> simp [h1, h2, Nat.add_assoc]
namespace Kd
section
variable {α : Type} {k : Kd α} {w : World} {A : Option Addr} {xs : List α} {m c : Nat}
theorem agZ (h : k.C w A xs.length xs) (hm : m ≤ xs.length) : k.C w A (xs.take m).length (xs.take m) := by
 have hl : (xs.take m).length = m := by rw [List.length_take]; omega
 refine ⟨rfl, by rw [hl]; have := h.2.1; omega, fun hp => ?_⟩
 obtain ⟨ad, e, hc⟩ := h.2.2 (by omega)
 refine ⟨ad, e, fun j p hj => hc j p ?_⟩
 rw [List.getElem?_take] at hj
 split at hj
 · exact hj
 · cases hj
theorem aha (h : k.C w A xs.length xs) (hm : m ≤ xs.length) (hc : xs.length ≤ c) : k.C w (if c = m then A else A.map (·.add (m * k.sz))) (xs.drop m).length (xs.drop m) := by
 have hl : (xs.drop m).length = xs.length - m := List.length_drop
 refine ⟨rfl, by rw [hl]; have := h.2.1; omega, fun hp => ?_⟩
 rw [hl] at hp
 obtain ⟨ad, rfl, hcell⟩ := h.2.2 (by omega)
 rw [if_neg (by omega)]
 refine ⟨ad.add (m * k.sz), rfl, fun j p hj => ?_⟩
 rw [List.getElem?_drop] at hj
 obtain ⟨cs, h1, h2, h3⟩ := hcell (m + j) p hj
 refine ⟨cs, h1, h2, fun i u hu => ?_⟩
 rw [add_add, show m * k.sz + (j * k.sz + i) = (m + j) * k.sz + i by rw [Nat.add_mul]; omega]
 exact h3 i u hu
end
end Kd
theorem DF {P : Program} {w : World} {src dst e : TypeId} {A : Option Addr} {n c : Nat} {xs : List Int} (hs : P.underlying src = some (.slice e)) (he : P.underlying e = some (.int .u8)) (hd : P.underlying dst = some .string)
    (h : aas w .u8 A n xs) : (convert src dst (.slice A n c)).run P w = .ok (.string (strOfNums xs)) w := by
 have hn : xs.length = n := h.1
 rcases A with _ | ad
 · have h0 : n = 0 := by
     rcases Nat.eq_zero_or_pos n with h0 | h0
     · exact h0
     · obtain ⟨ad, h', _⟩ := h.2.2 h0
       cases h'
   subst h0
   obtain rfl : xs = [] := List.eq_nil_of_length_eq_zero hn
   exact run_convert_bytes_nil w src e hs he 0 c dst hd
 · have hl : (loadCells ad n).run P w = .ok (xs.map (Value.int .u8)).toArray w := by
     have := run_loadCells_list (P := P) w ad (xs.map (Value.int .u8)) (fun j v hj => by
      have hjl : j < xs.length := by
       rcases Nat.lt_or_ge j xs.length with h' | h'
       · exact h'
       · rw [List.getElem?_eq_none (by rw [List.length_map]; exact h')] at hj
         cases hj
      obtain ⟨ad', he', hc⟩ := h.2.2 (by omega)
      injection he' with he'
      subst he'
      rw [hc j (by omega)]
      rw [List.getElem?_map, List.getElem?_eq_getElem hjl] at hj
      simp at hj
      subst hj
      simp [List.getD_eq_getElem?_getD, List.getElem?_eq_getElem hjl])
     simpa [hn] using this
   rw [run_convert_bytes_string w src dst e _ n c hs he hd, run_bytesToString w ad n c xs hl, foldl_push_bytes]
   simp [strOfNums, ByteArray.empty, ByteArray.emptyWithCapacity]
   rfl
theorem Kd.jO {P : Program} {w : World} {src dst e : TypeId} {A : Option Addr} {n c : Nat} {xs : List Int} (hs : P.underlying src = some (.slice e)) (he : P.underlying e = some (.int .u8)) (hd : P.underlying dst = some .string)
    (h : (Kd.int .u8).C w A n xs) : (convert src dst (.slice A n c)).run P w = .ok (.string (strOfNums xs)) w :=
 DF hs he hd (Kd.yU (enc := Value.int .u8) (d := (0 : Int)) (h1 := fun _ => rfl) h)
theorem lQ {w W : World} (h : Below w.heap.size w W) : w.heap.size ≤ W.heap.size := h.size
theorem dK {w W w2 : World} (h : Below w.heap.size w W) (k : Below W.heap.size W w2) : Below w.heap.size w w2 := yQ h h.size k
theorem lV {w W : World} {g j : Nat} {v : Value} (h : Below w.heap.size w W) (hg : w.heap.size ≤ g) : Below w.heap.size w (W.setCell ⟨g, j, none⟩ v) := h.setCell hg _
theorem add_block (a : Addr) (i : Nat) : (a.add i).block = a.block := by unfold Addr.add; split <;> rfl
theorem cell_far {W : World} {p a : Addr} (h : a.block ≠ p.block) (u : Value) : (W.setCell p u).cell? a = W.cell? a := by
 have := Below.heap_setCell W p u a.block h
 simp [World.cell?, this]
theorem iQ {w : World} {g : Nat} {t : TypeId} {cs cs' : Array Value} (h : w.heap[g]? = some (.cells cs t (0, 0))) (i : Nat) (u : Value) (e : cs.setIfInBounds i u = cs') : (w.setCell ⟨g, i, none⟩ u).heap[g]? = some (.cells cs' t (0, 0)) := e ▸ VE h i u
theorem Dh {base : Nat} {w W : World} (h : Below base w W) : Below base w W.drew := h.drew
namespace Kd
section
variable {α : Type} {d : Kd α} {e base g : Nat} {ok : Nat → Prop} {w w1 : World} {v : Value} {xs : List α} {o : Obj}
theorem aaA (h : d.R e w base ok v xs) (a : Nat) (ha : w.heap.size ≤ a) : d.R e w base (fun k => ok k ∧ k ≠ a) v xs := dF (dR h) (fun k hk => ⟨hk.1, by have := hk.2.2.1; omega⟩)
end
end Kd
section
variable {P : Program} {ops : Array Oper} {rest : List Oper} {o : Oper} {a : Act} {Q : Exit → Act → World → Prop}
theorem Wx {W : World} (hgd : o.guard = none) {N : Tmp} (_hd : o.dst = some N) {cs : Array Value} {t : TypeId}
    (hrun : (execOp a.eval o).run P W = .ok (.value (.pointer (some ⟨W.heap.size, 0, none⟩))) (W.alloc (.cells cs t (0, 0))))
    (h : ∀ g, g = W.heap.size → ∀ w1, w1.heap[g]? = some (.cells cs t (0, 0)) → Below W.heap.size W w1 → wpList P ops Q rest (a.put o.dst (.pointer (some ⟨g, 0, none⟩))) w1) : wpList P ops Q (o :: rest) a W :=
 Kd.xH hgd hrun (h _ rfl _ (Na W _) (aI (Below.refl _ _) _))
end
namespace Kd
section
variable {α : Type} {enc : α → Value} {h1 : ∀ x, (enc x).oneCell' = true} {e base g n cap : Nat} {ok : Nat → Prop} {W : World} {xs : List α}
theorem iD (d : α) (h : (scalar enc h1).R e W base ok (.slice (some ⟨g, 0, none⟩) n cap) xs) (i : Int) (h0 : 0 ≤ i) (hi : i < n) : W.cell? ⟨g, i.toNat, none⟩ = some (enc (fQ d xs i)) ∧ W.frozen? ⟨g, i.toNat, none⟩ = false := by
 obtain ⟨rfl, _⟩ := bJ h
 exact agV d h i h0 hi
theorem YK (h : (scalar enc h1).R e W base ok (.slice (some ⟨g, 0, none⟩) n cap) xs) (i : Int) (x : α) : (scalar enc h1).R e (W.setCell ⟨g, i.toNat, none⟩ (enc x)) base ok (.slice (some ⟨g, 0, none⟩) n cap) (xs.set i.toNat x) := by
 obtain ⟨rfl, _⟩ := bJ h
 exact (aft h i x).1
end
end Kd
section
variable {P : Program} {ops : Array Oper} {rest : List Oper} {o : Oper} {a : Act} {Q : Exit → Act → World → Prop}
theorem je {W w1 : World} (hgd : o.guard = none) {t : TypeId} {p : Tmp} {v : Operand} (_ho : o.op = .store t (.tmp p) v) (hN : o.dst = none)
    (hrun : (execOp a.eval o).run P W = .ok .skip w1) (h : ∀ w', w' = w1 → wpList P ops Q rest a w') : wpList P ops Q (o :: rest) a W := by
 refine wpList_plain hgd fun K hK => ?_
 unfold Oper.wp
 rw [hrun]
 show K (a.put o.dst undef) w1
 rw [hN]
 exact hK _ _ (h _ rfl)
end
namespace Kd
section
variable {α : Type} {enc : α → Value} {h1 : ∀ x, (enc x).oneCell' = true} {e base g n cap : Nat} {ok : Nat → Prop} {W : World} {xs : List α}
theorem CJ (h : (scalar enc h1).R e W base ok (.slice (some ⟨g, 0, none⟩) n cap) xs) (i : Int) (x : α) : (scalar enc h1).R e (W.setCell ⟨g, i.toNat, none⟩ (enc x)) base ok (.slice (some ⟨g, 0, none⟩) n cap) (xs.set i.toNat x) ∧ W.grownBy (W.setCell ⟨g, i.toNat, none⟩ (enc x)) (some g) := by
 obtain ⟨rfl, _⟩ := bJ h
 exact aft h i x
end
end Kd
section
variable {P : Program} {ops : Array Oper} {rest : List Oper} {o : Oper} {a : Act} {Q : Exit → Act → World → Prop} {W : World}
theorem dA {N : Tmp} (_hN : o.dst = some N) (h : wpList P ops Q (o :: rest) a W) : wpList P ops Q (o :: rest) a W := h
theorem jZ {t : TypeId} {p : Tmp} {v : Operand} (_ho : o.op = .store t (.tmp p) v) (h : wpList P ops Q (o :: rest) a W) : wpList P ops Q (o :: rest) a W := h
end
section
variable {P : Program} {ops : Array Oper} {o : Oper} {a : Act} {Q : Exit → Act → World → Prop} {Kc : Act → World → Prop}
namespace Kd
variable {α : Type}
end Kd
end
namespace Kd
end Kd
end Go.Proofs.YthlflglkdaainaaGreatDoorW.aN
namespace Go.Proofs.YthlflglkdaainaaGreatDoorW.bI
section
variable {P : Program} {ops : Array Oper} {Q : Exit → Act → World → Prop} {md : Region.Mode} {S : World → Prop} {ds : List Nat}
def Region.oG (md : Region.Mode) (ops : Array Oper) (i : Nat) : Nat → Nat → Bool
 | 0, _ => false
 | fuel + 1, d => match ops[d]? with
  | some o => o.after.any fun e => Region.binds md e && (e.on == i || Region.oG md ops i fuel e.on)
  | none => false
def Region.AZ (md : Region.Mode) (ops : Array Oper) (listed : Array Bool) : Bool :=
 (List.range ops.size).all fun j => !listed.getD j false || match ops[j]? with
  | some o => o.after.all fun e => !Region.binds md e || listed.getD e.on false
  | none => true
def Region.lastB (md : Region.Mode) (ops : Array Oper) (listed : Array Bool) (ds : List Nat) (i : Nat) : Bool :=
 ds.all fun d => listed.getD d true || Region.oG md ops i ops.size d
def jh (md : Region.Mode) (ops : Array Oper) (listed : Array Bool) : Prop :=
 ∀ j oj, ops[j]? = some oj → listed.getD j false = true → ∀ e ∈ oj.after, Region.binds md e = true → listed.getD e.on false = true
theorem Region.Nc {listed : Array Bool} (h : Region.AZ md ops listed = true) : jh md ops listed := by
 intro j oj hj hl e he hb
 have hlt : j < ops.size := (Array.getElem?_eq_some_iff.1 hj).1
 have h1 := List.all_eq_true.1 h j (List.mem_range.2 hlt)
 simp only [hl, hj, Bool.not_true, Bool.false_or] at h1
 have h2 := Array.all_eq_true_iff_forall_mem.1 h1 e he
 simpa [hb] using h2
theorem jh.set {listed : Array Bool} {i : Nat} (h : jh md ops listed) (hi : i ∈ Region.ready md ops listed) : jh md ops (listed.setIfInBounds i true) := by
 obtain ⟨_, oi, hoi, hall⟩ := mem_ready.1 hi
 intro j oj hj hl e he hb
 by_cases hij : i = j
 · subst hij
   have : oj = oi := Option.some.inj (hj.symm.trans hoi)
   subst this
   exact getD_set_true (hall e he hb)
 · rw [getD_set_ne false hij] at hl
   exact getD_set_true (h j oj hj hl e he hb)
theorem Region.Ba {listed : Array Bool} {i : Nat} (hc : jh md ops listed) : ∀ (fuel d : Nat), Region.oG md ops i fuel d = true → listed.getD d false = true → listed.getD i false = true
 | 0, _, h, _ => by simp [Region.oG] at h
 | fuel + 1, d, h, hl => by
  unfold Region.oG at h
  cases ho : ops[d]? with
  | none => rw [ho] at h; simp at h
  | some o =>
   rw [ho] at h
   obtain ⟨e, he, h1⟩ := Array.any_eq_true'.1 h
   simp only [Bool.and_eq_true, Bool.or_eq_true, beq_iff_eq] at h1
   have hle := hc d o ho hl e he h1.1
   rcases h1.2 with h2 | h2
   · rw [← h2]; exact hle
   · exact Region.Ba hc fuel e.on h2 hle
theorem Region.DI {listed : Array Bool} {i d fuel : Nat} (hc : jh md ops listed) (hr : Region.oG md ops i fuel d = true) (hun : listed.getD i true = false) : d ∉ Region.ready md ops listed := by
 intro hd
 obtain ⟨_, o, ho, hall⟩ := mem_ready.1 hd
 have hi : listed.getD i false = true := by
  cases fuel with
  | zero => simp [Region.oG] at hr
  | succ n =>
   unfold Region.oG at hr
   rw [ho] at hr
   obtain ⟨e, he, h1⟩ := Array.any_eq_true'.1 hr
   simp only [Bool.and_eq_true, Bool.or_eq_true, beq_iff_eq] at h1
   have hle := hall e he h1.1
   rcases h1.2 with h2 | h2
   · rw [← h2]; exact hle
   · exact Region.Ba hc n e.on h2 hle
 rcases Nat.lt_or_ge i listed.size with h' | h'
 · simp [h'] at hun hi
   rw [hun] at hi
   cases hi
 · simp [Array.getElem?_eq_none h'] at hun
def bM (P : Program) (md : Region.Mode) (ops : Array Oper) (Q : Exit → Act → World → Prop) (S : World → Prop) (ds : List Nat) : Nat → Array Bool → Act → World → Prop
 | 0, listed, a, w => Region.ready md ops listed = [] ∧ Q .normal a w
 | fuel + 1, listed, a, w =>
  (Region.ready md ops listed = [] → Q .normal a w) ∧
  ∀ i ∈ Region.ready md ops listed, wpOp P ops Q i (fun a' w' => (i ∉ ds → S w → S w') ∧ bM P md ops Q S ds fuel (listed.setIfInBounds i true) a' w') a w
theorem yx : ∀ (fuel : Nat) (listed : Array Bool) (a : Act) (w : World), bM P md ops Q S ds fuel listed a w → wpAny P md ops Q fuel listed a w
 | 0, _, _, _, h => h
 | fuel + 1, _, _, _, h => ⟨h.1, fun i hi => wpOp_mono (fun a' w' h' => yx fuel _ a' w' h'.2) (h.2 i hi)⟩
theorem DJ {i : Nat} {oi : Oper} {v : Value} (hi : ops[i]? = some oi) (hsel : ∀ (j : Nat) (o : Oper) cs b, ops[j]? = some o → o.op ≠ .select cs b)
    (hQ : ∀ c a w, Q (.panic c) (a.put oi.dst v) w → Q (.panic c) a w) (n : Nat) :
    ∀ (fuel : Nat) (listed : Array Bool) (a : Act) (w : World),
     (∀ j oj, ops[j]? = some oj → j ≠ i → listed.getD j true = false → (∀ e ∈ oj.after, Region.binds md e = true → e.on ≠ i) → oi.apart ops oj = true) →
     jh md ops listed → (∀ d ∈ ds, listed.getD d true = false → Region.oG md ops i n d = true) →
     i ∈ Region.ready md ops listed → YieldsIf P ops S oi v a → S w →
     bM P md ops Q S ds fuel (listed.setIfInBounds i true) (a.put oi.dst v) w → bM P md ops Q S ds (fuel + 1) listed a w := by
 intro fuel
 induction fuel with
 | zero =>
  intro listed a w _ _ _ hr hy hS H
  refine ⟨fun h => (by rw [h] at hr; cases hr), fun j hj => ?_⟩
  by_cases hji : j = i
  · subst hji; exact hy.wpOp hi hS ⟨fun _ h => h, H⟩
  · have := ready_mono hj hji
    rw [H.1] at this
    cases this
 | succ fuel ih =>
  intro listed a w hfree hc hd hr hy hS H
  refine ⟨fun h => (by rw [h] at hr; cases hr), fun j hj => ?_⟩
  by_cases hji : j = i
  · subst hji; exact hy.wpOp hi hS ⟨fun _ h => h, H⟩
  · have h1 := H.2 j (ready_mono hj hji)
    obtain ⟨hjun, oj, hoj, hall⟩ := mem_ready.1 hj
    have Xw := (mem_ready.1 hr).1
    have hnot : ∀ e ∈ oj.after, Region.binds md e = true → e.on ≠ i := fun e he hb heq => by
     have h1 := hall e he hb
     rw [heq] at h1
     rcases Nat.lt_or_ge i listed.size with h' | h'
     · simp [h'] at Xw h1; rw [Xw] at h1; cases h1
     · simp [Array.getElem?_eq_none h'] at h1
    have hjd : j ∉ ds := fun hm => Region.DI hc (hd j hm hjun) Xw hj
    have h2 := wpOp_putIf hoj (hfree j oj hoj hji hjun hnot) (fun cs b => hsel i oi cs b hi) (fun cs b => hsel j oj cs b hoj) hQ hy h1
    have hfree' : ∀ k ok, ops[k]? = some ok → k ≠ i → (listed.setIfInBounds j true).getD k true = false →
        (∀ e ∈ ok.after, Region.binds md e = true → e.on ≠ i) → oi.apart ops ok = true := fun k ok hk hki hun hno => by
     refine hfree k ok hk hki ?_ hno
     by_cases hjk : j = k
     · subst hjk; exact hjun
     · rw [getD_set_ne true hjk] at hun; exact hun
    have hd' : ∀ d ∈ ds, (listed.setIfInBounds j true).getD d true = false → Region.oG md ops i n d = true := fun d hm hun => by
     refine hd d hm ?_
     by_cases hjk : j = d
     · subst hjk; exact hjun
     · rw [getD_set_ne true hjk] at hun; exact hun
    refine wpOp_mono (fun a' w' h3 => ⟨h3.2.1, ih (listed.setIfInBounds j true) a' w' hfree' (hc.set hj) hd' (ready_mono hr (Ne.symm hji)) h3.1 (h3.2.1 hjd hS) ?_⟩) h2
    rw [Array.setIfInBounds_comm _ _ hji]
    exact h3.2.2
theorem IG {i : Nat} {oi : Oper} {v : Value} (hi : ops[i]? = some oi) (hsel : ∀ (j : Nat) (o : Oper) cs b, ops[j]? = some o → o.op ≠ .select cs b)
    (hQ : ∀ c a w, Q (.panic c) (a.put oi.dst v) w → Q (.panic c) a w) :
    ∀ (fuel : Nat) (listed : Array Bool) (a : Act) (w : World),
     (∀ j oj, ops[j]? = some oj → j ≠ i → listed.getD j true = false → (∀ e ∈ oj.after, Region.binds md e = true → e.on ≠ i) → oi.apart ops oj = true) →
     i ∈ Region.ready md ops listed → Yields P ops oi v a →
     bM P md ops Q S ds fuel (listed.setIfInBounds i true) (a.put oi.dst v) w → bM P md ops Q S ds (fuel + 1) listed a w := by
 intro fuel
 induction fuel with
 | zero =>
  intro listed a w _ hr hy H
  refine ⟨fun h => (by rw [h] at hr; cases hr), fun j hj => ?_⟩
  by_cases hji : j = i
  · subst hji; exact (hy.yieldsIf (S := fun _ => True)).wpOp hi trivial ⟨fun _ h => h, H⟩
  · have := ready_mono hj hji
    rw [H.1] at this
    cases this
 | succ fuel ih =>
  intro listed a w hfree hr hy H
  refine ⟨fun h => (by rw [h] at hr; cases hr), fun j hj => ?_⟩
  by_cases hji : j = i
  · subst hji; exact (hy.yieldsIf (S := fun _ => True)).wpOp hi trivial ⟨fun _ h => h, H⟩
  · have h1 := H.2 j (ready_mono hj hji)
    obtain ⟨hjun, oj, hoj, hall⟩ := mem_ready.1 hj
    have Xw := (mem_ready.1 hr).1
    have hnot : ∀ e ∈ oj.after, Region.binds md e = true → e.on ≠ i := fun e he hb heq => by
     have h1 := hall e he hb
     rw [heq] at h1
     rcases Nat.lt_or_ge i listed.size with h' | h'
     · simp [h'] at Xw h1; rw [Xw] at h1; cases h1
     · simp [Array.getElem?_eq_none h'] at h1
    have h2 := wpOp_put hoj (hfree j oj hoj hji hjun hnot) (fun cs b => hsel i oi cs b hi) (fun cs b => hsel j oj cs b hoj) hQ hy h1
    have hfree' : ∀ k ok, ops[k]? = some ok → k ≠ i → (listed.setIfInBounds j true).getD k true = false →
        (∀ e ∈ ok.after, Region.binds md e = true → e.on ≠ i) → oi.apart ops ok = true := fun k ok hk hki hun hno => by
     refine hfree k ok hk hki ?_ hno
     by_cases hjk : j = k
     · subst hjk; exact hjun
     · rw [getD_set_ne true hjk] at hun; exact hun
    refine wpOp_mono (fun a' w' h3 => ⟨h3.2.1, ih (listed.setIfInBounds j true) a' w' hfree' (ready_mono hr (Ne.symm hji)) h3.1 ?_⟩) h2
    rw [Array.setIfInBounds_comm _ _ hji]
    exact h3.2.2
theorem Gs {i : Nat} {oi : Oper} {v : Value} {fuel : Nat} {listed : Array Bool} {a : Act} {w : World} (hi : ops[i]? = some oi)
    (hs : Region.noSelect ops = true) (hf : Region.free md ops listed i = true) (hr : (Region.ready md ops listed).contains i = true)
    (hc : Region.AZ md ops listed = true) (hl : Region.lastB md ops listed ds i = true)
    (hQ : ∀ c a w, Q (.panic c) (a.put oi.dst v) w → Q (.panic c) a w) (hy : YieldsIf P ops S oi v a) (hS : S w)
    (h : bM P md ops Q S ds fuel (listed.setIfInBounds i true) (a.put oi.dst v) w) : bM P md ops Q S ds (fuel + 1) listed a w :=
 DJ hi (Region.noSelect_spec hs) hQ ops.size fuel listed a w (Region.free_spec hi hf) (Region.Nc hc)
  (fun d hm hun => by have := List.all_eq_true.1 hl d hm; rw [hun] at this; simpa using this) (by simpa using hr) hy hS h
theorem II {rs : List Nat} {fuel : Nat} {listed : Array Bool} {a : Act} {w : World} (hr : Region.ready md ops listed = rs) (hne : rs ≠ [])
    (h : ∀ i ∈ rs, wpOp P ops Q i (fun a' w' => (i ∉ ds → S w → S w') ∧ bM P md ops Q S ds fuel (listed.setIfInBounds i true) a' w') a w) : bM P md ops Q S ds (fuel + 1) listed a w :=
 ⟨fun h0 => absurd (hr ▸ h0) hne, hr ▸ h⟩
theorem Gt {listed : Array Bool} {a : Act} {w : World} (hr : Region.ready md ops listed = []) (h : Q .normal a w) :
    ∀ fuel, bM P md ops Q S ds fuel listed a w
 | 0 => ⟨hr, h⟩
 | _ + 1 => ⟨fun _ => h, by rw [hr]; simp⟩
theorem Gu {id : Nat} {a : Act} {w : World} (hm : P.follows .mixedOrders = true)
    (h : bM P .any ops Q S ds ops.size (Array.replicate ops.size false) a { w with drawn := w.drawn + 1 }) : (Code.region id ops true).wp P Q a w :=
 wp_region_any hm (yx _ _ _ _ h)
end
section
variable {P : Program} {ops : Array Oper} {Q : Exit → Act → World → Prop} {md : Region.Mode} {S : World → Prop} {ds : List Nat}
def mg (P : Program) (md : Region.Mode) (ops : Array Oper) (Q : Exit → Act → World → Prop) (S : World → Prop) (ds : List Nat) (fuel : Nat) (listed : Array Bool) (a : Act) (w : World) (rs : List Nat) : Prop :=
 ∀ i ∈ rs, wpOp P ops Q i (fun a' w' => (i ∉ ds → S w → S w') ∧ bM P md ops Q S ds fuel (listed.setIfInBounds i true) a' w') a w
theorem mg.nil {fuel : Nat} {listed : Array Bool} {a : Act} {w : World} : mg P md ops Q S ds fuel listed a w [] := fun _ h => by cases h
theorem mg.Xx {fuel : Nat} {listed : Array Bool} {a : Act} {w : World} {i : Nat} {o : Oper} {rs : List Nat} (ho : ops[i]? = some o) (hd : i ∈ ds)
    (h : ∀ K' : Act → World → Prop, Shut (∀ a w, bM P md ops Q S ds fuel (listed.setIfInBounds i true) a w → K' a w) → if Region.wanted o (yielded ops a.tmps) = true then Oper.wp P o a w K' Q else K' (a.put o.dst undef) w)
    (hs : mg P md ops Q S ds fuel listed a w rs) : mg P md ops Q S ds fuel listed a w (i :: rs) := fun j hj => by
 rcases List.mem_cons.1 hj with rfl | hj
 · exact wpOp_step ho (fun K' hK => h K' (fun a w hW => hK a w ⟨fun hn => absurd hd hn, hW⟩))
 · exact hs j hj
theorem DK {rs : List Nat} {fuel : Nat} {listed : Array Bool} {a : Act} {w : World} (hr : Region.ready md ops listed = rs) (hne : rs ≠ [])
    (h : mg P md ops Q S ds fuel listed a w rs) : bM P md ops Q S ds (fuel + 1) listed a w := II hr hne h
theorem YL {id n : Nat} {a : Act} {w : World} (l : Array Bool) (hm : P.follows .mixedOrders = true) (hn : ops.size = n) (hl : Array.replicate n false = l) (hS : S w.drew)
    (h : S w.drew → bM P .any ops Q S ds n l a w.drew) : (Code.region id ops true).wp P Q a w := by
 subst hn
 subst hl
 exact Gu hm (h hS)
def takeB (md : Region.Mode) (ops : Array Oper) (ds : List Nat) (l l' : Array Bool) (i : Nat) : Bool :=
 Region.noSelect ops && Region.free md ops l i && (Region.ready md ops l).contains i && Region.AZ md ops l && Region.lastB md ops l ds i && (l.setIfInBounds i true == l')
theorem IY {i : Nat} {N : Option Tmp} {oi : Oper} {v : Value} {fuel : Nat} {l : Array Bool} {a : Act} {w : World} (l' : Array Bool) (hi : ops[i]? = some oi) (hN : oi.dst = N) (hc : takeB md ops ds l l' i = true)
    (hQ : ∀ c a w, Q (.panic c) (a.put oi.dst v) w → Q (.panic c) a w) (hy : YieldsIf P ops S oi v a) (hS : S w) {a' : Act} (ha : a.put N v = a')
    (h : bM P md ops Q S ds fuel l' a' w) : bM P md ops Q S ds (fuel + 1) l a w := by
 subst ha
 subst hN
 simp only [takeB, Bool.and_eq_true, beq_iff_eq] at hc
 obtain ⟨⟨⟨⟨⟨h1, h2⟩, h3⟩, h4⟩, h5⟩, h6⟩ := hc
 subst h6
 exact Gs hi h1 h2 h3 h4 h5 hQ hy hS h
def adS (md : Region.Mode) (ops : Array Oper) (l l' : Array Bool) (i : Nat) : Bool :=
 Region.noSelect ops && Region.free md ops l i && (Region.ready md ops l).contains i && (l.setIfInBounds i true == l')
theorem gu {i : Nat} {N : Option Tmp} {oi : Oper} {v : Value} {fuel : Nat} {l : Array Bool} {a : Act} {w : World} (l' : Array Bool) (hi : ops[i]? = some oi) (hN : oi.dst = N) (hc : adS md ops l l' i = true)
    (hQ : ∀ c a w, Q (.panic c) (a.put oi.dst v) w → Q (.panic c) a w) (hy : Yields P ops oi v a) {a' : Act} (ha : a.put N v = a')
    (h : bM P md ops Q S ds fuel l' a' w) : bM P md ops Q S ds (fuel + 1) l a w := by
 subst ha
 subst hN
 simp only [adS, Bool.and_eq_true, beq_iff_eq] at hc
 obtain ⟨⟨⟨h1, h2⟩, h3⟩, h6⟩ := hc
 subst h6
 exact IG hi (Region.noSelect_spec h1) hQ fuel l a w (Region.free_spec hi h2) (by simpa using h3) hy h
def Nh (md : Region.Mode) (ops : Array Oper) (l l' : Array Bool) (i : Nat) : Bool := (Region.ready md ops l == [i]) && (l.setIfInBounds i true == l')
theorem TU {i : Nat} {N : Option Tmp} {oi : Oper} {fuel : Nat} {l : Array Bool} {a : Act} {w : World} (l' : Array Bool) (hi : ops[i]? = some oi) (hN : oi.dst = N) (hc : Nh md ops l l' i = true) (hd : i ∈ ds)
    (h : ∀ K : Act → World → Prop, Shut (∀ a' w', bM P md ops Q S ds fuel l' a' w' → K a' w') → if Region.wanted oi (yielded ops a.tmps) = true then Oper.wp P oi a w K Q else K (a.put N undef) w) :
    bM P md ops Q S ds (fuel + 1) l a w := by
 subst hN
 simp only [Nh, Bool.and_eq_true, beq_iff_eq] at hc
 obtain ⟨h1, h2⟩ := hc
 subst h2
 exact DK h1 (by simp) (mg.Xx hi hd (fun K hK => h K hK) mg.nil)
theorem afl {l : Array Bool} {a : Act} {w : World} {n : Nat} (hr : (Region.ready md ops l == []) = true) (h : Q .normal a w) : bM P md ops Q S ds n l a w := Gt (by simpa using hr) h n
theorem afn {fuel : Nat} {l : Array Bool} {a a' : Act} {w : World} (ha : a = a') (h : bM P md ops Q S ds fuel l a' w) : bM P md ops Q S ds fuel l a w := by
 subst ha
 exact h
theorem adT {f : FuncId} {fn : Func} (hf : P.funcs[f]? = some fn) (hname : (fn.name == "runtime.NumGoroutine") = false) (hb : fn.body.isSome = true) (args : Array Value) (w : World) : (callFunc f args).run P w = .ok (.enter f args) w := by
 have h1 : fn.name ≠ "runtime.NumGoroutine" := by simpa using hname
 obtain ⟨c, hc⟩ := Option.isSome_iff_exists.1 hb
 simp [callFunc, hf, h1, hc]
theorem KX {rest : List Oper} {oi : Oper} {a : Act} {w : World} (N : Option Tmp) (hd : oi.dst = N) (hg : oi.guard = none) {f : FuncId} {fn : Func} {as : Array Operand} {ts : Array TypeId} (hf : P.funcs[f]? = some fn) (hname : (fn.name == "runtime.NumGoroutine") = false) (hb : fn.body.isSome = true) (args : Array Value)
    (hop : oi.op = .call { callee := .value (.func f), args := as, argTypes := ts }) (hargs : as.map a.eval = args)
    (h : Calls P f args w fun e w' => ∃ v, e = .returned v ∧ wpList P ops Q rest (a.put N v) w') : wpList P ops Q (oi :: rest) a w := by
 refine wpList_plain hg fun K hK => ?_
 have he := adT hf hname hb args w
 have hrun : (execOp a.eval oi).run P w = .ok (.enter f args) w := by
  unfold execOp
  simp [hop, resolve, Deferred.ofValue, invoke, Act.eval, hargs, he]
 unfold Oper.wp
 rw [hrun, Oper.upon_enter]
 refine h.mono fun e w'' hh => ?_
 obtain ⟨v, rfl, hk⟩ := hh
 subst hd
 exact hK _ _ hk
theorem agq {oi : Oper} {N : Option Tmp} {a : Act} {w w1 : World} {v : Value} {K : Act → World → Prop} (hw : Region.wanted oi (yielded ops a.tmps) = true) (hN : oi.dst = N) (hrun : (execOp a.eval oi).run P w = .ok (.value v) w1)
    (h : K (a.put N v) w1) : if Region.wanted oi (yielded ops a.tmps) = true then Oper.wp P oi a w K Q else K (a.put N undef) w := by
 rw [if_pos hw]
 subst hN
 unfold Oper.wp
 rw [hrun]
 exact h
theorem afk {oi : Oper} {a : Act} {w w1 : World} {K : Act → World → Prop} (hw : Region.wanted oi (yielded ops a.tmps) = true) (hN : oi.dst = none) (hrun : (execOp a.eval oi).run P w = .ok .skip w1)
    (h : K a w1) : if Region.wanted oi (yielded ops a.tmps) = true then Oper.wp P oi a w K Q else K (a.put none undef) w := by
 rw [if_pos hw]
 unfold Oper.wp
 rw [hrun]
 show K (a.put oi.dst undef) w1
 rw [hN]
 exact h
theorem dW (n : Int) : IntKind.i64.wrap n = Go.RowKit.wrap64 n := by unfold Go.RowKit.wrap64; exact IntKind.wrap_i64 n
theorem dX (n : Int) : IntKind.i32.wrap n = Go.RowKit.wrap32 n := by unfold Go.RowKit.wrap32; exact IntKind.wrap_i32 n
end
open Go.Proofs.YthlflglkdaainaaGreatDoorW.aN (ah)
def xI (md : Region.Mode) (o : Oper) : List Nat := (o.after.toList.filter (fun e => Region.binds md e)).map (fun e => e.on)
def Nj (md : Region.Mode) (ops : Array Oper) (i : Nat) (oi : Oper) : List Nat := (List.range ops.size).filter fun j => !(j == i) && match ops[j]? with
 | some oj => !(oj.after.any (fun e => Region.binds md e && e.on == i) || oi.apart ops oj)
 | none => false
def qE (md : Region.Mode) (ops : Array Oper) : Bool × List (List Nat × List Nat) := (Region.noSelect ops, (List.range ops.size).map fun i => match ops[i]? with
 | some o => (xI md o, Nj md ops i o)
 | none => ([], []))
def qY (T : List (List Nat × List Nat)) (l : List Bool) (i : Nat) : Bool := !l.getD i true && match T[i]? with
 | some r => r.1.all (fun j => l.getD j false)
 | none => false
def Gv (T : List (List Nat × List Nat)) (l : List Bool) : List Nat := (List.range T.length).filter (qY T l)
def Py (T : List (List Nat × List Nat)) (l : List Bool) (i : Nat) : Bool := match T[i]? with
 | some r => r.2.all (fun j => l.getD j true)
 | none => false
def Et (T : List (List Nat × List Nat)) (l : List Bool) : Bool := (List.range T.length).all fun j => !l.getD j false || match T[j]? with
 | some r => r.1.all (fun k => l.getD k false)
 | none => true
def CO (T : List (List Nat × List Nat)) (i : Nat) : Nat → Nat → Bool
 | 0, _ => false
 | fuel + 1, d => match T[d]? with
  | some r => r.1.any fun j => j == i || CO T i fuel j
  | none => false
def lastT (T : List (List Nat × List Nat)) (l : List Bool) (ds : List Nat) (i : Nat) : Bool := ds.all fun d => l.getD d true || CO T i T.length d
section
variable {md : Region.Mode} {ops : Array Oper} {T : Bool × List (List Nat × List Nat)} {l l' li lj lk : Array Bool} {ds : List Nat} {i j k : Nat}
theorem gd (l : Array Bool) (j : Nat) (b : Bool) : l.getD j b = l.toList.getD j b := by simp [Array.getD_eq_getD_getElem?, List.getD_eq_getElem?_getD]
theorem JB (o : Oper) (p : Nat → Bool) : o.after.all (fun e => !Region.binds md e || p e.on) = (xI md o).all p := by
 unfold xI
 rw [← Array.all_toList]
 induction o.after.toList with
 | nil => rfl
 | cons e r ih =>
  rw [List.all_cons, ih, List.filter_cons]
  cases h : Region.binds md e <;> simp
theorem Xy (o : Oper) (p : Nat → Bool) : o.after.any (fun e => Region.binds md e && p e.on) = (xI md o).any p := by
 unfold xI
 rw [← Array.any_toList]
 induction o.after.toList with
 | nil => rfl
 | cons e r ih =>
  rw [List.any_cons, ih, List.filter_cons]
  cases h : Region.binds md e <;> simp
theorem qZ : (qE md ops).2.length = ops.size := by simp [qE]
theorem xJ {o : Oper} (h : ops[i]? = some o) : (qE md ops).2[i]? = some (xI md o, Nj md ops i o) := by
 have hi := (Array.getElem?_eq_some_iff.1 h).1
 unfold qE
 rw [List.getElem?_map, List.getElem?_range hi, Option.map_some, h]
theorem xK (h : ops[i]? = none) : (qE md ops).2[i]? = none := by
 have hi : ops.size ≤ i := Array.getElem?_eq_none_iff.1 h
 exact List.getElem?_eq_none (by rw [qZ]; exact hi)
theorem RG : qY (qE md ops).2 l.toList i = (!l.getD i true && ((ops[i]?).map (·.after.all fun e => !Region.binds md e || l.getD e.on false)).getD false) := by
 unfold qY
 rw [gd]
 cases h : ops[i]? with
 | none => rw [xK h]; rfl
 | some o =>
  rw [xJ h]
  simp only [Option.map_some, Option.getD_some]
  rw [← JB]
  simp only [gd]
theorem ready_eq : Region.ready md ops l = Gv (qE md ops).2 l.toList := by
 unfold Region.ready Gv
 rw [qZ]
 refine List.filter_congr (fun i _ => ?_)
 rw [RG]
theorem free_eq : Region.free md ops l i = Py (qE md ops).2 l.toList i := by
 unfold Region.free Py
 cases h : ops[i]? with
 | none => rw [xK h]
 | some oi =>
  rw [xJ h]
  simp only [Nj]
  rw [List.all_filter]
  congr 1
  funext j
  rw [gd]
  cases hj : ops[j]? with
  | none => cases (j == i) <;> cases (l.toList.getD j true) <;> simp
  | some oj =>
   cases (j == i) <;> cases (l.toList.getD j true) <;> cases (oj.after.any (fun e => Region.binds md e && e.on == i) || oi.apart ops oj) <;> simp_all
theorem Xz : Region.AZ md ops l = Et (qE md ops).2 l.toList := by
 unfold Region.AZ Et
 rw [qZ]
 congr 1
 funext j
 rw [gd]
 cases h : ops[j]? with
 | none => rw [xK h]
 | some o =>
  rw [xJ h]
  simp only
  rw [← JB]
  simp only [gd]
theorem reach_eq : ∀ (fuel d : Nat), Region.oG md ops i fuel d = CO (qE md ops).2 i fuel d
 | 0, _ => rfl
 | fuel + 1, d => by
  unfold Region.oG CO
  cases h : ops[d]? with
  | none => rw [xK h]
  | some o =>
   rw [xJ h]
   simp only
   rw [← Xy]
   congr 1
   funext e
   rw [reach_eq fuel]
theorem adU : Region.lastB md ops l ds i = lastT (qE md ops).2 l.toList ds i := by
 unfold Region.lastB lastT
 rw [qZ]
 congr 1
 funext d
 rw [gd, reach_eq]
theorem Dv (h : qY T.2 l.toList i = true) (hT : qE md ops = T) : (Region.ready md ops l).contains i = true := by
 subst hT
 rw [ready_eq]
 unfold Gv
 rw [List.contains_iff_mem, List.mem_filter, List.mem_range]
 refine ⟨?_, h⟩
 unfold qY at h
 rw [Bool.and_eq_true] at h
 cases hq : (qE md ops).2[i]? with
 | none => rw [hq] at h; simp at h
 | some r => exact (List.getElem?_eq_some_iff.1 hq).1
theorem RH (h : (l.toList.set i true == l'.toList) = true) : (l.setIfInBounds i true == l') = true := by
 rw [beq_iff_eq] at h ⊢
 apply Array.ext'
 rw [Array.toList_setIfInBounds]
 exact h
def anyT (T : Bool × List (List Nat × List Nat)) (l l' : List Bool) (i : Nat) : Bool := T.1 && Py T.2 l i && qY T.2 l i && (l.set i true == l')
theorem dN (hT : qE md ops = T) (h : anyT T l.toList l'.toList i = true) : adS md ops l l' i = true := by
 simp only [anyT, Bool.and_eq_true] at h
 obtain ⟨⟨⟨h1, h2⟩, h3⟩, h4⟩ := h
 have h5 := Dv h3 hT
 have h6 := RH h4
 subst hT
 simp only [adS, Bool.and_eq_true]
 exact ⟨⟨⟨h1, by rw [free_eq]; exact h2⟩, h5⟩, h6⟩
def aaB (T : Bool × List (List Nat × List Nat)) (ds : List Nat) (l l' : List Bool) (i : Nat) : Bool := T.1 && Py T.2 l i && qY T.2 l i && Et T.2 l && lastT T.2 l ds i && (l.set i true == l')
theorem adV (hT : qE md ops = T) (h : aaB T ds l.toList l'.toList i = true) : takeB md ops ds l l' i = true := by
 simp only [aaB, Bool.and_eq_true] at h
 obtain ⟨⟨⟨⟨⟨h1, h2⟩, h3⟩, h4⟩, h5⟩, h6⟩ := h
 have h7 := Dv h3 hT
 have h8 := RH h6
 subst hT
 simp only [takeB, Bool.and_eq_true]
 exact ⟨⟨⟨⟨⟨h1, by rw [free_eq]; exact h2⟩, h7⟩, by rw [Xz]; exact h4⟩, by rw [adU]; exact h5⟩, h8⟩
theorem KW (hT : qE md ops = T) (h : (Gv T.2 l.toList == [i] && l.toList.set i true == l'.toList) = true) : Nh md ops l l' i = true := by
 simp only [Bool.and_eq_true] at h
 obtain ⟨h1, h2⟩ := h
 subst hT
 simp only [Nh, Bool.and_eq_true]
 exact ⟨by rw [ready_eq]; exact h1, RH h2⟩
theorem TV (hT : qE md ops = T) (h : (Gv T.2 l.toList == []) = true) : (Region.ready md ops l == []) = true := by
 subst hT
 rw [ready_eq]
 exact h
def upM (B : List Nat) (d : Nat) : List Nat → Nat
 | [] => 0
 | n :: r => (2 ^ n ||| (if n < d then B.getD n 0 else 0)) ||| upM B d r
def wP (T : List (List Nat × List Nat)) (B : List Nat) : Bool := (List.range T.length).all fun d => match T[d]? with
 | some r => (B.getD d 0 ||| upM B d r.1) == upM B d r.1
 | none => false
theorem VF {B : List Nat} {d i : Nat} : ∀ {ns : List Nat}, (upM B d ns).testBit i = true → ∃ n ∈ ns, n = i ∨ (n < d ∧ (B.getD n 0).testBit i = true)
 | [], h => by simp [upM] at h
 | n :: r, h => by
  unfold upM at h
  rw [Nat.testBit_or, Nat.testBit_or, Bool.or_eq_true, Bool.or_eq_true] at h
  rcases h with (h | h) | h
  · rw [Nat.testBit_two_pow] at h
    exact ⟨n, List.mem_cons_self, .inl (by simpa using h)⟩
  · by_cases hn : n < d
    · rw [if_pos hn] at h
      exact ⟨n, List.mem_cons_self, .inr ⟨hn, h⟩⟩
    · rw [if_neg hn] at h
      simp at h
  · obtain ⟨m, hm, h2⟩ := VF h
    exact ⟨m, List.mem_cons_of_mem _ hm, h2⟩
theorem JC {T : List (List Nat × List Nat)} {B : List Nat} (hB : wP T B = true) : ∀ (fuel d : Nat), d < fuel → d < T.length → (B.getD d 0).testBit i = true → CO T i fuel d = true
 | 0, d, h, _, _ => by omega
 | fuel + 1, d, h, hd, hb => by
  have h1 := List.all_eq_true.1 hB d (List.mem_range.2 hd)
  cases hr : T[d]? with
  | none => rw [hr] at h1; simp at h1
  | some r =>
   rw [hr] at h1
   simp only [beq_iff_eq] at h1
   have h2 : (upM B d r.1).testBit i = true := by rw [← h1, Nat.testBit_or, hb, Bool.true_or]
   obtain ⟨n, hn, h3⟩ := VF h2
   unfold CO
   rw [hr]
   simp only
   rw [List.any_eq_true]
   refine ⟨n, hn, ?_⟩
   rcases h3 with rfl | ⟨h4, h5⟩
   · simp
   · rw [JC hB fuel n (by omega) (by omega) h5, Bool.or_true]
def afu (T : List (List Nat × List Nat)) (B : List Nat) (l : List Bool) (ds : List Nat) (i : Nat) : Bool := ds.all fun d => l.getD d true || (decide (d < T.length) && (B.getD d 0).testBit i)
def afv (T : Bool × List (List Nat × List Nat)) (B : List Nat) (ds : List Nat) (l l' : List Bool) (i : Nat) : Bool := T.1 && Py T.2 l i && qY T.2 l i && Et T.2 l && afu T.2 B l ds i && (l.set i true == l')
theorem rW {B : List Nat} (hT : qE md ops = T) (hB : wP T.2 B = true) (h : afv T B ds l.toList l'.toList i = true) : takeB md ops ds l l' i = true := by
 refine adV hT ?_
 simp only [afv, aaB, Bool.and_eq_true] at h ⊢
 obtain ⟨⟨⟨⟨⟨h1, h2⟩, h3⟩, h4⟩, h5⟩, h6⟩ := h
 refine ⟨⟨⟨⟨⟨h1, h2⟩, h3⟩, h4⟩, ?_⟩, h6⟩
 unfold afu at h5
 unfold lastT
 rw [List.all_eq_true] at h5 ⊢
 intro d hd
 have h7 := h5 d hd
 rw [Bool.or_eq_true, Bool.and_eq_true, decide_eq_true_eq] at h7
 rcases h7 with h7 | ⟨h8, h9⟩
 · rw [h7, Bool.true_or]
 · rw [JC hB _ d h8 h8 h9, Bool.or_true]
theorem IX {P : Program} {Q : Exit → Act → World → Prop} {S : World → Prop} {n : Nat} {a : Act} {w : World} {B : List Nat} (hT : qE md ops = T) (hB : wP T.2 B = true) (h : ah (qE md ops = T) → ah (wP T.2 B = true) → bM P md ops Q S ds n l a w) : bM P md ops Q S ds n l a w := h ⟨hT⟩ ⟨hB⟩
end
def yA : Code → Nat → Option (Array Oper)
 | .region id ops _, k => if id == k then some ops else none
 | .seq a b, k => match yA a k with
  | some o => some o
  | none => yA b k
 | .cond _ a b, k => match yA a k with
  | some o => some o
  | none => yA b k
 | .block _ c, k => yA c k
 | .loop c, k => yA c k
 | .scope c, k => yA c k
 | .rangeFunc _ _ a b, k => match yA a k with
  | some o => some o
  | none => yA b k
 | _, _ => none
def opsOf (f : Func) (k : Nat) : Array Oper := ((f.body.bind fun c => yA c k)).getD #[]
end Go.Proofs.YthlflglkdaainaaGreatDoorW.bI
namespace Go.Proofs.YthlflglkdaainaaGreatDoorW.aN
open Go.RowKit
namespace Kd
def raw (sz : Nat) : Kd (List Value) where
 sz := sz
 E := []
 K := fun _ x cs => cs = x ∧ cs.length = sz ∧ ∀ u ∈ cs, u.oneCell' = true
 M := fun _ _ _ x cs => cs = x ∧ cs.length = sz ∧ ∀ u ∈ cs, u.oneCell' = true
 qW := fun h => h.2.1
 qX := fun h => h.2.2
 oW := fun _ h => h
 jC := fun h => h
 iy := fun _ h => h
 jK := fun h => h
 ni := fun _ h => h
 oZ := fun _ h => h
section
variable {α β : Type} {d : Kd α} {d' : Kd β} {e e' : Nat} {w w1 W : World} {base b : Nat} {ok ok' okv oku : Nat → Prop} {u v : Value} {xs : List α} {ys : List β}
theorem KY (hE : d.E = []) (h : d.R e w base ok v xs) : d.R e w base (fun k => some k = v.ownBlock) v xs := by
 obtain ⟨h0, inner, ho, hr⟩ := h
 refine ⟨fun k hk => hk.symm, inner, ho, hr.yR (fun p c hp => d.iy (fun k hk => ?_) (d.jK hp))⟩
 obtain ⟨_, _, _, q, hq, _⟩ := hk
 rw [hE] at hq
 cases hq
end
structure Heap {α : Type} (d : Kd α) : Prop where
 K : ∀ {w w1 : World} {x : α} {cs : List Value}, (∀ k, k < w.heap.size → w1.heap[k]? = w.heap[k]?) → d.K w x cs → d.K w1 x cs
theorem XA {w w1 : World} (hb : ∀ k, k < w.heap.size → w1.heap[k]? = w.heap[k]?) {a : Addr} {v : Value} (h : w.cell? a = some v) : w1.cell? a = some v := by
 have := hb a.block (World.block_lt_of_cell? w a h)
 simpa [World.cell?, this] using h
theorem Heap.C {α : Type} {d : Kd α} (hd : Heap d) {w w1 : World} {A : Option Addr} {n : Nat} {xs : List α} (hb : ∀ k, k < w.heap.size → w1.heap[k]? = w.heap[k]?) (h : d.C w A n xs) : d.C w1 A n xs :=
 ⟨h.1, h.2.1, fun hn => by
  obtain ⟨ad, e, hc⟩ := h.2.2 hn
  refine ⟨ad, e, fun j p hj => ?_⟩
  obtain ⟨c, hs, hr, hcell⟩ := hc j p hj
  exact ⟨c, hs, hd.K hb hr, fun i u hu => XA hb (hcell i u hu)⟩⟩
theorem aaC (k : IntKind) : Heap (Kd.int k) := ⟨fun _ h => h⟩
end Kd
def Kept (w W : World) (S : Nat → Prop) : Prop := w.heap.size ≤ W.heap.size ∧ ∀ i, i < w.heap.size → ¬ S i → W.heap[i]? = w.heap[i]?
section
variable {w W W2 : World} {S S2 S' : Nat → Prop}
theorem Kept.refl (w : World) (S : Nat → Prop) : Kept w w S := ⟨Nat.le_refl _, fun _ _ _ => rfl⟩
theorem Kept.of_below (h : Below w.heap.size w W) (S : Nat → Prop) : Kept w W S := ⟨h.size, fun i hi _ => h.block i hi⟩
theorem Kept.mono (h : Kept w W S) (hs : ∀ k, S k → S' k) : Kept w W S' := ⟨h.1, fun i hi hn => h.2 i hi (fun hk => hn (hs i hk))⟩
theorem Kept.then_ (h : Kept w W S) (k : Kept W W2 S2) (hs : ∀ k, S2 k → S k ∨ w.heap.size ≤ k) : Kept w W2 S :=
 ⟨Nat.le_trans h.1 k.1, fun i hi hn => (k.2 i (Nat.lt_of_lt_of_le hi h.1) (fun h2 => (hs i h2).elim hn (fun h3 => by omega))).trans (h.2 i hi hn)⟩
theorem Kept.aiV {row : Option Nat} (hg : W.grownBy W2 row) (h : Kept w W S) (hr : ∀ k, row = some k → S k ∨ w.heap.size ≤ k) : Kept w W2 S :=
 h.then_ (S2 := fun k => row = some k) ⟨hg.size, fun i hi hn => hg.block i hi (fun he => hn he.symm)⟩ hr
theorem Kept.below (h : Kept w W S) (hb : Below W.heap.size W W2) : Kept w W2 S := h.then_ (Kept.of_below hb (fun _ => False)) (fun _ hk => hk.elim)
theorem Kept.alloc (h : Kept w W S) (o : Obj) : Kept w (W.alloc o) S := h.below (aI (Below.refl _ _) o)
theorem Kept.drew (h : Kept w W S) : Kept w W.drew S := h
theorem Kept.drewN (h : Kept w W S) (m : Nat) : Kept w (W.drewN m) S := h
theorem Kept.setCell (h : Kept w W S) {p : Addr} (hp : S p.block ∨ w.heap.size ≤ p.block) (u : Value) : Kept w (W.setCell p u) S :=
 h.then_ (S2 := fun k => k = p.block) ⟨by simp [World.setCell], fun i _ hn => Below.heap_setCell W p u i hn⟩ (fun k hk => by rw [hk]; exact hp)
end
namespace Kd
end Kd
open Go.RowKit
def sQ (P : World → Prop) (W : World) (ok : Nat → Prop) : Prop := ∀ W' : World, (∀ k, ok k → k < W.heap.size → W'.heap[k]? = W.heap[k]?) → P W'
theorem adW {W W1 : World} {k : Nat} (h : W1.heap[k]? = W.heap[k]?) (hlt : k < W.heap.size) : k < W1.heap.size := by
 rw [Array.getElem?_eq_getElem hlt] at h
 exact (Array.getElem?_eq_some_iff.1 h).1
namespace sQ
variable {P Q : World → Prop} {W W1 : World} {ok ok' : Nat → Prop}
theorem now (h : sQ P W ok) : P W := h W (fun _ _ _ => rfl)
theorem mono (h : sQ P W ok) (hok : ∀ k, ok k → ok' k) : sQ P W ok' := fun W' hW => h W' (fun k hk hlt => hW k (hok k hk) hlt)
theorem bound (h : sQ P W ok) : sQ P W (fun k => ok k ∧ k < W.heap.size) := fun W' hW => h W' (fun k hk hlt => hW k ⟨hk, hlt⟩ hlt)
theorem step (h : sQ P W ok) (hm : ∀ k, ok k → k < W.heap.size → W1.heap[k]? = W.heap[k]?) : sQ P W1 ok := fun W' hW => h W' (fun k hk hlt => (hW k hk (adW (hm k hk hlt) hlt)).trans (hm k hk hlt))
end sQ
namespace Kd
def F {α : Type} (d : Kd α) (W : World) (ok : Nat → Prop) (A : Option Addr) (n : Nat) (xs : List α) : Prop := sQ (fun W => d.C W A n xs) W ok
def FK {α : Type} (d : Kd α) (W : World) (ok : Nat → Prop) (x : α) (c : List Value) : Prop := sQ (fun W => d.K W x c) W ok
section
variable {α β : Type} {d : Kd α} {e base n n' cc g N : Nat} {ok ok' okp S : Nat → Prop} {w w0 w1 W W1 : World} {A A' : Option Addr} {u v v1 : Value} {xs : List α} {xs' : List β} {d' : Kd β} {x : α} {c : List Value}
theorem aaD (h : F d W ok A n xs) : d.C W A n xs := sQ.now h
theorem Gw (h : F d W ok A n xs) (hok : ∀ k, ok k → ok' k) : F d W ok' A n xs := sQ.mono h hok
theorem VG (h : F d W ok A n xs) : F d W (fun k => ok k ∧ k < W.heap.size) A n xs := sQ.bound h
theorem RI (h : F d W ok A n xs) (hm : ∀ k, ok k → k < W.heap.size → W1.heap[k]? = W.heap[k]?) : F d W1 ok A n xs := sQ.step h hm
theorem VH (h : F d W ok A n xs) (hb : Below W.heap.size W W1) : F d W1 ok A n xs := RI h (fun k _ hlt => hb.block k hlt)
theorem ahb (h : F d W ok A n xs) : F d W.drew ok A n xs := VH h (uI (Below.refl _ _))
theorem anc (h : F d W ok A n xs) {row : Option Nat} (hg : W.grownBy W1 row) (hok : ∀ k, ok k → some k ≠ row) : F d W1 ok A n xs := RI h (fun k hk hlt => hg.block k hlt (hok k hk))
theorem afw (h : F d W ok A n xs) {p : Addr} (hok : ∀ k, ok k → k ≠ p.block) (u : Value) : F d (W.setCell p u) ok A n xs := RI h (fun k hk _ => Below.heap_setCell W p u k (hok k hk))
theorem aaE (d : Kd α) (W : World) (ok : Nat → Prop) : F d W ok none ([] : List α).length [] := fun W' _ => aay d W'
theorem adX (h : F d W (fun k => ok k ∧ some k ≠ v.ownBlock) A n xs) (hg : W.grownBy W1 v.ownBlock) (hat : v1.ownBlock = v.ownBlock ∨ ∃ b, v1.ownBlock = some b ∧ W.heap.size ≤ b) : F d W1 (fun k => ok k ∧ some k ≠ v1.ownBlock) A n xs := by
 refine Gw (sQ.step (VG h) (fun k hk hlt => hg.block k hlt hk.1.2)) (fun k hk => ⟨hk.1.1, ?_⟩)
 rcases hat with hat | ⟨b, hb, hle⟩
 · rw [hat]; exact hk.1.2
 · rw [hb]
   intro he
   injection he with he
   have := hk.2
   omega
theorem C_F (hd : Heap d) (h : d.C w A n xs) : F d w (fun k => k < w.heap.size) A n xs := fun _ hW => hd.C (fun k hlt => hW k hlt hlt) h
theorem R_F (h : d.R e W base ok (.slice A n cc) xs) : F d W ok A n xs := fun W' hW => by
 have h2 := bJ (CB h hW)
 rw [h2.1]
 exact h2.2.2
theorem yC (h : FK d W ok x c) : d.K W x c := sQ.now h
theorem Bc (h : FK d W ok x c) (hok : ∀ k, ok k → ok' k) : FK d W ok' x c := sQ.mono h hok
theorem Pz (h : FK d W ok x c) : FK d W (fun k => ok k ∧ k < W.heap.size) x c := sQ.bound h
theorem Bd (h : FK d W ok x c) (hm : ∀ k, ok k → k < W.heap.size → W1.heap[k]? = W.heap[k]?) : FK d W1 ok x c := sQ.step h hm
theorem aaF (h : FK d W ok x c) {row : Option Nat} (hg : W.grownBy W1 row) (hok : ∀ k, ok k → some k ≠ row) : FK d W1 ok x c := Bd h (fun k hk hlt => hg.block k hlt (hok k hk))
theorem adY (h : d.M W base ok x c) : FK d W ok x c := fun _ hW => d.jC (RF h hW)
theorem emptied (W : World) (g : Nat) : ∃ W' : World, (∀ k, k ≠ g → W'.heap[k]? = W.heap[k]?) ∧ ∀ a : Addr, a.block = g → W'.cell? a = none := by
 refine ⟨{ W with heap := W.heap.setIfInBounds g (.cells #[] 0) }, fun k hk => by simp [Ne.symm hk], fun a ha => ?_⟩
 subst ha
 by_cases hlt : a.block < W.heap.size
 · simp [World.cell?, hlt]
 · simp [World.cell?, hlt]
end
end Kd
open Go.RowKit
namespace Kd
def chunks (sz : Nat) (n : Nat) (inner : List Value) : List (List Value) := (List.range n).map fun j => (inner.drop (j * sz)).take sz
theorem lG (sz n : Nat) (inner : List Value) : (chunks sz n inner).length = n := by simp [chunks]
theorem XB {sz n : Nat} {inner : List Value} {j : Nat} (hj : j < n) : (chunks sz n inner)[j]? = some ((inner.drop (j * sz)).take sz) := by simp [chunks, hj]
theorem Gx {sz n : Nat} {inner : List Value} {j : Nat} {c : List Value} (h : (chunks sz n inner)[j]? = some c) : c = (inner.drop (j * sz)).take sz := by
 have hj : j < n := by have := (List.getElem?_eq_some_iff.1 h).1; rwa [lG] at this
 rw [XB hj] at h
 injection h with h
 exact h.symm
theorem aaG {α : Type} {Rr : α → List Value → Prop} {sz : Nat} {xs : List α} {inner : List Value} (h : kY Rr sz xs inner) (hR : ∀ x c, Rr x c → c.length = sz ∧ ∀ u ∈ c, u.oneCell' = true) : kY (fun x cs => cs = x ∧ cs.length = sz ∧ ∀ u ∈ cs, u.oneCell' = true) sz (chunks sz xs.length inner) inner := by
 refine ⟨by rw [lG]; exact h.1, fun j p hj => ?_⟩
 have hjl : j < xs.length := by have := (List.getElem?_eq_some_iff.1 hj).1; rwa [lG] at this
 have hp := Gx hj
 exact ⟨hp.symm, hR _ _ (h.2 j _ (List.getElem?_eq_getElem hjl))⟩
section
variable {α : Type} {d : Kd α} {e base n cc g : Nat} {ok ok' okp S : Nat → Prop} {w w1 W W1 : World} {A : Option Addr} {u v v1 : Value} {xs : List α} {x : α} {c : List Value}
theorem aiW (h : F d W ok A n xs) (z : α) (i : Int) (h0 : 0 ≤ i) (h1 : i < n) :
    ∃ ad c, A = some ad ∧ c.length = d.sz ∧ FK d W ok (xs.getD i.toNat z) c ∧ (∀ j u, c[j]? = some u → W.cell? (ad.add (i.toNat * d.sz + j)) = some u) ∧ (0 < d.sz → ok ad.block) := by
 obtain ⟨ad, c, rfl, hcl, hK, hcc⟩ := Df (aaD h) z i h0 h1
 have hin : 0 < d.sz → ok ad.block := by
  intro hs
  by_cases hk : ok ad.block
  · exact hk
  · obtain ⟨W', h2, h3⟩ := emptied W ad.block
    obtain ⟨ad', c', he, hcl', _, XC⟩ := Df (h W' (fun k hk' _ => h2 k (fun e => hk (e ▸ hk')))) z i h0 h1
    injection he with he
    subst he
    have h4 := XC 0 _ (List.getElem?_eq_getElem (by omega))
    rw [h3 _ (add_block _ _)] at h4
    cases h4
 refine ⟨ad, c, rfl, hcl, fun W' hW => ?_, hcc, hin⟩
 obtain ⟨ad', c', he, hcl', hK', XC⟩ := Df (h W' hW) z i h0 h1
 injection he with he
 subst he
 have hc : c = c' := by
  apply List.ext_getElem?
  intro j
  by_cases hj : j < d.sz
  · have hb : W'.heap[ad.block]? = W.heap[ad.block]? := by
      have h5 := hcc j _ (List.getElem?_eq_getElem (by omega))
      have h6 := World.block_lt_of_cell? W _ h5
      rw [add_block] at h6
      exact hW _ (hin (by omega)) h6
    have h5 := hcc j _ (List.getElem?_eq_getElem (by omega))
    have h6 := XC j _ (List.getElem?_eq_getElem (by omega))
    have h7 : W'.cell? (ad.add (i.toNat * d.sz + j)) = W.cell? (ad.add (i.toNat * d.sz + j)) := by simp [World.cell?, add_block, hb]
    rw [h7, h5] at h6
    rw [List.getElem?_eq_getElem (by omega), List.getElem?_eq_getElem (by omega)]
    exact h6
  · rw [List.getElem?_eq_none (by omega), List.getElem?_eq_none (by omega)]
 rw [hc]
 exact hK'
def N {α : Type} (d : Kd α) (e : Nat) (w : World) (base : Nat) (ok : Nat → Prop) (v : Value) (xs : List α) : Prop :=
 (∀ k, v.ownBlock = some k → ok k) ∧ ∃ rows : List (List Value), rows.length = xs.length ∧ (raw d.sz).R e w base (fun k => some k = v.ownBlock) v rows ∧ ∀ (j : Nat) (x : α) (c : List Value), xs[j]? = some x → rows[j]? = some c → FK d w (fun k => ok k ∧ some k ≠ v.ownBlock) x c
theorem JD {sz : Nat} {rows : List (List Value)} (h : (raw sz).R e w base ok v rows) : (raw sz).R e w base (fun k => some k = v.ownBlock) v rows := KY rfl h
theorem Nk {sz : Nat} {rows : List (List Value)} (h : (raw sz).R e w base ok v rows) : (raw sz).R e w base (fun _ => True) v rows := dF h (fun _ _ => trivial)
theorem R_N (h : d.R e w base ok v xs) : N d e w base ok v xs := by
 obtain ⟨h0, inner, ho, hr⟩ := h
 refine ⟨h0, chunks d.sz xs.length inner, lG _ _ _, ⟨fun k hk => hk.symm, inner, by rw [lG]; exact ho, aaG hr (fun x c hp => ⟨d.qW (d.jC hp), d.qX (d.jC hp)⟩)⟩, fun j x c hx hc => ?_⟩
 rw [Gx hc]
 exact adY (hr.2 j x hx)
theorem YQ (d : Kd α) (e : Nat) (w : World) (base : Nat) (ok : Nat → Prop) : N d e w base ok (.slice none 0 0) [] := R_N (mP _ _ _ _ _)
theorem ahc (h : N d e w base ok v xs) (hok : ∀ k, ok k → ok' k) : N d e w base ok' v xs := by
 obtain ⟨h0, rows, hl, hR, hf⟩ := h
 exact ⟨fun k hk => hok k (h0 k hk), rows, hl, hR, fun j x c hx hc => Bc (hf j x c hx hc) (fun k hk => ⟨hok k hk.1, hk.2⟩)⟩
theorem ahd (h : N d e w base ok v xs) : ∀ k, v.ownBlock = some k → k < w.heap.size := by
 obtain ⟨_, rows, _, hR, _⟩ := h
 exact Ip hR
theorem aaH (h : N d e w base ok v xs) : ∀ k, v.ownBlock = some k → base ≤ k := by
 obtain ⟨_, rows, _, hR, _⟩ := h
 exact YP hR
theorem adZ (h : N d e w base ok v xs) : N d e w base (fun k => ok k ∧ k < w.heap.size) v xs := by
 have hlt := ahd h
 obtain ⟨h0, rows, hl, hR, hf⟩ := h
 exact ⟨fun k hk => ⟨h0 k hk, hlt k hk⟩, rows, hl, hR, fun j x c hx hc => Bc (Pz (hf j x c hx hc)) (fun k hk => ⟨⟨hk.1.1, hk.2⟩, hk.1.2⟩)⟩
theorem aea {base' : Nat} (h : N d e w base ok v xs) (hb : base' ≤ base) : N d e w base' ok v xs := by
 obtain ⟨h0, rows, hl, hR, hf⟩ := h
 exact ⟨h0, rows, hl, dY hR hb, hf⟩
theorem RJ (h : N d e w base ok v xs) (hm : ∀ k, ok k → k < w.heap.size → w1.heap[k]? = w.heap[k]?) : N d e w1 base ok v xs := by
 obtain ⟨h0, rows, hl, hR, hf⟩ := h
 exact ⟨h0, rows, hl, CB hR (fun k hk hlt => hm k (h0 k hk.symm) hlt), fun j x c hx hc => Bd (hf j x c hx hc) (fun k hk hlt => hm k hk.1 hlt)⟩
theorem Bf (h : N d e w base ok v xs) (hb : Below w.heap.size w w1) : N d e w1 base ok v xs := RJ h (fun k _ hk => hb.block k hk)
theorem agn (h : N d e w base ok v xs) : N d e w.drew base ok v xs := Bf h (uI (Below.refl _ _))
theorem VI (h : N d e w base ok v xs) {p : Addr} (hok : ∀ k, ok k → k ≠ p.block) (u : Value) : N d e (w.setCell p u) base ok v xs := RJ h (fun k ho _ => Below.heap_setCell w p u k (hok k ho))
theorem VJ (h : N d e w base ok v xs) : ∃ A c, v = .slice A xs.length c := by
 obtain ⟨_, rows, hl, hR, _⟩ := h
 obtain ⟨A, c, he⟩ := bW hR
 exact ⟨A, c, by rw [he, hl]⟩
theorem aaI (h : N d e w base ok v xs) (hp : 0 < xs.length) : ∃ g cap, v = .slice (some ⟨g, 0, none⟩) xs.length cap ∧ base ≤ g ∧ g < w.heap.size ∧ ∃ cells, w.heap[g]? = some (.cells cells e (0, 0)) := by
 obtain ⟨_, rows, hl, hR, _⟩ := h
 rw [← hl] at hp ⊢
 exact jf hR hp
theorem sS {n c : Nat} (h : N d e w base ok (.slice A n c) xs) : n = xs.length ∧ n ≤ c ∧ d.C w A xs.length xs := by
 obtain ⟨_, rows, hl, hR, hf⟩ := h
 obtain ⟨hn, hc, hC⟩ := bJ hR
 refine ⟨by omega, hc, ?_⟩
 rw [hl] at hC
 refine ⟨rfl, hC.2.1, fun hp => ?_⟩
 obtain ⟨ad, he, hcell⟩ := hC.2.2 hp
 refine ⟨ad, he, fun j p hj => ?_⟩
 have hjl : j < rows.length := by have := (List.getElem?_eq_some_iff.1 hj).1; omega
 obtain ⟨c', hcl, hK, hcc⟩ := hcell j _ (List.getElem?_eq_getElem hjl)
 have hk := yC (hf j p _ hj (List.getElem?_eq_getElem hjl))
 refine ⟨c', hcl, ?_, hcc⟩
 rw [show c' = rows[j] from hK.1]
 exact hk
theorem N_F {n : Nat} (h : N d e w base ok (.slice A n cc) xs) : F d w ok A n xs := fun W' hW => by
 have h2 := sS (RJ h hW)
 rw [h2.1]
 exact h2.2.2
theorem RN {n cap : Nat} (h : N d e W base ok (.slice (some ⟨g, 0, none⟩) n cap) xs) (z : α) (i : Int) (h0 : 0 ≤ i) (h1 : i < n) :
    ∃ c, c.length = d.sz ∧ FK d W (fun k => ok k ∧ k ≠ g) (xs.getD i.toNat z) c ∧ (∀ j u, c[j]? = some u → W.cell? ⟨g, i.toNat * d.sz + j, none⟩ = some u) ∧ ∀ j, W.frozen? ⟨g, i.toNat * d.sz + j, none⟩ = false := by
 obtain ⟨_, rows, hl, hR, hf⟩ := h
 have hn := (bJ hR).1
 obtain ⟨c, hcl, hM, hcc, hfr⟩ := agX hR [] i h0 h1
 have hil : i.toNat < rows.length := by omega
 have hil' : i.toNat < xs.length := by omega
 have hc : c = rows[i.toNat] := by
  have h2 := hM.1
  rwa [List.getD_eq_getElem?_getD, List.getElem?_eq_getElem hil] at h2
 refine ⟨c, hcl, ?_, hcc, hfr⟩
 rw [List.getD_eq_getElem?_getD, List.getElem?_eq_getElem hil']
 exact Bc (hf _ _ _ (List.getElem?_eq_getElem hil') (by rw [hc]; exact List.getElem?_eq_getElem hil)) (fun k hk => ⟨hk.1, fun he => hk.2 (by rw [he]; simp [Value.ownBlock])⟩)
end
end Kd
theorem kY.one {α : Type} {R : α → List Value → Prop} {ps : List α} {cs : List Value} {p : α} {v : Value} (hp : R p [v]) (h : kY R 1 ps cs) : kY R 1 (p :: ps) (v :: cs) := by
 refine ⟨by simp [h.1], fun j q hq => ?_⟩
 cases j with
 | zero =>
  simp only [List.getElem?_cons_zero, Option.some.injEq] at hq
  subst hq
  simpa using hp
 | succ j =>
  simp only [List.getElem?_cons_succ] at hq
  have h1 := h.2 j q hq
  simpa [Nat.mul_one] using h1
end Go.Proofs.YthlflglkdaainaaGreatDoorW.aN
namespace Go.Proofs.YthlflglkdaainaaGreatDoorW.bI
end Go.Proofs.YthlflglkdaainaaGreatDoorW.bI
namespace Go.Proofs.YthlflglkdaainaaGreatDoorW.aN
open Go.RowKit
end Go.Proofs.YthlflglkdaainaaGreatDoorW.aN
namespace Go.Proofs.YthlflglkdaainaaGreatDoorW.bI
end Go.Proofs.YthlflglkdaainaaGreatDoorW.bI
namespace Go.Proofs.YthlflglkdaainaaGreatDoorW.aN
open Go.RowKit
section
variable {P : Program} {ops : Array Oper} {rest : List Oper} {o : Oper} {a : Act} {Q : Exit → Act → World → Prop} {W : World}
theorem yE (hw : Region.wanted o (yielded ops a.tmps) = true) (h : wpList P ops Q ({ o with guard := none } :: rest) a W) : wpList P ops Q (o :: rest) a W := by
 have h1 : Region.wanted { o with guard := none } (yielded ops a.tmps) = true := rfl
 unfold wpList at h ⊢
 rw [if_pos h1] at h
 rw [if_pos hw]
 exact h
end
namespace Kd
section
variable {α : Type} {d : Kd α} {e base n cap g : Nat} {ok ok' okp : Nat → Prop} {w w1 W : World} {v v1 : Value} {xs ys : List α}
theorem Gy {rows news : List (List Value)} (h0 : ∀ k, v.ownBlock = some k → ok k) (hl : rows.length = xs.length) (hf : ∀ (j : Nat) (x : α) (c : List Value), xs[j]? = some x → rows[j]? = some c → FK d W (fun k => ok k ∧ some k ≠ v.ownBlock) x c)
    (hl2 : news.length = ys.length) (hf2 : ∀ (j : Nat) (x : α) (c : List Value), ys[j]? = some x → news[j]? = some c → FK d W okp x c) (nI : ∀ k, okp k → ok k ∧ some k ≠ v.ownBlock) (hfresh : ∀ k, W.heap.size ≤ k → ok k)
    (hR : (raw d.sz).R e w1 base (fun _ => True) v1 (rows ++ news)) (hg : W.grownBy w1 v.ownBlock) (hat : v1.ownBlock = v.ownBlock ∨ ∃ b, v1.ownBlock = some b ∧ W.heap.size ≤ b) : N d e w1 base ok v1 (xs ++ ys) := by
 have hne : ∀ k, some k ≠ v.ownBlock → k < W.heap.size → some k ≠ v1.ownBlock := by
  intro k hk hlt
  rcases hat with hat | ⟨b, hb, hle⟩
  · rw [hat]; exact hk
  · rw [hb]
    intro he
    injection he with he
    omega
 have step : ∀ {x : α} {c : List Value} {o : Nat → Prop}, FK d W o x c → (∀ k, o k → ok k ∧ some k ≠ v.ownBlock) → FK d w1 (fun k => ok k ∧ some k ≠ v1.ownBlock) x c := by
  intro x c o hq ho
  exact Bc (Bd (Pz hq) (fun k hk hlt => hg.block k hlt (ho k hk.1).2)) (fun k hk => ⟨(ho k hk.1).1, hne k (ho k hk.1).2 hk.2⟩)
 refine ⟨fun k hk => ?_, rows ++ news, by rw [List.length_append, List.length_append, hl, hl2], JD hR, fun j x c hx hc => ?_⟩
 · rcases hat with hat | ⟨b, hb, hle⟩
   · exact h0 k (hat ▸ hk)
   · rw [hb] at hk
     injection hk with hk
     exact hfresh k (by omega)
 · rcases Nat.lt_or_ge j xs.length with hlt | hge
   · rw [List.getElem?_append_left hlt] at hx
     rw [List.getElem?_append_left (by omega)] at hc
     exact step (hf j x c hx hc) (fun _ hk => hk)
   · rw [List.getElem?_append_right hge] at hx
     rw [List.getElem?_append_right (by omega), hl] at hc
     exact step (hf2 _ x c hx hc) nI
theorem aaJ {x : α} {c : List Value} (h : FK d W ok x c) : c = c ∧ c.length = d.sz ∧ ∀ u ∈ c, u.oneCell' = true := ⟨rfl, d.qW (yC h), d.qX (yC h)⟩
theorem XD {rows : List (List Value)} {i : Int} {x' : α} {c' : List Value} (h0 : ∀ k, (Value.slice (some ⟨g, 0, none⟩) n cap).ownBlock = some k → ok k) (hl : rows.length = xs.length) (hf : ∀ (j : Nat) (x : α) (c : List Value), xs[j]? = some x → rows[j]? = some c → FK d W (fun k => ok k ∧ some k ≠ (Value.slice (some ⟨g, 0, none⟩) n cap).ownBlock) x c)
    (hR : (raw d.sz).R e w1 base (fun _ => True) (.slice (some ⟨g, 0, none⟩) n cap) (rows.set i.toNat c')) (hg : W.grownBy w1 (some g)) (hM : FK d W okp x' c') (nI : ∀ k, okp k → ok k ∧ k ≠ g) : N d e w1 base ok (.slice (some ⟨g, 0, none⟩) n cap) (xs.set i.toNat x') := by
 have hgo : some g = (Value.slice (some ⟨g, 0, none⟩) n cap).ownBlock := by simp [Value.ownBlock]
 refine ⟨h0, rows.set i.toNat c', by rw [List.length_set, List.length_set, hl], JD hR, fun j x c hx hc => ?_⟩
 have hjl : j < xs.length := by have := (List.getElem?_eq_some_iff.1 hx).1; rwa [List.length_set] at this
 by_cases hji : j = i.toNat
 · subst hji
   rw [List.getElem?_set_self hjl] at hx
   rw [List.getElem?_set_self (by omega)] at hc
   injection hx with hx
   injection hc with hc
   rw [← hx, ← hc]
   exact Bc (Bd hM (fun k hk hlt => hg.block k hlt (fun he => (nI k hk).2 (by injection he)))) (fun k hk => ⟨(nI k hk).1, fun he => (nI k hk).2 (by rw [← hgo] at he; injection he)⟩)
 · rw [List.getElem?_set_ne (Ne.symm hji)] at hx hc
   exact Bd (hf j x c hx hc) (fun k hk hlt => hg.block k hlt (by rw [hgo]; exact hk.2))
theorem aiY (h : N d e W base ok (.slice (some ⟨g, 0, none⟩) n cap) xs) (i : Int) (h0 : 0 ≤ i) (h1 : i < n) {c seg : List Value} {j : Nat} (hcl : c.length = d.sz) (hcc : ∀ j u, c[j]? = some u → W.cell? ⟨g, i.toNat * d.sz + j, none⟩ = some u)
    (hj : j + seg.length ≤ d.sz) {x' : α} (hM : FK d W okp x' (c.take j ++ seg ++ c.drop (j + seg.length))) (nI : ∀ k, okp k → ok k ∧ k ≠ g) :
    N d e (W.setCells g (i.toNat * d.sz + j) seg) base ok (.slice (some ⟨g, 0, none⟩) n cap) (xs.set i.toNat x') ∧ W.grownBy (W.setCells g (i.toNat * d.sz + j) seg) (some g) := by
 obtain ⟨hown, rows, hl, hR, hf⟩ := h
 obtain ⟨h2, h3⟩ := aiT (Nk hR) i h0 h1 (c := c) (seg := seg) (j := j) (x' := c.take j ++ seg ++ c.drop (j + seg.length)) (okp := fun _ => False) hcl hcc hj ⟨rfl, d.qW (yC hM), d.qX (yC hM)⟩ (fun _ hk => hk.elim)
 exact ⟨XD hown hl hf h2 h3 hM nI, h3⟩
end
section
variable {P : Program} {ops : Array Oper} {rest : List Oper} {o : Oper} {a : Act} {Q : Exit → Act → World → Prop} {Kc : Act → World → Prop} {α : Type}
theorem aaK (d : Kd α) {w0 W : World} (base : Nat) (hgd : o.guard = none) (s x : Operand) (t e : TypeId) (z : Value) (bytes : Nat)
    (ho : o.op = .call { callee := .builtin .append, args := #[s, x], argTypes := #[t, t] })
    (ht : P.underlying t = some (.slice e)) (hinfo : (P.info? e).map (fun i => (i.zero, i.size, i.bytes)) = some (some z, d.sz, bytes)) (hz : z.cells.size = d.sz) (hs0 : 0 < d.sz) (hb0 : 0 < bytes)
    (v : Value) (xs : List α) (p : α) (cs : List Value) (ok okp : Nat → Prop) (hs : a.eval s = v) (hx : a.eval x = .slice (some ⟨W.heap.size, 0, none⟩) 1 1) (hp : FK d W okp p cs) (nI : ∀ k, okp k → ok k ∧ some k ≠ v.ownBlock) (hfresh : ∀ k, W.heap.size ≤ k → ok k)
    (HO : N d e W base ok v xs) (HB : Below base w0 W) (hbase : base ≤ W.heap.size) (hl : (xs.length + 1) * bytes ≤ 140737488355328)
    (h : ∀ v1 w1, N d e w1 base ok v1 (xs ++ [p]) → Below base w0 w1 → W.grownBy w1 v.ownBlock → (v1.ownBlock = v.ownBlock ∨ ∃ b, v1.ownBlock = some b ∧ W.heap.size ≤ b) → wpList P ops Q rest (a.put o.dst v1) w1) :
    wpList P ops Q (o :: rest) a (W.alloc (.cells cs.toArray e)) := by
 obtain ⟨h0, rows, hlr, hR, hf⟩ := HO
 refine nX (raw d.sz) base hgd s x t e z bytes ho ht hinfo hz hs0 hb0 v rows cs cs (fun _ => True) (fun _ => False) hs hx (aaJ hp) (fun _ hk => hk.elim) (fun _ _ => trivial) (Nk hR) HB hbase (by rw [hlr]; exact hl) ?_
 intro v1 w1 hr hb hg hat
 exact h v1 w1 (Gy h0 hlr hf (ys := [p]) (news := [cs]) rfl (fun j y c hy hc => by
  rcases j with _ | j
  · simp only [List.getElem?_cons_zero, Option.some.injEq] at hy hc
    rw [← hy, ← hc]; exact hp
  · simp at hy) nI hfresh hr hg hat) hb hg hat
theorem Iq (d : Kd α) {w0 W : World} (base : Nat) (hw : Region.wanted o (yielded ops a.tmps) = true) (s x : Operand) (t e : TypeId) (z : Value) (bytes : Nat)
    (ho : o.op = .call { callee := .builtin .append, args := #[s, x], argTypes := #[t, t] })
    (ht : P.underlying t = some (.slice e)) (hinfo : (P.info? e).map (fun i => (i.zero, i.size, i.bytes)) = some (some z, d.sz, bytes)) (hz : z.cells.size = d.sz) (hs0 : 0 < d.sz) (hb0 : 0 < bytes)
    (v : Value) (xs : List α) (p : α) (cs : List Value) (ok okp : Nat → Prop) (hs : a.eval s = v) (hx : a.eval x = .slice (some ⟨W.heap.size, 0, none⟩) 1 1) (hp : FK d W okp p cs) (nI : ∀ k, okp k → ok k ∧ some k ≠ v.ownBlock) (hfresh : ∀ k, W.heap.size ≤ k → ok k)
    (HO : N d e W base ok v xs) (HB : Below base w0 W) (hbase : base ≤ W.heap.size) (hl : (xs.length + 1) * bytes ≤ 140737488355328)
    (h : ∀ v1 w1, N d e w1 base ok v1 (xs ++ [p]) → Below base w0 w1 → W.grownBy w1 v.ownBlock → (v1.ownBlock = v.ownBlock ∨ ∃ b, v1.ownBlock = some b ∧ W.heap.size ≤ b) → Kc (a.put o.dst v1) w1) :
    if Region.wanted o (yielded ops a.tmps) = true then Oper.wp P o a (W.alloc (.cells cs.toArray e)) Kc Q else Kc (a.put o.dst undef) (W.alloc (.cells cs.toArray e)) := by
 obtain ⟨h0, rows, hlr, hR, hf⟩ := HO
 refine IE (raw d.sz) base hw s x t e z bytes ho ht hinfo hz hs0 hb0 v rows cs cs (fun _ => True) (fun _ => False) hs hx (aaJ hp) (fun _ hk => hk.elim) (fun _ _ => trivial) (Nk hR) HB hbase (by rw [hlr]; exact hl) ?_
 intro v1 w1 hr hb hg hat
 exact h v1 w1 (Gy h0 hlr hf (ys := [p]) (news := [cs]) rfl (fun j y c hy hc => by
  rcases j with _ | j
  · simp only [List.getElem?_cons_zero, Option.some.injEq] at hy hc
    rw [← hy, ← hc]; exact hp
  · simp at hy) nI hfresh hr hg hat) hb hg hat
end
end Kd
end Go.Proofs.YthlflglkdaainaaGreatDoorW.aN
namespace Go.Proofs.YthlflglkdaainaaGreatDoorW.cZ
open Go.RowKit Go.Proofs.YthlflglkdaainaaGreatDoorW.aN
namespace Kd
open Go.Proofs.YthlflglkdaainaaGreatDoorW.aN.Kd
end Kd
theorem kU (k k' : IntKind) (x y : Int) : Builtin.max2 (.int k x) (.int k' y) = pure (.int k (if x < y then y else x)) := by simp only [Builtin.max2, gt_iff_lt]
theorem kV (k k' : IntKind) (x y : Int) : Builtin.min2 (.int k x) (.int k' y) = pure (.int k (if y < x then y else x)) := by simp only [Builtin.min2]
theorem nM (ats : Array TypeId) (ty : TypeId) (a b : Value) : Builtin.max_ ats ty #[a, b] = (Builtin.max2 a b >>= fun s => pure s) := by simp only [Builtin.max_, List.foldlM_cons, List.foldlM_nil]
theorem nN (ats : Array TypeId) (ty : TypeId) (a b : Value) : Builtin.min_ ats ty #[a, b] = (Builtin.min2 a b >>= fun s => pure s) := by simp only [Builtin.min_, List.foldlM_cons, List.foldlM_nil]
theorem jq (ats : Array TypeId) (ty : TypeId) (a b c : Value) : Builtin.max_ ats ty #[a, b, c] = (Builtin.max2 a b >>= fun s => Builtin.max2 s c >>= fun s => pure s) := by simp only [Builtin.max_, List.foldlM_cons, List.foldlM_nil]
theorem jr (ats : Array TypeId) (ty : TypeId) (a b c : Value) : Builtin.min_ ats ty #[a, b, c] = (Builtin.min2 a b >>= fun s => Builtin.min2 s c >>= fun s => pure s) := by simp only [Builtin.min_, List.foldlM_cons, List.foldlM_nil]
theorem kW (ats : Array TypeId) (ty : TypeId) (a b c d : Value) : Builtin.max_ ats ty #[a, b, c, d] = (Builtin.max2 a b >>= fun s => Builtin.max2 s c >>= fun s => Builtin.max2 s d >>= fun s => pure s) := by simp only [Builtin.max_, List.foldlM_cons, List.foldlM_nil]
theorem kX (ats : Array TypeId) (ty : TypeId) (a b c d : Value) : Builtin.min_ ats ty #[a, b, c, d] = (Builtin.min2 a b >>= fun s => Builtin.min2 s c >>= fun s => Builtin.min2 s d >>= fun s => pure s) := by simp only [Builtin.min_, List.foldlM_cons, List.foldlM_nil]
end Go.Proofs.YthlflglkdaainaaGreatDoorW.cZ
namespace Go.Proofs.YthlflglkdaainaaGreatDoorW.aN
open Go.RowKit
section
variable {P : Program} {ops : Array Oper} {rest : List Oper} {o : Oper} {a : Act} {Q : Exit → Act → World → Prop} {W : World}
theorem qK {f : FuncId} {as : Array Operand} {ts : Array TypeId} (_ho : o.op = .call { callee := .value (.func f), args := as, argTypes := ts }) (h : wpList P ops Q (o :: rest) a W) : wpList P ops Q (o :: rest) a W := h
theorem dH {b : Builtin} {xs : Array Operand} {ts : Array TypeId} (_ho : o.op = .call { callee := .builtin b, args := xs, argTypes := ts }) (h : wpList P ops Q (o :: rest) a W) : wpList P ops Q (o :: rest) a W := h
end
def mn (a b : Int) : Int := if b < a then b else a
namespace Kd
section
variable {α : Type} {d : Kd α} {e base b b' g N : Nat} {ok ok1 : Nat → Prop} {W W2 w1 : World} {u v : Value} {xs ys : List α} {S : Nat → Prop}
theorem afW (hE : d.E = []) (h : d.R e W base ok1 v xs) (hok : ∀ k, v.ownBlock = some k → ok k) : d.R e W base ok v xs := dF (KY hE h) (fun k hk => hok k hk.symm)
end
end Kd
open Go.RowKit
namespace Kd
def V {α : Type} (d : Kd α) (_e : Nat) (W : World) (_base : Nat) (ok : Nat → Prop) (v : Value) (xs : List α) : Prop := ∃ A c, v = .slice A xs.length c ∧ xs.length ≤ c ∧ F d W ok A xs.length xs
section
variable {α β : Type} {d : Kd α} {e base base' n m c g N' lo hi : Nat} {ok ok' S : Nat → Prop} {w W w1 : World} {A : Option Addr} {ad : Addr} {u v v1 : Value} {xs : List α}
theorem aaL (h : V d e W base ok v xs) (hF : ∀ A, F d W ok A xs.length xs → F d w1 ok' A xs.length xs) : V d e w1 base' ok' v xs := by
 obtain ⟨A, c, hv, hl, hf⟩ := h
 exact ⟨A, c, hv, hl, hF A hf⟩
theorem V_mk (hl : xs.length ≤ c) (hf : F d W ok A xs.length xs) : V d e W base ok (.slice A xs.length c) xs := ⟨A, c, rfl, hl, hf⟩
theorem aeb (h : V d e W base ok v xs) : ∃ A c, v = .slice A xs.length c := by
 obtain ⟨A, c, hv, _⟩ := h
 exact ⟨A, c, hv⟩
theorem aec (h : V d e W base ok (.slice A n c) xs) : n = xs.length ∧ n ≤ c ∧ F d W ok A xs.length xs := by
 obtain ⟨A', c', hv, hl, hf⟩ := h
 injection hv with ha hn hc
 subst ha; subst hc
 exact ⟨hn, by rw [hn]; exact hl, hf⟩
theorem EJ (h : V d e W base ok (.slice A n c) xs) : n = xs.length ∧ n ≤ c ∧ d.C W A xs.length xs := ⟨(aec h).1, (aec h).2.1, aaD (aec h).2.2⟩
theorem V_F (h : V d e W base ok (.slice A n c) xs) : F d W ok A n xs := by
 obtain ⟨hn, _, hf⟩ := aec h
 rw [hn]
 exact hf
theorem N_V (h : N d e W base ok v xs) : V d e W base' ok v xs := by
 obtain ⟨A, c, rfl⟩ := VJ h
 exact ⟨A, c, rfl, (sS h).2.1, N_F h⟩
theorem LW (h : V d e W base ok v xs) (hok : ∀ k, ok k → ok' k) : V d e W base ok' v xs := aaL h (fun _ hf => Gw hf hok)
theorem agm (h : V d e W base ok v xs) : V d e W.drew base ok v xs := aaL h (fun _ hf => ahb hf)
theorem aed (h : V d e W base (fun k => ok k ∧ some k ≠ u.ownBlock) v xs) (hg : W.grownBy w1 u.ownBlock) (hat : v1.ownBlock = u.ownBlock ∨ ∃ b, v1.ownBlock = some b ∧ W.heap.size ≤ b) : V d e w1 base (fun k => ok k ∧ some k ≠ v1.ownBlock) v xs := aaL h (fun _ hf => adX hf hg hat)
theorem EK (h : V d e W base (fun k => ok k ∧ some k ≠ v.ownBlock) u xs) (hg : W.grownBy w1 v.ownBlock) (hat : v1.ownBlock = v.ownBlock ∨ ∃ b, v1.ownBlock = some b ∧ W.heap.size ≤ b) : V d e w1 base (fun k => ok k ∧ some k ≠ v1.ownBlock) u xs := aed h hg hat
theorem afm (h : V d e W base ok (.slice (some ad) n c) xs) (z : α) (i : Int) (h0 : 0 ≤ i) (h1 : i < n) :
    ∃ cs, cs.length = d.sz ∧ FK d W ok (xs.getD i.toNat z) cs ∧ ∀ j u, cs[j]? = some u → W.cell? (ad.add (i.toNat * d.sz + j)) = some u := by
 obtain ⟨ad', cs, he, hcl, hK, hcc, _⟩ := aiW (V_F h) z i h0 h1
 injection he with he
 subst he
 exact ⟨cs, hcl, hK, hcc⟩
end
end Kd
end Go.Proofs.YthlflglkdaainaaGreatDoorW.aN
