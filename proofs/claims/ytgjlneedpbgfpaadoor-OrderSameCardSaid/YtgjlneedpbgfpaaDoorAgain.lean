import Derived.Test.YtgjlneedpbgfpaaDoorSl
import Derived.Test.YtgjlneedpbgfpaaDoorLaid
import Derived.Test.YtgjlneedpbgfpaaDoorCards
import Derived.SevenTiedAt
/- What was taken apart is whole. Slices of numbers that came in. -/
namespace Go.Proofs.YtgjlneedpbgfpaaDoor
open Go.ChangeShapes Go.WideShapes Go.ChangeAt Go.RowKit

def ckD4 (e : Nat × Nat × Nat × Bool) : Bool := Nat.blt e.1 4352 || Nat.blt 4546 e.1
theorem ckD4_t : allB ckD4 (dc16 tD.data.toList) = true := by decide +kernel
theorem letters_none {c : Nat} (h : 4352 ≤ c ∧ c ≤ 4546) : dfind c = none := by
  cases hd : dfind c with
  | none => rfl
  | some e =>
    obtain ⟨h1, h2⟩ := dfind_some hd
    have := (allB_iff _ _).1 ckD4_t e h1
    unfold ckD4 at this
    rw [Bool.or_eq_true, Nat.blt_eq, Nat.blt_eq] at this
    omega
theorem full_whole {c : Nat} (hc : c < 4294967296) : ∀ x ∈ full c, whole x = true ∧ x < 4294967296 := by
  intro x hx
  cases hh : isH c with
  | true =>
    rw [full_h hh] at hx
    have h := hsp_lt c hh x hx
    refine ⟨?_, by omega⟩
    unfold whole
    rw [letters_none h]
    have : isH x = false := by
      cases hi : isH x with
      | false => rfl
      | true => have := (isH_iff x).1 hi; omega
    rw [this]; rfl
  | false =>
    obtain ⟨h1, h2, h3⟩ := fullF_mem (deep3 c) hh x hx
    refine ⟨by unfold whole; rw [h2, h3]; rfl, ?_⟩
    rcases h1 with rfl | h1
    · exact hc
    · omega
theorem fullL_whole {L : List Nat} (hb : ∀ x ∈ L, x < 4294967296) : ∀ x ∈ fullL L, whole x = true ∧ x < 4294967296 := by
  intro x hx
  unfold fullL at hx
  obtain ⟨c, hc, hx⟩ := List.mem_flatMap.1 hx
  exact full_whole (hb c hc) x hx
theorem fullL_again {L : List Nat} (h : ∀ x ∈ L, whole x = true) : fullL L = L := by
  induction L with
  | nil => rfl
  | cons a L ih =>
    show full a ++ fullL L = a :: L
    rw [(whole_iff a).1 (h a (by simp)), ih (fun x hx => h x (List.mem_cons_of_mem _ hx))]; rfl
theorem fullL_append (A B : List Nat) : fullL (A ++ B) = fullL A ++ fullL B := by unfold fullL; rw [List.flatMap_append]

/-- A slice of integers that came in. -/
def IsRow (k : IntKind) (w : World) (a : Option Addr) (len cap : Nat) (zs : List Int) : Prop :=
  (a = none ∧ len = 0 ∧ cap = 0 ∧ zs = []) ∨
  ∃ x, a = some x ∧ len ≤ cap ∧ cap ≤ maxLen ∧ zs.length = cap ∧ (∀ i, i < zs.length → w.cell? (x.add i) = some (.int k (zs.getD i 0))) ∧ ∀ n ∈ zs, (Lit.int k n).wf = true
/-- It reads as a list of numbers. -/
theorem sl_of_row {w : World} {a : Option Addr} {len cap : Nat} {zs : List Int} (h : IsRow .u32 w a len cap zs) : ∃ L : List Nat, Sl w (.slice a len cap) L ∧ L.length = len ∧ ∀ x ∈ L, x < 4294967296 := by
  rcases h with ⟨rfl, rfl, rfl, rfl⟩ | ⟨x, rfl, hl, hm, hz, hcell, hwz⟩
  · exact ⟨[], ⟨none, 0, rfl, fun _ => rfl, fun k hk => by simp at hk⟩, rfl, fun x hx => by simp at hx⟩
  · have hL : ((zs.take len).map Int.toNat).length = len := by rw [List.length_map, List.length_take]; omega
    refine ⟨(zs.take len).map Int.toNat, ⟨some x, cap, by rw [hL], fun h => by (cases h), fun k hk => ?_⟩, hL, fun y hy => ?_⟩
    · rw [hL] at hk
      have hkz : k < zs.length := by omega
      have hc := hcell k hkz
      obtain ⟨b, off, spot⟩ := x
      have hspot : spot = none := by simpa [Addr.add] using World.cell?_spot (hcell 0 (by omega))
      subst hspot
      rw [addr_add] at hc
      refine ⟨b, off, rfl, ?_⟩
      rw [hc]
      have hw := hwz _ (List.getElem_mem hkz)
      have hb := bounds_u32 hw
      have e1 : zs.getD k 0 = zs[k] := by simp [List.getD, hkz]
      have e2 : ((zs.take len).map Int.toNat).getD k 0 = (zs[k]).toNat := by
        rw [List.getD, List.getElem?_map, List.getElem?_take_of_lt hk, List.getElem?_eq_getElem hkz]; rfl
      rw [e1, e2, Int.toNat_of_nonneg hb.1]
    · obtain ⟨z, hz', rfl⟩ := List.mem_map.1 hy
      have hb := bounds_u32 (hwz z (List.mem_of_mem_take hz'))
      omega
end Go.Proofs.YtgjlneedpbgfpaaDoor
