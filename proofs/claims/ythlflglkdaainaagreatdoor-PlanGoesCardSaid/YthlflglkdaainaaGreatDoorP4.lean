import Derived.Test.YthlflglkdaainaaGreatDoorP2
import Derived.Test.YthlflglkdaainaaGreatDoorPY
/- No two steps of a tree are of one kind with one path. -/
set_option maxRecDepth 100000
namespace Go.Proofs.YthlflglkdaainaaGreatDoor.Tr
open Go.RowKit Go.Lib Go.Maps Go.Proofs.YthlflglkdaainaaGreatDoorW.PrintWords Go.Proofs.YthlflglkdaainaaGreatDoorW.PrintLast Go.Proofs.YthlflglkdaainaaGreatDoorW.PrintMore Go.Proofs.YthlflglkdaainaaGreatDoor.Prt

def keyS (s : St) : Bool × List ByteArray := (s.f0, s.f1)
theorem inj_of_nodup {X : List St} (h : (X.map keyS).Nodup) : StInj X := by
  intro i j h1 h2
  rw [List.nodup_iff_pairwise_ne, List.pairwise_iff_getElem] at h
  have at_ : ∀ i : Fin X.length, (X.map keyS)[i.val]'(by rw [List.length_map]; exact i.isLt) = ((stpA X i.val).f0, (stpA X i.val).f1) := fun i => by
    rw [List.getElem_map]
    unfold stpA keyS
    rw [List.getD_eq_getElem?_getD, List.getElem?_eq_getElem i.isLt]; rfl
  rcases Nat.lt_trichotomy i.val j.val with hl | hl | hl
  · exact absurd (by rw [at_ i, at_ j, h1, h2]) (h i.val j.val (by rw [List.length_map]; exact i.isLt) (by rw [List.length_map]; exact j.isLt) hl)
  · exact Fin.ext hl
  · exact absurd (by rw [at_ i, at_ j, h1, h2]) (h j.val i.val (by rw [List.length_map]; exact j.isLt) (by rw [List.length_map]; exact i.isLt) hl)
theorem nodup_paths {f : Nat → List St} {p : Nat → List ByteArray} (h1 : ∀ i, ((f i).map keyS).Nodup) (h2 : ∀ i, ∀ s ∈ f i, s.f1 = p i) : ∀ (l : List Nat), l.Nodup → (∀ i ∈ l, ∀ j ∈ l, p i = p j → i = j) → ((l.flatMap f).map keyS).Nodup
  | [], _, _ => by simp
  | a :: l, hn, hp => by
    rw [List.nodup_cons] at hn
    rw [List.flatMap_cons, List.map_append, List.nodup_append]
    refine ⟨h1 a, nodup_paths h1 h2 l hn.2 (fun i hi j hj => hp i (List.mem_cons_of_mem _ hi) j (List.mem_cons_of_mem _ hj)), ?_⟩
    intro x hx y hy e
    subst e
    obtain ⟨s, hs, rfl⟩ := List.mem_map.1 hx
    obtain ⟨t, ht, e⟩ := List.mem_map.1 hy
    obtain ⟨b, hb, ht⟩ := List.mem_flatMap.1 ht
    have e1 : t.f1 = s.f1 := congrArg Prod.snd e
    rw [h2 a s hs, h2 b t ht] at e1
    exact hn.1 ((hp b (List.mem_cons_of_mem _ hb) a List.mem_cons_self e1) ▸ hb)
end Go.Proofs.YthlflglkdaainaaGreatDoor.Tr
