import Derived.Test.YthlflglkdaainaaGreatDoorP7
import Derived.Test.YthlflglkdaainaaGreatDoorPLayE
/- slices.Equal over two rows of strings. -/
namespace Go.Proofs.YthlflglkdaainaaGreatDoor.Tr
open Go.RowKit Go.Lib Go.Proofs.YthlflglkdaainaaGreatDoorW.PrintWords Go.Proofs.YthlflglkdaainaaGreatDoor.Prt

theorem rdS {w : World} {A : Option Addr} {xs : List ByteArray} (h : Kd.C Kd.string w A xs.length xs) (hn : 0 < xs.length) : ∃ b o, A = some ⟨b, o, none⟩ ∧ ∀ j, j < xs.length → w.cell? ⟨b, o + j, none⟩ = some (.string (xs.getD j ByteArray.empty)) := by
  obtain ⟨-, -, h3⟩ := Kd.reads_of_C (enc := Value.string) (d := ByteArray.empty) (h1 := fun _ => rfl) h
  obtain ⟨⟨b, o, spot⟩, rfl, hc⟩ := h3 hn
  have hspot : spot = none := by simpa [Addr.add] using World.cell?_spot (hc 0 hn)
  subst hspot
  exact ⟨b, o, rfl, fun j hj => by
    have h := hc j hj
    cases j with
    | zero => simpa [Addr.add] using h
    | succ j => simpa [Addr.add] using h⟩

theorem equalS_any (xs ys : List ByteArray) (A B : Option Addr) (c d : Nat) (w : World) (hx : Kd.C Kd.string w A xs.length xs) (hy : Kd.C Kd.string w B ys.length ys) (hyn : 0 < ys.length) :
    Calls Tryz.prog 76 #[.slice A xs.length c, .slice B ys.length d] w fun e w' => e = .returned (.bool (decide (xs = ys))) ∧ ∃ q, w' = w.drewN q := by
  have h1 := hx.2.1
  have h2 := hy.2.1
  by_cases hxn : 0 < xs.length
  · obtain ⟨b1, o1, rfl, hc1⟩ := rdS hx hxn
    obtain ⟨b2, o2, rfl, hc2⟩ := rdS hy hyn
    refine (Go.Proofs.AnyG.slices_Equal_string lEqS b1 o1 xs.length c b2 o2 ys.length d xs ys w (Nat.le_refl _) (Nat.le_refl _) h1 h2 hc1 hc2).mono ?_
    rintro e w' ⟨rfl, hq⟩
    exact ⟨by simp, hq⟩
  · have : xs = [] := List.eq_nil_of_length_eq_zero (by omega)
    subst this
    refine (Go.Proofs.AnyG.slices_Equal_string_empty lEqS A B c ys.length d w h2).mono ?_
    rintro e w' ⟨rfl, rfl⟩
    refine ⟨?_, 0, rfl⟩
    cases ys <;> simp
end Go.Proofs.YthlflglkdaainaaGreatDoor.Tr
