import Derived.Test.YthlflglkdaainaaGreatDoorPT
/- The kind of api.Step. -/
namespace Go.Proofs.YthlflglkdaainaaGreatDoor.Prt
open Go.RowKit Go.Proofs.YthlflglkdaainaaGreatDoorW.PrintWords Go.Proofs.YthlflglkdaainaaGreatDoorW.PrintLast Go.Proofs.YthlflglkdaainaaGreatDoorW.PrintMore
structure S67 where
  f0 : Bool
  f1 : (List ByteArray)
  f2 : ByteArray
def z67 : S67 := ⟨false, ([] : List ByteArray), (⟨#[]⟩ : ByteArray)⟩
def k67 : Kd S67 := Kd.iso (Kd.pair Kd.bool (Kd.pair (Kd.slice 9 Kd.string) Kd.string)) (fun x : S67 => (x.f0, x.f1, x.f2))
theorem k67_open {w : World} {x : S67} {cs : List Value} (h : k67.K w x cs) : ∃ A1 c1, cs = [.bool x.f0, .slice A1 x.f1.length c1, .string x.f2] ∧ x.f1.length ≤ c1 ∧ Kd.string.C w A1 x.f1.length x.f1 := by
  obtain ⟨_, _, rfl, rfl, ⟨_, _, rfl, ⟨A1, c1, rfl, l1, g1⟩, rfl⟩⟩ := h
  exact ⟨A1, c1, rfl, l1, g1⟩
theorem k67_openM {w : World} {base : Nat} {ok : Nat → Prop} {x : S67} {cs : List Value} (h : k67.M w base ok x cs) : ∃ v1, cs = [.bool x.f0, v1, .string x.f2] ∧ Kd.string.R 9 w base ok v1 x.f1 := by
  obtain ⟨_, _, rfl, rfl, ⟨_, _, rfl, ⟨v1, rfl, g1⟩, rfl⟩⟩ := h
  exact ⟨v1, rfl, g1⟩
theorem k67_mk (w : World) (x : S67) {A1 : Option Addr} {c1 : Nat} (l1 : x.f1.length ≤ c1) (g1 : Kd.string.C w A1 x.f1.length x.f1) : k67.K w x [.bool x.f0, .slice A1 x.f1.length c1, .string x.f2] := ⟨[.bool x.f0], [.slice A1 x.f1.length c1, .string x.f2], rfl, rfl, ⟨[.slice A1 x.f1.length c1], [.string x.f2], rfl, ⟨A1, c1, rfl, l1, g1⟩, rfl⟩⟩
theorem k67_mkM (w : World) (base : Nat) (ok : Nat → Prop) (x : S67) {v1 : Value} (g1 : Kd.string.R 9 w base ok v1 x.f1) : k67.M w base ok x [.bool x.f0, v1, .string x.f2] := ⟨[.bool x.f0], [v1, .string x.f2], rfl, rfl, ⟨[v1], [.string x.f2], rfl, ⟨v1, rfl, g1⟩, rfl⟩⟩
theorem k67_openF {W : World} {ok : Nat → Prop} {x : S67} {cs : List Value} (h : Kd.FK k67 W ok x cs) : ∃ A1 c1, cs = [.bool x.f0, .slice A1 x.f1.length c1, .string x.f2] ∧ x.f1.length ≤ c1 ∧ Kd.F Kd.string W ok A1 x.f1.length x.f1 := by
  obtain ⟨A1, c1, rfl, l1, _⟩ := k67_open (Kd.FK_now h)
  exact ⟨A1, c1, rfl, l1, (fun W' hW => by obtain ⟨A1_, c1_, he, l1_, g1_⟩ := k67_open (h W' hW); injection (Option.some.inj (show some (Value.slice A1 x.f1.length c1) = some (Value.slice A1_ x.f1.length c1_) from congrArg (fun l => l[1]?) he)) with ha_ _ _; rw [ha_]; exact g1_)⟩
theorem k67_mkF (W : World) (ok : Nat → Prop) (x : S67) {A1 : Option Addr} {c1 : Nat} (l1 : x.f1.length ≤ c1) (g1 : Kd.F Kd.string W ok A1 x.f1.length x.f1) : Kd.FK k67 W ok x [.bool x.f0, .slice A1 x.f1.length c1, .string x.f2] := fun W2 hW => k67_mk W2 x l1 (g1 W2 hW)
def rd_T67 (xs : List S67) (i : Int) : S67 := xs.getD i.toNat z67
theorem at_T67 {w : World} {A : Option Addr} {n : Nat} {xs : List S67} (h : Kd.C k67 w A n xs) (i : Int) (h0 : 0 ≤ i) (h1 : i < n) : ∃ ad A1 c1, A = some ad ∧ w.cell? (ad.add (i.toNat * 3)) = some (.bool (rd_T67 xs i).f0) ∧ w.cell? ⟨(ad.add (i.toNat * 3)).block, (ad.add (i.toNat * 3)).off + 1, none⟩ = some (.slice A1 (rd_T67 xs i).f1.length c1) ∧ w.cell? ⟨(ad.add (i.toNat * 3)).block, (ad.add (i.toNat * 3)).off + 2, none⟩ = some (.string (rd_T67 xs i).f2) ∧ (rd_T67 xs i).f1.length ≤ c1 ∧ Kd.string.C w A1 (rd_T67 xs i).f1.length (rd_T67 xs i).f1 := by
  obtain ⟨ad, c, e, _, hK, hc0⟩ := Kd.C_get h z67 i h0 h1
  have hc : ∀ j u, c[j]? = some u → w.cell? (ad.add (i.toNat * 3 + j)) = some u := hc0
  obtain ⟨A1, c1, rfl, l1, g1⟩ := k67_open hK
  exact ⟨ad, A1, c1, e, hc 0 _ rfl, by rw [← add_field _ _ 1 (by omega)]; exact hc 1 _ rfl, by rw [← add_field _ _ 2 (by omega)]; exact hc 2 _ rfl, l1, g1⟩

end Go.Proofs.YthlflglkdaainaaGreatDoor.Prt
