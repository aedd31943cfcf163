import Derived.Test.YtgjlneedpbgfpaaDoorRowt
/- The tables that the program bears, as lists of numbers. -/
namespace Go.Proofs.YtgjlneedpbgfpaaDoor

noncomputable def tD : ByteArray := (fun (T : ByteArray) (_ : Tryd.f47.body = some (.seq _ (.seq (.region _ #[_, _, ⟨_, .call ⟨_, #[.const (.string T), _, _], _⟩, _, _, _, _⟩, _, _, _, _, _] _) _))) => T) _ rfl
noncomputable def tP : ByteArray := (fun (T : ByteArray) (_ : Tryd.f56.body = some (.seq _ (.seq (.region _ #[_, _, _, _, _, ⟨_, .call ⟨_, #[.const (.string T), _, _], _⟩, _, _, _, _⟩, _, _, _, _, _] _) _))) => T) _ rfl
noncomputable def tC : ByteArray := (fun (T : ByteArray) (_ : Tryd.f37.body = some (.seq _ (.seq (.region _ #[_, ⟨_, .call ⟨_, #[.const (.string T), _, _], _⟩, _, _, _, _⟩, _] _) _))) => T) _ rfl

/-- Decompositions: the character, its two, and whether it is composed again. -/
noncomputable def Dl : List (Nat × Nat × Nat × Bool) := dc16 tD.data.toList
/-- Pairs: the two, and what they are composed to. -/
noncomputable def Pl : List (Nat × Nat × Nat) := dc15 tP.data.toList
/-- Classes: the first one, the last one, the class. -/
noncomputable def Cl : List (Nat × Nat × Nat) := dc12 tC.data.toList

def okD (l : List UInt8) : Bool := Nat.beq l.length 32976 && hx16 l && incB (fun a b => Nat.blt a.1 b.1) (dc16 l) && allB (fun e => Nat.blt e.1 1048575 && Nat.blt 0 e.1) (dc16 l)
def okP (l : List UInt8) : Bool := Nat.beq l.length 14115 && hx15 l && incB (fun a b => Nat.blt (1048576 * a.1 + a.2.1) (1048576 * b.1 + b.2.1)) (dc15 l) && allB (fun e => Nat.blt e.1 1048575 && Nat.ble 768 e.2.1 && Nat.ble e.2.1 71984) (dc15 l)
def okC (l : List UInt8) : Bool := Nat.beq l.length 4656 && hx12 l && incB (fun a b => Nat.blt a.2.1 b.1) (dc12 l) && allB (fun e => Nat.ble e.1 e.2.1 && Nat.blt e.2.1 1048575 && Nat.blt 0 e.2.2 && Nat.ble e.2.2 255) (dc12 l)
theorem okD_t : okD tD.data.toList = true := by decide +kernel
theorem okP_t : okP tP.data.toList = true := by decide +kernel
theorem okC_t : okC tC.data.toList = true := by decide +kernel
attribute [irreducible] tD tP tC
end Go.Proofs.YtgjlneedpbgfpaaDoor
