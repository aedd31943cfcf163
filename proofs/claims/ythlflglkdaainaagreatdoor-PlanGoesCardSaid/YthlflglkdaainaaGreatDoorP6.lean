import Derived.Test.YthlflglkdaainaaGreatDoorPX
/- slices.IndexFunc over items: the first one that is meant. -/
namespace Go.Proofs.YthlflglkdaainaaGreatDoor.Tr
open Go.RowKit Go.Lib Go.Proofs.YthlflglkdaainaaGreatDoorW.PrintWords Go.Proofs.YthlflglkdaainaaGreatDoor.Prt

/-- The first item's place; -1: none. -/
def findI (L : List It) (p : It → Bool) : Int := match L.findIdx? p with
  | none => -1
  | some i => (i : Int)
theorem findI_some {L : List It} {p : It → Bool} {k : Nat} (hk : k < L.length) (h : p L[k] = true) (hF : ∀ x ∈ L.take k, p x = false) : findI L p = k := by
  have : L.findIdx? p = some k := by
    rw [List.findIdx?_eq_some_iff_getElem]
    refine ⟨hk, h, fun j hj => ?_⟩
    have := hF L[j] (List.mem_take_iff_getElem.2 ⟨j, by omega, rfl⟩)
    rw [this]; simp
  unfold findI
  rw [this]
theorem findI_none {L : List It} {p : It → Bool} (h : ∀ x ∈ L, p x = false) : findI L p = -1 := by
  have : L.findIdx? p = none := List.findIdx?_eq_none_iff.2 h
  unfold findI
  rw [this]
/-- A function value that answers p at the items of L, in every world above w. -/
def PredL (L : List It) (g : Nat) (lb : Array Value) (p : It → Bool) (w : World) : Prop :=
  ∀ (W : World) (x : It) (A : Option Addr) (c : Nat), x ∈ L → Below w.heap.size w W → Calls Tryz.prog g (#[.agg (cellsIt x A c)] ++ lb) W fun e w' => e = .returned (.bool (p x)) ∧ Below w.heap.size w w'
set_option maxRecDepth 100000 in
set_option maxHeartbeats 4000000 in
theorem idxE_any (p : It → Bool) (g : Nat) (lb : Array Value) (eg : ∀ args w, (callFunc g args).run Tryz.prog w = .ok (.enter g args) w) (L : List It) (A : Option Addr) (c : Nat) (w : World)
    (hC : Kd.C kIt w A L.length L) (hp : PredL L g lb p w) :
    Calls Tryz.prog 73 #[.slice A L.length c, .func (.func g) #[] lb] w fun e w' => e = .returned (.int .i64 (findI L p)) ∧ Below w.heap.size w w' := by
  have hu41 := Tryz.underlying53
  have HC := Aside0.mk hC
  have HP := Aside0.mk hp
  have hlen := hC.2.1
  clear hC hp
  go_enter Tryz.func73, Tryz.ntmps73
  go_wp2
  go_loopg [5, 8] L.length (fun gg _ s8 wr => ∃ kk : Nat, kk ≤ L.length ∧ L.length - kk ≤ gg ∧ s8 = .int .i64 kk ∧ Aside0 (Below w.heap.size w wr) ∧ Aside0 (∀ x ∈ L.take kk, p x = false))
  case atStart => exact ⟨0, Nat.zero_le _, by omega, rfl, ⟨Below.refl _ w⟩, ⟨fun x hx => by simp at hx⟩⟩
  case round =>
    obtain ⟨kk, hkk, hg, rfl, BW, F⟩ := hrel
    by_cases hlt : kk < L.length
    · have hltz : (kk : Int) < (L.length : Int) := by omega
      obtain ⟨ad, A3, c3, rfl, h0, h1, h2, h3, _, _⟩ := at_T53 (Kd.C_below HC.out BW.out) (kk : Int) (by omega) hltz
      have hx : rd_T53 L (kk : Int) = L[kk] := by
        unfold rd_T53
        rw [Int.toNat_natCast, List.getD_eq_getElem?_getD, List.getElem?_eq_getElem hlt]; rfl
      rw [hx] at h0 h1 h2 h3
      have hcall := HP.out wr L[kk] A3 c3 (List.getElem_mem hlt) BW.out
      have F2 : ∀ q, p L[kk] = q → q = false → Aside0 (∀ x ∈ L.take (kk + 1), p x = false) := fun q h1 h2 => ⟨fun x hx => by
        rw [List.take_succ_eq_append_getElem hlt] at hx
        rcases List.mem_append.1 hx with hx | hx
        · exact F.out x hx
        · rw [List.mem_singleton.1 hx, h1, h2]⟩
      have T2 : p L[kk] = true → findI L p = kk := fun h => findI_some hlt h F.out
      clear hx
      rw [Int.toNat_natCast] at h0 h1 h2 h3
      unfold cellsIt at hcall
      generalize L[kk] = y at *
      cases hq : p y with
      | true =>
        rw [hq] at hcall
        go_wp2_with (go_at_fn g; refine hcall.mono ?_; rintro e w' ⟨rfl, hb'⟩)
        go_ret
        exact ⟨by rw [T2 hq]; rfl, hb'⟩
      | false =>
        rw [hq] at hcall
        go_wp2_with (go_at_fn g; refine hcall.mono ?_; rintro e w' ⟨rfl, hb'⟩)
        go_roundg (L.length - (kk + 1))
        case measure => omega
        case rel => exact ⟨kk + 1, by omega, by omega, by go_num, ⟨hb'⟩, F2 _ hq rfl⟩
    · have hltz : ¬ (kk : Int) < (L.length : Int) := by omega
      have : kk = L.length := by omega
      subst this
      go_wp2
      go_ret
      have h := F.out
      rw [List.take_length] at h
      exact ⟨by rw [findI_none h]; rfl, BW.out⟩
end Go.Proofs.YthlflglkdaainaaGreatDoor.Tr
