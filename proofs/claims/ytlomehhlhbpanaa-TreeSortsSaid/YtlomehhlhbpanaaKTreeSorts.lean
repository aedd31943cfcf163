import Derived.Test.YtlomehhlhbpanaaKD
import Derived.Test.YtlomehhlhbpanaaRows
import Derived.WalkKit
import Derived.ProofKit
import Derived.OpenShut
import Derived.ShutString
import Derived.ChangeOld
import Derived.Below
import Derived.SizedLaws
/- A pack of texts: TMut, TTreeSortsW, TreeSorts. -/
/- Items whose bytes are written: their shape, and what stays as it was. -/
namespace Go.Proofs.Ytlomehhlhbpanaa
open Go.RowKit Go.Lib Go.Proofs.YtlomehhlhbpanaaW.PrintWords Go.Proofs.YtlomehhlhbpanaaW.PrintLast Go.Proofs.YtlomehhlhbpanaaW.PrintMore Go.Proofs.Ytlomehhlhbpanaa.Prt

/-- The shape of a list of items of one's own: each one's bytes lie in a block from lo on, below hi, and may be written. -/
def Sh (Aa : Option Addr) (lo hi : Nat) (ls : List Nat) (W : World) : Prop := ∀ j n, ls[j]? = some n → ∃ g A c, Aa = some ⟨g, 0, none⟩ ∧ W.cell? ⟨g, j * 4 + 3, none⟩ = some (.slice A n c) ∧
  (0 < n → ∃ b, A = some ⟨b, 0, none⟩ ∧ b ≠ g ∧ lo ≤ b ∧ b < hi ∧ ∀ k, k < n → ∃ x : Int, W.cell? ⟨b, k, none⟩ = some (.int .u8 x) ∧ W.frozen? ⟨b, k, none⟩ = false)
theorem sh_of_R {L : List It} {W : World} {base hi : Nat} {ok : Nat → Prop} {Aa : Option Addr} {n c : Nat} (h : Kd.R kIt 41 W base ok (.slice Aa n c) L) (hok : ∀ k, ok k → k < hi) : Sh Aa base hi (L.map (·.f3.length)) W := by
  intro j m hj
  rw [List.getElem?_map, Option.map_eq_some_iff] at hj
  obtain ⟨x, hx, rfl⟩ := hj
  have hjl : j < L.length := (List.getElem?_eq_some_iff.1 hx).1
  obtain ⟨g, cap, e, _, _, _⟩ := Kd.R_form h (by omega)
  cases e
  obtain ⟨cs, hM, hc⟩ := r_at h j hjl
  rw [(List.getElem?_eq_some_iff.1 hx).2] at hM
  obtain ⟨v3, rfl, hv3⟩ := k41_openM hM
  obtain ⟨A3, c3, rfl⟩ := Kd.R_slice hv3
  refine ⟨g, A3, c3, rfl, (hc 3 _ rfl).1, fun h0 => ?_⟩
  obtain ⟨b, c4, e4, b4, _, _⟩ := Kd.R_form hv3 h0
  cases e4
  refine ⟨b, rfl, (hv3.1 b rfl).2, b4, hok b (hv3.1 b rfl).1, fun k hk => ⟨rd x.f3 (k : Int), ?_⟩⟩
  have := Kd.R_celln 0 hv3 (k : Int) (by omega) (by omega)
  rw [Int.toNat_natCast] at this
  exact this
theorem sh_put {Aa : Option Addr} {lo hi : Nat} {ls : List Nat} {W : World} (h : Sh Aa lo hi ls W) {g b k : Nat} (hA : Aa = some ⟨g, 0, none⟩) (hb : b ≠ g) (y : Int) : Sh Aa lo hi ls (W.setCell ⟨b, k, none⟩ (.int .u8 y)) := by
  intro j n hj
  obtain ⟨g2, A, c, e, hc, hr⟩ := h j n hj
  rw [hA] at e
  cases e
  refine ⟨g, A, c, hA, cell_set_ne hc (fun e => hb e.symm), fun h0 => ?_⟩
  obtain ⟨b2, e2, n2, l2, u2, hk⟩ := hr h0
  refine ⟨b2, e2, n2, l2, u2, fun q hq => ?_⟩
  obtain ⟨x, hx, hf⟩ := hk q hq
  rw [World.frozen?_setCell]
  by_cases e : (⟨b, k, none⟩ : Addr) = ⟨b2, q, none⟩
  · rw [← e] at hx hf ⊢
    exact ⟨y, World.cell?_setCell_same _ _ _ hx, hf⟩
  · exact ⟨x, (World.cell?_setCell_other _ _ _ _ e).trans hx, hf⟩
theorem sh_on {Aa : Option Addr} {lo hi : Nat} {ls : List Nat} {W W' : World} (h : Sh Aa lo hi ls W) (hb : Below W.heap.size W W') : Sh Aa lo hi ls W' := by
  intro j n hj
  obtain ⟨g, A, c, e, hc, hr⟩ := h j n hj
  refine ⟨g, A, c, e, (hb.cell (World.block_lt_of_cell? W _ hc)).trans hc, fun h0 => ?_⟩
  obtain ⟨b2, e2, n2, l2, u2, hk⟩ := hr h0
  refine ⟨b2, e2, n2, l2, u2, fun q hq => ?_⟩
  obtain ⟨x, hx, hf⟩ := hk q hq
  exact ⟨x, (hb.cell (World.block_lt_of_cell? W _ hx)).trans hx, (hb.frozen (World.block_lt_of_cell? W _ hx)).trans hf⟩

/-- What has become of a world, whose blocks from lo on, below hi, alone were written. -/
structure Kp (W0 : World) (lo hi : Nat) (W : World) : Prop where
  os : W.os = W0.os
  tape : W.tape = W0.tape
  output : W.output = W0.output
  size : W0.heap.size ≤ W.heap.size
  block : ∀ k, k < W0.heap.size → (k < lo ∨ hi ≤ k) → W.heap[k]? = W0.heap[k]?
theorem Kp.refl (W : World) (lo hi : Nat) : Kp W lo hi W := ⟨rfl, rfl, rfl, Nat.le_refl _, fun _ _ _ => rfl⟩
theorem Kp.put {W0 W : World} {lo hi b k : Nat} {v : Value} (h : Kp W0 lo hi W) (h1 : lo ≤ b) (h2 : b < hi) : Kp W0 lo hi (W.setCell ⟨b, k, none⟩ v) :=
  ⟨h.os, h.tape, h.output, by rw [size_setCell]; exact h.size, fun q hq hr => (Below.heap_setCell W ⟨b, k, none⟩ v q (by show q ≠ b; omega)).trans (h.block q hq hr)⟩
theorem Kp.below {w W0 W : World} {lo hi : Nat} (h : Kp W0 lo hi W) (hb : Below w.heap.size w W0) (hlo : w.heap.size ≤ lo) : Below w.heap.size w W :=
  hb.trans ⟨h.os, h.tape, h.output, h.size, fun k hk => h.block k (Nat.lt_of_lt_of_le hk hb.size) (.inl (by omega))⟩
theorem Kp.row {α : Type} {d : Kd α} {e base : Nat} {ok : Nat → Prop} {v : Value} {xs : List α} {W0 W : World} {lo hi : Nat} (h : Kp W0 lo hi W) (hr : d.R e W0 base ok v xs) (hok : ∀ k, ok k → k < W0.heap.size → base ≤ k → k < lo ∨ hi ≤ k) : d.R e W base ok v xs :=
  Kd.R_mono (Kd.R_move (Kd.R_bound hr) (fun k hk => h.block k hk.2.2.1 (hok k hk.1 hk.2.2.1 hk.2.1))) (fun _ hk => hk.1)
end Go.Proofs.Ytlomehhlhbpanaa

/- The walk of TreeSorts. -/
namespace Go.Proofs.Ytlomehhlhbpanaa
open Go.RowKit Go.Lib Go.Proofs.YtlomehhlhbpanaaW.PrintWords Go.Proofs.YtlomehhlhbpanaaW.PrintLast Go.Proofs.YtlomehhlhbpanaaW.PrintMore Go.Proofs.Ytlomehhlhbpanaa.Prt

theorem dat_sortT {L : List It} (h : ∀ x ∈ L, x.f3.length ≤ 100000) : ∀ x ∈ sortT L, x.f3.length ≤ 100000 := by
  unfold sortT
  intro x hx
  by_cases h14 : checkN L = 14
  · rw [if_pos h14] at hx; cases hx
  · rw [if_neg h14] at hx
    obtain ⟨q, hq, rfl⟩ := List.mem_map.1 hx
    show (itA L q).f3.length ≤ 100000
    have hql := oL_mem.1 hq
    rw [itA_get hql]
    exact h _ (List.getElem_mem hql)
theorem len_map {L : List It} (h : ∀ x ∈ L, x.f3.length ≤ 100000) {i m : Nat} (hm : (L.map (·.f3.length))[i]? = some m) : m ≤ 100000 := by
  rw [List.getElem?_map, Option.map_eq_some_iff] at hm
  obtain ⟨x, hx, rfl⟩ := hm
  exact h x (List.mem_of_getElem? hx)
theorem beq_same (x : Int) : (x == x) = true := by simp
set_option maxRecDepth 100000 in
set_option maxHeartbeats 8000000 in
theorem treeSorts_walk (L : List It) (A : Option Addr) (c : Nat) (hc : L.length ≤ c) (w : World) (hC : Kd.C kIt w A L.length L) (hwf : WfL L) :
    Calls Try.prog 4 #[.slice A L.length c] w fun e w' => e = .returned (.bool true) ∧ Below w.heap.size w w' := by
  have HC := Aside0.mk hC
  have HL := Light_any L A c hc w hC
  have hu41 := Try.underlying41
  clear hC
  cases hl : lightB L with
  | false =>
    rw [hl] at HL
    go_enter Try.func4, Try.ntmps4
    go_wp2_with (first
      | (go_at_call 8; with_reducible refine HL.mono ?_; rintro e w1 ⟨rfl, hb1⟩)
      | (go_at_call 9; with_reducible refine (awake14_any _).mono ?_; rintro e w2 ⟨rfl, hb2⟩; have hb20 := hb1.trans (hb2.mono hb1.size)))
    go_ret
    exact ⟨rfl, hb20⟩
  | true =>
    rw [hl] at HL
    have hs := light_names hl
    have hdl : L.length ≤ 100000 := by have := (light_facts hl).1; omega
    have hd3 : ∀ x ∈ L, x.f3.length ≤ 100000 := fun x hx => by have := ((light_facts hl).2 x hx).2; omega
    have hwb : WfB L := ⟨hdl, fun x hx => (hwf x hx).2.2.2.1⟩
    have hwt := wf_sortT hwf
    have e1 := beq_same (sortE L)
    have hdt := dat_sortT hd3
    have hnt := hwt.1
    clear hl
    go_enter Try.func4, Try.ntmps4
    go_wp2_with (first
      | (go_at_call 8; with_reducible refine HL.mono ?_; rintro e w1 ⟨rfl, hb1⟩)
      | (go_at_call 17; with_reducible refine (copy_any L A c _ (Kd.C_below HC.out hb1) hdl hd3).mono ?_; rintro e w2 ⟨v2, rfl, hr2, hb2⟩; obtain ⟨A2, c2, rfl⟩ := Kd.R_slice hr2; have hb20 := hb1.trans (hb2.mono hb1.size))
      | (go_at_call 18; with_reducible refine (REqual_any hwb hwb A2 A c2 c (Kd.R_reads' hr2).2.1 hc _ (Kd.R_reads' hr2).2.2 (Kd.C_below HC.out hb20)).mono ?_; rw [eqL_refl]; rintro e w3 ⟨rfl, hd3'⟩; have hb3 := hd3'.below; have hb30 := hb20.trans (hb3.mono hb20.size))
      | (go_at_call 19; with_reducible refine (Sort_any L A2 c2 (Kd.R_reads' hr2).2.1 _ (Kd.R_reads' (Kd.R_below hr2 hb3)).2.2 hwf).mono ?_; rintro e w4 ⟨v4, rfl, hr4, hb4⟩; obtain ⟨A4, c4, rfl⟩ := Kd.R_slice hr4; have hb40 := hb30.trans (hb4.mono hb30.size))
      | (go_at_call 20; with_reducible refine (RSort_any L hs A c hc _ (Kd.C_below HC.out hb40)).mono ?_; rintro e w5 ⟨v5, rfl, hr5', hb5⟩; have hr5 := Kd.S_R hr5'; obtain ⟨A5, c5, rfl⟩ := Kd.R_slice hr5; have hb50 := hb40.trans (hb5.mono hb40.size))
      | (go_at_call 18; with_reducible refine (REqual_any hwt hwt A4 A5 c4 c5 (Kd.R_reads' hr4).2.1 (Kd.R_reads' hr5).2.1 _ (Kd.R_reads' (Kd.R_below hr4 hb5)).2.2 (Kd.R_reads' hr5).2.2).mono ?_; rw [eqL_refl]; rintro e w6 ⟨rfl, hd6⟩; have hb6 := hd6.below; have hb60 := hb50.trans (hb6.mono hb50.size)))
    have hls : (List.map (fun x : It => x.f3.length) (sortT L)).length = (sortT L).length := List.length_map ..
    have HSt := Aside0.mk (sh_on (sh_of_R (Kd.R_bound hr4) (fun k hk => hk.2.2.1)) (hb5.trans (hb6.mono hb5.size)))
    go_loopg [9] (sortT L).length (fun gg v wr => ∃ i : Nat, i ≤ (sortT L).length ∧ (sortT L).length - i ≤ gg ∧ v = .int .i64 i ∧ Aside0 (Sh A4 w3.heap.size w4.heap.size ((sortT L).map (·.f3.length)) wr ∧ Kp w6 w3.heap.size w4.heap.size wr))
    case atStart => exact ⟨0, Nat.zero_le _, by omega, rfl, ⟨HSt.out, Kp.refl _ _ _⟩⟩
    case round =>
      clear HSt
      obtain ⟨i, hi, hg, rfl, HI⟩ := hrel
      by_cases hlt : i < (sortT L).length
      · have hltz : (i : Int) < ((sortT L).length : Int) := by omega
        have hmb := fun m => len_map hdt (i := i) (m := m)
        obtain ⟨m, hm⟩ : ∃ m, ((sortT L).map (·.f3.length))[i]? = some m := ⟨_, List.getElem?_eq_getElem (by omega)⟩
        have hmb := hmb m hm
        go_wp2
        go_loopg [10] m (fun gg v wr => ∃ k : Nat, k ≤ m ∧ m - k ≤ gg ∧ v = .int .i64 k ∧ Aside0 (Sh A4 w3.heap.size w4.heap.size ((sortT L).map (·.f3.length)) wr ∧ Kp w6 w3.heap.size w4.heap.size wr))
        case atStart => exact ⟨0, Nat.zero_le _, by omega, rfl, HI⟩
        case round =>
          clear HI
          obtain ⟨k, hk, hgk, rfl, HJ⟩ := hrel
          obtain ⟨HS, HKp⟩ := HJ.out
          obtain ⟨g, Ad, cd, hA, hcell, hr⟩ := HS i m hm
          by_cases hkm : k < m
          · obtain ⟨b, rfl, hbg, hb1', hb2', hcells⟩ := hr (by omega)
            obtain ⟨x, hx, hf⟩ := hcells k hkm
            have hkz : (k : Int) < (m : Int) := by omega
            have HR := fun y => (⟨sh_put HS hA hbg (k := k) y, HKp.put hb1' hb2'⟩ : Sh A4 w3.heap.size w4.heap.size ((sortT L).map (·.f3.length)) (wr.setCell ⟨b, k, none⟩ (.int .u8 y)) ∧ Kp w6 w3.heap.size w4.heap.size (wr.setCell ⟨b, k, none⟩ (.int .u8 y)))
            have HR := Aside0.mk HR
            clear hr hcells HS HKp HJ
            subst hA
            go_wp2
            go_roundg (m - (k + 1))
            case measure => omega
            case rel => exact ⟨k + 1, by omega, by omega, by go_num, ⟨HR.out _⟩⟩
          · obtain rfl : k = m := by omega
            clear hr HS HKp
            have HJ2 := Aside0.mk HJ
            clear HJ
            subst hA
            go_wp2
            go_roundg ((sortT L).length - (i + 1))
            case measure => omega
            case rel => exact ⟨i + 1, by omega, by omega, by go_num, HJ2.out⟩
      · obtain rfl : i = (sortT L).length := by omega
        have HK1 := HI.out.2
        clear HI hlt hi hg hls
        obtain ⟨w7, hw7⟩ : ∃ x, x = wr := ⟨_, rfl⟩
        rw [← hw7] at HK1 ⊢
        clear hw7
        have hb70 : Below w.heap.size w w7 := HK1.below hb60 hb30.size
        have hb26 : Below w2.heap.size w2 w6 := hb3.trans ((hb4.trans ((hb5.trans (hb6.mono hb5.size)).mono hb4.size)).mono hb3.size)
        have hr2_6 : Kd.R kIt 41 w6 w1.heap.size (fun k => k < w3.heap.size) (.slice A2 L.length c2) L := Kd.R_below (Kd.R_mono (Kd.R_bound hr2) (fun k hk => Nat.lt_of_lt_of_le hk.2.2.1 hb3.size)) hb26
        have hr2_7 := HK1.row hr2_6 (fun k hk _ _ => .inl hk)
        have hr5_7 := HK1.row (Kd.R_below hr5 hb6) (fun k _ _ hk => .inr hk)
        have hb34 := hb4.size
        have hb1s := hb1.size
        clear hr2 hr2_6 hr4 hr5 hr5' HK1 hb26 hd6 hd3'
        go_wp2_with (first
          | (go_at_call 18; with_reducible refine (REqual_any hwb hwb A2 A c2 c (Kd.R_reads' hr2_7).2.1 hc _ (Kd.R_reads' hr2_7).2.2 (Kd.C_below HC.out hb70)).mono ?_; rw [eqL_refl]; rintro e w8 ⟨rfl, hd8⟩; have hb8 := hd8.below; have hb80 := hb70.trans (hb8.mono hb70.size)))
        have hr2_8 := Kd.R_below hr2_7 hb8
        have hr5_8 := Kd.R_below hr5_7 hb8
        clear hr2_7 hr5_7 hd8
        have hls : (List.map (fun x : It => x.f3.length) (L)).length = (L).length := List.length_map ..
        have HSt := Aside0.mk (sh_of_R hr2_8 (fun k hk => hk))
        go_loopg [11] (L).length (fun gg v wr => ∃ i : Nat, i ≤ (L).length ∧ (L).length - i ≤ gg ∧ v = .int .i64 i ∧ Aside0 (Sh A2 w1.heap.size w3.heap.size ((L).map (·.f3.length)) wr ∧ Kp w8 w1.heap.size w3.heap.size wr))
        case atStart => exact ⟨0, Nat.zero_le _, by omega, rfl, ⟨HSt.out, Kp.refl _ _ _⟩⟩
        case round =>
          clear HSt
          obtain ⟨i, hi, hg, rfl, HI⟩ := hrel
          by_cases hlt : i < (L).length
          · have hltz : (i : Int) < ((L).length : Int) := by omega
            have hmb := fun m => len_map hd3 (i := i) (m := m)
            obtain ⟨m, hm⟩ : ∃ m, ((L).map (·.f3.length))[i]? = some m := ⟨_, List.getElem?_eq_getElem (by omega)⟩
            have hmb := hmb m hm
            go_wp2
            go_loopg [12] m (fun gg v wr => ∃ k : Nat, k ≤ m ∧ m - k ≤ gg ∧ v = .int .i64 k ∧ Aside0 (Sh A2 w1.heap.size w3.heap.size ((L).map (·.f3.length)) wr ∧ Kp w8 w1.heap.size w3.heap.size wr))
            case atStart => exact ⟨0, Nat.zero_le _, by omega, rfl, HI⟩
            case round =>
              clear HI
              obtain ⟨k, hk, hgk, rfl, HJ⟩ := hrel
              obtain ⟨HS, HKp⟩ := HJ.out
              obtain ⟨g, Ad, cd, hA, hcell, hr⟩ := HS i m hm
              by_cases hkm : k < m
              · obtain ⟨b, rfl, hbg, hb1', hb2', hcells⟩ := hr (by omega)
                obtain ⟨x, hx, hf⟩ := hcells k hkm
                have hkz : (k : Int) < (m : Int) := by omega
                have HR := fun y => (⟨sh_put HS hA hbg (k := k) y, HKp.put hb1' hb2'⟩ : Sh A2 w1.heap.size w3.heap.size ((L).map (·.f3.length)) (wr.setCell ⟨b, k, none⟩ (.int .u8 y)) ∧ Kp w8 w1.heap.size w3.heap.size (wr.setCell ⟨b, k, none⟩ (.int .u8 y)))
                have HR := Aside0.mk HR
                clear hr hcells HS HKp HJ
                subst hA
                go_wp2
                go_roundg (m - (k + 1))
                case measure => omega
                case rel => exact ⟨k + 1, by omega, by omega, by go_num, ⟨HR.out _⟩⟩
              · obtain rfl : k = m := by omega
                clear hr HS HKp
                have HJ2 := Aside0.mk HJ
                clear HJ
                subst hA
                go_wp2
                go_roundg ((L).length - (i + 1))
                case measure => omega
                case rel => exact ⟨i + 1, by omega, by omega, by go_num, HJ2.out⟩
          · obtain rfl : i = (L).length := by omega
            have HK2 := HI.out.2
            clear HI hlt hi hg hls
            obtain ⟨w9, hw9⟩ : ∃ x, x = wr := ⟨_, rfl⟩
            rw [← hw9] at HK2 ⊢
            clear hw9
            have hb90 : Below w.heap.size w w9 := HK2.below hb80 hb1s
            have hr5_9 := HK2.row hr5_8 (fun k _ _ hk => .inr (by omega))
            clear HK2 hr5_8
            go_wp2_with (first
              | (go_at_call 20; with_reducible refine (RSort_any L hs A c hc _ (Kd.C_below HC.out hb90)).mono ?_; rintro e w10 ⟨v10, rfl, hr10', hb10⟩; have hr10 := Kd.S_R hr10'; obtain ⟨A10, c10, rfl⟩ := Kd.R_slice hr10; have hb100 := hb90.trans (hb10.mono hb90.size))
              | (go_at_call 18; with_reducible refine (REqual_any hwt hwt A5 A10 c5 c10 (Kd.R_reads' hr5_9).2.1 (Kd.R_reads' hr10).2.1 _ (Kd.R_reads' (Kd.R_below hr5_9 hb10)).2.2 (Kd.R_reads' hr10).2.2).mono ?_; rw [eqL_refl]; rintro e w11 ⟨rfl, hd11⟩; have hb110 := hb100.trans (hd11.below.mono hb100.size))
              | (go_at_call 9; with_reducible refine (awake14_any _).mono ?_; rintro e w12 ⟨rfl, hb12⟩; have hb120 := hb110.trans (hb12.mono hb110.size)))
            go_ret
            exact ⟨rfl, hb120⟩
end Go.Proofs.Ytlomehhlhbpanaa

/- Any items are put into the order that the document says, or are no tree; they stay as they are; a copy has bytes of its own: TreeSorts returns true at every input, and its argument reads as it did. -/
namespace Go.Proofs.Ytlomehhlhbpanaa.treeSorts
open Go.ChangeShapes Go.WideShapes Go.ChangeAt Go.RowKit
open Go.ChangeMaps (open_string shut_string)
open Go.Proofs.YtlomehhlhbpanaaW.PrintWords
theorem own : ownKnob Try.prog.godebug = none := by kernel_rfl
theorem laidOut : laidOutB Try.prog = true := by kernel_rfl

set_option maxRecDepth 100000 in
theorem lifted (os : Os) (started : os.Started) (H : Type) (enc : TypeId × Value → H) :
    ReturnsInHanded {} Try.checked os 4 .any (Rows.treeSortsSpec.pre6 enc Try.prog Try.f4 Rows.treeSortsRow.domain false) (Rows.treeSortsSpec.post enc Try.prog Try.f4 false true false false) := by
  refine returnsInHanded_of_change_sized (C := Try.checked) own started (by kernel_rfl) Try.func4
    (ChangeSpec.witness6 (enc := enc) (C := Try.checked) false ⟨#[], #[.slice none 0 0], []⟩ 8 (by kernel_rfl) (by kernel_rfl) (by kernel_rfl) (by kernel_rfl)) ?_
  intro W base args ds gs before hval0 hW _ _ _
  have hval : ∀ (j : Nat) t v, Try.f4.params[j]? = some t → args[j]? = some v → Value.okWide Try.prog W .any base t v := hval0
  have hW' := hW
  obtain ⟨p, q, hA0, hV, rfl, hfz, hnd⟩ := hW
  have hA : DataW.TrodAll enc Try.prog W 0 (fun _ => true) true Try.f4.params.toList args.toList ds p := hA0
  rw [Try.params4] at hA hval
  obtain ⟨v0, vs0, d0, ds0, p0, q0, hargs, rfl, rfl, h0, r0⟩ := trodAll_cons hA
  obtain ⟨rfl, rfl, rfl⟩ := trodAll_nil r0
  obtain rfl : args = #[v0] := by cases args; simp_all
  obtain ⟨rfl, rfl⟩ := trodVars_none hV
  have k0 := h0
  have lt0 : ∀ x ∈ p0, x.block < W.heap.size := by obtain ⟨m, hm⟩ := k0; exact DataW.trod_lt m _ _ _ hm
  obtain ⟨A0, c0, L0, e0, l0, hC0, hw0, _⟩ : ∃ A c L, v0 = .slice A (List.length L) c ∧ L.length ≤ c ∧ Kd.C kIt W A L.length L ∧ WfL L ∧ L.length ≤ maxLen := by
    obtain ⟨fuel, hf⟩ := h0
    obtain ⟨a, len, cap, rfl⟩ := okWide_slice Try.underlying22 (hval 0 22 v0 rfl rfl)
    obtain ⟨A, c, L, hcs, r⟩ := open_items hf
    simp [Value.cells] at hcs
    obtain ⟨rfl, rfl, rfl⟩ := hcs
    exact ⟨_, _, L, rfl, r⟩
  subst e0
  clear hA0 hval0
  refine (treeSorts_walk L0 A0 c0 l0 W hC0 hw0).mono fun e W' ⟨he, bel⟩ => ?_
  subst he
  exact ⟨_, rfl, _, _, _, [], _, [], hW', trodAll_mk1 (shut_bool Try.underlying4 _), (trodAll_cons_mk (Below.trod laidOut (by kernel_rfl) (of_decide_eq_true (by kernel_rfl)) k0 bel lt0) trodAll_mk0), rfl, bel.frame _, fun h => by cases h⟩

theorem over : Rows.treeSortsRow.holds Try.pinned (OpenSpec.ofChange Rows.treeSortsSpec) :=
  OpenClaim.holds_of_wide 4 Try.f4 rfl rfl rfl rfl rfl rfl rfl ⟨rfl, rfl, rfl, rfl, rfl⟩ rfl rfl rfl rfl rfl (by kernel_rfl) Try.func4 (by kernel_rfl)
    (of_decide_eq_true (by kernel_rfl)) (by unfold Func.isWrapper; first | (rw [if_pos (by decide +kernel)]; kernel_rfl) | (rw [if_neg (by decide +kernel)]; exact ⟨rfl, rfl⟩))
    (fun os started H enc _ => lifted os started H enc)
theorem proved : Rows.TreeSortsSaid := over
#print axioms proved
end Go.Proofs.Ytlomehhlhbpanaa.treeSorts
