import Derived.Test.YtgjlneedpbgfpaaDoorStabS2
import Derived.Deep.CutRange
import Derived.Deep.DeepCutAuto
/- The walk of symMerge: the whole. -/
namespace Go.Proofs.YtgjlneedpbgfpaaDoor
open Go.Shelf Go.RowKit Go.Lib Go.Sort
variable {α : Type} [Inhabited α] {P : Program}

set_option maxHeartbeats 8000000 in
set_option maxRecDepth 1000000 in
theorem sym_gen (k : Nat) (L : StabL P k) (enc : α → List Value) (cf : α → α → Int) (g : Nat) (cb : Array Value) (blk off cap a m b : Nat) (d0 d : Array α) (w0 w : World) (eg : ∀ args w, (callFunc g args).run P w = .ok (.enter g args) w) (hcmp : CmpLays P g cb enc k cf blk off d0.size w0) (R : RowK enc k w0 blk off d0) (hs : d0.size = d.size) (S : SWK enc k w0 blk off d w) (ham : a + 1 < m) (hmb : m + 1 < b) (hb : b ≤ d.size) (hsz : d.size < 4611686018427387904)
    (f : Nat) (ih : ∀ (a m b : Nat) (d : Array α) (w : World), b - a ≤ f → a < m → m < b → b ≤ d.size → d0.size = d.size → SWK enc k w0 blk off d w →
      Calls P 111 #[.slice (some ⟨blk, off, none⟩) d.size cap, .int .i64 a, .int .i64 m, .int .i64 b, .func (.func g) #[] cb] w fun e w' => e = .returned (.tuple #[]) ∧ SWK enc k w0 blk off (symMerge (ltOf cf) f a m b d) w')
    (hf : b - a ≤ f + 1) :
    Calls P 111 #[.slice (some ⟨blk, off, none⟩) d.size cap, .int .i64 a, .int .i64 m, .int .i64 b, .func (.func g) #[] cb] w fun e w' =>
      e = .returned (.tuple #[]) ∧ SWK enc k w0 blk off (symMerge (ltOf cf) (f + 1) a m b d) w' := by
  have F := L.f_sym
  have mixed := L.mixed; have t_int := L.t_int; have a_int := L.a_int; have z_int := L.z_int; have v_int := L.v_int; have t_bool := L.t_bool; have a_bool := L.a_bool; have z_bool := L.z_bool; have v_bool := L.v_bool; have t_uint := L.t_uint; have a_uint := L.a_uint; have z_uint := L.z_uint; have v_uint := L.v_uint; have t_slice := L.t_slice; have a_slice := L.a_slice; have z_slice := L.z_slice; have v_slice := L.v_slice; have t_fn := L.t_fn; have a_fn := L.a_fn; have z_fn := L.z_fn; have v_fn := L.v_fn; have t_unit := L.t_unit; have a_unit := L.a_unit; have z_unit := L.z_unit; have v_unit := L.v_unit; have aE := L.aE; have zE := L.zE
  have u22 := run_underlying L.t_slice
  have eS : ∀ args w, (callFunc 123 args).run P w = .ok (.enter 123 args) w := enters_of L.f_rot (by kernel_rfl) rfl
  have eM : ∀ args w, (callFunc 111 args).run P w = .ok (.enter 111 args) w := enters_of L.f_sym (by kernel_rfl) rfl
  have HC : Aside _ := hcmp
  have S0 : Aside _ := S
  have IH : Aside _ := ih
  clear hcmp S ih
  obtain ⟨st, hst⟩ : ∃ st, symStart (ltOf cf) a m b d = st := ⟨_, rfl⟩
  obtain ⟨mid, hmd⟩ : ∃ mid, (a + b) / 2 = mid := ⟨_, rfl⟩
  obtain ⟨s0, hs0⟩ : ∃ s0, (if mid < m then mid + m - b else a) = s0 := ⟨_, rfl⟩
  obtain ⟨r0, hr0⟩ : ∃ r0, (if mid < m then mid else m) = r0 := ⟨_, rfl⟩
  have HB : Hid ((mid < m ∧ s0 + b = mid + m ∧ r0 = mid) ∨ (m ≤ mid ∧ s0 = a ∧ r0 = m)) := by
    show _ ∨ _
    by_cases h : mid < m
    · rw [if_pos h] at hs0 hr0; exact .inl ⟨h, by omega, hr0.symm⟩
    · rw [if_neg h] at hs0 hr0; exact .inr ⟨by omega, hs0.symm, hr0.symm⟩
  have hse := hst
  unfold symStart at hse
  rw [hmd, hs0, hr0] at hse
  have hq := bs_spec (fun c => !ltOf cf d[mid + m - 1 - c]! d[c]!) (r0 - s0) s0 r0 rfl (by have := HB.out; omega)
  rw [hse] at hq
  have q1 : s0 ≤ st := hq.1
  have q2 : st ≤ r0 := hq.2.1
  have HSE := hid hse
  have HST := hid hst
  have HMD := hid hmd
  have b1 : a < mid := by omega
  have b2 : mid < b := by omega
  have b3 : a ≤ s0 := by have := HB.out; omega
  have b4 : s0 ≤ r0 := by omega
  have b5 : r0 ≤ mid := by have := HB.out; omega
  have b6 : r0 ≤ m := by have := HB.out; omega
  have b7 : mid + m ≤ s0 + b := by have := HB.out; omega
  have hmid : ((a : Int) + (b : Int)) / 2 = (mid : Int) := by omega
  have h1 : ¬ (m : Int) - (a : Int) = 1 := by omega
  have h1' : ((m : Int) - (a : Int) == 1) = false := by rw [beq_eq_false_iff_ne]; omega
  have h2 : ¬ (b : Int) - (m : Int) = 1 := by omega
  have h2' : ((b : Int) - (m : Int) == 1) = false := by rw [beq_eq_false_iff_ne]; omega
  clear hq hst hse hs0 hr0 hmd
  go_enter F, Tryd.ntmps111
  go_upto_if 140 with fail
  go_cut [20, 21] (fun s20 s21 wx => s20 = .int .i64 s0 ∧ s21 = .int .i64 r0 ∧ wx = w)
  case first => as_aux_lemma =>
    by_cases hA : (mid : Int) < (m : Int)
    · go_wp2_with fail
      go_meet
      case rel => exact ⟨by congr 1; have := HB.out; omega, by congr 1; have := HB.out; omega, rfl⟩
    · go_wp2_with fail
      go_meet
      case rel => exact ⟨by congr 1; have := HB.out; omega, by congr 1; have := HB.out; omega, rfl⟩
  case rest =>
    obtain ⟨rfl, rfl, rfl⟩ := hcut
    obtain ⟨p, hp⟩ : ∃ p, mid + m - 1 = p := ⟨_, rfl⟩
    have hpz : (mid : Int) + (m : Int) - 1 = (p : Int) := by omega
    have HP := hid hp
    clear hp
    go_wp2_with fail
    go_loopg [20, 21] (r0 - s0) (fun kx s20 s21 wr => ∃ (i j : Nat), s20 = .int .i64 i ∧ s21 = .int .i64 j ∧ s0 ≤ i ∧ i ≤ j ∧ j ≤ r0 ∧ j - i ≤ kx ∧ Aside (SWK enc k w0 blk off d wr) ∧ Hid (bs (fun c => !ltOf cf d[mid + m - 1 - c]! d[c]!) i j = bs (fun c => !ltOf cf d[mid + m - 1 - c]! d[c]!) s0 r0))
    case atStart => exact ⟨s0, r0, rfl, rfl, Nat.le_refl _, b4, Nat.le_refl _, Nat.le_refl _, S0, rfl⟩
    case round =>
      obtain ⟨i, j, rfl, rfl, hi, hij, hj, hkx, S1, HE⟩ := hrel
      clear S0
      by_cases hlt : i < j
      · as_aux_lemma =>
        have hltz : (i : Int) < (j : Int) := by omega
        obtain ⟨h, hh⟩ : ∃ h, (i + j) / 2 = h := ⟨_, rfl⟩
        obtain ⟨q, hq⟩ : ∃ q, mid + m - 1 - h = q := ⟨_, rfl⟩
        have hhz : ((i : Int) + (j : Int)) / 2 = (h : Int) := by omega
        have hqz : (p : Int) - (h : Int) = (q : Int) := by have := HP.out; omega
        have rq : IntKind.i64.wrap (q : Int) = (q : Int) := by rw [IntKind.wrap_i64]; omega
        have ba : (h : Int) < (d.size : Int) := by omega
        have bc : (q : Int) < (d.size : Int) := by omega
        obtain ⟨x, hx⟩ : ∃ x, x = d[q]! := ⟨_, rfl⟩
        obtain ⟨y, hy⟩ : ∃ y, y = d[h]! := ⟨_, rfl⟩
        have la := S1.out.ld R (by omega) P q (by omega)
        have lb := S1.out.ld R (by omega) P h (by omega)
        rw [← hx] at la
        rw [← hy] at lb
        have hc := S1.out.cmp HC.out (by omega) x y
        have HXY : Hid (ltOf cf d[mid + m - 1 - (i + j) / 2]! d[(i + j) / 2]! = decide (cf x y < 0)) := by show _ = _; rw [hh, hq, hx, hy]; rfl
        have HH := hid hh
        clear hx hy hh hq
        by_cases hv : cf x y < 0
        · have hd : decide (cf x y < 0) = true := decide_eq_true hv
          go_wp2_with fail
          go_quiet_grown (first | (go_at_fn g; refine Calls.grown_of (hc _ _)))
          have S2 : Aside (SWK enc k w0 blk off d (grow (wr.drewN nq) osq)) := S1.out.grown nq osq
          clear la lb hc S1
          generalize grow (wr.drewN nq) osq = w2 at S2 ⊢
          clear nq osq
          go_wp2
          go_roundg (h - i)
          case measure => have := HH.out; omega
          case rel => exact ⟨i, h, rfl, rfl, hi, by have := HH.out; omega, by have := HH.out; omega, Nat.le_refl _, S2, by show _ = _; rw [← HE.out]; conv => rhs; rw [bs, if_pos hlt, if_neg (by rw [HXY.out, hd]; exact Bool.false_ne_true), HH.out]⟩
        · have hd : decide (cf x y < 0) = false := decide_eq_false hv
          go_wp2_with fail
          go_quiet_grown (first | (go_at_fn g; refine Calls.grown_of (hc _ _)))
          have S2 : Aside (SWK enc k w0 blk off d (grow (wr.drewN nq) osq)) := S1.out.grown nq osq
          clear la lb hc S1
          generalize grow (wr.drewN nq) osq = w2 at S2 ⊢
          clear nq osq
          go_wp2
          go_roundg (j - (h + 1))
          case measure => have := HH.out; omega
          case rel => exact ⟨h + 1, j, by go_num, rfl, by have := HH.out; omega, by have := HH.out; omega, hj, Nat.le_refl _, S2, by show _ = _; rw [← HE.out]; conv => rhs; rw [bs, if_pos hlt, if_pos (by rw [HXY.out, hd]; rfl), HH.out]⟩
      · have hltz : ¬ (i : Int) < (j : Int) := by omega
        have hi : i = st := by rw [← HSE.out, ← HE.out, bs, if_neg hlt]
        clear HE
        obtain ⟨wo, rfl⟩ : ∃ wo : World, wo = wr := ⟨_, rfl⟩
        obtain ⟨en, hen⟩ : ∃ en, mid + m - st = en := ⟨_, rfl⟩
        subst hi
        have henz : (mid : Int) + (m : Int) - (i : Int) = (en : Int) := by omega
        have c1 : mid ≤ en := by omega
        have c2 : m ≤ en := by omega
        have c3 : en ≤ b := by omega
        have c4 : a ≤ i := by omega
        have c5 : i ≤ mid := by omega
        have c6 : i ≤ m := by omega
        have HEN := hid hen
        clear hen
        obtain ⟨d1, hd1⟩ : ∃ d1, (if i < m ∧ m < en then rot m (m - i) (en - m) d else d) = d1 := ⟨_, rfl⟩
        have z1 : d1.size = d.size := by
          rw [← hd1]
          split
          · rename_i h
            exact (rot_spec m 0 d.size _ (m - i) (en - m) d rfl (by omega) (by omega) (by omega) (by omega) (Nat.le_refl _)).1.1
          · rfl
        have HD1 := hid hd1
        clear hd1
        obtain ⟨t, ht⟩ : ∃ t : Bool, decide (i < m ∧ m < en) = t := ⟨_, rfl⟩
        have HT := hid ht
        clear ht
        go_upto_region 39 with fail
        go_cut [185] (fun s185 wx => s185 = .bool t ∧ wx = wo)
        case first => as_aux_lemma =>
          by_cases t1 : i < m
          · have t1z : (i : Int) < (m : Int) := by omega
            by_cases t2 : m < en
            · have t2z : (m : Int) < (en : Int) := by omega
              go_wp2_with fail
              go_meet
              case rel => exact ⟨by rw [← HT.out, decide_eq_true ⟨t1, t2⟩], rfl⟩
            · have t2z : ¬ (m : Int) < (en : Int) := by omega
              go_wp2_with fail
              go_meet
              case rel => exact ⟨by rw [← HT.out, decide_eq_false (fun h => t2 h.2)], rfl⟩
          · have t1z : ¬ (i : Int) < (m : Int) := by omega
            have t1y : decide ((i : Int) < (m : Int)) = false := decide_eq_false t1z
            go_wp2_with fail
            go_meet
            case rel => exact ⟨by rw [← HT.out, decide_eq_false (fun h => t1 h.1)], rfl⟩
        case rest =>
          obtain ⟨rfl, rfl⟩ := hcut
          go_upto_if 185 with fail
          go_cut [24] (fun s24 wx => s24 = .int .i64 en ∧ Aside (SWK enc k w0 blk off d1 wx))
          case first => as_aux_lemma =>
            cases t with
            | true =>
              obtain ⟨t1, t2⟩ := of_decide_eq_true HT.out
              have HR := hid (rotate_walk k L enc g cb blk off cap i m en d0 d w0 wc R hs S1.out t1 t2 (by omega) hsz)
              go_wp2_with (go_at_fn 123; refine HR.out.mono ?_; rintro e w2 ⟨rfl, S2⟩)
              go_meet
              case rel => exact ⟨rfl, by rw [← HD1.out, if_pos ⟨t1, t2⟩]; exact S2⟩
            | false =>
              have t1 := of_decide_eq_false HT.out
              go_wp2_with fail
              go_meet
              case rel => exact ⟨rfl, by rw [← HD1.out, if_neg t1]; exact S1⟩
          case rest =>
            obtain ⟨rfl, S2⟩ := hcut
            clear S1 HT
            obtain ⟨d2, hd2⟩ : ∃ d2, (if a < i ∧ i < mid then symMerge (ltOf cf) f a i mid d1 else d1) = d2 := ⟨_, rfl⟩
            have HD2 := hid hd2
            clear hd2
            obtain ⟨t, ht⟩ : ∃ t : Bool, decide (a < i ∧ i < mid) = t := ⟨_, rfl⟩
            have HT := hid ht
            clear ht
            obtain ⟨wo, rfl⟩ : ∃ wo : World, wo = wc := ⟨_, rfl⟩
            go_upto_region 41 with fail
            go_cut [199] (fun s wx => s = .bool t ∧ wx = wo)
            case first => as_aux_lemma =>
              by_cases t1 : a < i
              · have t1z : (a : Int) < (i : Int) := by omega
                by_cases t2 : i < mid
                · have t2z : (i : Int) < (mid : Int) := by omega
                  go_wp2_with fail
                  go_meet
                  case rel => exact ⟨by rw [← HT.out, decide_eq_true ⟨t1, t2⟩], rfl⟩
                · have t2z : ¬ (i : Int) < (mid : Int) := by omega
                  go_wp2_with fail
                  go_meet
                  case rel => exact ⟨by rw [← HT.out, decide_eq_false (fun h => t2 h.2)], rfl⟩
              · have t1z : ¬ (a : Int) < (i : Int) := by omega
                have t1y : decide ((a : Int) < (i : Int)) = false := decide_eq_false t1z
                go_wp2_with fail
                go_meet
                case rel => exact ⟨by rw [← HT.out, decide_eq_false (fun h => t1 h.1)], rfl⟩
            case rest =>
              obtain ⟨rfl, rfl⟩ := hcut
              have HI1 : Hid (t = true → Calls P 111 #[.slice (some ⟨blk, off, none⟩) d.size cap, .int .i64 a, .int .i64 i, .int .i64 mid, .func (.func g) #[] cb] wc fun e w' => e = .returned (.tuple #[]) ∧ SWK enc k w0 blk off d2 w') := by
                show _ → _
                intro htt
                rw [htt] at HT
                have htr := of_decide_eq_true HT.out
                have h := IH.out a i mid d1 wc (by omega) htr.1 htr.2 (by omega) (by omega) S2.out
                rw [z1] at h
                rw [← HD2.out, if_pos htr]
                exact h
              go_upto_if 199 with fail
              go_cut [24] (fun s24 wx => s24 = .int .i64 en ∧ Aside (SWK enc k w0 blk off d2 wx))
              case first => as_aux_lemma =>
                cases t with
                | true =>
                  go_wp2_with (go_at_fn 111; refine (HI1.out rfl).mono ?_; rintro e w2 ⟨rfl, S3⟩)
                  go_meet
                  case rel => exact ⟨rfl, S3⟩
                | false =>
                  have t1 := of_decide_eq_false HT.out
                  go_wp2_with fail
                  go_meet
                  case rel => exact ⟨rfl, by rw [← HD2.out, if_neg t1]; exact S2⟩
              case rest =>
                obtain ⟨rfl, S3⟩ := hcut
                clear S2 HT HI1
                have z2 : d2.size = d.size := by
                  rw [← HD2.out, ← z1]
                  split
                  · exact symMerge_size _ _ _ _ _ _
                  · rfl
                obtain ⟨d3, hd3⟩ : ∃ d3, (if mid < en ∧ en < b then symMerge (ltOf cf) f mid en b d2 else d2) = d3 := ⟨_, rfl⟩
                have HD3 := hid hd3
                clear hd3
                have HF : Hid (symMerge (ltOf cf) (f + 1) a m b d = d3) := by
                  show _ = _
                  rw [symMerge, if_neg (by omega), if_neg (by omega)]
                  dsimp only
                  rw [HST.out, HMD.out, HEN.out, HD1.out, HD2.out, HD3.out]
                obtain ⟨t, ht⟩ : ∃ t : Bool, decide (mid < en ∧ en < b) = t := ⟨_, rfl⟩
                have HT := hid ht
                clear ht
                obtain ⟨wo, rfl⟩ : ∃ wo : World, wo = wc := ⟨_, rfl⟩
                go_upto_region 43 with fail
                go_cut [213] (fun s wx => s = .bool t ∧ wx = wo)
                case first => as_aux_lemma =>
                  by_cases t1 : mid < en
                  · have t1z : (mid : Int) < (en : Int) := by omega
                    by_cases t2 : en < b
                    · have t2z : (en : Int) < (b : Int) := by omega
                      go_wp2_with fail
                      go_meet
                      case rel => exact ⟨by rw [← HT.out, decide_eq_true ⟨t1, t2⟩], rfl⟩
                    · have t2z : ¬ (en : Int) < (b : Int) := by omega
                      go_wp2_with fail
                      go_meet
                      case rel => exact ⟨by rw [← HT.out, decide_eq_false (fun h => t2 h.2)], rfl⟩
                  · have t1z : ¬ (mid : Int) < (en : Int) := by omega
                    have t1y : decide ((mid : Int) < (en : Int)) = false := decide_eq_false t1z
                    go_wp2_with fail
                    go_meet
                    case rel => exact ⟨by rw [← HT.out, decide_eq_false (fun h => t1 h.1)], rfl⟩
                case rest =>
                  obtain ⟨rfl, rfl⟩ := hcut
                  cases t with
                  | true =>
                    have htr := of_decide_eq_true HT.out
                    have h := IH.out mid en b d2 wc (by omega) htr.1 htr.2 (by omega) (by omega) S3.out
                    rw [z2] at h
                    have HI3 := hid h
                    clear h
                    go_wp2_with (go_at_fn 111; refine HI3.out.mono ?_; rintro e w2 ⟨rfl, S4⟩)
                    go_end0
                    refine ⟨rfl, ?_⟩
                    rw [HF.out, ← HD3.out, if_pos htr]; exact S4
                  | false =>
                    have t1 := of_decide_eq_false HT.out
                    go_wp2_with fail
                    go_end0
                    refine ⟨rfl, ?_⟩
                    rw [HF.out, ← HD3.out, if_neg t1]; exact S3.out
end Go.Proofs.YtgjlneedpbgfpaaDoor
