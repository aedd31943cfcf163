import Derived.Test.YtlomehhlhbpanaaChecked
import Derived.Ground.SlsfProg
import Derived.Shelf.SlSortCmp.NoneTotal
import Derived.Test.YtlomehhlhbpanaaKA
import Derived.Test.YtlomehhlhbpanaaKB
import Derived.Deep.RegionHeld3
/- A pack of texts: TLayS, TInj, TSrt, TSortF, TRs, TSo, TMk, TSort. -/
/- A laying of the library in this program (what shelf_lay makes, written out). -/
namespace Go.Proofs.Ytlomehhlhbpanaa
open Go.RowKit
def lSort_ren : Go.Shelf.Ren := ⟨fun | 6 => 33 | 15 => 45 | 14 => 44 | 28 => 56 | 29 => 57 | 20 => 48 | 21 => 49 | 22 => 50 | 23 => 51 | 24 => 52 | 25 => 53 | 26 => 54 | 27 => 55 | 46 => 60 | 47 => 61 | 48 => 62 | 49 => 63 | 50 => 64 | 57 => 65 | n => n, fun | 22 => 44 | 24 => 3 | 25 => 53 | 3 => 3 | 39 => 66 | 0 => 0 | 53 => 77 | 55 => 79 | 4 => 4 | 46 => 70 | 45 => 69 | 50 => 74 | 5 => 5 | 9 => 9 | 66 => 80 | 70 => 84 | 76 => 86 | 77 => 87 | n => n, fun | n => n⟩
theorem lSort : Go.Proofs.SlLaysF.n6 Try.prog lSort_ren := {
  mixed := by kernel_rfl
  f6 := ⟨"slices.SortFunc[[]int,int]", by decide, Try.func33.trans (congrArg some (by kernel_rfl))⟩
  f14 := ⟨"slices.pdqsortCmpFunc[int]", by decide, Try.func44.trans (congrArg some (by kernel_rfl))⟩
  f15 := Try.func45.trans (congrArg some (by kernel_rfl))
  f20 := ⟨"slices.insertionSortCmpFunc[int]", by decide, Try.func48.trans (congrArg some (by kernel_rfl))⟩
  f21 := ⟨"slices.heapSortCmpFunc[int]", by decide, Try.func49.trans (congrArg some (by kernel_rfl))⟩
  f22 := ⟨"slices.breakPatternsCmpFunc[int]", by decide, Try.func50.trans (congrArg some (by kernel_rfl))⟩
  f23 := ⟨"slices.choosePivotCmpFunc[int]", by decide, Try.func51.trans (congrArg some (by kernel_rfl))⟩
  f24 := ⟨"slices.reverseRangeCmpFunc[int]", by decide, Try.func52.trans (congrArg some (by kernel_rfl))⟩
  f25 := ⟨"slices.partialInsertionSortCmpFunc[int]", by decide, Try.func53.trans (congrArg some (by kernel_rfl))⟩
  f26 := ⟨"slices.partitionEqualCmpFunc[int]", by decide, Try.func54.trans (congrArg some (by kernel_rfl))⟩
  f27 := ⟨"slices.partitionCmpFunc[int]", by decide, Try.func55.trans (congrArg some (by kernel_rfl))⟩
  f28 := Try.func56.trans (congrArg some (by kernel_rfl))
  f29 := Try.func57.trans (congrArg some (by kernel_rfl))
  f46 := ⟨"slices.siftDownCmpFunc[int]", by decide, Try.func60.trans (congrArg some (by kernel_rfl))⟩
  f47 := Try.func61.trans (congrArg some (by kernel_rfl))
  f48 := Try.func62.trans (congrArg some (by kernel_rfl))
  f49 := ⟨"slices.medianAdjacentCmpFunc[int]", by decide, Try.func63.trans (congrArg some (by kernel_rfl))⟩
  f50 := ⟨"slices.medianCmpFunc[int]", by decide, Try.func64.trans (congrArg some (by kernel_rfl))⟩
  f57 := ⟨"slices.order2CmpFunc[int]", by decide, Try.func65.trans (congrArg some (by kernel_rfl))⟩
  t0 := Try.underlying0
  a0 := Try.isAgg0
  z0 := Try.sizeOf0
  v0 := Try.zeroValue0
  t3 := Try.underlying3
  a3 := Try.isAgg3
  z3 := Try.sizeOf3
  v3 := Try.zeroValue3
  t4 := Try.underlying4
  a4 := Try.isAgg4
  z4 := Try.sizeOf4
  v4 := Try.zeroValue4
  t5 := Try.underlying5
  a5 := Try.isAgg5
  z5 := Try.sizeOf5
  v5 := Try.zeroValue5
  t9 := Try.underlying9
  a9 := Try.isAgg9
  z9 := Try.sizeOf9
  v9 := Try.zeroValue9
  t22 := Try.underlying44
  a22 := Try.isAgg44
  z22 := Try.sizeOf44
  v22 := Try.zeroValue44
  a24 := Try.isAgg3
  z24 := Try.sizeOf3
  t25 := Try.underlying53
  a25 := Try.isAgg53
  z25 := Try.sizeOf53
  v25 := Try.zeroValue53
  t39 := Try.underlying66
  a39 := Try.isAgg66
  z39 := Try.sizeOf66
  v39 := Try.zeroValue66
  t45 := Try.underlying69
  a45 := Try.isAgg69
  z45 := Try.sizeOf69
  v45 := Try.zeroValue69
  t46 := Try.underlying70
  a46 := Try.isAgg70
  z46 := Try.sizeOf70
  v46 := Try.zeroValue70
  t50 := Try.underlying74
  a50 := Try.isAgg74
  z50 := Try.sizeOf74
  v50 := Try.zeroValue74
  t53 := Try.underlying77
  a53 := Try.isAgg77
  z53 := Try.sizeOf77
  v53 := Try.zeroValue77
  t55 := Try.underlying79
  a55 := Try.isAgg79
  z55 := Try.sizeOf79
  v55 := Try.zeroValue79
  t66 := Try.underlying80
  a66 := Try.isAgg80
  z66 := Try.sizeOf80
  v66 := Try.zeroValue80
  t70 := Try.underlying84
  a70 := Try.isAgg84
  z70 := Try.sizeOf84
  v70 := Try.zeroValue84
  t76 := Try.underlying86
  a76 := Try.isAgg86
  z76 := Try.sizeOf86
  v76 := Try.zeroValue86
  t77 := Try.underlying87
  a77 := Try.isAgg87
  z77 := Try.sizeOf87
  v77 := Try.zeroValue87 }
end Go.Proofs.Ytlomehhlhbpanaa

/- No two items of a tree have one path. -/
namespace Go.Proofs.Ytlomehhlhbpanaa
open Go.RowKit Go.Lib

theorem path_ne {L : List It} {i : Nat} (hp : ∀ j : Nat, j ≤ i → parB L j = true) : pathN L i ≠ [] := by
  rw [path_step hp]; simp
theorem no_dup {L : List It} {i j : Nat} (hij : i < j) (hj : j < L.length) (ho : okAtB L j = true) (h0 : (itA L i).f0 = (itA L j).f0) (h1 : (itA L i).f1 = (itA L j).f1) : False := by
  simp only [okAtB, Bool.and_eq_true, Bool.not_eq_true'] at ho
  have h2 := ho.2
  unfold dupB at h2
  rw [List.any_eq_false] at h2
  have hm : L[i] ∈ L.take j := by
    rw [List.mem_take_iff_getElem]
    exact ⟨i, by omega, rfl⟩
  refine h2 _ hm ?_
  rw [← itA_get (by omega : i < L.length), h0, h1]; simp

theorem path_inj {L : List It} (hd : depB L = true) : ∀ (t i j : Nat), i ≤ t → i < L.length → j < L.length → pathN L i = pathN L j → i = j := by
  simp only [depB, List.all_eq_true, List.mem_range] at hd
  have hp : ∀ i : Nat, i < L.length → ∀ j : Nat, j ≤ i → parB L j = true := fun i hi j hj => okAt_par (hd j (by omega))
  intro t
  induction t with
  | zero =>
    intro i j hi h1 h2 h
    obtain rfl : i = 0 := by omega
    have p0 := par_ok (hp 0 h1 0 (Nat.le_refl _))
    have q0 := par_ok (hp j h2 j (Nat.le_refl _))
    rw [path_step (hp 0 h1), path_step (hp j h2)] at h
    obtain ⟨ha, hb⟩ := List.append_inj' h rfl
    have e1 : (itA L ((0 : Nat) : Int)).f1 = (itA L (j : Int)).f1 := by simpa using hb
    have e0 : (itA L ((0 : Nat) : Int)).f0 = -1 := by omega
    rw [e0, path_top] at ha
    have e2 : (itA L (j : Int)).f0 = -1 := by
      by_cases c : (itA L (j : Int)).f0 = -1
      · exact c
      · obtain ⟨q, hq⟩ : ∃ q : Nat, (itA L (j : Int)).f0 = q := ⟨(itA L (j : Int)).f0.toNat, by omega⟩
        rw [hq] at ha
        exact absurd ha.symm (path_ne (hp q (by omega)))
    by_cases e : (0 : Nat) = j
    · exact e
    · exact (no_dup (by omega : 0 < j) h2 (hd j h2) (by rw [e0, e2]) e1).elim
  | succ t ih =>
    intro i j hi h1 h2 h
    have p0 := par_ok (hp i h1 i (Nat.le_refl _))
    have q0 := par_ok (hp j h2 j (Nat.le_refl _))
    have h' := h
    rw [path_step (hp i h1), path_step (hp j h2)] at h
    obtain ⟨ha, hb⟩ := List.append_inj' h rfl
    have e1 : (itA L (i : Int)).f1 = (itA L (j : Int)).f1 := by simpa using hb
    have e0 : (itA L (i : Int)).f0 = (itA L (j : Int)).f0 := by
      by_cases c : (itA L (i : Int)).f0 = -1
      · by_cases d : (itA L (j : Int)).f0 = -1
        · rw [c, d]
        · obtain ⟨q, hq⟩ : ∃ q : Nat, (itA L (j : Int)).f0 = q := ⟨(itA L (j : Int)).f0.toNat, by omega⟩
          rw [c, path_top, hq] at ha
          exact absurd ha.symm (path_ne (hp q (by omega)))
      · obtain ⟨p, hpp⟩ : ∃ p : Nat, (itA L (i : Int)).f0 = p := ⟨(itA L (i : Int)).f0.toNat, by omega⟩
        by_cases d : (itA L (j : Int)).f0 = -1
        · rw [d, path_top, hpp] at ha
          exact absurd ha (path_ne (hp p (by omega)))
        · obtain ⟨q, hq⟩ : ∃ q : Nat, (itA L (j : Int)).f0 = q := ⟨(itA L (j : Int)).f0.toNat, by omega⟩
          rw [hpp, hq] at ha
          rw [hpp, hq, ih p q (by omega) (by omega) (by omega) ha]
    rcases Nat.lt_trichotomy i j with hlt | heq | hgt
    · exact (no_dup hlt h2 (hd j h2) e0 e1).elim
    · exact heq
    · exact (no_dup hgt h1 (hd i h1) e0.symm e1.symm).elim
end Go.Proofs.Ytlomehhlhbpanaa

/- The order of a tree's items: insertion gives the one sorted permutation. -/
namespace Go.Proofs.Ytlomehhlhbpanaa
open Go.RowKit Go.Lib

def insO (lt : Nat → Nat → Bool) (i : Nat) (o : List Nat) : List Nat := o.takeWhile (fun x => lt x i) ++ i :: o.dropWhile (fun x => lt x i)
def ordR (lt : Nat → Nat → Bool) : Nat → List Nat
  | 0 => []
  | n + 1 => insO lt n (ordR lt n)

theorem ins_perm (lt : Nat → Nat → Bool) (i : Nat) (o : List Nat) : (insO lt i o).Perm (i :: o) := by
  unfold insO
  refine List.perm_middle.trans ?_
  rw [List.takeWhile_append_dropWhile]
theorem ord_perm (lt : Nat → Nat → Bool) : ∀ n, (ordR lt n).Perm (List.range n)
  | 0 => List.Perm.refl _
  | n + 1 => by
    rw [List.range_succ, ordR]
    refine (ins_perm lt n _).trans ?_
    refine ((ord_perm lt n).cons n).trans ?_
    exact List.perm_append_comm (l₁ := [n]) (l₂ := List.range n)
theorem ins_sorted {lt : Nat → Nat → Bool} {i : Nat} {o : List Nat} (ht : ∀ a b c, lt a b = true → lt b c = true → lt a c = true) (hi : ∀ x ∈ o, lt x i = false → lt i x = true) (h : o.Pairwise fun a b => lt a b = true) : (insO lt i o).Pairwise fun a b => lt a b = true := by
  have hsplit := List.takeWhile_append_dropWhile (p := fun x => lt x i) (l := o)
  rw [← hsplit] at h
  obtain ⟨h1, h2, h3⟩ := List.pairwise_append.1 h
  have hlow : ∀ a ∈ o.takeWhile (fun x => lt x i), lt a i = true := fun a ha => by
    have := List.all_takeWhile (p := fun x => lt x i) (l := o)
    rw [List.all_eq_true] at this
    exact this a ha
  have hhigh : ∀ b ∈ o.dropWhile (fun x => lt x i), lt i b = true := by
    cases hd : o.dropWhile (fun x => lt x i) with
    | nil => intro b hb; cases hb
    | cons y l =>
      have hy : lt y i = false := by
        have hne : o.dropWhile (fun x => lt x i) ≠ [] := by rw [hd]; simp
        have := List.head_dropWhile_not (fun x => lt x i) hne
        simpa [hd] using this
      have hyo : y ∈ o := by rw [← hsplit, hd]; simp
      have hiy := hi y hyo hy
      rw [hd] at h2
      intro b hb
      rcases List.mem_cons.1 hb with rfl | hb
      · exact hiy
      · exact ht _ _ _ hiy ((List.pairwise_cons.1 h2).1 b hb)
  unfold insO
  refine List.pairwise_append.2 ⟨h1, List.pairwise_cons.2 ⟨hhigh, h2⟩, fun a ha b hb => ?_⟩
  rcases List.mem_cons.1 hb with rfl | hb
  · exact hlow a ha
  · exact h3 a ha b hb
theorem ord_sorted {lt : Nat → Nat → Bool} (ht : ∀ a b c, lt a b = true → lt b c = true → lt a c = true) : ∀ n, (∀ i j, i < n → j < n → i ≠ j → lt i j = false → lt j i = true) → (ordR lt n).Pairwise fun a b => lt a b = true
  | 0, _ => List.Pairwise.nil
  | n + 1, h => by
    rw [ordR]
    refine ins_sorted ht (fun x hx hl => ?_) (ord_sorted ht n (fun i j hi hj => h i j (by omega) (by omega)))
    have := (ord_perm lt n).mem_iff.1 hx
    exact h x n (by have := List.mem_range.1 this; omega) (by omega) (by have := List.mem_range.1 this; omega) hl
theorem ord_one {lt : Nat → Nat → Bool} (hirr : ∀ a, lt a a = false) (ht : ∀ a b c, lt a b = true → lt b c = true → lt a c = true) {n : Nat} (h : ∀ i j, i < n → j < n → i ≠ j → lt i j = false → lt j i = true) {m : List Nat} (hp : m.Perm (List.range n)) (hs : m.Pairwise fun a b => lt a b = true) : m = ordR lt n := by
  refine List.Perm.eq_of_pairwise (fun a b _ _ h1 h2 => ?_) hs (ord_sorted ht n h) (hp.trans (ord_perm lt n).symm)
  have := ht _ _ _ h1 h2
  rw [hirr] at this; cases this

/-- The order of the items of a tree. -/
def ltP (L : List It) (i j : Nat) : Bool := decide (cmpL (pathN L i) (pathN L j) < 0)
theorem ltP_irr (L : List It) (a : Nat) : ltP L a a = false := by
  unfold ltP; rw [cmpL_refl]; rfl
theorem ltP_trans (L : List It) (a b c : Nat) (h1 : ltP L a b = true) (h2 : ltP L b c = true) : ltP L a c = true := by
  unfold ltP at *
  rw [decide_eq_true_eq] at *
  exact cmpL_trans _ _ _ h1 h2
theorem ltP_tri {L : List It} (hd : depB L = true) (i j : Nat) (hi : i < L.length) (hj : j < L.length) (hne : i ≠ j) (h : ltP L i j = false) : ltP L j i = true := by
  unfold ltP at *
  rw [decide_eq_false_iff_not] at h
  rw [decide_eq_true_eq]
  exact cmpL_tri _ _ h (fun e => hne (path_inj hd i i j (Nat.le_refl _) hi hj e))
end Go.Proofs.Ytlomehhlhbpanaa

/- slices.SortFunc over the order, with the closure of tree.Sort. -/
namespace Go.Proofs.Ytlomehhlhbpanaa
open Go.RowKit Go.Lib Go.Sort Go.Shelf Go.Proofs.YtlomehhlhbpanaaW.PrintWords Go.Proofs.YtlomehhlhbpanaaW.PrintLast Go.Proofs.YtlomehhlhbpanaaW.PrintMore Go.Proofs.Ytlomehhlhbpanaa.Prt

theorem heap_sw_other {α : Type} [Inhabited α] (enc : α → Value) (W : World) (blk off n : Nat) (dk : Array α) (os : Array Obj) (k : Nat) (h1 : k ≠ blk) (h2 : k < W.heap.size) : (sortWorld enc W blk off n dk os).heap[k]? = W.heap[k]? := by
  unfold sortWorld
  rw [heap_grow_old _ _ (by rw [size_putRow]; exact h2)]
  unfold putRow mapBlock
  simp only [Array.getElem?_modify]
  rw [if_neg (fun e => h1 e.symm)]
  rfl

def encF {n : Nat} (x : Fin n) : Value := .int .i64 (x.val : Int)
def cfF (Ps : List (List ByteArray)) (x y : Fin Ps.length) : Int := cmpL (Ps.getD x.val []) (Ps.getD y.val [])

theorem clos_lays (Ps : List (List ByteArray)) [Inhabited (Fin Ps.length)] (pb g : Nat) (A : Option Addr) (c base : Nat) (w : World) (hpb : pb ≠ g) (hpl : pb < w.heap.size)
    (hp : w.cell? ⟨pb, 0, none⟩ = some (.slice A Ps.length c)) (hR : Kd.R kPs 29 w base (fun k => k ≠ g) (.slice A Ps.length c) Ps) :
    CmpLays1 Try.prog 34 #[.pointer (some ⟨pb, 0, none⟩)] encF (cfF Ps) g 0 Ps.length w := by
  refine CmpReads.lays ?_
  intro m os dk hdk x y
  have hR2 : Kd.R kPs 29 (sortWorld encF w g 0 m dk os) base (fun k => k ≠ g) (.slice A Ps.length c) Ps := Kd.R_step hR (fun k hk hl => heap_sw_other _ _ _ _ _ _ _ _ hk hl)
  have hp2 : (sortWorld encF w g 0 m dk os).cell? ⟨pb, 0, none⟩ = some (.slice A Ps.length c) := by
    have h := heap_sw_other (encF (n := Ps.length)) w g 0 m dk os pb hpb hpl
    simp only [World.cell?, h]
    exact hp
  exact (clos_any Ps pb A c x.val y.val x.isLt y.isLt _ hp2 (Kd.R_reads' hR2).2.2).mono fun _ _ h => ⟨h.1, h.2.out⟩

theorem cf_swo (Ps : List (List ByteArray)) : SWO (ltOf (cfF Ps)) := by
  have hlt : ∀ x y, ltOf (cfF Ps) x y = decide (cmpL (Ps.getD x.val []) (Ps.getD y.val []) < 0) := fun x y => rfl
  refine ⟨fun x => ?_, fun x y z h1 h2 => ?_, fun x y z h1 h2 => ?_⟩
  · rw [hlt, cmpL_refl]; rfl
  · rw [hlt, decide_eq_true_eq] at *; exact cmpL_trans _ _ _ h1 h2
  · rw [hlt, decide_eq_false_iff_not] at *
    intro h3
    by_cases e : Ps.getD x.val [] = Ps.getD y.val []
    · rw [e] at h3; exact h2 h3
    · exact h2 (cmpL_trans _ _ _ (cmpL_tri _ _ h1 e) h3)
theorem cf_tot {Ps : List (List ByteArray)} (hinj : ∀ i j : Fin Ps.length, Ps.getD i.val [] = Ps.getD j.val [] → i = j) (x y : Fin Ps.length) (h1 : ltOf (cfF Ps) x y = false) (h2 : ltOf (cfF Ps) y x = false) : x = y := by
  have hlt : ∀ x y, ltOf (cfF Ps) x y = decide (cmpL (Ps.getD x.val []) (Ps.getD y.val []) < 0) := fun x y => rfl
  rw [hlt, decide_eq_false_iff_not] at h1 h2
  by_cases e : Ps.getD x.val [] = Ps.getD y.val []
  · exact hinj x y e
  · exact absurd (cmpL_tri _ _ h1 e) h2

theorem sortf_any (Ps : List (List ByteArray)) [Inhabited (Fin Ps.length)] (pb g cap : Nat) (A : Option Addr) (c base : Nat) (w : World) (d : Array (Fin Ps.length)) (hd : d.size = Ps.length) (hn : Ps.length ≤ 100000) (hpb : pb ≠ g) (hpl : pb < w.heap.size) (hg : g < w.heap.size)
    (hp : w.cell? ⟨pb, 0, none⟩ = some (.slice A Ps.length c)) (hR : Kd.R kPs 29 w base (fun k => k ≠ g) (.slice A Ps.length c) Ps)
    (hH : Holds encF w g 0 d) (hinj : ∀ i j : Fin Ps.length, Ps.getD i.val [] = Ps.getD j.val [] → i = j) :
    Calls Try.prog 33 #[.slice (some ⟨g, 0, none⟩) Ps.length cap, .func (.func 34) #[] #[.pointer (some ⟨pb, 0, none⟩)]] w fun e w' =>
      e = .returned (.tuple #[]) ∧ ∃ n os, w' = sortWorld encF w g 0 n (d.toList.mergeSort fun x y => !(ltOf (cfF Ps)) y x).toArray os := by
  have h := Any.slices_SortFunc_total lSort encF (fun _ => rfl) (cfF Ps) (cf_swo Ps) 34 #[.pointer (some ⟨pb, 0, none⟩)] g 0 cap d w (enters_of Try.func34 (by kernel_rfl) rfl) (by rw [hd]; exact clos_lays Ps pb g A c base w hpb hpl hp hR) hH hg (by omega) (cf_tot hinj)
  rw [hd] at h
  exact h
end Go.Proofs.Ytlomehhlhbpanaa

/- Rows of rows: a row is put into a row; and the loops' small facts of lists. -/
namespace Go.Proofs.Ytlomehhlhbpanaa
open Go.RowKit Go.Lib Go.Proofs.YtlomehhlhbpanaaW.PrintWords Go.Proofs.YtlomehhlhbpanaaW.PrintLast Go.Proofs.YtlomehhlhbpanaaW.PrintMore Go.Proofs.Ytlomehhlhbpanaa.Prt

section
variable {α : Type} {d : Kd α} {e e2 base g n cap : Nat} {ok : Nat → Prop} {W : World} {xs : List (List α)}
theorem rs_put (h : (Kd.slice e2 d).R e W base ok (.slice (some ⟨g, 0, none⟩) n cap) xs) {x : List α} {v : Value} (hx : d.R e2 W base (fun k => ok k ∧ k ≠ g) v x) (i : Nat) :
    (Kd.slice e2 d).R e (W.setCell ⟨g, i, none⟩ v) base ok (.slice (some ⟨g, 0, none⟩) n cap) (xs.set i x) ∧ W.grownBy (W.setCell ⟨g, i, none⟩ v) (some g) := by
  obtain ⟨hn, _⟩ := Kd.R_reads' h
  obtain ⟨h0, inner, ho, hr⟩ := h
  have hl : inner.length = xs.length := by rw [hr.1]; show xs.length * 1 = _; omega
  subst hn
  have ho' : W.ownsRow base e 1 (.slice (some ⟨g, 0, none⟩) xs.length cap) xs.length (encs id inner) := by
    rw [show encs id inner = inner by simp [encs]]; exact ho
  obtain ⟨q1, q2⟩ := own_store_of (enc := id) ho' (i : Int) v
  rw [Int.toNat_natCast] at q1 q2
  rw [show encs id (inner.set i v) = inner.set i v by simp [encs]] at q1
  refine ⟨⟨h0, inner.set i v, ?_, ?_, fun j p hj => ?_⟩, q2⟩
  · rw [List.length_set]; exact q1
  · rw [List.length_set, List.length_set, hr.1]
  · show (Kd.slice e2 d).M _ _ _ _ (List.take 1 (List.drop (j * 1) _))
    have hjl : j < (xs.set i x).length := (List.getElem?_eq_some_iff.1 hj).1
    rw [List.length_set] at hjl
    rw [Nat.mul_one]
    have e1 : List.take 1 (List.drop j (inner.set i v)) = [(inner.set i v)[j]'(by rw [List.length_set]; omega)] := by
      rw [List.drop_eq_getElem_cons (by rw [List.length_set]; omega)]; rfl
    rw [e1]
    by_cases hij : i = j
    · subst hij
      have hp : p = x := by
        rw [List.getElem?_set_self (by omega)] at hj; exact (Option.some.inj hj).symm
      subst hp
      refine ⟨v, by simp, ?_⟩
      have hx2 : d.R e2 W base (fun k => ok k ∧ some k ≠ (Value.slice (some ⟨g, 0, none⟩) xs.length cap).ownBlock) v p := Kd.R_mono hx (fun k hk => ⟨hk.1, fun e => hk.2 (Option.some.inj e)⟩)
      exact Kd.R_far (p := ⟨g, i, none⟩) hx2 (fun k hk => fun e => hk.2 (by show some k = some g; rw [e])) v
    · have hj2 : xs[j]? = some p := by rw [List.getElem?_set_ne hij] at hj; exact hj
      have hp := hr.2 j p hj2
      rw [show List.take (Kd.slice e2 d).sz (List.drop (j * (Kd.slice e2 d).sz) inner) = [inner[j]] by
        show List.take 1 (List.drop (j * 1) inner) = _
        rw [Nat.mul_one, List.drop_eq_getElem_cons (by omega)]; rfl] at hp
      rw [List.getElem_set_ne hij]
      exact Kd.M_far (p := ⟨g, i, none⟩) hp (fun k hk => fun e => hk.2 (by show some k = some g; rw [e])) v
theorem rs_cell (h : (Kd.slice e2 d).R e W base ok (.slice (some ⟨g, 0, none⟩) n cap) xs) (i : Nat) (hi : i < n) : ∃ u, W.cell? ⟨g, i, none⟩ = some u ∧ W.frozen? ⟨g, i, none⟩ = false := by
  obtain ⟨hn, _⟩ := Kd.R_reads' h
  obtain ⟨h0, inner, ho, hr⟩ := h
  subst hn
  have ho' : W.ownsRow base e 1 (.slice (some ⟨g, 0, none⟩) xs.length cap) xs.length (encs id inner) := by
    rw [show encs id inner = inner by simp [encs]]; exact ho
  have := own_at_of (d := Value.bool true) ho' (i : Int) (by omega) (by omega)
  rw [Int.toNat_natCast] at this
  exact ⟨_, this⟩
end

/-- The first n of a function's values, as far as i, then z. -/
def fillTo {α : Type} (f : Nat → α) (z : α) (n i : Nat) : List α := (List.range n).map fun j => if j < i then f j else z
theorem fill_zero {α : Type} (f : Nat → α) (z : α) (n : Nat) : fillTo f z n 0 = List.replicate n z := by
  apply List.ext_getElem
  · simp [fillTo]
  · intro j h1 h2; simp [fillTo]
theorem fill_set {α : Type} (f : Nat → α) (z : α) (n i : Nat) : (fillTo f z n i).set i (f i) = fillTo f z n (i + 1) := by
  apply List.ext_getElem
  · simp [fillTo]
  · intro j h1 h2
    rw [List.getElem_set]
    simp only [fillTo, List.getElem_map, List.getElem_range]
    by_cases e : i = j
    · subst e; simp
    · rw [if_neg e]
      by_cases h : j < i
      · rw [if_pos h, if_pos (by omega)]
      · rw [if_neg h, if_neg (by omega)]
theorem fill_all {α : Type} (f : Nat → α) (z : α) (n : Nat) : fillTo f z n n = (List.range n).map f := by
  apply List.ext_getElem
  · simp [fillTo]
  · intro j h1 h2
    simp only [fillTo, List.getElem_map, List.getElem_range]
    rw [if_pos (by simpa [fillTo] using h1)]
theorem fill_length {α : Type} (f : Nat → α) (z : α) (n i : Nat) : (fillTo f z n i).length = n := by simp [fillTo]
end Go.Proofs.Ytlomehhlhbpanaa

/- tree.Sort: what its first loop keeps, and what slices.SortFunc leaves. -/
namespace Go.Proofs.Ytlomehhlhbpanaa
open Go.RowKit Go.Lib Go.Sort Go.Shelf Go.Proofs.YtlomehhlhbpanaaW.PrintWords Go.Proofs.YtlomehhlhbpanaaW.PrintLast Go.Proofs.YtlomehhlhbpanaaW.PrintMore Go.Proofs.Ytlomehhlhbpanaa.Prt

/-- What holds ahead of round i of the loop that fills paths and order. -/
structure So1 (w : World) (L : List It) (pb : Nat) (Ap : Option Addr) (cp : Nat) (Ao : Option Addr) (co : Nat) (i : Nat) (wr : World) : Prop where
  below : Below w.heap.size w wr
  base : w.heap.size ≤ pb
  box : wr.heap[pb]? = some (.cells #[.slice Ap L.length cp] 50 (0, 0))
  ps : Kd.R kPs 29 wr w.heap.size (fun k => k ≠ pb ∧ some k ≠ (Value.slice Ao L.length co).ownBlock) (.slice Ap L.length cp) (fillTo (fun j => pathN L (j : Int)) [] L.length i)
  os : Kd.R (Kd.int .i64) 3 wr w.heap.size (fun k => k ≠ pb ∧ some k ≠ (Value.slice Ap L.length cp).ownBlock) (.slice Ao L.length co) (fillTo (fun j => (j : Int)) 0 L.length i)

section
variable {w wr w5 : World} {L : List It} {pb cp co i : Nat} {Ap Ao : Option Addr} {v5 : Value}
theorem box_lt (h : So1 w L pb Ap cp Ao co i wr) : pb < wr.heap.size := (Array.getElem?_eq_some_iff.1 h.box).1
theorem so1_on (h : So1 w L pb Ap cp Ao co i wr) (hb : Below wr.heap.size wr w5) : So1 w L pb Ap cp Ao co i w5 :=
  ⟨h.below.trans (hb.mono h.below.size), h.base, (hb.block pb (box_lt h)).trans h.box, Kd.R_below h.ps hb, Kd.R_below h.os hb⟩
theorem so1_form (h : So1 w L pb Ap cp Ao co i wr) (hi : 0 < L.length) : ∃ gp go, Ap = some ⟨gp, 0, none⟩ ∧ Ao = some ⟨go, 0, none⟩ ∧ gp ≠ go ∧ gp ≠ pb ∧ go ≠ pb ∧ w.heap.size ≤ gp ∧ w.heap.size ≤ go := by
  obtain ⟨gp, c1, e1, b1, l1, _⟩ := Kd.R_form h.ps (by rw [fill_length]; omega)
  obtain ⟨go, c2, e2, b2, l2, _⟩ := Kd.R_form h.os (by rw [fill_length]; omega)
  rw [fill_length] at e1 e2
  cases e1; cases e2
  have p1 := h.ps.1 gp rfl
  have p2 := h.os.1 go rfl
  refine ⟨gp, go, rfl, rfl, fun e => p1.2 (by subst e; rfl), p1.1, p2.1, b1, b2⟩
theorem box_cell (h : So1 w L pb Ap cp Ao co i wr) : wr.cell? ⟨pb, 0, none⟩ = some (.slice Ap L.length cp) := by
  simp [World.cell?, h.box]
theorem so1_step {gp go : Nat} (h : So1 w L pb (some ⟨gp, 0, none⟩) cp (some ⟨go, 0, none⟩) co i wr) (hb : Below wr.heap.size wr w5) (hv : Kd.R Kd.string 9 w5 wr.heap.size (fun _ => True) v5 (pathN L (i : Int))) (hi : i < L.length) :
    So1 w L pb (some ⟨gp, 0, none⟩) cp (some ⟨go, 0, none⟩) co (i + 1) ((w5.setCell ⟨gp, i, none⟩ v5).setCell ⟨go, i, none⟩ (.int .i64 (i : Int))) := by
  have h5 := so1_on h hb
  obtain ⟨_, _, e1, e2, n1, n2, n3, n4, n5⟩ := so1_form h (by omega)
  cases e1; cases e2
  obtain ⟨_, _, e1, _, l1, _⟩ := Kd.R_form h.ps (by rw [fill_length]; omega)
  obtain ⟨_, _, e2, _, l2, _⟩ := Kd.R_form h.os (by rw [fill_length]; omega)
  rw [fill_length] at e1 e2
  cases e1; cases e2
  have hpl := box_lt h
  have hx : Kd.R Kd.string 9 w5 w.heap.size (fun k => (k ≠ pb ∧ some k ≠ (Value.slice (some ⟨go, 0, none⟩) L.length co).ownBlock) ∧ k ≠ gp) v5 (pathN L (i : Int)) :=
    Kd.R_lower (Kd.R_mono (Kd.R_bound hv) (fun k hk => ⟨⟨by have := hk.2.1; omega, fun e => by have e : k = go := Option.some.inj e; have := hk.2.1; omega⟩, by have := hk.2.1; omega⟩)) h.below.size
  obtain ⟨r1, g1⟩ := rs_put h5.ps hx i
  have o1 := Kd.R_putg (W := w5.setCell ⟨gp, i, none⟩ v5) (Kd.R_far (p := ⟨gp, i, none⟩) h5.os (fun k hk => fun e => hk.2 (by show some k = some gp; rw [e])) v5) (i : Int) (i : Int)
  rw [Int.toNat_natCast] at o1
  rw [fill_set (fun j => pathN L (j : Int))] at r1
  rw [fill_set (fun j => (j : Int))] at o1
  exact {
    below := (h5.below.setCell (p := ⟨gp, i, none⟩) n4 v5).setCell (p := ⟨go, i, none⟩) n5 _
    base := h.base
    box := by
      rw [Below.heap_setCell _ _ _ _ (fun e => n3 e.symm), Below.heap_setCell _ _ _ _ (fun e => n2 e.symm)]
      exact h5.box
    ps := Kd.R_far (p := ⟨go, i, none⟩) r1 (fun k hk => fun e => hk.2 (by show some k = some go; rw [e])) _
    os := o1.1 }
theorem so1_cells {gp go : Nat} (h : So1 w L pb (some ⟨gp, 0, none⟩) cp (some ⟨go, 0, none⟩) co i wr) (hi : i < L.length) : (∃ u, wr.cell? ⟨gp, i, none⟩ = some u ∧ wr.frozen? ⟨gp, i, none⟩ = false) ∧ ∃ u, wr.cell? ⟨go, i, none⟩ = some u ∧ wr.frozen? ⟨go, i, none⟩ = false := by
  refine ⟨rs_cell h.ps i hi, ?_⟩
  have := Kd.R_celln 0 h.os (i : Int) (by omega) (by omega)
  rw [Int.toNat_natCast] at this
  exact ⟨_, this⟩
end

def pathsL (L : List It) : List (List ByteArray) := (List.range L.length).map fun j : Nat => pathN L (j : Int)
/-- The order of a tree's items, as numbers. -/
def ordI (L : List It) : List Int := (ordR (ltP L) L.length).map fun k : Nat => (k : Int)

theorem take_cells {n : Nat} [Inhabited (Fin n)] (cur : Array Value) (ts : List (Fin n)) (h : ts.length ≤ cur.size) : (putCells encF 0 ts.toArray cur).toList.take ts.length = ts.map encF := by
  apply List.ext_getElem?
  intro j
  by_cases hj : j < ts.length
  · rw [List.getElem?_take_of_lt hj, Array.getElem?_toList]
    simp [putCells, hj, show j < cur.size by omega]
  · rw [List.getElem?_take_eq_none (by omega), List.getElem?_eq_none (by simp; omega)]
theorem own_sortedF {n : Nat} [Inhabited (Fin n)] {W : World} {base g cap m : Nat} {e : TypeId} {os : Array Obj} {cur : Array Value} {ts : List (Fin n)} (hl : ts.length = n) (hbase : base ≤ g) (hb : W.heap[g]? = some (.cells cur e (0, 0)))
    (h1 : n ≤ cap) (h2 : cap ≤ maxLen) (h3 : cur.size = cap * 1) :
    (sortWorld encF W g 0 m ts.toArray os).ownsRow base e 1 (.slice (some ⟨g, 0, none⟩) n cap) n (ts.map encF) := by
  have hg : g < W.heap.size := (Array.getElem?_eq_some_iff.1 hb).1
  have hh : (sortWorld encF W g 0 m ts.toArray os).heap[g]? = some (.cells (putCells encF 0 ts.toArray cur) e (0, 0)) := by
    unfold sortWorld
    rw [heap_grow_old _ _ (by simpa using hg)]
    simp [putRow, mapBlock, Sort.ahead, Array.getElem?_modify, hb, onCells]
  refine ⟨by simp [hl], .inr ⟨g, cap, _, rfl, hbase, hh, h1, h2, by simp [putCells, h3], ?_⟩⟩
  rw [Nat.mul_one]
  have := take_cells cur ts (by omega)
  rw [hl] at this
  exact this
theorem grown_sortedF {n : Nat} [Inhabited (Fin n)] {W : World} {g m : Nat} {os : Array Obj} (d : Array (Fin n)) : W.grownBy (sortWorld encF W g 0 m d os) (some g) := by
  refine ⟨rfl, rfl, rfl, by simp [sortWorld], fun k hk hne => ?_⟩
  exact heap_sw_other _ _ _ _ _ _ _ _ (fun e => hne (by rw [e])) hk

theorem sort_step {w wr : World} {L : List It} {pb cp co : Nat} {Ap Ao : Option Addr} (h : So1 w L pb Ap cp Ao co L.length wr) (hd : depB L = true) (hn : L.length ≤ 64) :
    Calls Try.prog 33 #[.slice Ao L.length co, .func (.func 34) #[] #[.pointer (some ⟨pb, 0, none⟩)]] wr fun e w' =>
      e = .returned (.tuple #[]) ∧ Below w.heap.size w w' ∧ Kd.R (Kd.int .i64) 3 w' w.heap.size (fun _ => True) (.slice Ao L.length co) (ordI L) := by
  by_cases h0 : L.length = 0
  · obtain rfl : L = [] := List.length_eq_zero_iff.1 h0
    refine (AnyF.slices_SortFunc_none { lSort with } Ao co _ wr).mono ?_
    rintro e w' ⟨rfl, rfl⟩
    exact ⟨rfl, h.below, Kd.R_mono h.os (fun _ _ => trivial)⟩
  · obtain ⟨gp, go, rfl, rfl, n1, n2, n3, n4, n5⟩ := so1_form h (by omega)
    have hps : fillTo (fun j => pathN L (j : Int)) [] L.length L.length = pathsL L := fill_all _ _ _
    have hos : fillTo (fun j => (j : Int)) 0 L.length L.length = (List.range L.length).map fun j : Nat => (j : Int) := fill_all _ _ _
    have HP := h.ps
    have HO := h.os
    rw [hps] at HP
    rw [hos] at HO
    have hlen : (pathsL L).length = L.length := by simp [pathsL]
    have hget : ∀ i : Nat, i < L.length → (pathsL L).getD i [] = pathN L (i : Int) := fun i hi => by
      simp [pathsL, List.getD_eq_getElem?_getD, hi]
    haveI : Inhabited (Fin (pathsL L).length) := ⟨⟨0, by omega⟩⟩
    obtain ⟨g2, c2, e2, b2, l2, cells, hcells⟩ := Kd.R_form HO (by simp; omega)
    rw [show ((List.range L.length).map fun j : Nat => (j : Int)).length = L.length by simp] at e2
    cases e2
    have hlist : (List.finRange (pathsL L).length).length = (pathsL L).length := List.length_finRange
    have hH : Holds encF wr go 0 (List.finRange (pathsL L).length).toArray := by
      intro j hj
      have hj2 : j < (pathsL L).length := by simpa using hj
      have := Kd.R_celln 0 h.os (j : Int) (by omega) (by omega)
      rw [Int.toNat_natCast, hos] at this
      rw [Nat.zero_add]
      refine ⟨?_, this.2⟩
      rw [this.1]
      have e1 : (List.finRange (pathsL L).length).toArray[j]! = ⟨j, hj2⟩ := by
        rw [getElem!_pos _ j hj]; simp
      rw [e1]
      show some (Value.int .i64 _) = some (Value.int .i64 (j : Int))
      congr 2
      simp [rdOf, List.getD_eq_getElem?_getD, hlen ▸ hj2]
    have hinj : ∀ i j : Fin (pathsL L).length, (pathsL L).getD i.val [] = (pathsL L).getD j.val [] → i = j := fun i j e => by
      have hi := i.isLt; have hj := j.isLt
      rw [hget _ (by omega), hget _ (by omega)] at e
      exact Fin.ext (path_inj hd _ i.val j.val (Nat.le_refl _) (by omega) (by omega) e)
    have HC0 : Kd.R kPs 29 wr w.heap.size (fun k => k ≠ go) (.slice (some ⟨gp, 0, none⟩) (pathsL L).length cp) (pathsL L) := by
      rw [hlen]
      exact Kd.R_mono HP (fun k hk => fun e => hk.2 (by rw [e]; rfl))
    have hS := sortf_any (pathsL L) pb go co (some ⟨gp, 0, none⟩) cp w.heap.size wr (List.finRange (pathsL L).length).toArray (by simp) (by omega) (fun e => n3 e.symm) (box_lt h) l2 (by rw [hlen]; exact box_cell h) HC0 hH hinj
    rw [show Value.slice (some ⟨go, 0, none⟩) L.length co = Value.slice (some ⟨go, 0, none⟩) (pathsL L).length co by rw [hlen]]
    refine hS.mono ?_
    rintro e w' ⟨rfl, m, os, rfl⟩
    generalize hts : (List.finRange (pathsL L).length).toArray.toList.mergeSort (fun x y => !(ltOf (cfF (pathsL L))) y x) = ts
    have hperm : ts.Perm (List.finRange (pathsL L).length) := by
      rw [← hts]; exact List.mergeSort_perm _ _
    have htl : ts.length = (pathsL L).length := by rw [hperm.length_eq, hlist]
    have hlt : ∀ x y, ltOf (cfF (pathsL L)) x y = ltP L x.val y.val := fun x y => by
      have hx := x.isLt; have hy := y.isLt
      show decide (cmpL ((pathsL L).getD x.val []) ((pathsL L).getD y.val []) < 0) = _
      rw [hget _ (by omega), hget _ (by omega)]; rfl
    have hpw : ts.Pairwise fun x y => (!(ltOf (cfF (pathsL L))) y x) = true := by
      rw [← hts]
      refine List.pairwise_mergeSort (fun a b c h1 h2 => ?_) (fun a b => ?_) _
      · rw [Bool.not_eq_true'] at *
        exact (cf_swo (pathsL L)).ntrans c b a h2 h1
      · cases h1 : ltOf (cfF (pathsL L)) b a with
        | false => rfl
        | true =>
          cases h2 : ltOf (cfF (pathsL L)) a b with
          | false => rfl
          | true =>
            have := (cf_swo (pathsL L)).trans _ _ _ h1 h2
            rw [(cf_swo (pathsL L)).irrefl] at this
            cases this
    have hval : ts.map (·.val) = ordR (ltP L) L.length := by
      refine ord_one (ltP_irr L) (ltP_trans L) (fun i j => ltP_tri hd i j) ?_ ?_
      · have := hperm.map (·.val)
        have e2 : (List.finRange (pathsL L).length).map (·.val) = List.range L.length := by
          rw [← hlen]
          apply List.ext_getElem
          · simp
          · intro j h1 h2; simp
        rw [e2] at this
        exact this
      · rw [List.pairwise_map]
        have hnd : ts.Nodup := hperm.nodup_iff.2 (List.nodup_finRange _)
        refine (List.Pairwise.and hpw hnd).imp ?_
        rintro x y ⟨h1, h2⟩
        rw [Bool.not_eq_true', hlt] at h1
        have hx := x.isLt; have hy := y.isLt
        exact ltP_tri hd y.val x.val (by omega) (by omega) (fun e => h2 (Fin.ext e.symm)) h1
    have hrow : (sortWorld encF wr go 0 m ts.toArray os).ownsRow w.heap.size 3 1 (.slice (some ⟨go, 0, none⟩) (pathsL L).length co) (ordI L).length (encs (Value.int .i64) (ordI L)) := by
      have hcap : ∃ cur, wr.heap[go]? = some (.cells cur 3 (0, 0)) ∧ L.length ≤ co ∧ co ≤ maxLen ∧ cur.size = co * 1 := by
        obtain ⟨_, inner, ho, _⟩ := h.os
        rcases ho.2 with ⟨e9, _⟩ | ⟨g9, cap9, cur9, e9, _, hh, q1, q2, q3, _⟩
        · cases e9
        · rw [fill_length] at q1; try rw [fill_length] at e9
          cases e9
          exact ⟨cur9, hh, q1, q2, q3⟩
      obtain ⟨cur, hh, q1, q2, q3⟩ := hcap
      have h1 := own_sortedF (m := m) (os := os) htl n5 hh (by rw [hlen]; exact q1) q2 q3
      have e1 : ts.map encF = encs (Value.int .i64) (ordI L) := by
        unfold ordI encs
        rw [← hval, List.map_map, List.map_map]
        rfl
      have e2 : (ordI L).length = (pathsL L).length := by
        unfold ordI
        rw [← hval, List.length_map, List.length_map, htl]
      rw [← e1, e2]
      exact h1
    refine ⟨rfl, Below.grown h.below (grown_sortedF ts.toArray) h.below.size (fun k hk => by have : go = k := Option.some.inj hk; omega), Kd.R_of_own hrow (fun _ _ => trivial)⟩
end Go.Proofs.Ytlomehhlhbpanaa

/- tree.Sort: make with room, an element of a row of one's own, and what its second and third loop keep. -/
namespace Go.Proofs.Ytlomehhlhbpanaa
open Go.RowKit Go.Lib Go.Sort Go.Shelf Go.Proofs.YtlomehhlhbpanaaW.PrintWords Go.Proofs.YtlomehhlhbpanaaW.PrintLast Go.Proofs.YtlomehhlhbpanaaW.PrintMore Go.Proofs.Ytlomehhlhbpanaa.Prt

section
variable {P : Program} {ops : Array Oper} {rest : List Oper} {o : Oper} {a : Act} {Q : Exit → Act → World → Prop} {α : Type}
/-- make([]T, 0, n). -/
theorem R_make0 (d : Kd α) {w0 W : World} (base e : Nat) (hgd : o.guard = none) {N : Tmp} (_hd : o.dst = some N) (t : TypeId) (x y : Operand) (ho : o.op = .makeSlice t x y) (n : Nat) (hx : a.eval x = .int .i64 0) (hy : a.eval y = .int .i64 n)
    (ht : P.underlying t = some (.slice e)) (z : Value) (bytes : Nat) (hinfo : (P.info? e).map (fun i => (i.zero, i.size, i.bytes)) = some (some z, d.sz, bytes)) (hb0 : 0 < bytes)
    {ok : Nat → Prop} (hfresh : ok W.heap.size) (hl : n * bytes ≤ 281474976710656) (HB : Below base w0 W) (hbase : base ≤ W.heap.size)
    (h : ∀ v1 w1, d.R e w1 base ok v1 [] → Below base w0 w1 → W.grownBy w1 none → (∃ b, v1.ownBlock = some b ∧ W.heap.size ≤ b) → wpList P ops Q rest (a.put o.dst v1) w1) : wpList P ops Q (o :: rest) a W := by
  obtain ⟨i0, hi, hzz⟩ := Option.map_eq_some_iff.1 hinfo
  simp only [Prod.mk.injEq] at hzz
  obtain ⟨hz0, hz1, hz2⟩ := hzz
  have hm : n ≤ 281474976710656 := Nat.le_trans (Nat.le_mul_of_pos_right _ hb0) hl
  have hr := run_make (P := P) (w := W) t e i0 z ht hi hz0 .i64 .i64 0 (n : Int) (by omega) (by omega)
    (by
      have h3 : ((i0.bytes * n : Nat) : Int) ≤ 281474976710656 := by rw [hz2, Nat.mul_comm]; omega
      rwa [Int.natCast_mul] at h3) (by omega)
  simp only [Int.toNat_natCast] at hr
  rw [hz1] at hr
  have hrun : (execOp a.eval o).run P W = .ok (.value (.slice (some ⟨W.heap.size, 0, none⟩) 0 n)) (W.alloc (.cells (madeCells z.cells (n * d.sz)) e)) := by
    simp [execOp, ho, hx, hy, hr]
  have hown : (W.alloc (.cells (madeCells z.cells (n * d.sz)) e)).ownsRow base e d.sz (.slice (some ⟨W.heap.size, 0, none⟩) 0 n) ([] : List α).length [] := by
    refine ⟨by rw [List.length_nil, List.length_nil, Nat.zero_mul], .inr ⟨W.heap.size, n, madeCells z.cells (n * d.sz), rfl, hbase, blk_new W _, Nat.zero_le _, by show n ≤ 9223372036854775807; omega, size_madeCells _ _, by rw [List.length_nil, Nat.zero_mul, List.take_zero]⟩⟩
  have hR : d.R e (W.alloc (.cells (madeCells z.cells (n * d.sz)) e)) base ok (.slice (some ⟨W.heap.size, 0, none⟩) 0 n) [] := by
    refine ⟨fun k hk => ?_, [], hown, Reps.none _ _⟩
    have : W.heap.size = k := Option.some.inj hk
    subst this
    exact hfresh
  exact Kd.event_run hgd hrun (h _ _ hR (HB.alloc hbase _) (World.grownBy_alloc W _ none) ⟨W.heap.size, rfl, Nat.le_refl _⟩)
end

section
variable {α : Type} {d : Kd α} {e base g n cap : Nat} {ok : Nat → Prop} {W : World} {xs : List α}
/-- An element of a row of one's own. -/
theorem r_at (h : d.R e W base ok (.slice (some ⟨g, 0, none⟩) n cap) xs) (j : Nat) (hj : j < xs.length) :
    ∃ cs, d.M W base (fun k => ok k ∧ k ≠ g) xs[j] cs ∧ ∀ i u, cs[i]? = some u → W.cell? ⟨g, j * d.sz + i, none⟩ = some u ∧ W.frozen? ⟨g, j * d.sz + i, none⟩ = false := by
  obtain ⟨hn, _⟩ := Kd.R_reads' h
  obtain ⟨h0, inner, ho, hr⟩ := h
  subst hn
  have hM := hr.2 j _ (List.getElem?_eq_getElem hj)
  refine ⟨_, d.M_mono (fun k hk => ⟨hk.1, fun e => hk.2 (by rw [e]; rfl)⟩) hM, fun i u hu => ?_⟩
  rcases ho.2 with ⟨e1, _⟩ | ⟨g2, cap2, cur, e1, _, hh, _, _, _, ht⟩
  · cases e1
  · cases e1
    rw [List.getElem?_take] at hu
    by_cases hi : i < d.sz
    · rw [if_pos hi, List.getElem?_drop] at hu
      have hlt : j * d.sz + i < inner.length := (List.getElem?_eq_some_iff.1 hu).1
      rw [hr.1] at hlt
      rw [← ht, List.getElem?_take, if_pos hlt, Array.getElem?_toList] at hu
      constructor
      · simp only [World.cell?, hh]
        simpa using hu
      · simp [World.frozen?, hh]
    · rw [if_neg hi] at hu; cases hu
end

/-! ### the order -/
section
variable {L : List It}
abbrev oL (L : List It) : List Nat := ordR (ltP L) L.length
theorem oL_perm (L : List It) : (oL L).Perm (List.range L.length) := ord_perm _ _
theorem oL_len (L : List It) : (oL L).length = L.length := by rw [(oL_perm L).length_eq, List.length_range]
theorem oL_nodup (L : List It) : (oL L).Nodup := (oL_perm L).nodup_iff.2 List.nodup_range
theorem oL_mem {p : Nat} : p ∈ oL L ↔ p < L.length := by rw [(oL_perm L).mem_iff, List.mem_range]
theorem ordI_len (L : List It) : (ordI L).length = L.length := by rw [ordI, List.length_map]; exact oL_len L
theorem ord_at {k : Nat} (hk : k < L.length) : ∃ q : Nat, q < L.length ∧ rd (ordI L) (k : Int) = (q : Int) ∧ (oL L)[k]? = some q ∧ (oL L).idxOf q = k := by
  have hk2 : k < (oL L).length := by rw [oL_len]; exact hk
  refine ⟨(oL L)[k], oL_mem.1 (List.getElem_mem hk2), ?_, List.getElem?_eq_getElem hk2, ?_⟩
  · have h3 : (ordI L)[k]? = some (((oL L)[k] : Nat) : Int) := by
      unfold ordI
      rw [List.getElem?_map, List.getElem?_eq_getElem hk2]; rfl
    show (ordI L).getD (k : Int).toNat 0 = _
    rw [Int.toNat_natCast, List.getD_eq_getElem?_getD, h3]; rfl
  · exact (oL_nodup L).idxOf_getElem k hk2
theorem idx_lt {p : Nat} (hp : p < L.length) : (oL L).idxOf p < L.length := by
  have := List.idxOf_lt_length_iff.2 (oL_mem.2 hp)
  rwa [oL_len] at this
theorem idx_at {p k : Nat} (hp : p < L.length) (h : (oL L).idxOf p = k) : (oL L)[k]? = some p := by
  have h2 := List.idxOf_lt_length_iff.2 (oL_mem.2 hp)
  subst h
  rw [List.getElem?_eq_getElem h2, List.getElem_idxOf]

/-- Where items of a tree stand in its order. -/
def posI (L : List It) (p : Int) : Int := ((oL L).idxOf p.toNat : Int)
def itS (L : List It) (j : Nat) : It := ⟨if (itA L j).f0 = -1 then -1 else posI L (itA L j).f0, (itA L j).f1, (itA L j).f2, (itA L j).f3⟩
/-- A tree, put into order. -/
def sortL (L : List It) : List It := (oL L).map (itS L)
theorem sortL_len (L : List It) : (sortL L).length = L.length := by rw [sortL, List.length_map]; exact oL_len L

structure So2 (w : World) (L : List It) (Ao : Option Addr) (co : Nat) (Aa : Option Addr) (ca k : Nat) (wr : World) : Prop where
  below : Below w.heap.size w wr
  os : Kd.R (Kd.int .i64) 3 wr w.heap.size (fun b => some b ≠ (Value.slice Aa L.length ca).ownBlock) (.slice Ao L.length co) (ordI L)
  ats : ∃ al : List Int, al.length = L.length ∧ Kd.R (Kd.int .i64) 3 wr w.heap.size (fun b => some b ≠ (Value.slice Ao L.length co).ownBlock) (.slice Aa L.length ca) al ∧ ∀ p : Nat, p < L.length → (oL L).idxOf p < k → rd al p = ((oL L).idxOf p : Int)

variable {w wr : World} {Ao Aa : Option Addr} {co ca k : Nat}
theorem so2_start {w6 w7 : World} (hb7 : Below w.heap.size w w7) (ho : Kd.R (Kd.int .i64) 3 w6 w.heap.size (fun _ => True) (.slice Ao L.length co) (ordI L))
    (hg7 : w6.grownBy w7 none) (hra : Kd.R (Kd.int .i64) 3 w7 w.heap.size (fun _ => True) (.slice Aa L.length ca) (List.replicate L.length 0)) (hn7 : ∃ b, (Value.slice Aa L.length ca).ownBlock = some b ∧ w6.heap.size ≤ b) : So2 w L Ao co Aa ca 0 w7 := by
  obtain ⟨b, hb, hle⟩ := hn7
  have hne : ∀ k, (Value.slice Ao L.length co).ownBlock = some k → k < w6.heap.size := Kd.R_lt ho
  refine ⟨hb7, ?_, List.replicate L.length 0, List.length_replicate, ?_, fun p _ h => absurd h (Nat.not_lt_zero _)⟩
  · exact Kd.R_grown (Kd.R_mono (Kd.R_bound ho) (fun k hk => by rw [hb]; intro e; have e := Option.some.inj e; have := hk.2.2.1; omega)) hg7 (fun _ _ => nofun)
  · refine Kd.R_of_own (Kd.own_of_R hra) (fun k hk => ?_)
    rw [hb] at hk
    cases hk
    intro e
    have := hne _ e.symm
    omega
theorem so2_cells (h : So2 w L Ao co Aa ca k wr) (hk : k < L.length) : ∃ (ga go q : Nat), Aa = some ⟨ga, 0, none⟩ ∧ Ao = some ⟨go, 0, none⟩ ∧ q < L.length ∧ (oL L)[k]? = some q ∧ wr.cell? ⟨go, k, none⟩ = some (.int .i64 (q : Int)) ∧ (∃ u, wr.cell? ⟨ga, q, none⟩ = some u) ∧ wr.frozen? ⟨ga, q, none⟩ = false ∧
    ∀ w2, w2 = wr.setCell ⟨ga, q, none⟩ (.int .i64 (k : Int)) → So2 w L Ao co Aa ca (k + 1) w2 := by
  obtain ⟨al, hal, hra, hv⟩ := h.ats
  obtain ⟨ga, c1, e1, b1, l1, _⟩ := Kd.R_form hra (by omega)
  obtain ⟨go, c2, e2, b2, l2, _⟩ := Kd.R_form h.os (by rw [ordI_len]; omega)
  rw [hal] at e1
  rw [ordI_len] at e2
  cases e1; cases e2
  obtain ⟨q, hq, hrd, hoq, hix⟩ := ord_at hk
  have hne : ga ≠ go := fun e => hra.1 ga rfl (by rw [e]; rfl)
  have x1 := (Kd.R_celln 0 h.os (k : Int) (by omega) (by omega)).1
  have x2 := Kd.R_celln 0 hra (q : Int) (by omega) (by omega)
  rw [Int.toNat_natCast] at x1 x2
  rw [show rdOf 0 (ordI L) (k : Int) = (q : Int) from hrd] at x1
  refine ⟨ga, go, q, rfl, rfl, hq, hoq, x1, ⟨_, x2.1⟩, x2.2, ?_⟩
  rintro w2 rfl
  have hp := Kd.R_putg hra (q : Int) (k : Int)
  rw [Int.toNat_natCast] at hp
  refine ⟨h.below.setCell (p := ⟨ga, q, none⟩) b1 _, Kd.R_far (p := ⟨ga, q, none⟩) h.os (fun k hk => fun e => hk (by show some k = some ga; rw [e])) _, _, ?_, hp.1, ?_⟩
  · rw [List.length_set, hal]
  · intro p hpl hpk
    show (al.set q (k : Int)).getD (p : Int).toNat 0 = _
    rw [Int.toNat_natCast, List.getD_eq_getElem?_getD]
    by_cases e : p = q
    · subst e
      rw [List.getElem?_set_self (by omega), hix]; rfl
    · rw [List.getElem?_set_ne (fun h => e h.symm), ← List.getD_eq_getElem?_getD]
      have hne2 : (oL L).idxOf p ≠ k := fun h2 => by
        have := idx_at hpl h2
        rw [hoq] at this
        exact e (Option.some.inj this).symm
      have := hv p hpl (by omega)
      rw [← this]; rfl

structure So3 (w : World) (L : List It) (Ao : Option Addr) (co : Nat) (Aa : Option Addr) (ca : Nat) (Al : Option Addr) (cl : Nat) (v : Value) (k : Nat) (wr : World) : Prop where
  below : Below w.heap.size w wr
  os : Kd.R (Kd.int .i64) 3 wr w.heap.size (fun b => True ∧ some b ≠ v.ownBlock) (.slice Ao L.length co) (ordI L)
  ats : ∃ al : List Int, al.length = L.length ∧ Kd.R (Kd.int .i64) 3 wr w.heap.size (fun b => True ∧ some b ≠ v.ownBlock) (.slice Aa L.length ca) al ∧ ∀ p : Nat, p < L.length → rd al p = ((oL L).idxOf p : Int)
  all : Kd.R kIt 41 wr w.heap.size (fun b => True ∧ some b ≠ v.ownBlock) (.slice Al L.length cl) L
  out : Kd.R kIt 41 wr w.heap.size (fun _ => True) v ((sortL L).take k)
variable {Al : Option Addr} {cl : Nat} {v : Value}
theorem so3_start {wr2 w8 w9 : World} (h2 : So2 w L Ao co Aa ca L.length wr2) (hb8 : Below wr2.heap.size wr2 w8) (hall : Kd.R kIt 41 w8 wr2.heap.size (fun _ => True) (.slice Al L.length cl) L)
    (hb9 : Below w.heap.size w w9) (hg9 : w8.grownBy w9 none) (hout : Kd.R kIt 41 w9 w.heap.size (fun _ => True) v []) (hn9 : ∃ b, v.ownBlock = some b ∧ w8.heap.size ≤ b) : So3 w L Ao co Aa ca Al cl v 0 w9 := by
  obtain ⟨b, hb, hle⟩ := hn9
  have hcl : ∀ {k : Nat} {W : World}, k < W.heap.size → W.heap.size ≤ w8.heap.size → some k ≠ v.ownBlock := fun h1 h2 e => by
    rw [hb] at e; have e := Option.some.inj e; omega
  obtain ⟨al, hal, hra, hv⟩ := h2.ats
  have o8 := Kd.R_mono (Kd.R_bound (Kd.R_below h2.os hb8)) (ok' := fun b => True ∧ some b ≠ v.ownBlock) (fun k hk => ⟨trivial, hcl hk.2.2.1 (Nat.le_refl _)⟩)
  have a8 := Kd.R_mono (Kd.R_bound (Kd.R_below hra hb8)) (ok' := fun b => True ∧ some b ≠ v.ownBlock) (fun k hk => ⟨trivial, hcl hk.2.2.1 (Nat.le_refl _)⟩)
  have l8 := Kd.R_mono (Kd.R_bound (Kd.R_lower hall h2.below.size)) (ok' := fun b => True ∧ some b ≠ v.ownBlock) (fun k hk => ⟨trivial, hcl hk.2.2.1 (Nat.le_refl _)⟩)
  exact ⟨hb9, Kd.R_grown o8 hg9 (fun _ _ => nofun), ⟨al, hal, Kd.R_grown a8 hg9 (fun _ _ => nofun), fun p hp => hv p hp (idx_lt hp)⟩, Kd.R_grown l8 hg9 (fun _ _ => nofun), hout⟩
/-- A world in which what is new alone has changed. -/
theorem so3_on {w1 : World} (h : So3 w L Ao co Aa ca Al cl v k wr) (hb : Below wr.heap.size wr w1) : So3 w L Ao co Aa ca Al cl v k w1 := by
  obtain ⟨al, hal, hra, hv⟩ := h.ats
  exact ⟨h.below.trans (hb.mono h.below.size), Kd.R_below h.os hb, ⟨al, hal, Kd.R_below hra hb, hv⟩, Kd.R_below h.all hb, Kd.R_below h.out hb⟩
theorem so3_cells (h : So3 w L Ao co Aa ca Al cl v k wr) (hk : k < L.length) : ∃ (go gl q : Nat) (A3 : Option Addr) (c3 : Nat), Ao = some ⟨go, 0, none⟩ ∧ Al = some ⟨gl, 0, none⟩ ∧ q < L.length ∧ (oL L)[k]? = some q ∧ wr.cell? ⟨go, k, none⟩ = some (.int .i64 (q : Int)) ∧
    wr.cell? ⟨gl, q * 4, none⟩ = some (.int .i64 (itA L q).f0) ∧ wr.cell? ⟨gl, q * 4 + 1, none⟩ = some (.string (itA L q).f1) ∧ wr.cell? ⟨gl, q * 4 + 2, none⟩ = some (.bool (itA L q).f2) ∧ wr.cell? ⟨gl, q * 4 + 3, none⟩ = some (.slice A3 (itA L q).f3.length c3) ∧
    (Kd.int .u8).R 5 wr w.heap.size (fun b => True ∧ some b ≠ v.ownBlock) (.slice A3 (itA L q).f3.length c3) (itA L q).f3 := by
  obtain ⟨go, c2, e2, b2, l2, _⟩ := Kd.R_form h.os (by rw [ordI_len]; omega)
  obtain ⟨gl, c1, e1, b1, l1, _⟩ := Kd.R_form h.all (by omega)
  rw [ordI_len] at e2
  cases e1; cases e2
  obtain ⟨q, hq, hrd, hoq, hix⟩ := ord_at hk
  have x1 := (Kd.R_celln 0 h.os (k : Int) (by omega) (by omega)).1
  rw [Int.toNat_natCast, show rdOf 0 (ordI L) (k : Int) = (q : Int) from hrd] at x1
  obtain ⟨cs, hM, hc⟩ := r_at h.all q hq
  rw [show L[q] = itA L q by rw [itA_get hq]] at hM
  obtain ⟨v3, rfl, hv3⟩ := k41_openM hM
  obtain ⟨A3, c3, rfl⟩ := Kd.R_slice hv3
  refine ⟨go, gl, q, A3, c3, rfl, rfl, hq, hoq, x1, (hc 0 _ rfl).1, (hc 1 _ rfl).1, (hc 2 _ rfl).1, (hc 3 _ rfl).1, Kd.R_mono hv3 (fun _ hk => hk.1)⟩
theorem so3_at (h : So3 w L Ao co Aa ca Al cl v k wr) {p : Nat} (hp : p < L.length) : ∃ ga, Aa = some ⟨ga, 0, none⟩ ∧ wr.cell? ⟨ga, p, none⟩ = some (.int .i64 ((oL L).idxOf p : Int)) := by
  obtain ⟨al, hal, hra, hv⟩ := h.ats
  obtain ⟨ga, c1, e1, b1, l1, _⟩ := Kd.R_form hra (by omega)
  rw [hal] at e1
  cases e1
  have x1 := (Kd.R_celln 0 hra (p : Int) (by omega) (by omega)).1
  rw [Int.toNat_natCast, show rdOf 0 al (p : Int) = _ from hv p hp] at x1
  exact ⟨ga, rfl, x1⟩
theorem so3_step {W w1 : World} {v1 : Value} {q : Nat} (h : So3 w L Ao co Aa ca Al cl v k W) (hq : (oL L)[k]? = some q) (hr : Kd.R kIt 41 w1 w.heap.size (fun _ => True) v1 ((sortL L).take k ++ [itS L q])) (hb : Below w.heap.size w w1) (hg : W.grownBy w1 v.ownBlock)
    (hat : v1.ownBlock = v.ownBlock ∨ ∃ b, v1.ownBlock = some b ∧ W.heap.size ≤ b) : So3 w L Ao co Aa ca Al cl v1 (k + 1) w1 := by
  obtain ⟨al, hal, hra, hv⟩ := h.ats
  refine ⟨hb, Kd.R_after h.os hg hat, ⟨al, hal, Kd.R_after hra hg hat, hv⟩, Kd.R_after h.all hg hat, ?_⟩
  have e : (sortL L).take (k + 1) = (sortL L).take k ++ [itS L q] := by
    rw [List.take_add_one]
    unfold sortL
    rw [List.getElem?_map, hq]; rfl
  rw [e]
  exact hr
end
end Go.Proofs.Ytlomehhlhbpanaa

/- The walk of tree.Sort. -/
namespace Go.Proofs.Ytlomehhlhbpanaa
open Go.RowKit Go.Lib Go.Sort Go.Shelf Go.Proofs.YtlomehhlhbpanaaW.PrintWords Go.Proofs.YtlomehhlhbpanaaW.PrintLast Go.Proofs.YtlomehhlhbpanaaW.PrintMore Go.Proofs.Ytlomehhlhbpanaa.Prt

theorem right_len {x : It} (h : rightB x = true) : x.f3.length ≤ 8192 := by
  rcases ((rightB_iff x).1 h).2 with h | h
  · rw [h]; decide
  · omega

theorem infoSl : (Try.prog.info? 29).map (fun i => (i.zero, i.size, i.bytes)) = some (some (.slice none 0 0), 1, 24) := by kernel_rfl
theorem infoInt : (Try.prog.info? 3).map (fun i => (i.zero, i.size, i.bytes)) = some (some (.int .i64 0), 1, 8) := by kernel_rfl



set_option maxRecDepth 100000 in
set_option maxHeartbeats 8000000 in
theorem sort_any (L : List It) (A : Option Addr) (c : Nat) (hc : L.length ≤ c) (w : World) (hC : Kd.C kIt w A L.length L) (hwf : WfL L) (h14 : checkN L ≠ 14) :
    Calls Try.prog 19 #[.slice A L.length c] w fun e w' => ∃ v, e = .returned (.tuple #[v, .int .i64 0]) ∧ Kd.R kIt 41 w' w.heap.size (fun _ => True) v (sortL L) ∧ Below w.heap.size w w' := by
  have hu41 := Try.underlying41
  have HC := Aside0.mk hC
  have HK := fun W B => check_any L A c W (Kd.C_below HC.out B) hwf
  obtain ⟨q1, q2, q3⟩ := check_ok h14
  have h14b : (checkN L == 14) = false := by rw [beq_eq_false_iff_ne]; exact h14
  clear hC
  generalize checkN L = e0 at *
  go_enter Try.func19, Try.ntmps19
  go_wp2_with (first | (go_at_call 10; refine (HK _ (Below.refl _ _)).mono ?_; rintro e w1 ⟨rfl, hb1⟩) | ((with_reducible refine gate_dst (N := 20) rfl ?_); refine Kd.R_make kPs w.heap.size 29 rfl (N := 20) rfl 50 _ _ rfl (L.length : Int) rfl rfl Try.underlying50 (.slice none 0 0) 24 infoSl rfl (by decide) (by omega) [] (ok := fun _ => True) (okp := fun _ => True) ?hz (fun _ hk => hk) trivial (by omega) (by omega) hb1 hb1.size ?_; (case hz => exact ⟨_, rfl, Kd.R_nil _ _ _ _ _⟩); intro vp w2 hrp hb2 hg2 hn2; rw [Int.toNat_natCast] at hrp; obtain ⟨Ap, cp, ep⟩ := Kd.R_slice hrp; rw [List.length_replicate] at ep; subst ep; clear hg2 hn2) | ((with_reducible refine gate_dst (N := 23) rfl ?_); refine Kd.R_make (Kd.int .i64) w.heap.size 3 rfl (N := 23) rfl 44 _ _ rfl (L.length : Int) rfl rfl Try.underlying44 (.int .i64 0) 8 infoInt rfl (by decide) (by omega) 0 (ok := fun _ => True) (okp := fun _ => True) rfl (fun _ hk => hk) trivial (by omega) (by omega) (below_alloc hb2 _) (below_alloc hb2 _).size ?_; intro vo w3 hro hb3 hg3 hn3; rw [Int.toNat_natCast] at hro; obtain ⟨Ao, co, eo⟩ := Kd.R_slice hro; rw [List.length_replicate] at eo; subst eo))
  have hb2s := hb2.size
  clear hwf HK h14 h14b hb2 hb1
  have HS1 : So1 w L w2.heap.size Ap cp Ao co 0 w3 := by
    obtain ⟨bo, hbo, hlo⟩ := hn3
    rw [World.size_alloc] at hlo
    refine ⟨hb3, hb2s, ?_, ?_, ?_⟩
    · rw [hg3.block _ (by rw [World.size_alloc]; omega) nofun]
      exact blk_new _ _
    · rw [fill_zero]
      exact Kd.R_grown (Kd.R_mono (Kd.R_bound (Kd.R_alloc (Kd.R_mono (Kd.R_bound hrp) (fun k hk => hk.2.2.1)) (.cells #[.slice Ap L.length cp] 50))) (fun k hk => ⟨by have := hk.1; omega, by rw [hbo]; intro e; have e := Option.some.inj e; have := hk.1; omega⟩)) hg3 (fun _ _ => nofun)
    · rw [fill_zero]
      refine Kd.R_of_own (Kd.own_of_R hro) (fun k hk => ?_)
      rw [hbo] at hk
      cases hk
      exact ⟨by omega, fun e => by have := Kd.R_lt hrp _ e.symm; omega⟩
  clear hb3 hrp hro hg3 hn3 hb2s
  have HS := Aside0.mk HS1
  clear HS1
  generalize w2.heap.size = pb at *
  go_loopg [26] L.length (fun gg v26 wr => ∃ i : Nat, i ≤ L.length ∧ L.length - i ≤ gg ∧ v26 = .int .i64 i ∧ Aside0 (So1 w L pb Ap cp Ao co i wr))
  case atStart => exact ⟨0, Nat.zero_le _, by omega, rfl, HS⟩
  case round =>
    clear HS
    obtain ⟨i, hi, hg, rfl, HI⟩ := hrel
    by_cases hlt : i < L.length
    · have hltz : (i : Int) < (L.length : Int) := by omega
      obtain ⟨gp, go, rfl, rfl, n1, n2, n3, n4, n5⟩ := so1_form HI.out (by omega)
      go_wp2
      have hbx := box_cell HI.out
      have HI0 := HI.out
      go_region_with (go_at_call 31; refine (path_any L q1 q2 (i : Int) (by omega) hltz A c hc _ (Kd.C_below HC.out (HI0.below.trans (by first | exact Below.refl _ _ | exact Below.drew (Below.refl _ _))))).mono ?_; rintro e w5 ⟨v5, rfl, hv5, hb5⟩; replace hb5 : Below wr.heap.size wr w5 := (by first | exact hb5 | exact (Below.drew (Below.refl _ _)).trans hb5); have h5 := so1_on HI0 hb5; have hbx5 := box_cell h5; obtain ⟨⟨u1, c1, f1⟩, u2, c2, f2⟩ := so1_cells h5 hlt; obtain ⟨Av, cv, rfl⟩ := Kd.R_slice hv5)
      all_goals (go_wp2; go_roundg (L.length - (i + 1)); (case measure => omega); (case rel => exact ⟨i + 1, by omega, by omega, by go_num, ⟨so1_step HI0 hb5 hv5 hlt⟩⟩))
    · obtain rfl : i = L.length := by omega
      have hfin := sort_step HI.out q2 q1
      clear HI
      go_wp2_with (first | (go_at_call 33; refine hfin.mono ?_; rintro e w6 ⟨rfl, hb6, ho6⟩) | ((with_reducible refine gate_dst (N := 45) rfl ?_); refine Kd.R_make (Kd.int .i64) w.heap.size 3 rfl (N := 45) rfl 44 _ _ rfl (L.length : Int) rfl rfl Try.underlying44 (.int .i64 0) 8 infoInt rfl (by decide) (by omega) 0 (ok := fun _ => True) (okp := fun _ => True) rfl (fun _ hk => hk) trivial (by omega) (by omega) hb6 hb6.size ?_; intro va w7 hra hb7 hg7 hn7; rw [Int.toNat_natCast] at hra; obtain ⟨Aa, ca, ea⟩ := Kd.R_slice hra; rw [List.length_replicate] at ea; subst ea))
      have HT := Aside0.mk (so2_start hb7 ho6 hg7 hra hn7)
      clear hb7 ho6 hg7 hra hn7 hb6 hfin
      go_loopg [48] L.length (fun gg v48 wr => ∃ k : Nat, k ≤ L.length ∧ L.length - k ≤ gg ∧ v48 = .int .i64 k ∧ Aside0 (So2 w L Ao co Aa ca k wr))
      case atStart => exact ⟨0, Nat.zero_le _, by omega, rfl, HT⟩
      case round =>
        clear HT hi hg hlt
        obtain ⟨k, hk, hg, rfl, HI⟩ := hrel
        by_cases hlt : k < L.length
        · obtain ⟨ga, go, q, rfl, rfl, hq, hoq, x1, ⟨u, x2⟩, x3, HN⟩ := so2_cells HI.out hlt
          have hkz : (k : Int) < (L.length : Int) := by omega
          have hqz : (q : Int) < (L.length : Int) := by omega
          have HN := Aside0.mk HN
          clear HI hoq
          go_wp2
          go_roundg (L.length - (k + 1))
          case measure => omega
          case rel => exact ⟨k + 1, by omega, by omega, by go_num, ⟨HN.out _ rfl⟩⟩
        · obtain rfl : k = L.length := by omega
          have HW2 := HI.out
          have hd3 : ∀ x ∈ L, x.f3.length ≤ 100000 := fun x hx => by
            have := List.all_eq_true.1 q3 x hx
            have := right_len this
            omega
          clear HI
          go_wp2_with (first | (go_at_call 17; refine (copy_any L A c _ (Kd.C_below HC.out HW2.below) (by omega) hd3).mono ?_; rintro e w8 ⟨v8, rfl, hall, hb8⟩; obtain ⟨Al, cl, rfl⟩ := Kd.R_slice hall; have hb8b := HW2.below.trans (hb8.mono HW2.below.size)) | ((with_reducible refine gate_dst (N := 62) rfl ?_); refine R_make0 kIt w.heap.size 41 rfl (N := 62) rfl 22 _ _ rfl L.length rfl rfl Try.underlying22 (.agg #[(.int .i64 0), (.string ⟨#[]⟩), (.bool false), (.slice none 0 0)]) 56 info41 (by omega) (ok := fun _ => True) trivial (by omega) hb8b hb8b.size ?_; intro vx w9 hout hb9 hg9 hn9; obtain ⟨Ax, cx, ex⟩ := Kd.R_slice hout; rw [List.length_nil] at ex; subst ex))
          have HT := Aside0.mk (so3_start HW2 hb8 hall hb9 hg9 hout hn9)
          clear hb9 hall hg9 hout hn9 hb8b hb8 HW2 hd3 hg hlt hk
          generalize (.slice Ax 0 cx : Value) = vx at HT ⊢
          go_loopg [11, 65] L.length (fun gg v11 v65 wr => ∃ k : Nat, k ≤ L.length ∧ L.length - k ≤ gg ∧ v65 = .int .i64 k ∧ Aside0 (So3 w L Ao co Aa ca Al cl v11 k wr))
          case atStart => exact ⟨0, Nat.zero_le _, by omega, rfl, HT⟩
          case round =>
            clear HT
            obtain ⟨k, hk, hg, rfl, HI⟩ := hrel
            by_cases hlt : k < L.length
            · have H3 := HI.out
              obtain ⟨go, gl, q, A3, c3, rfl, rfl, hq, hoq, x1, y0, y1, y2, y3, hd⟩ := so3_cells H3 hlt
              have hkz : (k : Int) < (L.length : Int) := by omega
              have hqz : (q : Int) < (L.length : Int) := by omega
              have HD := Aside0.mk hd
              have H3 := Aside0.mk H3
              clear HI hd
              by_cases h1 : (itA L q).f0 = -1
              · rw [h1] at y0
                have hit : (⟨-1, (itA L q).f1, (itA L q).f2, (itA L q).f3⟩ : It) = itS L q := by unfold itS; rw [if_pos h1]
                have HBel := below_alloc (Below.refl wr.heap.size wr) (Obj.cells #[.int .i64 (-1), .string (itA L q).f1, .bool (itA L q).f2, .slice A3 (itA L q).f3.length c3] 41)
                go_wp2_with (first | ((with_reducible refine gate_builtin (b := .append) (xs := #[.tmp 82, .tmp 84]) rfl ?_); at_builtin; refine Kd.R_append kIt (w0 := w) (W := wr.alloc (Obj.cells #[.int .i64 (-1), .string (itA L q).f1, .bool (itA L q).f2, .slice A3 (itA L q).f3.length c3] 41)) w.heap.size rfl (.tmp 82) (.tmp 84) 22 41 (.agg #[(.int .i64 0), (.string ⟨#[]⟩), (.bool false), (.slice none 0 0)]) 56 rfl Try.underlying22 info41 rfl (by decide) (by omega) u11 ((sortL L).take k) (itS L q) [.int .i64 (-1), .string (itA L q).f1, .bool (itA L q).f2, .slice A3 (itA L q).f3.length c3] (fun _ => True) (fun b => True ∧ some b ≠ u11.ownBlock) rfl ?hx ?hp (fun _ h => h) (fun _ _ => trivial) ?HO ?HB ?hbase ?hl ?_; (case hx => (rw [World.size_alloc]; rfl)); (case hp => (rw [← hit]; exact k41_mkM _ _ _ ⟨_, (itA L q).f1, (itA L q).f2, (itA L q).f3⟩ (Kd.R_alloc HD.out _))); (case HO => exact (so3_on H3.out HBel).out); (case HB => exact (so3_on H3.out HBel).below); (case hbase => exact (so3_on H3.out HBel).below.size); (case hl => (rw [List.length_take]; omega)); intro v12 w12 ho12 hb12 hg12 hat12))
                go_roundg (L.length - (k + 1))
                case measure => omega
                case rel => exact ⟨k + 1, by omega, by omega, by go_num, ⟨so3_step (so3_on H3.out HBel) hoq ho12 hb12 hg12 hat12⟩⟩
              · obtain ⟨p, hp, hpl⟩ : ∃ p : Nat, (itA L q).f0 = p ∧ p < L.length := by
                  have hpar : parB L q = true := by
                    have hd2 := q2
                    simp only [depB, List.all_eq_true, List.mem_range] at hd2
                    exact okAt_par (hd2 q hq)
                  have := par_ok hpar
                  exact ⟨(itA L q).f0.toNat, by omega, by omega⟩
                obtain ⟨ga, rfl, x2⟩ := so3_at H3.out hpl
                have x2b : (wr.alloc (Obj.cells #[.int .i64 (p : Int), .string (itA L q).f1, .bool (itA L q).f2, .slice A3 (itA L q).f3.length c3] 41)).cell? ⟨ga, p, none⟩ = some (.int .i64 ((oL L).idxOf p : Int)) := (below_alloc (Below.refl wr.heap.size wr) _).cell (World.block_lt_of_cell? wr _ x2) ▸ x2
                have hpz : (p : Int) < (L.length : Int) := by omega
                have hpm : ((p : Int) == -1) = false := by rw [beq_eq_false_iff_ne]; omega
                have hit : (⟨((oL L).idxOf p : Int), (itA L q).f1, (itA L q).f2, (itA L q).f3⟩ : It) = itS L q := by unfold itS posI; rw [if_neg h1, hp, Int.toNat_natCast]
                rw [hp] at y0
                have HBel := below_alloc (Below.refl wr.heap.size wr) (Obj.cells #[.int .i64 ((oL L).idxOf p : Int), .string (itA L q).f1, .bool (itA L q).f2, .slice A3 (itA L q).f3.length c3] 41)
                go_wp2_with (first | ((with_reducible refine gate_builtin (b := .append) (xs := #[.tmp 82, .tmp 84]) rfl ?_); at_builtin; refine Kd.R_append kIt (w0 := w) (W := wr.alloc (Obj.cells #[.int .i64 ((oL L).idxOf p : Int), .string (itA L q).f1, .bool (itA L q).f2, .slice A3 (itA L q).f3.length c3] 41)) w.heap.size rfl (.tmp 82) (.tmp 84) 22 41 (.agg #[(.int .i64 0), (.string ⟨#[]⟩), (.bool false), (.slice none 0 0)]) 56 rfl Try.underlying22 info41 rfl (by decide) (by omega) u11 ((sortL L).take k) (itS L q) [.int .i64 ((oL L).idxOf p : Int), .string (itA L q).f1, .bool (itA L q).f2, .slice A3 (itA L q).f3.length c3] (fun _ => True) (fun b => True ∧ some b ≠ u11.ownBlock) rfl ?hx ?hp (fun _ h => h) (fun _ _ => trivial) ?HO ?HB ?hbase ?hl ?_; (case hx => (rw [World.size_alloc]; rfl)); (case hp => (rw [← hit]; exact k41_mkM _ _ _ ⟨_, (itA L q).f1, (itA L q).f2, (itA L q).f3⟩ (Kd.R_alloc HD.out _))); (case HO => exact (so3_on H3.out HBel).out); (case HB => exact (so3_on H3.out HBel).below); (case hbase => exact (so3_on H3.out HBel).below.size); (case hl => (rw [List.length_take]; omega)); intro v12 w12 ho12 hb12 hg12 hat12))
                go_roundg (L.length - (k + 1))
                case measure => omega
                case rel => exact ⟨k + 1, by omega, by omega, by go_num, ⟨so3_step (so3_on H3.out HBel) hoq ho12 hb12 hg12 hat12⟩⟩
            · obtain rfl : k = L.length := by omega
              have H3 := HI.out
              have hb := H3.below
              have hout := H3.out
              rw [List.take_of_length_le (by rw [sortL_len]; exact Nat.le_refl _)] at hout
              go_wp2
              go_ret2
              exact ⟨_, rfl, hout, hb⟩

/-- What tree.Sort tells. -/
def sortT (L : List It) : List It := if checkN L = 14 then [] else sortL L
def sortE (L : List It) : Int := if checkN L = 14 then 14 else 0
set_option maxRecDepth 100000 in
set_option maxHeartbeats 8000000 in
theorem Sort_any (L : List It) (A : Option Addr) (c : Nat) (hc : L.length ≤ c) (w : World) (hC : Kd.C kIt w A L.length L) (hwf : WfL L) :
    Calls Try.prog 19 #[.slice A L.length c] w fun e w' => ∃ v, e = .returned (.tuple #[v, .int .i64 (sortE L)]) ∧ Kd.R kIt 41 w' w.heap.size (fun _ => True) v (sortT L) ∧ Below w.heap.size w w' := by
  by_cases h14 : checkN L = 14
  · unfold sortE sortT
    rw [if_pos h14, if_pos h14]
    have HN := fun W => Kd.R_nil kIt 41 W w.heap.size (fun _ => True)
    have HC := Aside0.mk hC
    have HK := fun W B => check_any L A c W (Kd.C_below HC.out B) hwf
    rw [h14] at HK
    clear hC
    go_enter Try.func19, Try.ntmps19
    go_wp2_with (first | (go_at_call 10; refine (HK _ (Below.refl _ _)).mono ?_; rintro e w1 ⟨rfl, hb1⟩))
    go_ret2
    exact ⟨_, rfl, HN _, hb1⟩
  · unfold sortE sortT
    rw [if_neg h14, if_neg h14]
    exact sort_any L A c hc w hC hwf h14
end Go.Proofs.Ytlomehhlhbpanaa
