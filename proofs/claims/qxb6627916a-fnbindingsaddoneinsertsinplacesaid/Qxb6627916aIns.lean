import Derived.Test.Qxb6627916aLaw1
namespace Go.Proofs.Qxb6627916a
open Go.RowKit Go.Sort

/-! one more binding, put in at its place: no Go in sight -/
/-- how many of l order before x -/
def below (l : List ZB) (x : ZB) : Nat := (l.filter fun y => decide (cmpZ y x < 0)).length

theorem uniq {l m : List ZB} (hl : l.Pairwise (fun a b => leZ a b = true)) (hm : m.Pairwise (fun a b => leZ a b = true)) (h : l.Perm m) : l = m :=
  List.Perm.eq_of_pairwise (le := fun a b => leZ a b = true) (fun a b _ _ h1 h2 => by
    rw [leZ_iff] at h1 h2
    have := cmpZ_ord.anti a b
    exact cmpZ_zero (by omega)) hl hm h
theorem lt_tr {a b c : ZB} (h1 : cmpZ a b < 0) (h2 : cmpZ b c < 0) : cmpZ a c < 0 := by
  have t := cmpZ_ord.tr a b c (by omega) (by omega)
  by_cases e : cmpZ a c = 0
  · have := (t.2 e).1; omega
  · omega

/-- a strictly sorted list is those before x, then the others -/
theorem split_at {s : List ZB} {x : ZB} (hs : s.Pairwise (fun a b => leZ a b = true)) (hx : ∀ y ∈ s, cmpZ y x ≠ 0) :
    s = s.filter (fun y => decide (cmpZ y x < 0)) ++ s.filter (fun y => !decide (cmpZ y x < 0)) ∧
    (s.filter (fun y => decide (cmpZ y x < 0)) ++ x :: s.filter (fun y => !decide (cmpZ y x < 0))).Pairwise (fun a b => leZ a b = true) := by
  have hA : (s.filter (fun y => decide (cmpZ y x < 0))).Pairwise (fun a b => leZ a b = true) := hs.filter _
  have hB : (s.filter (fun y => !decide (cmpZ y x < 0))).Pairwise (fun a b => leZ a b = true) := hs.filter _
  have mA : ∀ y ∈ s.filter (fun y => decide (cmpZ y x < 0)), cmpZ y x < 0 := fun y hy => by simpa using (List.mem_filter.1 hy).2
  have mB : ∀ y ∈ s.filter (fun y => !decide (cmpZ y x < 0)), cmpZ x y < 0 := fun y hy => by
    obtain ⟨h1, h2⟩ := List.mem_filter.1 hy
    have h3 : ¬ cmpZ y x < 0 := by simpa using h2
    have h4 := hx y h1
    have := cmpZ_ord.anti y x
    omega
  refine ⟨?_, ?_⟩
  · refine uniq hs ?_ (List.filter_append_perm _ s).symm
    rw [List.pairwise_append]
    exact ⟨hA, hB, fun a ha b hb => leZ_iff.2 (by have := lt_tr (mA a ha) (mB b hb); omega)⟩
  · rw [List.pairwise_append]
    refine ⟨hA, List.pairwise_cons.2 ⟨fun b hb => leZ_iff.2 (by have := mB b hb; omega), hB⟩, fun a ha b hb => leZ_iff.2 ?_⟩
    rcases List.mem_cons.1 hb with rfl | hb
    · have := mA a ha; omega
    · have := lt_tr (mA a ha) (mB b hb); omega

theorem sort_snoc {l : List ZB} {x : ZB} (hx : ∀ y ∈ l, cmpZ y x ≠ 0) :
    (l ++ [x]).mergeSort leZ = (l.mergeSort leZ).take (below l x) ++ x :: (l.mergeSort leZ).drop (below l x) := by
  have hs := List.pairwise_mergeSort leZ_trans leZ_total l
  have hp := List.mergeSort_perm l leZ
  obtain ⟨h1, h2⟩ := split_at hs (x := x) (fun y hy => hx y (hp.mem_iff.1 hy))
  have hk : below l x = ((l.mergeSort leZ).filter (fun y => decide (cmpZ y x < 0))).length := (hp.filter _).length_eq.symm
  generalize (l.mergeSort leZ).filter (fun y => decide (cmpZ y x < 0)) = A at h1 h2 hk
  generalize (l.mergeSort leZ).filter (fun y => !decide (cmpZ y x < 0)) = B at h1 h2
  generalize l.mergeSort leZ = s at h1 hp
  subst h1
  rw [hk, List.take_left' rfl, List.drop_left' rfl]
  refine uniq (List.pairwise_mergeSort leZ_trans leZ_total _) h2 ?_
  refine (List.mergeSort_perm _ _).trans ?_
  refine List.Perm.trans ?_ List.perm_middle.symm
  refine (List.perm_append_singleton x l).trans (List.Perm.cons x ?_)
  exact hp.symm

theorem below_le (l : List ZB) (x : ZB) : below l x ≤ l.length := List.length_filter_le _ _
theorem below_snoc (l : List ZB) (y x : ZB) : below (l ++ [y]) x = below l x + if cmpZ y x < 0 then 1 else 0 := by
  unfold below
  rw [List.filter_append, List.length_append]
  by_cases h : cmpZ y x < 0 <;> simp [h]
section
variable {l : List ZB} {x : ZB}
theorem ins_before (hx : ∀ y ∈ l, cmpZ y x ≠ 0) {i : Nat} (hi : i < below l x) : ((l ++ [x]).mergeSort leZ)[i]? = (l.mergeSort leZ)[i]? := by
  have hl := below_le l x
  rw [sort_snoc hx, List.getElem?_append_left (by simp; omega), List.getElem?_take_of_lt hi]
theorem ins_at (hx : ∀ y ∈ l, cmpZ y x ≠ 0) : ((l ++ [x]).mergeSort leZ)[below l x]? = some x := by
  have hl := below_le l x
  rw [sort_snoc hx, List.getElem?_append_right (by simp; omega), List.length_take, List.length_mergeSort, Nat.min_eq_left hl]
  simp
theorem ins_after (hx : ∀ y ∈ l, cmpZ y x ≠ 0) {i : Nat} (hi : below l x ≤ i) : ((l ++ [x]).mergeSort leZ)[i + 1]? = (l.mergeSort leZ)[i]? := by
  have hl := below_le l x
  rw [sort_snoc hx, List.getElem?_append_right (by simp; omega), List.length_take, List.length_mergeSort, Nat.min_eq_left hl, show i + 1 - below l x = (i - below l x) + 1 by omega, List.getElem?_cons_succ, List.getElem?_drop, show below l x + (i - below l x) = i by omega]
end
end Go.Proofs.Qxb6627916a
