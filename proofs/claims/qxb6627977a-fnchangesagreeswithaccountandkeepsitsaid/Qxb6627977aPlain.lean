import Derived.Lib.Bytealg
import Derived.Laws.Strings
namespace Go.Proofs.Qxb6627977a
open Go

theorem cb_drop : ∀ (l m : List UInt8) (k : Nat), k ≤ l.length → k ≤ m.length → l.take k = m.take k →
    Lib.compareBytes l m = Lib.compareBytes (l.drop k) (m.drop k)
  | _, _, 0, _, _, _ => by simp
  | [], _, k + 1, h, _, _ => by simp at h
  | _, [], k + 1, _, h, _ => by simp at h
  | x :: l, y :: m, k + 1, h1, h2, h => by
    simp only [List.take_succ_cons, List.cons.injEq] at h
    obtain ⟨rfl, h⟩ := h
    have hx : ¬ x < x := fun hh => by rw [UInt8.lt_iff_toNat_lt] at hh; omega
    rw [Lib.compareBytes, if_neg hx, if_neg hx]
    simpa using cb_drop l m k (by simpa using h1) (by simpa using h2) h

theorem cb_at {l m : List UInt8} {k : Nat} (h1 : k < l.length) (h2 : k < m.length) (h : l.take k = m.take k) :
    Lib.compareBytes l m = if l[k].toNat < m[k].toNat then -1 else if m[k].toNat < l[k].toNat then 1 else Lib.compareBytes (l.drop (k + 1)) (m.drop (k + 1)) := by
  rw [cb_drop l m k (by omega) (by omega) h, List.drop_eq_getElem_cons h1, List.drop_eq_getElem_cons h2, Lib.compareBytes]
  simp only [UInt8.lt_iff_toNat_lt]

theorem cb_lt {l m : List UInt8} {k : Nat} (h1 : k < l.length) (h2 : k < m.length) (h : l.take k = m.take k) (hc : l[k].toNat < m[k].toNat) :
    Lib.compareBytes l m = -1 := by rw [cb_at h1 h2 h, if_pos hc]
theorem cb_gt {l m : List UInt8} {k : Nat} (h1 : k < l.length) (h2 : k < m.length) (h : l.take k = m.take k) (hc : m[k].toNat < l[k].toNat) :
    Lib.compareBytes l m = 1 := by rw [cb_at h1 h2 h, if_neg (by omega), if_pos hc]
theorem take_eq_succ {l m : List UInt8} {k : Nat} (h1 : k < l.length) (h2 : k < m.length) (h : l.take k = m.take k) (hc : l[k].toNat = m[k].toNat) :
    l.take (k + 1) = m.take (k + 1) := by
  rw [List.take_succ_eq_append_getElem h1, List.take_succ_eq_append_getElem h2, h, UInt8.toNat.inj hc]

theorem cb_end_lt {l m : List UInt8} (hl : l.length < m.length) (h : l.take l.length = m.take l.length) : Lib.compareBytes l m = -1 := by
  rw [cb_drop l m l.length (by omega) (by omega) h, List.drop_length]
  cases hm : m.drop l.length with
  | nil => have := congrArg List.length hm; simp at this; omega
  | cons x r => rfl
theorem cb_end_gt {l m : List UInt8} (hl : m.length < l.length) (h : l.take m.length = m.take m.length) : Lib.compareBytes l m = 1 := by
  rw [cb_drop l m m.length (by omega) (by omega) h, List.drop_length]
  cases hm : l.drop m.length with
  | nil => have := congrArg List.length hm; simp at this; omega
  | cons x r => rfl
theorem cb_end_eq {l m : List UInt8} (hl : l.length = m.length) (h : l.take m.length = m.take m.length) : Lib.compareBytes l m = 0 := by
  rw [cb_drop l m m.length (by omega) (by omega) h, List.drop_length, List.drop_eq_nil_of_le (by omega)]
  rfl

theorem cb_anti : ∀ (l m : List UInt8), Lib.compareBytes m l = - Lib.compareBytes l m
  | [], [] => rfl
  | [], _ :: _ => rfl
  | _ :: _, [] => rfl
  | x :: l, y :: m => by
    rw [Lib.compareBytes, Lib.compareBytes, cb_anti l m]
    by_cases h : x < y
    · have h' : ¬ y < x := fun e => UInt8.lt_irrefl _ (UInt8.lt_trans h e)
      simp [h, h']
    · by_cases h' : y < x <;> simp [h, h']
theorem cb_tr : ∀ (l m k : List UInt8), Lib.compareBytes l m ≤ 0 → Lib.compareBytes m k ≤ 0 → Lib.compareBytes l k ≤ 0 ∧ (Lib.compareBytes l k = 0 → Lib.compareBytes l m = 0 ∧ Lib.compareBytes m k = 0)
  | [], [], [], _, _ => by simp [Lib.compareBytes]
  | [], [], _ :: _, _, _ => by simp [Lib.compareBytes]
  | [], _ :: _, [], _, h => by simp [Lib.compareBytes] at h
  | [], _ :: _, _ :: _, _, _ => by simp [Lib.compareBytes]
  | _ :: _, [], _, h, _ => by simp [Lib.compareBytes] at h
  | _ :: _, _ :: _, [], _, h => by simp [Lib.compareBytes] at h
  | x :: l, y :: m, z :: k, h1, h2 => by
    have ih := cb_tr l m k
    simp only [Lib.compareBytes, UInt8.lt_iff_toNat_lt] at h1 h2 ⊢
    by_cases a : x.toNat < y.toNat
    · by_cases b : y.toNat < z.toNat
      · rw [if_pos (by omega)]; omega
      · by_cases b' : z.toNat < y.toNat
        · simp [b, b'] at h2
        · rw [if_pos (by omega)]; omega
    · by_cases a' : y.toNat < x.toNat
      · simp [a, a'] at h1
      · by_cases b : y.toNat < z.toNat
        · rw [if_pos (by omega)]; omega
        · by_cases b' : z.toNat < y.toNat
          · simp [b, b'] at h2
          · simp only [a, a', b, b', if_false] at h1 h2
            have c1 : ¬ x.toNat < z.toNat := by omega
            have c2 : ¬ z.toNat < x.toNat := by omega
            simp only [a, a', b, b', c1, c2, if_false]
            exact ih h1 h2
theorem cb_less : ∀ (l m : List UInt8), Lib.compareBytes l m = if Op.bytesLess l m then -1 else if l == m then 0 else 1
  | [], [] => by simp [Lib.compareBytes, Op.bytesLess]
  | [], _ :: _ => by simp [Lib.compareBytes, Op.bytesLess]
  | _ :: _, [] => by simp [Lib.compareBytes, Op.bytesLess]
  | x :: l, y :: m => by
    rw [Lib.compareBytes, cb_less l m]
    by_cases h : x < y
    · simp [Op.bytesLess, h]
    · by_cases h' : y < x
      · have hne : x ≠ y := fun e => by subst e; exact UInt8.lt_irrefl _ h'
        simp [Op.bytesLess, h, h', hne]
      · have he : x = y := UInt8.le_antisymm (UInt8.not_lt.1 h') (UInt8.not_lt.1 h)
        subst he
        simp [Op.bytesLess, h]
theorem cb_zero : ∀ (l m : List UInt8), Lib.compareBytes l m = 0 → l = m := by
  intro l m h
  rw [cb_less] at h
  split at h
  · omega
  · split at h
    · rename_i hh; simpa using hh
    · omega
theorem cb_refl (l : List UInt8) : Lib.compareBytes l l = 0 := by have := cb_anti l l; omega

/-- a key: 32 bytes -/
abbrev Key := List UInt8
/-- an account: balance, nonce, stake -/
abbrev Ac := Int × Int × Int
/-- a record: a key and an account -/
abbrev AR := Key × Ac
abbrev klt (a b : Key) : Prop := Lib.compareBytes a b < 0
theorem klt_irrefl (a : Key) : ¬ klt a a := by unfold klt; rw [cb_refl]; omega
theorem klt_asymm {a b : Key} (h : klt a b) : ¬ klt b a := by unfold klt at *; rw [cb_anti]; omega
theorem klt_trans {a b c : Key} (h1 : klt a b) (h2 : klt b c) : klt a c := by
  unfold klt at *
  have := cb_tr a b c (by omega) (by omega)
  rcases Int.lt_or_eq_of_le this.1 with h | h
  · exact h
  · have := this.2 h; omega
def Sorted (b : List AR) : Prop := b.Pairwise fun x y => klt x.1 y.1
theorem Sorted.lt {b : List AR} (h : Sorted b) {i j : Nat} (hij : i < j) (hj : j < b.length) : klt (b[i]'(by omega)).1 (b[j]'hj).1 := List.pairwise_iff_getElem.1 h i j _ hj hij
def Distinct (o : List AR) : Prop := o.Pairwise fun x y => x.1 ≠ y.1
theorem Sorted.distinct {b : List AR} (h : Sorted b) : Distinct b := List.pairwise_iff_getElem.2 fun i j hi hj hij e => klt_irrefl (b[j]'hj).1 (by have := h.lt hij hj; rwa [e] at this)
def find (o : List AR) (k : Key) : Option AR := o.find? fun x => x.1 == k
theorem find_at {o : List AR} (h : Distinct o) {i : Nat} (hi : i < o.length) : find o (o[i]'hi).1 = some (o[i]'hi) := by
  unfold find
  cases hf : o.find? (fun x => x.1 == (o[i]'hi).1) with
  | none => exact absurd (List.find?_eq_none.1 hf _ (List.getElem_mem hi)) (by simp)
  | some x =>
    have hx : x.1 = (o[i]'hi).1 := by simpa using List.find?_some hf
    obtain ⟨j, hj, hxj⟩ := List.getElem_of_mem (List.mem_of_find?_eq_some hf)
    subst hxj
    rcases Nat.lt_trichotomy i j with hij | rfl | hij
    · exact absurd hx.symm (List.pairwise_iff_getElem.1 h i j hi hj hij)
    · rfl
    · exact absurd hx (List.pairwise_iff_getElem.1 h j i hj hi hij)
theorem find_none {o : List AR} {k : Key} (h : ∀ i (hi : i < o.length), (o[i]'hi).1 ≠ k) : find o k = none := by
  unfold find
  rw [List.find?_eq_none]
  intro x hx
  obtain ⟨j, hj, rfl⟩ := List.getElem_of_mem hx
  simpa using h j hj
theorem find_none_take {o : List AR} {k : Key} {i : Nat} (h : find (o.take i) k = none) : ∀ j (hj : j < o.length), j < i → (o[j]'hj).1 ≠ k := by
  intro j hj hji
  have := List.find?_eq_none.1 h (o[j]'hj) (by rw [List.mem_take_iff_getElem]; exact ⟨j, by omega, rfl⟩)
  simpa using this
def zeroAc : Ac := (0, 0, 0)
/-- the account of k as the two layers tell it -/
def model (b o : List AR) (k : Key) : Ac := match find o k with | some x => x.2 | none => match find b k with | some x => x.2 | none => zeroAc
end Go.Proofs.Qxb6627977a
