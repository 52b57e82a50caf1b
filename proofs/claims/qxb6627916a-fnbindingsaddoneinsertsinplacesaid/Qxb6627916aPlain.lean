import Derived.Lib.Bytealg
import Derived.Laws.Strings
namespace Go.Proofs.Qxb6627916a
open Go

theorem cb_drop : ∀ (l m : List UInt8) (k : Nat), k ≤ l.length → k ≤ m.length → l.take k = m.take k →
    Lib.compareBytes l m = Lib.compareBytes (l.drop k) (m.drop k)
  | _, _, 0, _, _, _ => by simp
  | [], _, k + 1, h, _, _ => by simp at h
  | _, [], k + 1, _, h, _ => by simp at h
  | x :: l, y :: m, k + 1, h1, h2, h => by
    simp only [List.take_succ_cons, List.cons.injEq] at h
    obtain ⟨rfl, h⟩ := h
    have hx : ¬ x < x := fun hh => by rw [UInt8.lt_iff_toNat_lt] at hh; omega
    rw [Lib.compareBytes, if_neg hx, if_neg hx]
    simpa using cb_drop l m k (by simpa using h1) (by simpa using h2) h

theorem cb_at {l m : List UInt8} {k : Nat} (h1 : k < l.length) (h2 : k < m.length) (h : l.take k = m.take k) :
    Lib.compareBytes l m = if l[k].toNat < m[k].toNat then -1 else if m[k].toNat < l[k].toNat then 1 else Lib.compareBytes (l.drop (k + 1)) (m.drop (k + 1)) := by
  rw [cb_drop l m k (by omega) (by omega) h, List.drop_eq_getElem_cons h1, List.drop_eq_getElem_cons h2, Lib.compareBytes]
  simp only [UInt8.lt_iff_toNat_lt]

theorem cb_lt {l m : List UInt8} {k : Nat} (h1 : k < l.length) (h2 : k < m.length) (h : l.take k = m.take k) (hc : l[k].toNat < m[k].toNat) :
    Lib.compareBytes l m = -1 := by rw [cb_at h1 h2 h, if_pos hc]
theorem cb_gt {l m : List UInt8} {k : Nat} (h1 : k < l.length) (h2 : k < m.length) (h : l.take k = m.take k) (hc : m[k].toNat < l[k].toNat) :
    Lib.compareBytes l m = 1 := by rw [cb_at h1 h2 h, if_neg (by omega), if_pos hc]
theorem take_eq_succ {l m : List UInt8} {k : Nat} (h1 : k < l.length) (h2 : k < m.length) (h : l.take k = m.take k) (hc : l[k].toNat = m[k].toNat) :
    l.take (k + 1) = m.take (k + 1) := by
  rw [List.take_succ_eq_append_getElem h1, List.take_succ_eq_append_getElem h2, h, UInt8.toNat.inj hc]

theorem cb_end_lt {l m : List UInt8} (hl : l.length < m.length) (h : l.take l.length = m.take l.length) : Lib.compareBytes l m = -1 := by
  rw [cb_drop l m l.length (by omega) (by omega) h, List.drop_length]
  cases hm : m.drop l.length with
  | nil => have := congrArg List.length hm; simp at this; omega
  | cons x r => rfl
theorem cb_end_gt {l m : List UInt8} (hl : m.length < l.length) (h : l.take m.length = m.take m.length) : Lib.compareBytes l m = 1 := by
  rw [cb_drop l m m.length (by omega) (by omega) h, List.drop_length]
  cases hm : l.drop m.length with
  | nil => have := congrArg List.length hm; simp at this; omega
  | cons x r => rfl
theorem cb_end_eq {l m : List UInt8} (hl : l.length = m.length) (h : l.take m.length = m.take m.length) : Lib.compareBytes l m = 0 := by
  rw [cb_drop l m m.length (by omega) (by omega) h, List.drop_length, List.drop_eq_nil_of_le (by omega)]
  rfl

/-! the same, of byte arrays -/
theorem cbB_lt {a b : ByteArray} {k : Nat} (h1 : k < a.size) (h2 : k < b.size) (h : a.data.toList.take k = b.data.toList.take k) (hc : (a[k].toNat : Int) < (b[k].toNat : Int)) :
    Lib.compareBytes a.data.toList b.data.toList = -1 := cb_lt (by simpa using h1) (by simpa using h2) h (by simpa [ByteArray.getElem_eq_getElem_data] using hc)
theorem cbB_gt {a b : ByteArray} {k : Nat} (h1 : k < a.size) (h2 : k < b.size) (h : a.data.toList.take k = b.data.toList.take k) (hc : (b[k].toNat : Int) < (a[k].toNat : Int)) :
    Lib.compareBytes a.data.toList b.data.toList = 1 := cb_gt (by simpa using h1) (by simpa using h2) h (by simpa [ByteArray.getElem_eq_getElem_data] using hc)
theorem takeB_succ {a b : ByteArray} {k : Nat} (h1 : k < a.size) (h2 : k < b.size) (h : a.data.toList.take k = b.data.toList.take k) (c1 : ¬ (a[k].toNat : Int) < (b[k].toNat : Int)) (c2 : ¬ (b[k].toNat : Int) < (a[k].toNat : Int)) :
    a.data.toList.take (k + 1) = b.data.toList.take (k + 1) := take_eq_succ (by simpa using h1) (by simpa using h2) h (by simp [ByteArray.getElem_eq_getElem_data] at c1 c2 ⊢; omega)
theorem cbB_end {a b : ByteArray} {k : Nat} (h1 : k ≤ a.size) (h2 : k ≤ b.size) (h3 : ¬ (k < a.size ∧ k < b.size)) (h : a.data.toList.take k = b.data.toList.take k) :
    Lib.compareBytes a.data.toList b.data.toList = if a.size < b.size then -1 else if b.size < a.size then 1 else 0 := by
  have ea : a.data.toList.length = a.size := by simp
  have eb : b.data.toList.length = b.size := by simp
  split
  · have : k = a.data.toList.length := by omega
    subst this; exact cb_end_lt (by omega) h
  · split
    · have : k = b.data.toList.length := by omega
      subst this; exact cb_end_gt (by omega) h
    · have : k = b.data.toList.length := by omega
      subst this; exact cb_end_eq (by omega) h

theorem cb_less : ∀ (l m : List UInt8), Lib.compareBytes l m = if Op.bytesLess l m then -1 else if l == m then 0 else 1
  | [], [] => by simp [Lib.compareBytes, Op.bytesLess]
  | [], _ :: _ => by simp [Lib.compareBytes, Op.bytesLess]
  | _ :: _, [] => by simp [Lib.compareBytes, Op.bytesLess]
  | x :: l, y :: m => by
    rw [Lib.compareBytes, cb_less l m]
    by_cases h : x < y
    · simp [Op.bytesLess, h]
    · by_cases h' : y < x
      · have hne : x ≠ y := fun e => by subst e; exact UInt8.lt_irrefl _ h'
        simp [Op.bytesLess, h, h', hne]
      · have he : x = y := UInt8.le_antisymm (UInt8.not_lt.1 h') (UInt8.not_lt.1 h)
        subst he
        simp [Op.bytesLess, h]
/-! a binding: principal, role, permission, scope -/
abbrev ZB := ByteArray × ByteArray × ByteArray × ByteArray
def cbB (a b : ByteArray) : Int := Lib.compareBytes a.data.toList b.data.toList
def cmpZ (x y : ZB) : Int :=
  if cbB x.1 y.1 ≠ 0 then cbB x.1 y.1 else if cbB x.2.2.2 y.2.2.2 ≠ 0 then cbB x.2.2.2 y.2.2.2 else if cbB x.2.1 y.2.1 ≠ 0 then cbB x.2.1 y.2.1 else cbB x.2.2.1 y.2.2.1

/-! the order -/
structure Ord3 {α : Type} (c : α → α → Int) : Prop where
  anti : ∀ x y, c y x = - c x y
  tr : ∀ x y z, c x y ≤ 0 → c y z ≤ 0 → c x z ≤ 0 ∧ (c x z = 0 → c x y = 0 ∧ c y z = 0)

theorem Ord3.zz {α : Type} {c : α → α → Int} (h : Ord3 c) (x y z : α) (h1 : c x y = 0) (h2 : c y z = 0) : c x z = 0 := by
  have a := (h.tr x y z (by omega) (by omega)).1
  have b := (h.tr z y x (by rw [h.anti]; omega) (by rw [h.anti]; omega)).1
  rw [h.anti] at b
  omega
theorem Ord3.lex {α : Type} {c d : α → α → Int} (hc : Ord3 c) (hd : Ord3 d) : Ord3 (fun x y => if c x y ≠ 0 then c x y else d x y) := {
  anti := fun x y => by
    have a := hc.anti x y
    have b := hd.anti x y
    by_cases h : c x y = 0
    · have h' : c y x = 0 := by omega
      simp [h, h', b]
    · have h' : ¬ c y x = 0 := by omega
      show (if c y x ≠ 0 then c y x else d y x) = - (if c x y ≠ 0 then c x y else d x y)
      rw [if_pos h', if_pos h, a]
  tr := fun x y z => by
    have t1 := hc.tr x y z
    have t2 := hd.tr x y z
    have z1 := hc.zz x y z
    intro h1 h2
    by_cases a : c x y = 0
    · by_cases b : c y z = 0
      · have e := z1 a b
        simp only [a, b, e, ne_eq, not_true_eq_false, if_false] at h1 h2 ⊢
        exact t2 h1 h2
      · simp only [a, b, ne_eq, not_true_eq_false, not_false_eq_true, if_true, if_false] at h1 h2 ⊢
        obtain ⟨u, v⟩ := t1 (by omega) h2
        have e : ¬ c x z = 0 := fun e => b (v e).2
        simp only [e, not_false_eq_true, if_true]
        exact ⟨u, fun h => h.elim⟩
    · simp only [a, ne_eq, not_false_eq_true, if_true] at h1 ⊢
      have h2' : c y z ≤ 0 := by
        by_cases b : c y z = 0
        · omega
        · simpa [b] using h2
      obtain ⟨u, v⟩ := t1 h1 h2'
      have e : ¬ c x z = 0 := fun e => a (v e).1
      simp only [e, not_false_eq_true, if_true]
      exact ⟨u, fun h => h.elim⟩ }
theorem Ord3.pull {α β : Type} {c : α → α → Int} (hc : Ord3 c) (f : β → α) : Ord3 (fun x y => c (f x) (f y)) := {
  anti := fun _ _ => hc.anti _ _
  tr := fun _ _ _ => hc.tr _ _ _ }

theorem cb_anti : ∀ (l m : List UInt8), Lib.compareBytes m l = - Lib.compareBytes l m
  | [], [] => rfl
  | [], _ :: _ => rfl
  | _ :: _, [] => rfl
  | x :: l, y :: m => by
    rw [Lib.compareBytes, Lib.compareBytes, cb_anti l m]
    by_cases h : x < y
    · have h' : ¬ y < x := fun e => UInt8.lt_irrefl _ (UInt8.lt_trans h e)
      simp [h, h']
    · by_cases h' : y < x <;> simp [h, h']
theorem cb_tr : ∀ (l m k : List UInt8), Lib.compareBytes l m ≤ 0 → Lib.compareBytes m k ≤ 0 → Lib.compareBytes l k ≤ 0 ∧ (Lib.compareBytes l k = 0 → Lib.compareBytes l m = 0 ∧ Lib.compareBytes m k = 0)
  | [], [], [], _, _ => by simp [Lib.compareBytes]
  | [], [], _ :: _, _, _ => by simp [Lib.compareBytes]
  | [], _ :: _, [], _, h => by simp [Lib.compareBytes] at h
  | [], _ :: _, _ :: _, _, _ => by simp [Lib.compareBytes]
  | _ :: _, [], _, h, _ => by simp [Lib.compareBytes] at h
  | _ :: _, _ :: _, [], _, h => by simp [Lib.compareBytes] at h
  | x :: l, y :: m, z :: k, h1, h2 => by
    have ih := cb_tr l m k
    simp only [Lib.compareBytes, UInt8.lt_iff_toNat_lt] at h1 h2 ⊢
    by_cases a : x.toNat < y.toNat
    · by_cases b : y.toNat < z.toNat
      · rw [if_pos (by omega)]; omega
      · by_cases b' : z.toNat < y.toNat
        · simp [b, b'] at h2
        · rw [if_pos (by omega)]; omega
    · by_cases a' : y.toNat < x.toNat
      · simp [a, a'] at h1
      · by_cases b : y.toNat < z.toNat
        · rw [if_pos (by omega)]; omega
        · by_cases b' : z.toNat < y.toNat
          · simp [b, b'] at h2
          · simp only [a, a', b, b', if_false] at h1 h2
            have c1 : ¬ x.toNat < z.toNat := by omega
            have c2 : ¬ z.toNat < x.toNat := by omega
            simp only [a, a', b, b', c1, c2, if_false]
            exact ih h1 h2
theorem cbB_ord : Ord3 cbB := {
  anti := fun _ _ => cb_anti _ _
  tr := fun _ _ _ => cb_tr _ _ _ }
theorem cmpZ_ord : Ord3 cmpZ :=
  (cbB_ord.pull (fun x : ZB => x.1)).lex ((cbB_ord.pull (fun x : ZB => x.2.2.2)).lex ((cbB_ord.pull (fun x : ZB => x.2.1)).lex (cbB_ord.pull (fun x : ZB => x.2.2.1))))

theorem cb_zero : ∀ (l m : List UInt8), Lib.compareBytes l m = 0 → l = m := by
  intro l m h
  rw [cb_less] at h
  split at h
  · omega
  · split at h
    · rename_i hh; simpa using hh
    · omega
theorem cbB_zero {a b : ByteArray} (h : cbB a b = 0) : a = b := by
  have := cb_zero _ _ h
  cases a; cases b
  simp at this
  rw [this]
theorem cmpZ_zero {x y : ZB} (h : cmpZ x y = 0) : x = y := by
  unfold cmpZ at h
  obtain ⟨p, r, m, s⟩ := x
  obtain ⟨p', r', m', s'⟩ := y
  simp only at h
  split at h
  · omega
  · split at h
    · omega
    · split at h
      · omega
      · rename_i a b c
        have e1 : p = p' := cbB_zero (by simpa using a)
        have e2 : s = s' := cbB_zero (by simpa using b)
        have e3 : r = r' := cbB_zero (by simpa using c)
        have e4 : m = m' := cbB_zero h
        rw [e1, e2, e3, e4]
theorem cb_refl (l : List UInt8) : Lib.compareBytes l l = 0 := by have := cb_anti l l; omega
theorem cmpZ_refl (x : ZB) : cmpZ x x = 0 := by have := cmpZ_ord.anti x x; omega

/-- the order in which Go's text merges: l first unless r is less -/
def leZ (a b : ZB) : Bool := !(decide (cmpZ b a < 0))
theorem leZ_iff {a b : ZB} : leZ a b = true ↔ cmpZ a b ≤ 0 := by
  have := cmpZ_ord.anti a b
  simp [leZ]; omega
theorem leZ_trans (a b c : ZB) (h1 : leZ a b = true) (h2 : leZ b c = true) : leZ a c = true := by
  rw [leZ_iff] at *
  exact (cmpZ_ord.tr a b c h1 h2).1
theorem leZ_total (a b : ZB) : (leZ a b || leZ b a) = true := by
  have := cmpZ_ord.anti a b
  rw [Bool.or_eq_true, leZ_iff, leZ_iff]
  omega
end Go.Proofs.Qxb6627916a
