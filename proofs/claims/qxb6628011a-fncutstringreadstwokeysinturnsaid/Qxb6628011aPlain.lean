import Derived.Test.Qxb6628011aRows
namespace Go.Proofs.Qxb6628011a

abbrev B := List UInt8
/-- a zero byte that is not followed by 255 -/
def opn (b : B) (j : Nat) : Prop := b[j]? = some 0 ∧ b[j + 1]? ≠ some 255
/-- a 255 that follows a zero -/
def skipB (b : B) (j : Nat) : Bool := decide (0 < j) && (b[j - 1]? == some 0 && b[j]? == some 255)
/-- the first j bytes without those -/
def want (b : B) : Nat → B
  | 0 => []
  | j + 1 => want b j ++ (if skipB b j then [] else b[j]?.toList)
def First (b : B) (k : Nat) : Prop := opn b k ∧ ∀ j, j < k → ¬ opn b j
theorem First.unique {b : B} {k m : Nat} (h : First b k) (g : First b m) : k = m := by
  rcases Nat.lt_trichotomy k m with c | c | c
  · exact absurd h.1 (g.2 k c)
  · exact c
  · exact absurd g.1 (h.2 m c)
theorem First.lt {b : B} {k : Nat} (h : First b k) : k < b.length := (List.getElem?_eq_some_iff.1 h.1.1).1
theorem want_skip {b : B} {j : Nat} (h : skipB b j = true) : want b (j + 1) = want b j := by simp [want, h]
theorem want_take {b : B} {j : Nat} {x : UInt8} (h : skipB b j = false) (hx : b[j]? = some x) : want b (j + 1) = want b j ++ [x] := by simp [want, h, hx]
theorem want_len (b : B) : ∀ j, (want b j).length ≤ j
  | 0 => Nat.le_refl _
  | j + 1 => by
    have := want_len b j
    unfold want
    rw [List.length_append]
    have h2 : (if skipB b j = true then [] else b[j]?.toList).length ≤ 1 := by
      split
      · simp
      · cases b[j]? <;> simp
    omega

/-- where the escaping scan stands -/
structure Inv (b : B) (i : Nat) (out : B) : Prop where
  le : i ≤ b.length
  prev : 0 < i → b[i - 1]? ≠ some 0
  shut : ∀ j, j < i → ¬ opn b j
  out : want b i = out
theorem Inv.zero (b : B) : Inv b 0 [] := ⟨Nat.zero_le _, fun h => absurd h (Nat.lt_irrefl _), fun _ h => absurd h (Nat.not_lt_zero _), rfl⟩
theorem Inv.noSkip {b : B} {i : Nat} {out : B} (h : Inv b i out) : skipB b i = false := by
  unfold skipB
  by_cases h0 : 0 < i
  · have := h.prev h0
    simp [this]
  · simp [h0]
theorem Inv.one {b : B} {i : Nat} {out : B} {x : UInt8} (h : Inv b i out) (hi : b[i]? = some x) (hx : x ≠ 0) : Inv b (i + 1) (out ++ [x]) := by
  refine ⟨(List.getElem?_eq_some_iff.1 hi).1, fun _ => ?_, fun j hj => ?_, ?_⟩
  · rw [Nat.add_sub_cancel, hi]; exact fun e => hx (Option.some.inj e)
  · by_cases e : j = i
    · subst e; intro ho; rw [ho.1] at hi; exact hx (Option.some.inj hi).symm
    · exact h.shut j (by omega)
  · rw [want_take h.noSkip hi, h.out]
theorem Inv.two {b : B} {i : Nat} {out : B} (h : Inv b i out) (hi : b[i]? = some 0) (hn : b[i + 1]? = some 255) : Inv b (i + 2) (out ++ [0]) := by
  refine ⟨(List.getElem?_eq_some_iff.1 hn).1, fun _ => ?_, fun j hj => ?_, ?_⟩
  · rw [show i + 2 - 1 = i + 1 by omega, hn]; exact fun e => absurd (Option.some.inj e) (by decide)
  · by_cases e : j = i
    · subst e; intro ho; exact ho.2 hn
    · by_cases e2 : j = i + 1
      · subst e2; intro ho; rw [ho.1] at hn; exact absurd (Option.some.inj hn) (by decide)
      · exact h.shut j (by omega)
  · have hs : skipB b (i + 1) = true := by
      unfold skipB
      rw [Nat.add_sub_cancel, hi, hn]
      simp
    rw [show i + 2 = i + 1 + 1 by omega, want_skip hs, want_take h.noSkip hi, h.out]
theorem Inv.first {b : B} {i : Nat} {out : B} (h : Inv b i out) (hi : b[i]? = some 0) (hn : b[i + 1]? ≠ some 255) : First b i := ⟨⟨hi, hn⟩, h.shut⟩
/-- the scan has come to the end: no terminator -/
theorem Inv.ends {b : B} {i : Nat} {out : B} (h : Inv b i out) (hi : b.length ≤ i + 1) (k : Nat) (hk : First b k) : b[k + 1]? ≠ some 1 := by
  have h1 : ¬ k < i := fun c => h.shut k c hk.1
  rw [List.getElem?_eq_none (by omega)]
  simp

/-- the documented key form -/
def esc1 (x : UInt8) : B := if x = 0 then [0, 255] else [x]
def esc (s : B) : B := s.flatMap esc1
theorem esc_snoc (s : B) (x : UInt8) : esc (s ++ [x]) = esc s ++ esc1 x := by simp [esc]
theorem esc_len (s : B) : (esc s).length ≤ 2 * s.length := by
  induction s with
  | nil => simp [esc]
  | cons x s ih =>
    have : esc (x :: s) = esc1 x ++ esc s := rfl
    rw [this, List.length_append, List.length_cons]
    have h1 : (esc1 x).length ≤ 2 := by unfold esc1; split <;> simp
    omega
theorem take_succ_snoc {s : B} {i : Nat} (h : i < s.length) : s.take (i + 1) = s.take i ++ [s[i]] := List.take_succ_eq_append_getElem h
theorem Inv.esc (s : B) : ∀ (n : Nat), n ≤ s.length → ∀ t : B, Inv (esc (s.take n) ++ t) (esc (s.take n)).length (s.take n)
  | 0, _, t => by simpa [Qxb6628011a.esc] using Inv.zero t
  | n + 1, hn, t => by
    have hl : n < s.length := by omega
    have ih := Inv.esc s n (by omega) (esc1 (s[n]) ++ t)
    rw [take_succ_snoc hl, esc_snoc]
    rw [List.append_assoc]
    by_cases hx : s[n] = 0
    · have e : esc1 (s[n]) = [0, 255] := by simp [esc1, hx]
      rw [e] at ih ⊢
      rw [hx, List.length_append]
      exact ih.two (by simp) (by simp)
    · have e : esc1 (s[n]) = [s[n]] := by simp [esc1, hx]
      rw [e] at ih ⊢
      rw [List.length_append]
      exact ih.one (by simp) hx
theorem Inv.esc_all (s t : B) : Inv (Qxb6628011a.esc s ++ t) (Qxb6628011a.esc s).length s := by
  have := Inv.esc s s.length (Nat.le_refl _) t
  rwa [List.take_length] at this
end Go.Proofs.Qxb6628011a
