import Derived.Lib.HexFns
import Derived.Lib.ItoaNum
import Derived.Lib.ItoaMem
namespace Go.Proofs.Qxb6627951aDoor
open Go.Lib

def dec (b : Nat) : List UInt8 := if 100 ≤ b then [UInt8.ofNat (48 + b / 100), UInt8.ofNat (48 + b / 10 % 10), UInt8.ofNat (48 + b % 10)] else if 10 ≤ b then [UInt8.ofNat (48 + b / 10), UInt8.ofNat (48 + b % 10)] else [UInt8.ofNat (48 + b)]
def decLen (b : Nat) : Nat := if 100 ≤ b then 3 else if 10 ≤ b then 2 else 1
def part (a : Nat) (l : List UInt8) : List UInt8 := dec a ++ if l.length = 0 then [] else 45 :: Hx.encode l
def txt (a : Nat) (l : List UInt8) (m : Option Nat) (k : List UInt8) : List UInt8 := part a l ++ match m with | none => [] | some b => 58 :: part b k
def partLen (a : Nat) (l : List UInt8) : Nat := decLen a + if l.length = 0 then 0 else 1 + 2 * l.length
def txtLen (a : Nat) (l : List UInt8) (m : Option Nat) (k : List UInt8) : Nat := partLen a l + match m with | none => 0 | some b => 1 + partLen b k
def same (a : Nat) (l : List UInt8) (m : Option Nat) (k : List UInt8) (a' : Nat) (l' : List UInt8) (m' : Option Nat) (k' : List UInt8) : Prop :=
  a = a' ∧ l = l' ∧ match m, m' with | none, none => True | some b, some b' => b = b' ∧ k = k' | _, _ => False

theorem itoa_dec (b : Nat) (h : b < 256) : Lib.itoa (b : Int) = dec b := by
  rw [itoa_nonneg]
  unfold dec
  split
  · rw [decDigits, dif_neg (by omega), decDigits_two (by omega) (by omega)]
    simp [Nat.div_div_eq_div_mul]
  · split
    · rw [decDigits_two (by omega) (by omega)]
    · rw [decDigits_one (by omega)]

theorem dec_length (b : Nat) : (dec b).length = decLen b := by
  unfold dec decLen
  split
  · rfl
  · split <;> rfl
theorem part_length (a : Nat) (l : List UInt8) : (part a l).length = partLen a l := by
  unfold part partLen; rw [List.length_append, dec_length]; split <;> simp [Hx.encode_length]; omega
theorem txt_length (a : Nat) (l : List UInt8) (m : Option Nat) (k : List UInt8) : (txt a l m k).length = txtLen a l m k := by
  unfold txt txtLen; rw [List.length_append, part_length]; cases m <;> simp [part_length]; omega

theorem split_at {c : UInt8} : ∀ {xs ys xs' ys' : List UInt8}, c ∉ xs → c ∉ xs' → xs ++ c :: ys = xs' ++ c :: ys' → xs = xs' ∧ ys = ys'
  | [], ys, [], ys', _, _, h => by simpa using h
  | [], ys, x :: xs', ys', _, h2, h => by simp at h; simp [h.1] at h2
  | x :: xs, ys, [], ys', h1, _, h => by simp at h; simp [h.1] at h1
  | x :: xs, ys, x' :: xs', ys', h1, h2, h => by
    simp only [List.cons_append, List.cons.injEq] at h
    obtain ⟨rfl, h⟩ := h
    simp only [List.mem_cons, not_or] at h1 h2
    have := split_at h1.2 h2.2 h
    exact ⟨by rw [this.1], this.2⟩

def val (l : List UInt8) : Nat := l.foldl (fun n d => n * 10 + (d.toNat - 48)) 0
theorem val_dec : ∀ b, b < 256 → val (dec b) = b := by decide +kernel
theorem dec_digit : ∀ b, b < 256 → 45 ∉ dec b ∧ 58 ∉ dec b := by decide +kernel
theorem digit_inj : ∀ n, n < 16 → ∀ m, m < 16 → Hx.digit n = Hx.digit m → n = m := by decide +kernel
theorem digit_colon : ∀ n, n < 16 → Hx.digit n ≠ 58 := by decide +kernel

theorem encode_inj : ∀ {l l' : List UInt8}, Hx.encode l = Hx.encode l' → l = l'
  | [], [], _ => rfl
  | [], b :: l', h => by rw [Hx.encode_cons] at h; simp [Hx.encode] at h
  | b :: l, [], h => by rw [Hx.encode_cons] at h; simp [Hx.encode] at h
  | b :: l, b' :: l', h => by
    rw [Hx.encode_cons, Hx.encode_cons] at h
    simp only [List.cons.injEq] at h
    obtain ⟨h1, h2, h3⟩ := h
    have e0 := b.toNat_lt
    have e0' := b'.toNat_lt
    have e1 := digit_inj _ (by omega) _ (by omega) h1
    have e2 := digit_inj _ (by omega) _ (by omega) h2
    have : b.toNat = b'.toNat := by omega
    rw [UInt8.toNat_inj.1 this, encode_inj h3]
theorem encode_colon : ∀ l : List UInt8, 58 ∉ Hx.encode l
  | [] => by simp [Hx.encode]
  | b :: l => by
    have e0 := b.toNat_lt
    rw [Hx.encode_cons]
    simp only [List.mem_cons, not_or]
    exact ⟨fun h => digit_colon _ (by omega) h.symm, fun h => digit_colon _ (by omega) h.symm, encode_colon l⟩
theorem part_colon (a : Nat) (ha : a < 256) (l : List UInt8) : 58 ∉ part a l := by
  unfold part
  rw [List.mem_append, not_or]
  refine ⟨(dec_digit a ha).2, ?_⟩
  split
  · simp
  · simp only [List.mem_cons, not_or]
    exact ⟨by decide, encode_colon l⟩
theorem dec_inj {a a' : Nat} (ha : a < 256) (ha' : a' < 256) (h : dec a = dec a') : a = a' := by
  rw [← val_dec a ha, ← val_dec a' ha', h]
theorem part_inj {a a' : Nat} {l l' : List UInt8} (ha : a < 256) (ha' : a' < 256) (h : part a l = part a' l') : a = a' ∧ l = l' := by
  unfold part at h
  by_cases h1 : l.length = 0 <;> by_cases h2 : l'.length = 0 <;> simp only [h1, h2, if_true, if_false, List.append_nil] at h
  · exact ⟨dec_inj ha ha' h, by rw [List.length_eq_zero_iff.1 h1, List.length_eq_zero_iff.1 h2]⟩
  · exact absurd (h ▸ (by simp : (45 : UInt8) ∈ dec a' ++ 45 :: Hx.encode l')) (dec_digit a ha).1
  · exact absurd (h ▸ (by simp : (45 : UInt8) ∈ dec a ++ 45 :: Hx.encode l)) (dec_digit a' ha').1
  · obtain ⟨e1, e2⟩ := split_at (dec_digit a ha).1 (dec_digit a' ha').1 h
    exact ⟨dec_inj ha ha' e1, encode_inj e2⟩
theorem txt_inj {a a' : Nat} {l l' : List UInt8} {m m' : Option Nat} {k k' : List UInt8} (ha : a < 256) (ha' : a' < 256) (hm : ∀ b, m = some b → b < 256) (hm' : ∀ b, m' = some b → b < 256) :
    txt a l m k = txt a' l' m' k' ↔ same a l m k a' l' m' k' := by
  unfold txt same
  cases m with
  | none => cases m' with
    | none =>
      simp only [List.append_nil, and_true]
      exact ⟨part_inj ha ha', fun ⟨h1, h2⟩ => by rw [h1, h2]⟩
    | some b' =>
      simp only [List.append_nil, and_false, iff_false]
      intro h
      exact part_colon a ha l (h ▸ by simp)
  | some b => cases m' with
    | none =>
      simp only [List.append_nil, and_false, iff_false]
      intro h
      exact part_colon a' ha' l' (h ▸ by simp)
    | some b' =>
      simp only
      constructor
      · intro h
        obtain ⟨e1, e2⟩ := split_at (part_colon a ha l) (part_colon a' ha' l') h
        obtain ⟨rfl, rfl⟩ := part_inj ha ha' e1
        obtain ⟨rfl, rfl⟩ := part_inj (hm b rfl) (hm' b' rfl) e2
        exact ⟨rfl, rfl, rfl, rfl⟩
      · rintro ⟨rfl, rfl, rfl, rfl⟩; rfl
end Go.Proofs.Qxb6627951aDoor
