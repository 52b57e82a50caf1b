import Derived.Test.Qxb6627977aLed
import Derived.Lib.LaidTab
namespace Go.Proofs.Qxb6627977a
open Go.RowKit Go.Sort

theorem byte_of_lits {d : Nat} {cs : List Value} {l : List Lit} (h : Try.prog.keyLits (d + 1) 5 cs = some l) : ∃ b : UInt8, cs = [byteV b] := by
  unfold Program.keyLits at h
  rw [Try.underlying5] at h
  match cs, h with
  | [.int q n], h =>
    simp only at h
    split at h
    · rename_i hq
      obtain ⟨rfl, hw⟩ := hq
      simp only [Lit.wf, Bool.and_eq_true, decide_eq_true_eq] at hw
      have h0 : 0 ≤ n := hw.1
      have h1 : n ≤ 255 := hw.2
      refine ⟨UInt8.ofNat n.toNat, ?_⟩
      unfold byteV
      rw [UInt8.toNat_ofNat']
      congr 2
      omega
    · cases h
/-- what a key of the maps is -/
theorem inv36 {v : Value} {kl : Lit} (h : keyOf Try.prog 36 v = some kl) : ∃ k : Key, k.length = 32 ∧ v = .agg (keyA k) ∧ kl = .string k := by
  have h0 := h
  unfold keyOf at h
  rw [Try.underlying36] at h
  simp only at h
  split at h
  · rename_i hf
    rw [Bool.and_eq_true] at hf
    obtain ⟨L, hL, _⟩ := Option.map_eq_some_iff.1 h
    have c36 : Try.prog.cellsOf 36 = 32 := by kernel_rfl
    have c5 : Try.prog.cellsOf 5 = 1 := by kernel_rfl
    match v, hf.2, hL, h0 with
    | .agg cs, hfm, hL, h0 =>
      have hsz : cs.size = 32 := by simpa [Value.formed, Try.underlying36, c36] using hfm
      have hts : Try.prog.types.size = (Try.prog.types.size - 1) + 1 := by kernel_rfl
      rw [hts] at hL
      unfold Program.keyLits at hL
      have hc : (Value.agg cs).cells.toList = cs.toList := rfl
      simp only [Try.underlying36, hc, c36, c5, Nat.mul_one, Array.length_toList, hsz, if_true] at hL
      obtain ⟨R, hR, _⟩ := Option.map_eq_some_iff.1 hL
      have hb : ∀ i (hi : i < cs.size), ∃ b : UInt8, cs[i] = byteV b := fun i hi => by
        obtain ⟨r, _, hr⟩ := Lib.mapM_at hR i i (by rw [List.getElem?_range (by omega)])
        obtain ⟨b, e⟩ := byte_of_lits hr
        refine ⟨b, ?_⟩
        have e2 : (List.take 1 (List.drop i cs.toList))[0]? = some (byteV b) := by rw [e]; rfl
        rw [List.getElem?_take, if_pos (by omega), List.getElem?_drop] at e2
        simpa [hi] using e2
      obtain ⟨k, hk, hv⟩ : ∃ k : Key, k.length = 32 ∧ cs = keyA k := by
        refine ⟨(List.range 32).map fun i => if hi : i < cs.size then (hb i hi).choose else 0, by simp, ?_⟩
        apply Array.ext_getElem?
        intro i
        by_cases hi : i < cs.size
        · rw [Array.getElem?_eq_getElem hi, (hb i hi).choose_spec]
          have hi' : i < 32 := by omega
          simp [keyA, kc, hi', hi]
        · rw [Array.getElem?_eq_none (by omega), Array.getElem?_eq_none (by rw [keyA_size]; simp; omega)]
      subst hv
      refine ⟨k, hk, rfl, ?_⟩
      rw [keyOf36 k hk] at h0
      exact (Option.some.inj h0).symm
  · cases h
end Go.Proofs.Qxb6627977a
