import Derived.Test.Qxb6627916aSize
import Derived.Test.Qxb6627916aLeaf2
import Derived.ProofKit
import Derived.OpenShut
import Derived.ShutString
import Derived.ChangeOld
import Derived.Deep.Slices
import Derived.Lib.SmallJoins
namespace Go.Proofs.Qxb6627916a
open Go.RowKit Go.ChangeShapes Go.WideShapes Go.ChangeAt Go.Deep Go.Joins

theorem Try.cells35 : Try.prog.cellsOf 35 = 4 := by kernel_rfl
theorem Try.cells9 : Try.prog.cellsOf 9 = 1 := by kernel_rfl

theorem list4 {α : Type} : ∀ {l : List α}, l.length = 4 → ∃ a b c d, l = [a, b, c, d]
  | [a, b, c, d], _ => ⟨a, b, c, d, rfl⟩
section
variable {H : Type} {enc : TypeId × Value → H} {W : World}

/-- four cells that read as a binding ARE a binding's -/
theorem open_z {fuel : Nat} {cs : List Value} {x : DataW H × List MemPlace} (h : DataW.trod enc Try.prog W 0 (fun _ => true) true fuel 35 cs = some x) :
    ∃ z : ZB, okZ z ∧ cs = [.string z.1, .string z.2.1, .string z.2.2.1, .string z.2.2.2] := by
  obtain ⟨y0, y1, y2, y3, n, _, hl, h0, h1, h2, h3⟩ := trod_struct4 Try.underlying35 h
  rw [Try.cells35] at hl
  obtain ⟨c0, c1, c2, c3, rfl⟩ := list4 hl
  rw [Try.cells9] at h0 h1 h2 h3
  obtain ⟨s0, e0, _, w0⟩ := DataW.trod_string Try.underlying9 h0
  obtain ⟨s1, e1, _, w1⟩ := DataW.trod_string Try.underlying9 h1
  obtain ⟨s2, e2, _, w2⟩ := DataW.trod_string Try.underlying9 h2
  obtain ⟨s3, e3, _, w3⟩ := DataW.trod_string Try.underlying9 h3
  simp at e0 e1 e2 e3
  exact ⟨(s0, s1, s2, s3), ⟨w0, w1, w2, w3⟩, by rw [e0, e1, e2, e3]⟩

theorem open_zs {fuel : Nat} {a : Option Addr} {len cap : Nat} {x : DataW H × List MemPlace} (h : DataW.trod enc Try.prog W 0 (fun _ => true) true fuel 22 [.slice a len cap] = some x) :
    (a = none ∧ len = 0 ∧ cap = 0) ∨ (∃ ad, a = some ad ∧ len = 0) ∨
    ∃ (b off : Nat) (l : List ZB), a = some ⟨b, off, none⟩ ∧ len = l.length ∧ len ≤ maxLen ∧ RowZ W b off l ∧ ∀ z ∈ l, okZ z := by
  rcases open_slice Try.underlying22 h with ⟨hcs, _⟩ | ⟨ad, len', cap', m, n, D, Pl, hcs, _, hl, hm, hmm, _, hel⟩
  · simp at hcs
    exact .inl hcs
  simp at hcs
  obtain ⟨rfl, rfl, rfl⟩ := hcs
  by_cases h0 : len = 0
  · exact .inr (.inl ⟨ad, rfl, h0⟩)
  refine .inr (.inr ?_)
  simp only [if_true] at hmm
  subst hmm
  rw [Try.cells35] at hel
  have hall : ∀ i, i < len → ∃ z : ZB, okZ z ∧ ∀ j, j < 4 → W.cell? ((ad.add (i * 4)).add j) = ([.string z.1, .string z.2.1, .string z.2.2.1, .string z.2.2.2] : List Value)[j]? := fun i hi => by
    obtain ⟨cs', hc, ht⟩ := hel i (by omega)
    obtain ⟨z, hz, rfl⟩ := open_z ht
    have := World.cells?_some hc
    exact ⟨z, hz, fun j hj => this.2.2 j hj⟩
  obtain ⟨f, hf⟩ := choose_lt hall
  obtain ⟨b, off, spot⟩ := ad
  have hspot : spot = none := by
    have h1 := (hf 0 (by omega)).2 0 (by omega)
    have := World.cell?_spot h1
    simpa [Addr.add] using this
  subst hspot
  refine ⟨b, off, (List.range len).map f, rfl, by simp, by omega, fun i hi => ?_, fun z hz => ?_⟩
  · have hi' : i < len := by simpa using hi
    have g := fun j hj => (hf i hi').2 j hj
    have e : ∀ j, ((⟨b, off, none⟩ : Addr).add (i * 4)).add j = ⟨b, off + i * 4 + j, none⟩ := fun j => by rw [add_plain, add_plain]
    simp only [e] at g
    have hget : ((List.range len).map f)[i] = f i := by simp
    rw [hget]
    exact ⟨g 0 (by omega), g 1 (by omega), g 2 (by omega), g 3 (by omega)⟩
  · simp at hz
    obtain ⟨i, hi, rfl⟩ := hz
    exact (hf i hi).1
end
end Go.Proofs.Qxb6627916a
