import Derived.Test.Qxb6628011aCut
import Derived.ProofKit
import Derived.OpenShut
import Derived.ShutString
import Derived.ChangeOld
namespace Go.Proofs.Qxb6628011a
open Go.ChangeShapes Go.WideShapes Go.ChangeAt Go.RowKit

theorem own : ownKnob Try.prog.godebug = none := by kernel_rfl
theorem laidOut : laidOutB Try.prog = true := by kernel_rfl
/-- a slice of integers that came in -/
def IsRow (k : IntKind) (w : World) (a : Option Addr) (len cap : Nat) (zs : List Int) : Prop :=
  (a = none ∧ len = 0 ∧ cap = 0 ∧ zs = []) ∨
  ∃ x, a = some x ∧ len ≤ cap ∧ cap ≤ maxLen ∧ zs.length = cap ∧ (∀ i, i < zs.length → w.cell? (x.add i) = some (.int k (zs.getD i 0))) ∧ ∀ n ∈ zs, (Lit.int k n).wf = true
theorem open_row {w : World} {a : Option Addr} {len cap : Nat} {zs : List Int} (h : IsRow .u8 w a len cap zs) :
    (a = none ∧ len = 0 ∧ cap = 0) ∨ ∃ ad l, a = some ad ∧ len = List.length l ∧ len ≤ cap ∧ len ≤ maxLen ∧ SlB w (some ad) l := by
  rcases h with ⟨h1, h2, h3, _⟩ | ⟨x, h1, h2, h3, h4, h5, h6⟩
  · exact .inl ⟨h1, h2, h3⟩
  · refine .inr ⟨x, (zs.map fun z => UInt8.ofNat z.toNat).take len, h1, by simp; omega, h2, by omega, fun h0 => ?_⟩
    have hz : 0 < zs.length := by simp at h0; omega
    have c0 := h5 0 hz
    obtain ⟨g, o, sp⟩ := x
    have hsp : sp = none := by
      have := World.cell?_spot c0
      simpa [Addr.add] using this
    subst hsp
    refine ⟨g, o, rfl, World.block_lt_of_cell? w ⟨g, o + 0, none⟩ (by rw [← Addr.add_mid]; exact c0), fun i hi => ?_⟩
    have hi' : i < zs.length := by simp at hi; omega
    rw [← Addr.add_mid, h5 i hi']
    have hw := h6 (zs[i]'hi') (List.getElem_mem hi')
    simp only [Lit.wf, Bool.and_eq_true, decide_eq_true_eq] at hw
    simp only [List.getD, List.getElem?_eq_getElem hi', Option.getD_some, List.getElem_take, List.getElem_map, byteV]
    have h0' : 0 ≤ zs[i] := hw.1
    have h1' : zs[i] ≤ 255 := hw.2
    congr 2
    rw [UInt8.toNat_ofNat']
    omega
end Go.Proofs.Qxb6628011a
