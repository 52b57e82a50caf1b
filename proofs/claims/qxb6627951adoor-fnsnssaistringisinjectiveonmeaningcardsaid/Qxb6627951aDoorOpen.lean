import Derived.Test.Qxb6627951aDoorLaw
import Derived.Test.Qxb6627951aDoorTie
import Derived.ProofKit
import Derived.LaidMore
import Derived.OpenShut
import Derived.ShutString
import Derived.ChangeOld
import Derived.Stop.Joined
import Derived.SevenTiedAt
namespace Go.Proofs.Qxb6627951aDoor
open Go.ChangeShapes Go.WideShapes Go.ChangeAt Go.RowKit

theorem own : ownKnob Tryd.prog.godebug = none := by kernel_rfl
theorem laidOut : laidOutB Tryd.prog = true := by kernel_rfl
set_option maxRecDepth 100000 in
theorem door_met (os : Os) (args : Array Value) : laidMetH Tryd.prog Rows.fnSNSSAIStringSplitsAtMappingRow.laid ((World.doorLaid Tryd.prog 65 os).forCall (fun _ _ => 0) ⟨#[], args, []⟩).memory :=
  laidMetH_of_parts3 (fuel := 8) (laidMet_of_run' 8 (by kernel_rfl) (by kernel_rfl)) (by kernel_rfl) (by kernel_rfl)
theorem tPow : (Tryd.prog.globals[0]?).map (·.type) = some 47 := by kernel_rfl
theorem of_laid {W : World} (h : laidMetH Tryd.prog Rows.fnSNSSAIStringSplitsAtMappingRow.laid W) : Tab W := by
  rw [MakeChecks.laidMetH_plain _ _ _ (by kernel_rfl)] at h
  obtain ⟨ps, ⟨g0, t0, cs0, f0, p0, q0, hg0, ht0, hv0, hd0, ⟨g1, t1, cs1, f1, p1, q1, hg1, ht1, hv1, hd1, ⟨g2, t2, cs2, f2, p2, q2, hg2, ht2, hv2, hd2, _, _⟩, _⟩, _⟩, _, _⟩ := h
  obtain rfl := Option.some.inj (gPow.symm.trans hg2)
  obtain rfl := Option.some.inj (tPow.symm.trans ht2)
  have e : (Rows.laid_internal_strconv_uint64pow10 : DataW Unit) = Lib.tabData .u64 Lib.pow10Tab := rfl
  rw [e] at hd2
  have hv : World.var? Tryd.prog W powName = some cs2 := hv2
  unfold Tab Lib.TabIs
  rw [hv, ← Lib.cells_of_tab Tryd.underlying47 Tryd.underlying41 (by kernel_rfl) (by kernel_rfl) hd2]

/-- a slice of bytes that came in, read -/
theorem open_arg {H : Type} {enc : TypeId × Value → H} {W : World} {base b0 : Nat} {held : Bool} {r : Reach} {v : Value} {d : DataW H} {ps : List MemPlace} (hval : Value.okWide Tryd.prog W r b0 22 v)
    (hd : DataW.Trod enc Tryd.prog W base (fun _ => true) held 22 v d ps) : ∃ a n cap l, v = .slice a n cap ∧ ArgS W a n cap l := by
  obtain ⟨a, n, cap, rfl⟩ := okWide_slice Tryd.underlying22 hval
  obtain ⟨fuel, hf⟩ := hd
  rcases open_ints Tryd.underlying22 Tryd.underlying5 (by kernel_rfl) hf with ⟨hcs, _⟩ | ⟨x, l, c, zs, hcs, _, hl, hm, hz, _, hcell, hwz⟩
  · simp [Value.cells] at hcs
    obtain ⟨rfl, rfl, rfl⟩ := hcs
    exact ⟨none, 0, 0, [], rfl, rfl, by unfold maxLen; omega, .inl ⟨rfl, rfl, rfl⟩⟩
  · simp [Value.cells] at hcs
    obtain ⟨rfl, rfl, rfl⟩ := hcs
    have hz' : zs.length = cap := by simpa using hz
    refine ⟨some x, n, cap, (zs.map fun z => UInt8.ofNat z.toNat).take n, rfl, by simp; omega, by omega, .inr ⟨x, rfl, fun i hi => ?_⟩⟩
    have hi' : i < zs.length := by simp at hi; omega
    rw [hcell i hi']
    have hw := hwz (zs[i]'hi') (List.getElem_mem hi')
    simp only [Lit.wf, Bool.and_eq_true, decide_eq_true_eq] at hw
    simp only [List.getD, List.getElem?_eq_getElem hi', Option.getD_some, List.getElem_take, List.getElem_map, byteV]
    obtain ⟨h0, h1⟩ := hw
    have h0' : 0 ≤ zs[i] := h0
    have h1' : zs[i] < 256 := by
      have : zs[i] ≤ 255 := h1
      omega
    congr 2
    rw [UInt8.toNat_ofNat']
    omega
theorem open_byte {H : Type} {enc : TypeId × Value → H} {W : World} {base b0 : Nat} {spare : Nat → Bool} {held : Bool} {r : Reach} {v : Value} {d : DataW H} {ps : List MemPlace} (hval : Value.okWide Tryd.prog W r b0 5 v)
    (hd : DataW.Trod enc Tryd.prog W base spare held 5 v d ps) : ∃ x : Nat, v = .int .u8 x ∧ x < 256 := by
  obtain ⟨n, rfl, _, _, hw⟩ := open_int Tryd.underlying5 hval hd
  simp only [Lit.wf, Bool.and_eq_true, decide_eq_true_eq] at hw
  have h0 : 0 ≤ n := hw.1
  have h1 : n ≤ 255 := hw.2
  exact ⟨n.toNat, by rw [Int.toNat_of_nonneg h0], by omega⟩
theorem open_ptr8 {H : Type} {enc : TypeId × Value → H} {W : World} {base b0 : Nat} {spare : Nat → Bool} {held : Bool} {r : Reach} {v : Value} {d : DataW H} {ps : List MemPlace} (hval : Value.okWide Tryd.prog W r b0 23 v)
    (hd : DataW.Trod enc Tryd.prog W base spare held 23 v d ps) : ∃ p m, v = .pointer p ∧ PtV W p m := by
  rcases open_ptr_int Tryd.underlying23 Tryd.underlying5 (by kernel_rfl) hval hd with ⟨rfl, _, _⟩ | ⟨b, off, n, rfl, _, _, hc, hw⟩
  · exact ⟨none, none, rfl, .inl ⟨rfl, rfl⟩⟩
  · simp only [Lit.wf, Bool.and_eq_true, decide_eq_true_eq] at hw
    have h0 : 0 ≤ n := hw.1
    have h1 : n ≤ 255 := hw.2
    exact ⟨some ⟨b, off, none⟩, some n.toNat, rfl, .inr ⟨_, n.toNat, rfl, rfl, by omega, cell_lt hc, by rw [hc, Int.toNat_of_nonneg h0]⟩⟩
end Go.Proofs.Qxb6627951aDoor
