import Derived.Test.Qxb6627916aLaw2
import Derived.Test.Qxb6627916aOpen
import Derived.WalkKit
import Derived.ProofKit
import Derived.OpenShut
import Derived.ShutString
import Derived.ChangeOld
import Derived.Below
namespace Go.Proofs.Qxb6627916a
open Go.ChangeShapes Go.WideShapes Go.ChangeAt Go.RowKit

theorem own2 : ownKnob Try.prog.godebug = none := by kernel_rfl
theorem laidOut2 : laidOutB Try.prog = true := by kernel_rfl

/-- the walk, whatever the slice and the binding -/
theorem walk2 {H : Type} {enc : TypeId × Value → H} {W : World} {fuel : Nat} {a : Option Addr} {len cap : Nat} {d : DataW H × List MemPlace} (h : DataW.trod enc Try.prog W 0 (fun _ => true) true fuel 22 [.slice a len cap] = some d) (x : ZB) (hx : okZ x) :
    Calls Try.prog 4 #[.slice a len cap, aggZ x] W fun e w' => e = .returned (.bool true) ∧ Below W.heap.size W w' := by
  rcases open_zs h with ⟨rfl, rfl, rfl⟩ | ⟨ad, rfl, rfl⟩ | ⟨b, off, l, rfl, hn, hm, hr, hok⟩
  · exact law2_empty none 0 x W hx (fun _ => rfl)
  · exact law2_empty (some ad) cap x W hx (fun e => by cases e)
  · by_cases h0 : len = 0
    · subst h0
      exact law2_empty _ cap x W hx (fun e => by cases e)
    · have hb : b < W.heap.size := World.block_lt_of_cell? W _ (hr 0 (by omega)).1
      exact law2_any b off len cap l x W hn hr hok hx hm hb

set_option maxRecDepth 100000 in
theorem lifted2 (os : Os) (started : os.Started) (H : Type) (enc : TypeId × Value → H) :
    ReturnsInHanded {} Try.checked os 4 .any (Rows.fnBindingsAddOneInsertsInPlaceSpec.pre6 enc Try.prog Try.f4 Rows.fnBindingsAddOneInsertsInPlaceRow.domain false) (Rows.fnBindingsAddOneInsertsInPlaceSpec.post enc Try.prog Try.f4 false true false false) := by
  refine returnsInHanded_of_change (C := Try.checked) own2 started (by kernel_rfl) Try.func4
    (ChangeSpec.witness6 (enc := enc) (C := Try.checked) false ⟨#[], #[.slice none 0 0, .agg #[.string ByteArray.empty, .string ByteArray.empty, .string ByteArray.empty, .string ByteArray.empty]], []⟩ 8 (by kernel_rfl) (by kernel_rfl) (by kernel_rfl) (by kernel_rfl)) ?_
  intro W base args ds gs before hval0 hW hcnd _
  have hval : ∀ (j : Nat) t v, Try.f4.params[j]? = some t → args[j]? = some v → Value.okWide Try.prog W .any base t v := hval0
  have hW' := hW
  obtain ⟨p, q, hA0, hV, rfl, hfz, hnd⟩ := hW
  have hA : DataW.TrodAll enc Try.prog W 0 (fun _ => true) true Try.f4.params.toList args.toList ds p := hA0
  rw [Try.params4] at hA hval
  obtain ⟨v0, vs0, d0, ds0, p0, q0, hargs, rfl, rfl, h0, r0⟩ := trodAll_cons hA
  obtain ⟨v1, vs1, d1, ds1, p1, q1, rfl, rfl, rfl, h1, r1⟩ := trodAll_cons r0
  obtain ⟨rfl, rfl, rfl⟩ := trodAll_nil r1
  obtain rfl : args = #[v0, v1] := by cases args; simp_all
  obtain ⟨rfl, rfl⟩ := trodVars_none hV
  obtain ⟨a0, len0, cap0, rfl⟩ := okWide_slice Try.underlying22 (hval 0 22 v0 rfl rfl)
  obtain ⟨cs1, rfl, hsz1⟩ := okWide_struct Try.underlying35 (hval 1 35 v1 rfl rfl)
  have k0 := h0
  have k1 := h1
  have lt0 : ∀ x ∈ p0, x.block < W.heap.size := by obtain ⟨m, hm⟩ := k0; exact DataW.trod_lt m _ _ _ hm
  have lt1 : ∀ x ∈ p1, x.block < W.heap.size := by obtain ⟨m, hm⟩ := k1; exact DataW.trod_lt m _ _ _ hm
  obtain ⟨fuel, hf⟩ := h0
  obtain ⟨fuel1, hf1⟩ := h1
  obtain ⟨z, hz, hcs⟩ := open_z hf1
  obtain rfl : cs1 = #[.string z.1, .string z.2.1, .string z.2.2.1, .string z.2.2.2] := by
    have e : cs1.toList = [.string z.1, .string z.2.1, .string z.2.2.1, .string z.2.2.2] := by simpa [Value.cells] using hcs
    rw [← Array.toArray_toList (xs := cs1), e]
  clear hA0 hval0
  refine (walk2 hf z hz).mono fun e W' ⟨he, bel⟩ => ?_
  subst he
  exact ⟨_, rfl, _, _, _, [], _, [], hW', trodAll_mk1 (shut_bool Try.underlying4 _), (trodAll_cons_mk (Below.trod laidOut2 (by kernel_rfl) (of_decide_eq_true (by kernel_rfl)) k0 bel lt0) (trodAll_cons_mk (Below.trod laidOut2 (by kernel_rfl) (of_decide_eq_true (by kernel_rfl)) k1 bel lt1) trodAll_mk0)), rfl, bel.frame _, fun h => by cases h⟩

theorem over2 : Rows.fnBindingsAddOneInsertsInPlaceRow.holds Try.pinned (OpenSpec.ofChange Rows.fnBindingsAddOneInsertsInPlaceSpec) :=
  OpenClaim.holds_of_wide 4 Try.f4 rfl rfl rfl rfl rfl rfl rfl ⟨rfl, rfl, rfl, rfl, rfl⟩ rfl rfl rfl rfl rfl (by kernel_rfl) Try.func4 (by kernel_rfl)
    (of_decide_eq_true (by kernel_rfl)) (by unfold Func.isWrapper; first | (rw [if_pos (by decide +kernel)]; kernel_rfl) | (rw [if_neg (by decide +kernel)]; exact ⟨rfl, rfl⟩))
    (fun os started H enc _ => lifted2 os started H enc)

theorem addOne_proved : Rows.FnBindingsAddOneInsertsInPlaceSaid := over2
#print axioms addOne_proved
end Go.Proofs.Qxb6627916a
