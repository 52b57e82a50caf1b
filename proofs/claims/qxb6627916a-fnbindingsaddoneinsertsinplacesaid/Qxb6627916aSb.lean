import Derived.Test.Qxb6627916aBld
import Derived.Test.Qxb6627916aShelf
import Derived.Test.Qxb6627916aLocks
namespace Go.Proofs.Qxb6627916a
open Go.RowKit Go.Sort

theorem swoZ : SWO (ltOf cmpZ) := {
  irrefl := fun x => by simp [ltOf, cmpZ_refl]
  trans x y z h1 h2 := by
    simp only [ltOf, decide_eq_true_eq] at *
    have t := cmpZ_ord.tr x y z (by omega) (by omega)
    by_cases e : cmpZ x z = 0
    · have := (t.2 e).1; omega
    · omega
  ntrans x y z h1 h2 := by
    simp only [ltOf, decide_eq_false_iff_not] at *
    have a1 := cmpZ_ord.anti x y
    have a2 := cmpZ_ord.anti y z
    have a3 := cmpZ_ord.anti x z
    have t := (cmpZ_ord.tr z y x (by omega) (by omega)).1
    omega }
theorem totZ (x y : ZB) (h1 : ltOf cmpZ x y = false) (h2 : ltOf cmpZ y x = false) : x = y := by
  simp only [ltOf, decide_eq_false_iff_not] at *
  have a1 := cmpZ_ord.anti x y
  exact cmpZ_zero (by omega)
theorem cmpLaysB (blk off size : Nat) (w : World) : CmpLays Try.prog 22 #[] enc4 4 cmpZ blk off size w :=
  fun _ _ _ _ x y => compareB_any x y _

theorem flatK_eq (ys : List ZB) : flatK enc4 4 ys.toArray = (flatZ ys).toArray := by
  apply Array.ext_getElem?
  intro j
  by_cases hj : j < ys.length * 4
  · have hg := flatZ_get ys (j / 4) (j % 4) (by omega) (by omega)
    rw [show j / 4 * 4 + j % 4 = j by omega] at hg
    rw [show (flatZ ys).toArray[j]? = (flatZ ys)[j]? from List.getElem?_toArray, hg]
    rw [Array.getElem?_eq_getElem (by rw [size_flatK]; simpa using hj), ← getElem!_pos (flatK enc4 4 ys.toArray) j (by rw [size_flatK]; simpa using hj), get_flatK _ _ _ _ (by simpa using hj)]
    have hlt : j / 4 < ys.length := by omega
    have e1 : ys.toArray[j / 4]! = ys[j / 4] := by rw [getElem!_pos _ _ (by simpa using hlt)]; simp
    rw [e1, List.getElem?_eq_getElem (by rw [enc4_length]; omega), getElem!_pos _ _ (by rw [enc4_length]; omega)]
  · rw [Array.getElem?_eq_none (by rw [size_flatK]; simpa using hj), Array.getElem?_eq_none (by rw [List.size_toArray, flatZ_length]; omega)]

theorem holdsK_of {w : World} {base blk cap : Nat} {ys : List ZB} (h : w.ownsRow base 33 4 (.slice (some ⟨blk, 0, none⟩) ys.length cap) ys.length (flatZ ys)) : HoldsK enc4 4 w blk 0 ys.toArray := by
  unfold HoldsK
  rw [flatK_eq]
  intro j hj
  rw [List.size_toArray, flatZ_length] at hj
  refine ⟨?_, by rw [Nat.zero_add]; exact h.frozenAt j⟩
  rw [Nat.zero_add, h.cellAt j hj, List.getElem?_eq_getElem (by rw [flatZ_length]; exact hj), getElem!_pos _ _ (by simpa [flatZ_length] using hj)]
  simp

theorem take_put (cur : Array Value) (cs : List Value) (h : cs.length ≤ cur.size) : (putCells id 0 cs.toArray cur).toList.take cs.length = cs := by
  apply List.ext_getElem?
  intro j
  by_cases hj : j < cs.length
  · rw [List.getElem?_take_of_lt hj]
    simp [putCells, hj, show j < cur.size by omega]
  · rw [List.getElem?_eq_none (by simp; omega), List.getElem?_eq_none (by omega)]
theorem heap_put {w : World} {g n : Nat} {e : TypeId} {fr : Nat × Nat} {cur : Array Value} {cs : Array Value} (os : Array Obj) (hb : w.heap[g]? = some (.cells cur e fr)) :
    (grow (putRow id (Sort.ahead w n) g 0 cs) os).heap[g]? = some (.cells (putCells id 0 cs cur) e fr) := by
  have hlt := (Array.getElem?_eq_some_iff.1 hb).1
  have e1 : (putRow id (Sort.ahead w n) g 0 cs).heap.size = w.heap.size := by simp [putRow, mapBlock, Sort.ahead]
  rw [heap_grow_old _ _ (by rw [e1]; exact hlt)]
  simp only [putRow, mapBlock, Sort.ahead, Array.getElem?_modify, hb]
  simp [onCells]

/-- 'slices.SortFunc(all, compareBindings)' -/
theorem sortB_any (base blk cap : Nat) (ys : List ZB) (w : World) (h : w.ownsRow base 33 4 (.slice (some ⟨blk, 0, none⟩) ys.length cap) ys.length (flatZ ys)) (hlen : ys.length ≤ 8192) :
    Calls Try.prog 21 #[.slice (some ⟨blk, 0, none⟩) ys.length cap, .func (.func 22) #[] #[]] w fun e w' => e = .returned (.tuple #[]) ∧ w'.ownsRow base 33 4 (.slice (some ⟨blk, 0, none⟩) ys.length cap) ys.length (flatZ (ys.mergeSort leZ)) ∧ w.grownBy w' (some blk) := by
  have eg : ∀ args w, (callFunc 22 args).run Try.prog w = .ok (.enter 22 args) w := enters_of Try.func22 (by kernel_rfl) rfl
  have hlt : blk < w.heap.size := (h.lt blk rfl).2
  have hcon := AnyQ.slices_SortFunc_total Try.sortB 4 Try.isAgg33 Try.sizeOf33 enc4 (fun _ => rfl) (fun x v hv => by simp [enc4] at hv; rcases hv with rfl | rfl | rfl | rfl <;> rfl) cmpZ swoZ 22 #[] blk 0 cap ys.toArray w eg (cmpLaysB blk 0 ys.toArray.size w) (holdsK_of h) hlt (by simp; omega) totZ
  have hsz : ys.toArray.size = ys.length := List.size_toArray
  rw [hsz] at hcon
  refine Calls.mono (show Calls Try.prog 21 _ _ _ from hcon) ?_
  rintro e w' ⟨rfl, n, os, rfl⟩
  have hms : (ys.toArray.toList.mergeSort fun x y => !ltOf cmpZ y x) = ys.mergeSort leZ := rfl
  rw [hms]
  unfold sortWorldK putRowK
  rw [flatK_eq]
  obtain ⟨hl, hc⟩ := h
  rcases hc with ⟨hc, _⟩ | ⟨g, cap', cur, hv, hb, hh, h1, h2, h3, h4⟩
  · cases hc
  · cases hv
    have hlm : (ys.mergeSort leZ).length = ys.length := List.length_mergeSort _
    refine ⟨rfl, ⟨by rw [flatZ_length, hlm], .inr ⟨blk, cap, _, rfl, hb, heap_put os hh, h1, h2, by simp [putCells, h3], ?_⟩⟩, ⟨rfl, rfl, rfl, by simp [putRow, mapBlock, Sort.ahead], fun k hk hne => ?_⟩⟩
    · have := take_put cur (flatZ (ys.mergeSort leZ)) (by rw [flatZ_length, hlm, h3]; omega)
      rw [flatZ_length, hlm] at this
      exact this
    · have e1 : (putRow id (Sort.ahead w n) blk 0 (flatZ (ys.mergeSort leZ)).toArray).heap.size = w.heap.size := by simp [putRow, mapBlock, Sort.ahead]
      rw [heap_grow_old _ _ (by rw [e1]; exact hk)]
      simp only [putRow, mapBlock, Sort.ahead, Array.getElem?_modify]
      rw [if_neg (fun e => hne (by rw [e]))]

theorem sortNil_any (fv : Value) (w : World) : Calls Try.prog 21 #[.slice none 0 0, fv] w fun e w' => e = .returned (.tuple #[]) ∧ w' = w :=
  AnyF.slices_SortFunc_none Try.sortB none 0 fv w
end Go.Proofs.Qxb6627916a
