import Derived.Test.Qxb6627977aBase
namespace Go.Proofs.Qxb6627977a
open Go.RowKit Go.Sort

def modelR (b o : List AR) (k : Key) : AR := match find o k with | some x => x | none => (find b k).getD zeroR
theorem modelR_acct (b o : List AR) (k : Key) : (modelR b o k).2 = model b o k := by
  unfold modelR model
  cases find o k with
  | some x => rfl
  | none => cases find b k <;> rfl
theorem find_mem {l : List AR} {k : Key} {x : AR} (h : find l k = some x) : x ∈ l := List.mem_of_find?_eq_some h
theorem zeroR_len : zeroR.1.length = 32 := rfl
theorem modelR_len {b o : List AR} (hb : KOk b) (ho : KOk o) (k : Key) : (modelR b o k).1.length = 32 := by
  unfold modelR
  cases h : find o k with
  | some x => exact ho x (find_mem h)
  | none => cases h' : find b k with
    | some y => exact hb y (find_mem h')
    | none => exact zeroR_len
theorem tup_find (l : List AR) (k : Key) : ∃ c, tup (find l k) = .tuple #[.agg (recA ((find l k).getD zeroR)), .bool c] ∧ (c = true ↔ (find l k).isSome = true) := by
  cases find l k with
  | some x => exact ⟨true, rfl, by simp⟩
  | none => exact ⟨false, rfl, by simp⟩

def Mx (w wr : World) (g1 : Nat) (k : Key) : Prop := g1 = w.heap.size ∧ Gr w wr ∧ wr.rangeAt g1 0 (kc k) ∧ wr.heap[g1 + 1]? = some (.cells (recA zeroR) 39 (0, 0))
theorem Mx.of_gr {w wr v : World} {g1 : Nat} {k : Key} (h : Mx w wr g1 k) (hG : Gr wr v) : Mx w v g1 k := by
  have hlt := (Array.getElem?_eq_some_iff.1 h.2.2.2).1
  exact ⟨h.1, h.2.1.trans hG, rangeAt_below h.2.2.1 hG.below (by omega), (hG.below.block _ hlt).trans h.2.2.2⟩
theorem Mx.grown {w wr : World} {g1 : Nat} {k : Key} (h : Mx w wr g1 k) (n : Nat) (os : Array Obj) : Mx w (grow (wr.drewN n) os) g1 k := h.of_gr ⟨n, os, rfl⟩
theorem Mx.alloc {w wr : World} {g1 : Nat} {k : Key} (h : Mx w wr g1 k) (o : Obj) : Mx w (wr.alloc o) g1 k := h.of_gr ((Gr.refl wr).alloc o)

set_option maxHeartbeats 2000000 in
set_option maxRecDepth 100000 in
theorem model_any (ab ao : Option Addr) (b o : List AR) (cb co : Nat) (k : Key) (w : World) (hk : k.length = 32) (hb : KOk b) (ho : KOk o) (hsb : SlA w ab b) (hso : SlA w ao o) (hnb : b.length ≤ 1048576) (hno : o.length ≤ 1048576) (hS : Sorted b) :
    Calls Try.prog 10 #[.slice ab b.length cb, .slice ao o.length co, .agg (keyA k)] w fun e w' => e = .returned (.agg (recA (modelR b o k))) ∧ ∃ q os, w' = grow (w.drewN q) os := by
  obtain ⟨nb, hnb'⟩ : ∃ n, n = b.length := ⟨_, rfl⟩
  obtain ⟨no, hno'⟩ : ∃ n, n = o.length := ⟨_, rfl⟩
  obtain ⟨A, hA⟩ : ∃ A, A = keyA k := ⟨_, rfl⟩
  have HC1 : Hid (∀ W, Gr w W → Calls Try.prog 18 #[.slice ao no co, .agg (kc k).toArray] W fun e w' => e = .returned (tup (find o k)) ∧ ∃ q os, w' = grow (W.drewN q) os) := fun W hW => by
    rw [hno']; exact overFind_any ao o co k W hk ho (hso.below hW.below (Nat.le_refl _)) hno
  have HC2 : Hid (∀ W, Gr w W → Calls Try.prog 15 #[.slice ab nb cb, .agg (kc k).toArray] W fun e w' => e = .returned (tup (find b k)) ∧ ∃ q os, w' = grow (W.drewN q) os) := fun W hW => by
    rw [hnb']; exact baseFind_any ab b cb k W hk hb (hsb.below hW.below (Nat.le_refl _)) hnb hS
  rw [← hnb', ← hno', ← hA]
  have HK := hide hk
  have HA := hide hA
  have HB := hide hb
  have HO := hide ho
  clear hk hA hsb hso hnb hno hnb' hno' hb ho hS
  obtain ⟨x, hx⟩ : ∃ x, x = (find o k).getD zeroR := ⟨_, rfl⟩
  obtain ⟨y, hy⟩ : ∃ y, y = (find b k).getD zeroR := ⟨_, rfl⟩
  obtain ⟨c, hc, hcs⟩ := tup_find o k
  obtain ⟨d, hd, hds⟩ := tup_find b k
  rw [← hx] at hc
  rw [← hy] at hd
  rw [hc] at HC1
  rw [hd] at HC2
  have hxl : Hid (x.1.length = 32) := by
    show x.1.length = 32
    rw [hx]
    cases h : find o k with
    | some z => exact HO.out z (find_mem h)
    | none => exact zeroR_len
  have hyl : Hid (y.1.length = 32) := by
    show y.1.length = 32
    rw [hy]
    cases h : find b k with
    | some z => exact HB.out z (find_mem h)
    | none => exact zeroR_len
  have hM : Hid (modelR b o k = if c = true then x else y) := by
    show modelR b o k = _
    unfold modelR
    rw [hx, hy]
    cases h : find o k with
    | some z => rw [h] at hcs; simp at hcs; simp [hcs]
    | none => rw [h] at hcs; simp at hcs; simp [hcs]
  clear hx hy hc hd hcs hds
  obtain ⟨M, hMM⟩ : ∃ M, M = recA (modelR b o k) := ⟨_, rfl⟩
  rw [← hMM]
  have HMM := hide hMM
  clear hMM
  go_enter Try.func10, Try.ntmps10
  go_wp2_with (first
    | (refine wpList_load_mid rfl 31 (.tmp 5) rfl w.heap.size 0 rfl (kc k) _ (by rw [HA.out]; exact range_alloc (range_new w (kc k) 31) _) Try.underlying31 rfl (by rw [kc_length, HK.out]; exact info31) ?_))
  rw [recA_zero]
  obtain ⟨W, hW⟩ : ∃ W, W = (w.alloc (.cells A 31)).alloc (.cells (recA zeroR) 39) := ⟨_, rfl⟩
  rw [← hW]
  obtain ⟨g1, hg1⟩ : ∃ g1, g1 = w.heap.size := ⟨_, rfl⟩
  rw [← hg1]
  have hmx : Hid (Mx w W g1 k) := by
    show Mx w W g1 k
    have hgr : Gr w W := by rw [hW]; exact ((Gr.refl w).alloc _).alloc _
    refine ⟨hg1, hgr, ?_, ?_⟩
    · rw [hW, HA.out, hg1]
      exact range_alloc (range_new w (kc k) 31) _
    · have := heap_alloc_last (w.alloc (.cells A 31)) (.cells (recA zeroR) 39)
      rw [show (w.alloc (.cells A 31)).heap.size = w.heap.size + 1 by simp] at this
      rw [hW, hg1, this]
  clear hW hg1
  refine (HC1.out W hmx.out.2.1).mono ?_
  rintro e w1 ⟨rfl, q1, os1, hw1⟩
  have hm1 : Hid (Mx w w1 g1 k) := by show Mx w w1 g1 k; rw [hw1]; exact hmx.out.grown _ _
  clear hw1 hmx
  cases c
  · go_wp2_with (first
      | (refine wpList_store_row rfl 39 (.tmp 7) (.tmp 15) rfl w1.heap.size (recA x) rfl rfl 39 _ (heap_alloc_last w1 _) (by rw [size_recA hxl.out]; exact info39) (by rw [size_recA hxl.out]; rfl) (one_recA _) ?_
         rw [World.setRow_alloc_new])
      | (refine wpList_load_mid rfl 31 (.tmp 5) rfl g1 0 rfl (kc k) _ (range_alloc hm1.out.2.2.1 _) Try.underlying31 rfl (by rw [kc_length, HK.out]; exact info31) ?_))
    have hm2 : Hid (Mx w (w1.alloc (.cells (recA x) 39)) g1 k) := hm1.out.alloc _
    refine (HC2.out _ hm2.out.2.1).mono ?_
    rintro e w2 ⟨rfl, q2, os2, hw2⟩
    have hm3 : Hid (Mx w w2 g1 k) := by show Mx w w2 g1 k; rw [hw2]; exact hm2.out.grown _ _
    clear hw2 hm2
    go_wp2_with (first
      | (refine wpList_store_row rfl 39 (.tmp 9) (.tmp 23) rfl w2.heap.size (recA y) rfl rfl 39 _ (heap_alloc_last w2 _) (by rw [size_recA hyl.out]; exact info39) (by rw [size_recA hyl.out]; rfl) (one_recA _) ?_
         rw [World.setRow_alloc_new])
      | (refine wpList_load_mid rfl 39 (.tmp 9) rfl w2.heap.size 0 rfl (rc y) _ (range_new w2 (rc y) 39) Try.underlying39 rfl (by rw [rc_length hyl.out]; exact info39) ?_)
      | (refine wpList_store_row rfl 39 (.tmp 6) (.tmp 25) rfl (g1 + 1) (recA y) rfl rfl 39 (recA zeroR) (hm3.out.alloc _).2.2.2 (by rw [size_recA hyl.out]; exact info39) (by rw [size_recA hyl.out]; kernel_rfl) (one_recA _) ?_))
    (try simp only [Exit.inBlock, Exit.then])
    refine bodyPost_ret (results_cell_row rfl _ _ (g1 + 1) 39 (recA y) (0, 0) _ rfl (setRow_heap _ _ _ _ _ _ (hm3.out.alloc _).2.2.2) Try.underlying39 rfl (by rw [size_recA hyl.out]; exact info39)) rfl ?_
    exact ⟨by rw [HMM.out, hM.out]; rfl, (hm3.out.alloc _).2.1.setRow (by rw [hm3.out.1]; omega) _⟩
  · go_wp2_with (first
      | (refine wpList_store_row rfl 39 (.tmp 7) (.tmp 15) rfl w1.heap.size (recA x) rfl rfl 39 _ (heap_alloc_last w1 _) (by rw [size_recA hxl.out]; exact info39) (by rw [size_recA hxl.out]; rfl) (one_recA _) ?_
         rw [World.setRow_alloc_new])
      | (refine wpList_load_mid rfl 39 (.tmp 7) rfl w1.heap.size 0 rfl (rc x) _ (range_new w1 (rc x) 39) Try.underlying39 rfl (by rw [rc_length hxl.out]; exact info39) ?_)
      | (refine wpList_store_row rfl 39 (.tmp 6) (.tmp 18) rfl (g1 + 1) (recA x) rfl rfl 39 (recA zeroR) (hm1.out.alloc _).2.2.2 (by rw [size_recA hxl.out]; exact info39) (by rw [size_recA hxl.out]; kernel_rfl) (one_recA _) ?_))
    (try simp only [Exit.inBlock, Exit.then])
    refine bodyPost_ret (results_cell_row rfl _ _ (g1 + 1) 39 (recA x) (0, 0) _ rfl (setRow_heap _ _ _ _ _ _ (hm1.out.alloc _).2.2.2) Try.underlying39 rfl (by rw [size_recA hxl.out]; exact info39)) rfl ?_
    exact ⟨by rw [HMM.out, hM.out]; rfl, (hm1.out.alloc _).2.1.setRow (by rw [hm1.out.1]; omega) _⟩
end Go.Proofs.Qxb6627977a
