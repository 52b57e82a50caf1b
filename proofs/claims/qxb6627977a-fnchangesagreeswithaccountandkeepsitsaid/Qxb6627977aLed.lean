import Derived.Test.Qxb6627977aAcct
import Derived.Deep.RegionWith
import Derived.Deep.RegionHeld3
import Derived.BigRegion
namespace Go.Proofs.Qxb6627977a
set_option linter.unusedSimpArgs false
open Go.RowKit Go.Sort

/-- a load of a key, as one word -/
def ld36 (v : Value) : Sem Value := Instr.loadAt 36 v
theorem ld36_run {W : World} {g o : Nat} {k : Key} (hk : k.length = 32) (h : W.rangeAt g o (kc k)) : (ld36 (.pointer (some ⟨g, o, none⟩))).run Try.prog W = .ok (.agg (kc k).toArray) W :=
  run_loadAt_mid W g o 36 (kc k) (.array 32 5) h Try.underlying36 rfl (by rw [kc_length, hk]; exact info36)
theorem ld36_word (v : Value) : Instr.loadAt 36 v = ld36 v := rfl

/-- the ledger as it lies in memory -/
structure LedAt (w : World) (lb bb ga mat mov mch : Nat) (b o : List AR) : Prop where
  base : BaseAt w bb ga mat b
  box : w.heap[lb]? = some (.cells #[.pointer (some ⟨bb, 0, none⟩), .map (some mov), .map (some mch)] 55 (0, 0))
  over : ∃ D, w.ownsMap Try.prog 36 RV mov o.length D ∧ OverIs o D
  lt : lb < w.heap.size ∧ bb < w.heap.size ∧ ga < w.heap.size ∧ mat < w.heap.size ∧ mov < w.heap.size ∧ mch < w.heap.size
theorem LedAt.of_gr {w w' : World} {lb bb ga mat mov mch : Nat} {b o : List AR} (h : LedAt w lb bb ga mat mov mch b o) (hg : Gr w w') : LedAt w' lb bb ga mat mov mch b o := by
  obtain ⟨h1, h2, ⟨D, h3, h4⟩, h5⟩ := h
  have hb := hg.below
  have hs := hb.size
  exact ⟨h1.below hb h5.2.1 h5.2.2.1 h5.2.2.2.1, (hb.block _ h5.1).trans h2, ⟨D, ownsMap_block h3 (hb.block _ h5.2.2.2.2.1), h4⟩, by omega, by omega, by omega, by omega, by omega, by omega⟩

def LS (lb mov g1 : Nat) (k : Key) (v : Value) (w : World) : Prop := w.rangeAt g1 0 (kc k) ∧ w.cell? ⟨lb, 1, none⟩ = some (.map (some mov)) ∧ (Instr.lookup 28 (.map (some mov)) (.agg (kc k).toArray) true).run Try.prog w = .ok v w

theorem setRow_old {w : World} {g i : Nat} {cs : Array Value} (h : i ≠ g) : (w.setRow g cs).heap[i]? = w.heap[i]? := by
  unfold World.setRow
  show (w.heap.modify g _)[i]? = _
  rw [Array.getElem?_modify, if_neg (fun e => h e.symm)]
theorem setRow_cell {w : World} {g : Nat} {cs : Array Value} {p : Addr} (h : p.block ≠ g) : (w.setRow g cs).cell? p = w.cell? p := by
  unfold World.cell?
  rw [setRow_old h]
theorem step_store_row {P : Program} {w : World} {ops : Array Oper} {o : Oper} {a : Act} {K : Act → World → Prop} {Q : Exit → Act → World → Prop} {E : Prop} (hgd : o.guard = none) (ty : TypeId) (x y : Operand) (ho : o.op = .store ty x y)
    (g : Nat) (cells : Array Value) (hx : a.eval x = .pointer (some ⟨g, 0, none⟩)) (hy : a.eval y = .agg cells)
    (t : TypeId) (old : Array Value) (hg : w.heap[g]? = some (.cells old t (0, 0))) (hi : (P.info? ty).map (·.size) = some cells.size)
    (hold : old.size = cells.size) (h1 : cells.all (·.oneCell') = true) (h : K (a.put o.dst undef) (w.setRow g cells)) :
    if Region.wanted o (yielded ops a.tmps) = true then Oper.wp P o a w K Q else E := by
  have hw : Region.wanted o (yielded ops a.tmps) = true := by simp [Region.wanted, hgd]
  rw [if_pos hw]
  exact wp_store_row ty x y ho g cells hx hy t old hg hi hold h1 h
def LS2 (lb bb g1 : Nat) (k : Key) (w : World) : Prop := w.rangeAt g1 0 (kc k) ∧ w.cell? ⟨lb, 0, none⟩ = some (.pointer (some ⟨bb, 0, none⟩))

set_option maxHeartbeats 4000000 in
set_option maxRecDepth 100000 in
theorem account_any (lb bb ga mat mov mch : Nat) (b o : List AR) (k : Key) (w : World) (hk : k.length = 32) (hL : LedAt w lb bb ga mat mov mch b o) :
    Calls Try.prog 12 #[.pointer (some ⟨lb, 0, none⟩), .agg (keyA k)] w fun e w' => e = .returned (.agg (acc (model b o k)).toArray) ∧ ∃ q os, w' = grow (w.drewN q) os := by
  obtain ⟨A, hA⟩ : ∃ A, A = keyA k := ⟨_, rfl⟩
  obtain ⟨T, hT⟩ : ∃ T, T = Value.agg (acc (model b o k)).toArray := ⟨_, rfl⟩
  rw [← hA, ← hT]
  have HA := hide hA
  have HT := hide hT
  have HL := hide hL
  have HK := hide hk
  clear hA hT hL hk
  go_enter Try.func12, Try.ntmps12
  go_wp2_with fail
  obtain ⟨W, hW⟩ : ∃ W, W = (w.alloc (.cells A 36)).alloc (.cells (acc zeroAc).toArray 34) := ⟨_, rfl⟩
  rw [show (#[Value.int .u64 0, Value.int .u64 0, Value.int .u64 0] : Array Value) = (acc zeroAc).toArray from rfl, ← hW]
  obtain ⟨g1, hg1⟩ : ∃ g1, g1 = w.heap.size := ⟨_, rfl⟩
  rw [← hg1]
  have hgr : Hid (Gr w W) := by show Gr w W; rw [hW]; exact ((Gr.refl w).alloc _).alloc _
  have hr0 : Hid (W.rangeAt g1 0 (kc k)) := by
    show W.rangeAt g1 0 (kc k)
    rw [hW, HA.out, hg1]
    exact range_alloc (range_new w (kc k) 36) _
  have hres : Hid (W.heap[g1 + 1]? = some (.cells (acc zeroAc).toArray 34 (0, 0))) := by
    show W.heap[g1 + 1]? = _
    have := heap_alloc_last (w.alloc (.cells A 36)) (.cells (acc zeroAc).toArray 34)
    rw [show (w.alloc (.cells A 36)).heap.size = w.heap.size + 1 by simp] at this
    rw [hW, hg1, this]
  have hLW : Hid (LedAt W lb bb ga mat mov mch b o) := HL.out.of_gr hgr.out
  have HG := hide hg1
  clear hW hg1 HL
  obtain ⟨hB, hx, ⟨D, hD, hOv⟩, hlt⟩ := hLW.out
  have hc0 : W.cell? ⟨lb, 0, none⟩ = some (.pointer (some ⟨bb, 0, none⟩)) := by unfold World.cell?; rw [hx]; rfl
  have hc1 : W.cell? ⟨lb, 1, none⟩ = some (.map (some mov)) := by unfold World.cell?; rw [hx]; rfl
  have hlk0 : ∀ m, ∃ v ps, (Instr.lookup 28 (.map (some mov)) (.agg (keyA k)) true).run Try.prog (W.drewN m) = .ok (.tuple #[v, .bool (Maps.has D (.string k))]) (W.drewN m) ∧ RV v = some (D.atKey (.string k) (.held (.agg (acc zeroAc).toArray)), ps) := fun m =>
    World.ownsMap.look_ok (w := W.drewN m) hD law36 Try.underlying28 (Try.zeroValue34 (W.drewN m)) (show RV (.agg (acc zeroAc).toArray) = some (.held (.agg (acc zeroAc).toArray), []) from rfl) (keyOf36 k HK.out)
  clear hx
  have hld : (ld36 (.pointer (some ⟨g1, 0, none⟩))).run Try.prog W = .ok (.agg (kc k).toArray) W := ld36_run HK.out hr0.out
  have hld' : (ld36 (.pointer (some ⟨g1, 0, none⟩))).run Try.prog W.drew = .ok (.agg (kc k).toArray) W.drew := ld36_run HK.out hr0.out
  have hmix := mixed
  cases hf : find o k with
  | some x =>
    obtain ⟨i, hi, hbi, hxk⟩ := find_idx hf
    have hlk : (Instr.lookup 28 (.map (some mov)) (.agg (kc k).toArray) true).run Try.prog W.drew = .ok (.tuple #[.agg (acc x.2).toArray, .bool true]) W.drew := by
      obtain ⟨v, ps, h1, h2⟩ := hlk0 1
      rw [hOv.1 k, hf] at h1
      have h3 := hOv.2 i hi
      rw [hbi, hxk] at h3
      rw [h3] at h2
      simp only [RV, Option.some.injEq, Prod.mk.injEq, DataW.held.injEq] at h2
      rw [h2.1] at h1
      exact h1
    have hlkA : Hid (∀ ob, (Instr.lookup 28 (.map (some mov)) (.agg (kc k).toArray) true).run Try.prog ((W.alloc ob).drew) = .ok (.tuple #[.agg (acc x.2).toArray, .bool true]) ((W.alloc ob).drew)) := fun ob => by
      obtain ⟨v, ps, h1, h2⟩ := World.ownsMap.look_ok (w := (W.alloc ob).drew) (hD.alloc ob) law36 Try.underlying28 (Try.zeroValue34 ((W.alloc ob).drew)) (show RV (.agg (acc zeroAc).toArray) = some (.held (.agg (acc zeroAc).toArray), []) from rfl) (keyOf36 k HK.out)
      rw [hOv.1 k, hf] at h1
      have h3 := hOv.2 i hi
      rw [hbi, hxk] at h3
      rw [h3] at h2
      simp only [RV, Option.some.injEq, Prod.mk.injEq, DataW.held.injEq] at h2
      rw [h2.1] at h1
      exact h1
    have HTX : Hid (T = .agg (acc x.2).toArray) := by show T = _; rw [HT.out]; unfold model; rw [hf]
    clear hlk0 hf hOv hD hbi hxk hLW
    go_wp2_with fail
    refine wp_region_held_drew (S := LS lb mov g1 k (.tuple #[.agg (acc x.2).toArray, .bool true])) mixed ⟨hr0.out, hc1, hlk⟩ (fun hS => ?_)
    refine wpAnyH_take (i := 4) (v := .agg (kc k).toArray) rfl (by kernel_rfl) (by kernel_rfl) (by kernel_rfl) (fun _ _ _ h => h) (yieldsIf_load_mid (by rfl) 36 _ rfl g1 0 rfl (kc k) _ (fun _ h => h.1) Try.underlying36 rfl (by rw [kc_length, HK.out]; exact info36)) hS ?_
    simp only [Act.put, List.getElem_toArray, List.getElem_cons_zero, List.getElem_cons_succ, List.setIfInBounds_toArray, List.set_cons_zero, List.set_cons_succ]
    refine wpAnyH_take (i := 0) (v := .pointer (some ⟨lb, 0, none⟩)) rfl (by kernel_rfl) (by kernel_rfl) (by kernel_rfl) (fun _ _ _ h => h) (.inl ⟨by rfl, fun w hw => by rfl⟩) hS ?_
    simp only [Act.put, List.getElem_toArray, List.getElem_cons_zero, List.getElem_cons_succ, List.setIfInBounds_toArray, List.set_cons_zero, List.set_cons_succ]
    refine wpAnyH_take (i := 1) (v := .pointer (some ⟨lb, 0, none⟩)) rfl (by kernel_rfl) (by kernel_rfl) (by kernel_rfl) (fun _ _ _ h => h) (.inl ⟨by rfl, fun w hw => by rfl⟩) hS ?_
    simp only [Act.put, List.getElem_toArray, List.getElem_cons_zero, List.getElem_cons_succ, List.setIfInBounds_toArray, List.set_cons_zero, List.set_cons_succ]
    refine wpAnyH_take (i := 2) (v := .pointer (some ⟨lb, 1, none⟩)) rfl (by kernel_rfl) (by kernel_rfl) (by kernel_rfl) (fun _ _ _ h => h) (.inl ⟨by rfl, fun w hw => by rfl⟩) hS ?_
    simp only [Act.put, List.getElem_toArray, List.getElem_cons_zero, List.getElem_cons_succ, List.setIfInBounds_toArray, List.set_cons_zero, List.set_cons_succ]
    refine wpAnyH_take (i := 3) (v := .map (some mov)) rfl (by kernel_rfl) (by kernel_rfl) (by kernel_rfl) (fun _ _ _ h => h) (.inl ⟨by rfl, fun w hw => by have h := hw.2.1; go_simp⟩) hS ?_
    simp only [Act.put, List.getElem_toArray, List.getElem_cons_zero, List.getElem_cons_succ, List.setIfInBounds_toArray, List.set_cons_zero, List.set_cons_succ]
    refine wpAnyH_take (i := 5) (v := .tuple #[.agg (acc x.2).toArray, .bool true]) rfl (by kernel_rfl) (by kernel_rfl) (by kernel_rfl) (fun _ _ _ h => h) (.inl ⟨by rfl, fun w hw => by have h := hw.2.2; go_simp⟩) hS ?_
    simp only [Act.put, List.getElem_toArray, List.getElem_cons_zero, List.getElem_cons_succ, List.setIfInBounds_toArray, List.set_cons_zero, List.set_cons_succ]
    refine wpAnyH_take (i := 6) (v := .tuple #[.agg (acc x.2).toArray, .bool true]) rfl (by kernel_rfl) (by kernel_rfl) (by kernel_rfl) (fun _ _ _ h => h) (.inl ⟨by rfl, fun w hw => by rfl⟩) hS ?_
    simp only [Act.put, List.getElem_toArray, List.getElem_cons_zero, List.getElem_cons_succ, List.setIfInBounds_toArray, List.set_cons_zero, List.set_cons_succ]
    refine wpAnyH_take (i := 7) (v := .agg (acc x.2).toArray) rfl (by kernel_rfl) (by kernel_rfl) (by kernel_rfl) (fun _ _ _ h => h) (.inl ⟨by rfl, fun w hw => by rfl⟩) hS ?_
    simp only [Act.put, List.getElem_toArray, List.getElem_cons_zero, List.getElem_cons_succ, List.setIfInBounds_toArray, List.set_cons_zero, List.set_cons_succ]
    refine wpAnyH_take (i := 8) (v := .bool true) rfl (by kernel_rfl) (by kernel_rfl) (by kernel_rfl) (fun _ _ _ h => h) (.inl ⟨by rfl, fun w hw => by rfl⟩) hS ?_
    simp only [Act.put, List.getElem_toArray, List.getElem_cons_zero, List.getElem_cons_succ, List.setIfInBounds_toArray, List.set_cons_zero, List.set_cons_succ]
    refine wpAnyH_all (rs := [9]) (by kernel_rfl) (by simp) ?_
    intro i hi
    rw [List.mem_singleton] at hi
    subst hi
    unfold wpOp
    simp only [List.getElem?_toArray, List.getElem?_cons_succ, List.getElem?_cons_zero]
    go_simp
    refine .inl ⟨⟨range_alloc hr0.out _, cell_alloc hc1 _, hlkA.out _⟩, ?_⟩
    refine wpAnyH_all (rs := [10]) (by kernel_rfl) (by simp) ?_
    intro i hi
    rw [List.mem_singleton] at hi
    subst hi
    unfold wpOp
    simp only [List.getElem?_toArray, List.getElem?_cons_succ, List.getElem?_cons_zero]
    simp only [acc]
    go_simp
    refine .inl ⟨⟨range_alloc hr0.out _, cell_alloc hc1 _, hlkA.out _⟩, ?_⟩
    refine wpAnyH_all (rs := [11]) (by kernel_rfl) (by simp) ?_
    intro i hi
    rw [List.mem_singleton] at hi
    subst hi
    unfold wpOp
    simp only [List.getElem?_toArray, List.getElem?_cons_succ, List.getElem?_cons_zero]
    go_simp
    refine .inl ⟨⟨range_alloc hr0.out _, cell_alloc hc1 _, hlkA.out _⟩, ?_⟩
    refine wpAnyH_done (by kernel_rfl) ?_ _
    have hTT : Hid (T = .agg (acc x.2).toArray) := HTX
    have hheap : Hid ((W.alloc (.cells (acc x.2).toArray 34)).drew.heap[g1 + 1]? = some (.cells (acc zeroAc).toArray 34 (0, 0))) := (heap_alloc_old W _ (Array.getElem?_eq_some_iff.1 hres.out).1).trans hres.out
    go_wp2_with (first
      | (refine wpList_load_mid rfl 34 (.tmp 5) rfl W.heap.size 0 rfl (acc x.2) _ (range_new W (acc x.2) 34) Try.underlying34 rfl (by exact info34) ?_)
      | (refine wpList_store_row rfl 34 (.tmp 4) (.tmp 27) rfl (g1 + 1) (acc x.2).toArray rfl rfl 34 (acc zeroAc).toArray hheap.out (by exact info34) rfl (one_acc _) ?_))
    (try simp only [Exit.inBlock, Exit.then])
    refine bodyPost_ret (results_cell_row rfl _ _ (g1 + 1) 34 (acc x.2).toArray (0, 0) _ rfl (setRow_heap _ _ _ _ _ _ hheap.out) Try.underlying34 rfl (by exact info34)) rfl ?_
    exact ⟨by rw [hTT.out], ((hgr.out.alloc _).drewN 1).setRow (by rw [HG.out]; omega) _⟩
  | none =>
    have hno : Maps.has D (.string k) = false := by rw [hOv.1 k, hf]; rfl
    have hlk : (Instr.lookup 28 (.map (some mov)) (.agg (kc k).toArray) true).run Try.prog W.drew = .ok (.tuple #[.agg (acc zeroAc).toArray, .bool false]) W.drew := by
      obtain ⟨v, ps, h1, h2⟩ := hlk0 1
      rw [hno] at h1
      rw [Maps.atKey_of_not_has hno] at h2
      simp only [RV, Option.some.injEq, Prod.mk.injEq, DataW.held.injEq] at h2
      rw [h2.1] at h1
      exact h1
    have hlkA : Hid (∀ ob, (Instr.lookup 28 (.map (some mov)) (.agg (kc k).toArray) true).run Try.prog ((W.alloc ob).drew) = .ok (.tuple #[.agg (acc zeroAc).toArray, .bool false]) ((W.alloc ob).drew)) := fun ob => by
      obtain ⟨v, ps, h1, h2⟩ := World.ownsMap.look_ok (w := (W.alloc ob).drew) (hD.alloc ob) law36 Try.underlying28 (Try.zeroValue34 ((W.alloc ob).drew)) (show RV (.agg (acc zeroAc).toArray) = some (.held (.agg (acc zeroAc).toArray), []) from rfl) (keyOf36 k HK.out)
      rw [hno] at h1
      rw [Maps.atKey_of_not_has hno] at h2
      simp only [RV, Option.some.injEq, Prod.mk.injEq, DataW.held.injEq] at h2
      rw [h2.1] at h1
      exact h1
    have HTX : Hid (T = .agg (acc (baseAc b k)).toArray) := by show T = _; rw [HT.out]; unfold model baseAc; rw [hf]; cases find b k <;> rfl
    clear hlk0 hf hOv hD hno
    go_wp2_with fail
    refine wp_region_held_drew (S := LS lb mov g1 k (.tuple #[.agg (acc zeroAc).toArray, .bool false])) mixed ⟨hr0.out, hc1, hlk⟩ (fun hS => ?_)
    refine wpAnyH_take (i := 4) (v := .agg (kc k).toArray) rfl (by kernel_rfl) (by kernel_rfl) (by kernel_rfl) (fun _ _ _ h => h) (yieldsIf_load_mid (by rfl) 36 _ rfl g1 0 rfl (kc k) _ (fun _ h => h.1) Try.underlying36 rfl (by rw [kc_length, HK.out]; exact info36)) hS ?_
    simp only [Act.put, List.getElem_toArray, List.getElem_cons_zero, List.getElem_cons_succ, List.setIfInBounds_toArray, List.set_cons_zero, List.set_cons_succ]
    refine wpAnyH_take (i := 0) (v := .pointer (some ⟨lb, 0, none⟩)) rfl (by kernel_rfl) (by kernel_rfl) (by kernel_rfl) (fun _ _ _ h => h) (.inl ⟨by rfl, fun w hw => by rfl⟩) hS ?_
    simp only [Act.put, List.getElem_toArray, List.getElem_cons_zero, List.getElem_cons_succ, List.setIfInBounds_toArray, List.set_cons_zero, List.set_cons_succ]
    refine wpAnyH_take (i := 1) (v := .pointer (some ⟨lb, 0, none⟩)) rfl (by kernel_rfl) (by kernel_rfl) (by kernel_rfl) (fun _ _ _ h => h) (.inl ⟨by rfl, fun w hw => by rfl⟩) hS ?_
    simp only [Act.put, List.getElem_toArray, List.getElem_cons_zero, List.getElem_cons_succ, List.setIfInBounds_toArray, List.set_cons_zero, List.set_cons_succ]
    refine wpAnyH_take (i := 2) (v := .pointer (some ⟨lb, 1, none⟩)) rfl (by kernel_rfl) (by kernel_rfl) (by kernel_rfl) (fun _ _ _ h => h) (.inl ⟨by rfl, fun w hw => by rfl⟩) hS ?_
    simp only [Act.put, List.getElem_toArray, List.getElem_cons_zero, List.getElem_cons_succ, List.setIfInBounds_toArray, List.set_cons_zero, List.set_cons_succ]
    refine wpAnyH_take (i := 3) (v := .map (some mov)) rfl (by kernel_rfl) (by kernel_rfl) (by kernel_rfl) (fun _ _ _ h => h) (.inl ⟨by rfl, fun w hw => by have h := hw.2.1; go_simp⟩) hS ?_
    simp only [Act.put, List.getElem_toArray, List.getElem_cons_zero, List.getElem_cons_succ, List.setIfInBounds_toArray, List.set_cons_zero, List.set_cons_succ]
    refine wpAnyH_take (i := 5) (v := .tuple #[.agg (acc zeroAc).toArray, .bool false]) rfl (by kernel_rfl) (by kernel_rfl) (by kernel_rfl) (fun _ _ _ h => h) (.inl ⟨by rfl, fun w hw => by have h := hw.2.2; go_simp⟩) hS ?_
    simp only [Act.put, List.getElem_toArray, List.getElem_cons_zero, List.getElem_cons_succ, List.setIfInBounds_toArray, List.set_cons_zero, List.set_cons_succ]
    refine wpAnyH_take (i := 6) (v := .tuple #[.agg (acc zeroAc).toArray, .bool false]) rfl (by kernel_rfl) (by kernel_rfl) (by kernel_rfl) (fun _ _ _ h => h) (.inl ⟨by rfl, fun w hw => by rfl⟩) hS ?_
    simp only [Act.put, List.getElem_toArray, List.getElem_cons_zero, List.getElem_cons_succ, List.setIfInBounds_toArray, List.set_cons_zero, List.set_cons_succ]
    refine wpAnyH_take (i := 7) (v := .agg (acc zeroAc).toArray) rfl (by kernel_rfl) (by kernel_rfl) (by kernel_rfl) (fun _ _ _ h => h) (.inl ⟨by rfl, fun w hw => by rfl⟩) hS ?_
    simp only [Act.put, List.getElem_toArray, List.getElem_cons_zero, List.getElem_cons_succ, List.setIfInBounds_toArray, List.set_cons_zero, List.set_cons_succ]
    refine wpAnyH_take (i := 8) (v := .bool false) rfl (by kernel_rfl) (by kernel_rfl) (by kernel_rfl) (fun _ _ _ h => h) (.inl ⟨by rfl, fun w hw => by rfl⟩) hS ?_
    simp only [Act.put, List.getElem_toArray, List.getElem_cons_zero, List.getElem_cons_succ, List.setIfInBounds_toArray, List.set_cons_zero, List.set_cons_succ]
    refine wpAnyH_all (rs := [9]) (by kernel_rfl) (by simp) ?_
    intro i hi
    rw [List.mem_singleton] at hi
    subst hi
    unfold wpOp
    simp only [List.getElem?_toArray, List.getElem?_cons_succ, List.getElem?_cons_zero]
    go_simp
    refine .inl ⟨⟨range_alloc hr0.out _, cell_alloc hc1 _, hlkA.out _⟩, ?_⟩
    refine wpAnyH_all (rs := [10]) (by kernel_rfl) (by simp) ?_
    intro i hi
    rw [List.mem_singleton] at hi
    subst hi
    unfold wpOp
    simp only [List.getElem?_toArray, List.getElem?_cons_succ, List.getElem?_cons_zero]
    simp only [acc, zeroAc]
    go_simp
    refine .inl ⟨⟨range_alloc hr0.out _, cell_alloc hc1 _, hlkA.out _⟩, ?_⟩
    refine wpAnyH_all (rs := [11]) (by kernel_rfl) (by simp) ?_
    intro i hi
    rw [List.mem_singleton] at hi
    subst hi
    unfold wpOp
    simp only [List.getElem?_toArray, List.getElem?_cons_succ, List.getElem?_cons_zero]
    go_simp
    refine .inl ⟨⟨range_alloc hr0.out _, cell_alloc hc1 _, hlkA.out _⟩, ?_⟩
    refine wpAnyH_done (by kernel_rfl) ?_ _
    go_wp2_with fail
    clear hS
    obtain ⟨W5, hW5⟩ : ∃ W5, W5 = (W.alloc (.cells (acc zeroAc).toArray 34)).drew := ⟨_, rfl⟩
    rw [show (#[Value.int .u64 0, Value.int .u64 0, Value.int .u64 0] : Array Value) = (acc zeroAc).toArray from rfl, ← hW5]
    obtain ⟨g5, hg5⟩ : ∃ g5, g5 = W.heap.size := ⟨_, rfl⟩
    rw [← hg5]
    have hgr5 : Hid (Gr w W5) := by show Gr w W5; rw [hW5]; exact (hgr.out.alloc _).drewN 1
    have hG5 : Gr W W5 := by rw [hW5]; exact ((Gr.refl W).alloc _).drewN 1
    have hr5 : Hid (W5.rangeAt g1 0 (kc k)) := by show W5.rangeAt g1 0 (kc k); rw [hW5]; exact range_alloc hr0.out _
    have hc5 : Hid (W5.cell? ⟨lb, 0, none⟩ = some (.pointer (some ⟨bb, 0, none⟩))) := by show W5.cell? _ = _; rw [hW5]; exact cell_alloc hc0 _
    have hv5 : Hid (W5.heap[g5]? = some (.cells (acc zeroAc).toArray 34 (0, 0))) := by show W5.heap[g5]? = _; rw [hW5, hg5]; exact heap_alloc_last W _
    have hres5 : Hid (W5.heap[g1 + 1]? = some (.cells (acc zeroAc).toArray 34 (0, 0))) := (hG5.below.block _ (Array.getElem?_eq_some_iff.1 hres.out).1).trans hres.out
    have hL5 : Hid (LedAt W5 lb bb ga mat mov mch b o) := hLW.out.of_gr hG5
    have hg5w : Hid (w.heap.size ≤ g5) := by show w.heap.size ≤ g5; rw [hg5]; exact hgr.out.size
    have hne5 : Hid (lb < g5 ∧ g1 + 1 < g5) := by show _ ∧ _; rw [hg5]; exact ⟨hlt.1, (Array.getElem?_eq_some_iff.1 hres.out).1⟩
    clear hW5 hG5 hg5
    refine wp_region_held_drew (S := LS2 lb bb g1 k) mixed ⟨hr5.out, hc5.out⟩ (fun hS => ?_)
    refine wpAnyH_take (i := 4) (v := .agg (kc k).toArray) rfl (by kernel_rfl) (by kernel_rfl) (by kernel_rfl) (fun _ _ _ h => h) (yieldsIf_load_mid (by rfl) 36 _ rfl g1 0 rfl (kc k) _ (fun _ h => h.1) Try.underlying36 rfl (by rw [kc_length, HK.out]; exact info36)) hS ?_
    simp only [Act.put, List.getElem_toArray, List.getElem_cons_zero, List.getElem_cons_succ, List.setIfInBounds_toArray, List.set_cons_zero, List.set_cons_succ]
    refine wpAnyH_take (i := 0) (v := .pointer (some ⟨lb, 0, none⟩)) rfl (by kernel_rfl) (by kernel_rfl) (by kernel_rfl) (fun _ _ _ h => h) (.inl ⟨by rfl, fun w hw => by rfl⟩) hS ?_
    simp only [Act.put, List.getElem_toArray, List.getElem_cons_zero, List.getElem_cons_succ, List.setIfInBounds_toArray, List.set_cons_zero, List.set_cons_succ]
    refine wpAnyH_take (i := 1) (v := .pointer (some ⟨lb, 0, none⟩)) rfl (by kernel_rfl) (by kernel_rfl) (by kernel_rfl) (fun _ _ _ h => h) (.inl ⟨by rfl, fun w hw => by rfl⟩) hS ?_
    simp only [Act.put, List.getElem_toArray, List.getElem_cons_zero, List.getElem_cons_succ, List.setIfInBounds_toArray, List.set_cons_zero, List.set_cons_succ]
    refine wpAnyH_take (i := 2) (v := .pointer (some ⟨lb, 0, none⟩)) rfl (by kernel_rfl) (by kernel_rfl) (by kernel_rfl) (fun _ _ _ h => h) (.inl ⟨by rfl, fun w hw => by rfl⟩) hS ?_
    simp only [Act.put, List.getElem_toArray, List.getElem_cons_zero, List.getElem_cons_succ, List.setIfInBounds_toArray, List.set_cons_zero, List.set_cons_succ]
    refine wpAnyH_take (i := 3) (v := .pointer (some ⟨bb, 0, none⟩)) rfl (by kernel_rfl) (by kernel_rfl) (by kernel_rfl) (fun _ _ _ h => h) (.inl ⟨by rfl, fun w hw => by have h := hw.2; go_simp⟩) hS ?_
    simp only [Act.put, List.getElem_toArray, List.getElem_cons_zero, List.getElem_cons_succ, List.setIfInBounds_toArray, List.set_cons_zero, List.set_cons_succ]
    refine wpAnyH_all (rs := [5]) (by kernel_rfl) (by simp) ?_
    intro i hi
    rw [List.mem_singleton] at hi
    subst hi
    unfold wpOp
    simp only [List.getElem?_toArray, List.getElem?_cons_succ, List.getElem?_cons_zero]
    go_simp
    obtain ⟨c, hc⟩ : ∃ c, c = (find b k).isSome := ⟨_, rfl⟩
    obtain ⟨y, hy⟩ : ∃ y, y = baseAc b k := ⟨_, rfl⟩
    have hcall := baseAcct_any bb ga mat b k W5.drew HK.out (hL5.out.of_gr ((Gr.refl W5).drewN 1)).base hL5.out.lt.2.1 hL5.out.lt.2.2.1 hL5.out.lt.2.2.2.1
    rw [← hc, ← hy] at hcall
    rw [← hy] at HTX
    clear hc hy
    refine .inl (hcall.mono ?_)
    rintro e w6 ⟨rfl, q6, os6, hw6⟩
    have hG6 : Gr W5 w6 := (((Gr.refl W5).drewN 1)).trans ⟨q6, os6, hw6⟩
    have hb6 := hG6.below
    have hv6 : Hid (w6.heap[g5]? = some (.cells (acc zeroAc).toArray 34 (0, 0))) := (hb6.block _ (Array.getElem?_eq_some_iff.1 hv5.out).1).trans hv5.out
    have hres6 : Hid (w6.heap[g1 + 1]? = some (.cells (acc zeroAc).toArray 34 (0, 0))) := (hb6.block _ (Array.getElem?_eq_some_iff.1 hres5.out).1).trans hres5.out
    have hgr6 : Hid (Gr w w6) := hgr5.out.trans hG6
    have hL6 := hL5.out.of_gr hG6
    have hS6 : LS2 lb bb g1 k w6 := ⟨fun j v hv => (hb6.cell (p := ⟨g1, 0 + j, none⟩) (World.block_lt_of_cell? W5 _ (hr5.out j v hv))).trans (hr5.out j v hv), (hb6.cell (World.block_lt_of_cell? W5 _ hc5.out)).trans hc5.out⟩
    clear hw6 hG6 hb6 hcall hL6
    refine ⟨hS6, ?_⟩
    refine wpAnyH_take (i := 6) (v := .tuple #[.agg (acc y).toArray, .bool c]) rfl (by kernel_rfl) (by kernel_rfl) (by kernel_rfl) (fun _ _ _ h => h) (.inl ⟨by rfl, fun w hw => by rfl⟩) hS6 ?_
    simp only [Act.put, List.getElem_toArray, List.getElem_cons_zero, List.getElem_cons_succ, List.setIfInBounds_toArray, List.set_cons_zero, List.set_cons_succ]
    refine wpAnyH_take (i := 7) (v := .agg (acc y).toArray) rfl (by kernel_rfl) (by kernel_rfl) (by kernel_rfl) (fun _ _ _ h => h) (.inl ⟨by rfl, fun w hw => by rfl⟩) hS6 ?_
    simp only [Act.put, List.getElem_toArray, List.getElem_cons_zero, List.getElem_cons_succ, List.setIfInBounds_toArray, List.set_cons_zero, List.set_cons_succ]
    refine wpAnyH_take (i := 8) (v := .bool c) rfl (by kernel_rfl) (by kernel_rfl) (by kernel_rfl) (fun _ _ _ h => h) (.inl ⟨by rfl, fun w hw => by rfl⟩) hS6 ?_
    simp only [Act.put, List.getElem_toArray, List.getElem_cons_zero, List.getElem_cons_succ, List.setIfInBounds_toArray, List.set_cons_zero, List.set_cons_succ]
    refine wpAnyH_all (rs := [9]) (by kernel_rfl) (by simp) ?_
    intro i hi
    rw [List.mem_singleton] at hi
    subst hi
    unfold wpOp
    simp only [List.getElem?_toArray, List.getElem?_cons_succ, List.getElem?_cons_zero]
    rw [if_pos (by rfl)]
    refine .inl ?_
    refine wp_store_row 34 (.tmp 5) (.tmp 25) rfl g5 (acc y).toArray rfl rfl 34 (acc zeroAc).toArray hv6.out (by exact info34) rfl (one_acc _) ?_
    have hne := hne5.out
    refine ⟨⟨fun j v hv => (setRow_cell (p := ⟨g1, 0 + j, none⟩) (by show g1 ≠ g5; omega)).trans (hS6.1 j v hv), (setRow_cell (by show lb ≠ g5; omega)).trans hS6.2⟩, wpAnyH_done (by kernel_rfl) ?_ _⟩
    have hv7 : Hid ((w6.setRow g5 (acc y).toArray).heap[g5]? = some (.cells (acc y).toArray 34 (0, 0))) := setRow_heap _ _ _ _ _ _ hv6.out
    have hres7 : Hid ((w6.setRow g5 (acc y).toArray).heap[g1 + 1]? = some (.cells (acc zeroAc).toArray 34 (0, 0))) := (setRow_old (by omega)).trans hres6.out
    have hgr7 : Hid (Gr w (w6.setRow g5 (acc y).toArray)) := hgr6.out.setRow hg5w.out _
    obtain ⟨w7, hw7⟩ : ∃ w7, w7 = w6.setRow g5 (acc y).toArray := ⟨_, rfl⟩
    rw [← hw7] at hv7 hres7 hgr7 ⊢
    clear hw7 hne
    have hr7 : Hid (w7.rangeAt g5 0 (acc y)) := fun j v hv => by unfold World.cell?; rw [hv7.out]; simpa using hv
    go_wp2_with (first
      | (refine wpList_load_mid rfl 34 (.tmp 5) rfl g5 0 rfl (acc y) _ hr7.out Try.underlying34 rfl (by exact info34) ?_)
      | (refine wpList_store_row rfl 34 (.tmp 4) (.tmp 27) rfl (g1 + 1) (acc y).toArray rfl rfl 34 (acc zeroAc).toArray hres7.out (by exact info34) rfl (one_acc _) ?_))
    (try simp only [Exit.inBlock, Exit.then])
    refine bodyPost_ret (results_cell_row rfl _ _ (g1 + 1) 34 (acc y).toArray (0, 0) _ rfl (setRow_heap _ _ _ _ _ _ hres7.out) Try.underlying34 rfl (by exact info34)) rfl ?_
    exact ⟨by rw [HTX.out], hgr7.out.setRow (by rw [HG.out]; omega) _⟩
end Go.Proofs.Qxb6627977a
