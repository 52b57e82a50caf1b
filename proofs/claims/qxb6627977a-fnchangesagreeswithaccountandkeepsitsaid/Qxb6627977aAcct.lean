import Derived.Test.Qxb6627977aDom
namespace Go.Proofs.Qxb6627977a
open Go.RowKit Go.Sort

/-- the map 'at' holds the places of the base's keys -/
def AtIs (b : List AR) (D : DataW Value) : Prop := (∀ k : Key, Maps.has D (.string k) = (find b k).isSome) ∧ ∀ i (hi : i < b.length), D.atKey (.string (b[i]'hi).1) (.held (.int .i64 0)) = .held (.int .i64 i)
/-- the map 'over' holds the upper layer -/
def OverIs (o : List AR) (D : DataW Value) : Prop := (∀ k : Key, Maps.has D (.string k) = (find o k).isSome) ∧ ∀ i (hi : i < o.length), D.atKey (.string (o[i]'hi).1) (.held (.agg (acc zeroAc).toArray)) = .held (.agg (acc (o[i]'hi).2).toArray)
/-- the base as it lies in memory -/
structure BaseAt (w : World) (bb ga mat : Nat) (b : List AR) : Prop where
  box : ∃ ks ts cap, w.heap[bb]? = some (.cells #[ks, .slice (some ⟨ga, 0, none⟩) b.length cap, .map (some mat), ts] 58 (0, 0))
  accts : ∀ i (hi : i < b.length), w.rangeAt ga (i * 3) (acc (b[i]'hi).2)
  map : ∃ D, w.ownsMap Try.prog 36 RV mat b.length D ∧ AtIs b D
theorem BaseAt.below {B : Nat} {w w' : World} {bb ga mat : Nat} {b : List AR} (h : BaseAt w bb ga mat b) (hb : Below B w w') (h1 : bb < B) (h2 : ga < B) (h3 : mat < B) : BaseAt w' bb ga mat b := by
  obtain ⟨⟨ks, ts, cap, hx⟩, ha, D, hD, hA⟩ := h
  exact ⟨⟨ks, ts, cap, (hb.block _ h1).trans hx⟩, fun i hi => rangeAt_below (ha i hi) hb h2, D, ownsMap_block hD (hb.block _ h3), hA⟩
def baseAc (b : List AR) (k : Key) : Ac := match find b k with | some x => x.2 | none => zeroAc
theorem find_idx {l : List AR} {k : Key} {x : AR} (h : find l k = some x) : ∃ i, ∃ hi : i < l.length, (l[i]'hi) = x ∧ x.1 = k := by
  obtain ⟨i, hi, e⟩ := List.getElem_of_mem (find_mem h)
  exact ⟨i, hi, e, by simpa using List.find?_some h⟩
theorem info34 : (Try.prog.info? 34).map (·.size) = some 3 := by kernel_rfl
theorem info36 : (Try.prog.info? 36).map (·.size) = some 32 := by kernel_rfl
theorem one_acc (a : Ac) : ((acc a).toArray).all (·.oneCell') = true := by simp [acc, Value.oneCell']

set_option maxHeartbeats 2000000 in
set_option maxRecDepth 100000 in
theorem baseAcct_any (bb ga mat : Nat) (b : List AR) (k : Key) (w : World) (hk : k.length = 32) (hB : BaseAt w bb ga mat b) (hbb : bb < w.heap.size) (hga : ga < w.heap.size) (hmat : mat < w.heap.size) :
    Calls Try.prog 19 #[.pointer (some ⟨bb, 0, none⟩), .agg (keyA k)] w fun e w' => e = .returned (.tuple #[.agg (acc (baseAc b k)).toArray, .bool (find b k).isSome]) ∧ ∃ q os, w' = grow (w.drewN q) os := by
  obtain ⟨A, hA⟩ : ∃ A, A = keyA k := ⟨_, rfl⟩
  obtain ⟨T, hT⟩ : ∃ T, T = Value.tuple #[.agg (acc (baseAc b k)).toArray, .bool (find b k).isSome] := ⟨_, rfl⟩
  rw [← hA, ← hT]
  have HA := hide hA
  have HT := hide hT
  have HB := hide hB
  have HK := hide hk
  clear hA hT hB hk
  go_enter Try.func19, Try.ntmps19
  go_wp2_with fail
  obtain ⟨W, hW⟩ : ∃ W, W = (w.alloc (.cells A 36)).alloc (.cells (acc zeroAc).toArray 34) := ⟨_, rfl⟩
  rw [show (#[Value.int .u64 0, Value.int .u64 0, Value.int .u64 0] : Array Value) = (acc zeroAc).toArray from rfl, ← hW]
  obtain ⟨g1, hg1⟩ : ∃ g1, g1 = w.heap.size := ⟨_, rfl⟩
  rw [← hg1]
  have hgr : Hid (Gr w W) := by show Gr w W; rw [hW]; exact ((Gr.refl w).alloc _).alloc _
  have hr0 : Hid (W.rangeAt g1 0 (kc k)) := by
    show W.rangeAt g1 0 (kc k)
    rw [hW, HA.out, hg1]
    exact range_alloc (range_new w (kc k) 36) _
  have hres : Hid (W.heap[g1 + 1]? = some (.cells (acc zeroAc).toArray 34 (0, 0))) := by
    show W.heap[g1 + 1]? = _
    have := heap_alloc_last (w.alloc (.cells A 36)) (.cells (acc zeroAc).toArray 34)
    rw [show (w.alloc (.cells A 36)).heap.size = w.heap.size + 1 by simp] at this
    rw [hW, hg1, this]
  have hBW : Hid (BaseAt W bb ga mat b) := HB.out.below hgr.out.below hbb hga hmat
  have HG := hide hg1
  clear hW hg1 HB
  obtain ⟨⟨ks, ts, cap, hx⟩, hacc, D, hD, hAt⟩ := hBW.out
  have hc1 : W.cell? ⟨bb, 1, none⟩ = some (.slice (some ⟨ga, 0, none⟩) b.length cap) := by unfold World.cell?; rw [hx]; rfl
  have hc2 : W.cell? ⟨bb, 2, none⟩ = some (.map (some mat)) := by unfold World.cell?; rw [hx]; rfl
  have hlk0 : ∀ m, ∃ v ps, (Instr.lookup 50 (.map (some mat)) (.agg (keyA k)) true).run Try.prog (W.drewN m) = .ok (.tuple #[v, .bool (Maps.has D (.string k))]) (W.drewN m) ∧ RV v = some (D.atKey (.string k) (.held (.int .i64 0)), ps) := fun m =>
    World.ownsMap.look_ok (w := W.drewN m) hD law36 Try.underlying50 (Try.zeroValue3 (W.drewN m)) (show RV (.int .i64 0) = some (.held (.int .i64 0), []) from rfl) (keyOf36 k HK.out)
  clear hx
  obtain ⟨n, hnl⟩ : ∃ n, n = b.length := ⟨_, rfl⟩
  rw [← hnl] at hc1
  have HN := hide hnl
  clear hnl
  cases hf : find b k with
  | some x =>
    obtain ⟨i, hi, hbi, hxk⟩ := find_idx hf
    have hlk : ∀ m, (Instr.lookup 50 (.map (some mat)) (.agg (kc k).toArray) true).run Try.prog (W.drewN m) = .ok (.tuple #[.int .i64 i, .bool true]) (W.drewN m) := fun m => by
      obtain ⟨v, ps, h1, h2⟩ := hlk0 m
      rw [hAt.1 k, hf] at h1
      have h3 := hAt.2 i hi
      rw [hbi, hxk] at h3
      rw [h3] at h2
      simp only [RV, Option.some.injEq, Prod.mk.injEq, DataW.held.injEq] at h2
      rw [h2.1] at h1
      exact h1
    have hra : Hid (∀ m, (W.drewN m).rangeAt ga (i * 3) (acc x.2)) := fun m => by have := hacc i hi; rw [hbi] at this; exact this
    have hin : i < n := by rw [HN.out]; exact hi
    have hTT : Hid (T = .tuple #[.agg (acc x.2).toArray, .bool true]) := by
      show T = _
      rw [HT.out]
      unfold baseAc
      rw [hf]
      rfl
    clear hlk0 hf hacc hAt hD hbi hxk hBW
    go_wp2_with fail
    refine wp_region_quiet_lit (by kernel_rfl) (by kernel_rfl) ?_
    repeat (first
      | (refine quiet_load_mid (by rfl) 36 _ rfl g1 0 rfl (kc k) (.array 32 5) (by rintro _ ⟨m, rfl⟩; exact hr0.out) Try.underlying36 rfl (by rw [kc_length, HK.out]; exact info36) ?_)
      | quiet_step (fail))
    refine wpQuiet_nil ?_
    intro _ hw'
    obtain ⟨nq, hw''⟩ := hw'
    subst hw''
    go_wp2_with (first
      | (refine wpList_load_mid rfl 34 (.tmp 25) rfl ga (i * 3) rfl (acc x.2) _ (hra.out nq) Try.underlying34 rfl (by exact info34) ?_)
      | (refine wpList_store_row rfl 34 (.tmp 4) (.tmp 26) rfl (g1 + 1) (acc x.2).toArray rfl rfl 34 (acc zeroAc).toArray hres.out (by exact info34) rfl (one_acc _) ?_))
    (try simp only [Exit.inBlock, Exit.then])
    refine bodyPost_ret (results_cell_tmp_row rfl _ _ (g1 + 1) 34 (acc x.2).toArray (0, 0) _ rfl (setRow_heap (W.drewN nq) _ _ _ _ _ hres.out) Try.underlying34 rfl (by exact info34)) rfl ?_
    exact ⟨by rw [hTT.out]; rfl, (hgr.out.drewN nq).setRow (by rw [HG.out]; omega) _⟩
  | none =>
    have hlk : ∀ m, (Instr.lookup 50 (.map (some mat)) (.agg (kc k).toArray) true).run Try.prog (W.drewN m) = .ok (.tuple #[.int .i64 0, .bool false]) (W.drewN m) := fun m => by
      obtain ⟨v, ps, h1, h2⟩ := hlk0 m
      have hno : Maps.has D (.string k) = false := by rw [hAt.1 k, hf]; rfl
      rw [hno] at h1
      rw [Maps.atKey_of_not_has hno] at h2
      simp only [RV, Option.some.injEq, Prod.mk.injEq, DataW.held.injEq] at h2
      rw [h2.1] at h1
      exact h1
    have hTT : Hid (T = .tuple #[.agg (acc zeroAc).toArray, .bool false]) := by
      show T = _
      rw [HT.out]
      unfold baseAc
      rw [hf]
      rfl
    clear hlk0 hf hacc hAt hD hBW
    go_wp2_with fail
    refine wp_region_quiet_lit (by kernel_rfl) (by kernel_rfl) ?_
    repeat (first
      | (refine quiet_load_mid (by rfl) 36 _ rfl g1 0 rfl (kc k) (.array 32 5) (by rintro _ ⟨m, rfl⟩; exact hr0.out) Try.underlying36 rfl (by rw [kc_length, HK.out]; exact info36) ?_)
      | quiet_step (fail))
    refine wpQuiet_nil ?_
    intro _ hw'
    obtain ⟨nq, hw''⟩ := hw'
    subst hw''
    go_wp2_with (first
      | (refine wpList_store_row rfl 34 (.tmp 4) (.tmp 19) rfl (g1 + 1) (acc zeroAc).toArray rfl rfl 34 (acc zeroAc).toArray hres.out (by exact info34) rfl (one_acc _) ?_))
    (try simp only [Exit.inBlock, Exit.then])
    refine bodyPost_ret (results_cell_tmp_row rfl _ _ (g1 + 1) 34 (acc zeroAc).toArray (0, 0) _ rfl (setRow_heap (W.drewN nq) _ _ _ _ _ hres.out) Try.underlying34 rfl (by exact info34)) rfl ?_
    exact ⟨by rw [hTT.out]; rfl, (hgr.out.drewN nq).setRow (by rw [HG.out]; omega) _⟩
end Go.Proofs.Qxb6627977a
