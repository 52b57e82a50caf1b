import Derived.Test.Qxb6627916aLeaf
import Derived.Sort.Grow
import Derived.StillTailTactics
import Derived.Shelf.SlSortCmp.QuietGrown
namespace Go.Proofs.Qxb6627916a
open Go.RowKit Go.Sort

theorem ret_bool {a b : Bool} (h : a = b) : Ending.returned (.bool a) = .returned (.bool b) := by rw [h]
/-- w' is w with draws taken and new blocks laid. -/
def Gr (w w' : World) : Prop := ∃ (q : Nat) (os : Array Obj), w' = grow (w.drewN q) os
theorem Gr.refl (w : World) : Gr w w := ⟨0, #[], by rw [grow_empty]; rfl⟩
theorem Gr.alloc {w v : World} (h : Gr w v) (o : Obj) : Gr w (v.alloc o) := by
  obtain ⟨q, os, rfl⟩ := h
  exact ⟨q, os ++ #[o], by rw [alloc_eq_grow, grow_grow]⟩
theorem Gr.drewN {w v : World} (h : Gr w v) (n : Nat) : Gr w (v.drewN n) := by
  obtain ⟨q, os, rfl⟩ := h
  exact ⟨q + n, os, by show grow ((w.drewN q).drewN n) os = _; rw [World.drewN_drewN]⟩
theorem Gr.trans {u v w : World} (h : Gr u v) (k : Gr v w) : Gr u w := by
  obtain ⟨q, os, rfl⟩ := h
  obtain ⟨q', os', rfl⟩ := k
  exact ⟨q + q', os ++ os', by show grow (grow ((u.drewN q).drewN q') os) os' = _; rw [grow_grow, World.drewN_drewN]⟩
theorem Gr.below {w v : World} (h : Gr w v) : Below w.heap.size w v := by
  obtain ⟨q, os, rfl⟩ := h
  exact ⟨rfl, rfl, rfl, by simp, fun k hk => heap_grow_old _ _ hk⟩

def aggZ (x : ZB) : Value := .agg #[.string x.1, .string x.2.1, .string x.2.2.1, .string x.2.2.2]
def okZ (x : ZB) : Prop := x.1.size ≤ maxLen ∧ x.2.1.size ≤ maxLen ∧ x.2.2.1.size ≤ maxLen ∧ x.2.2.2.size ≤ maxLen

set_option maxHeartbeats 400000 in
theorem zzCmp_any (x y : ZB) (w : World) (hx : okZ x) (hy : okZ y) :
    Calls Try.prog 14 #[aggZ x, aggZ y] w fun e w' => e = .returned (.int .i64 (cmpZ x y)) ∧ Gr w w' := by
  obtain ⟨p, r, m, s⟩ := x
  obtain ⟨p', r', m', s'⟩ := y
  obtain ⟨h1, h2, h3, h4⟩ := hx
  obtain ⟨k1, k2, k3, k4⟩ := hy
  simp only [aggZ] at *
  have hc : ∀ a b W, a.size ≤ maxLen → b.size ≤ maxLen → Calls Try.prog 23 #[.string a, .string b] W fun e w' => e = .returned (.int .i64 (cbB a b)) ∧ ∃ n, w' = W.drewN n := strCmp_any
  have HC := hide hc
  clear hc
  go_enter Try.func14, Try.ntmps14
  go_wp2_with (go_at_call 23; refine Calls.mono (HC.out _ _ _ ?_ ?_) ?_; assumption; assumption; rintro e w2 ⟨rfl, n, rfl⟩)
  all_goals
    go_ret
    exact ⟨ret_int (by clear HC; simp_all [cmpZ]), by repeat (first | exact Gr.refl _ | apply Gr.drewN | apply Gr.alloc)⟩

/-- a role or a permission, not both and not neither -/
def validZ (x : ZB) : Bool := (x.2.1.toList.isEmpty) != (x.2.2.1.toList.isEmpty)

set_option maxHeartbeats 400000 in
theorem zzValid_any (x : ZB) (w : World) :
    Calls Try.prog 13 #[aggZ x] w fun e w' => e = .returned (.bool (validZ x)) ∧ Gr w w' := by
  obtain ⟨p, r, m, s⟩ := x
  simp only [aggZ]
  go_enter Try.func13, Try.ntmps13
  go_wp2
  go_ret
  exact ⟨rfl, by repeat (first | exact Gr.refl _ | apply Gr.drewN | apply Gr.alloc)⟩

/-- the four fields agree -/
def sameZ (x y : ZB) : Bool := x.1.toList == y.1.toList && x.2.1.toList == y.2.1.toList && x.2.2.1.toList == y.2.2.1.toList && x.2.2.2.toList == y.2.2.2.toList

set_option maxHeartbeats 400000 in
theorem zzSame_any (x y : ZB) (w : World) :
    Calls Try.prog 11 #[aggZ x, aggZ y] w fun e w' => e = .returned (.bool (sameZ x y)) ∧ Gr w w' := by
  obtain ⟨p, r, m, s⟩ := x
  obtain ⟨p', r', m', s'⟩ := y
  simp only [aggZ]
  go_enter Try.func11, Try.ntmps11
  go_wp2
  all_goals
    go_ret
    exact ⟨ret_bool (by simp_all [sameZ]), by repeat (first | exact Gr.refl _ | apply Gr.drewN | apply Gr.alloc)⟩

set_option maxHeartbeats 400000 in
theorem zzToB_any (x : ZB) (w : World) :
    Calls Try.prog 16 #[aggZ x] w fun e w' => e = .returned (aggZ x) ∧ Gr w w' := by
  obtain ⟨p, r, m, s⟩ := x
  simp only [aggZ]
  go_enter Try.func16, Try.ntmps16
  go_wp2
  refine bodyPost_ret (v := .agg #[.string p, .string r, .string m, .string s]) (by simp [results, Try.results16, go_sem]) rfl ⟨rfl, by repeat (first | exact Gr.refl _ | apply Gr.drewN | apply Gr.alloc)⟩

theorem cbB_less {a b : ByteArray} (h : Op.bytesLess a.toList b.toList = true) : cbB a b = -1 := by
  rw [ByteArray.toList_eq, ByteArray.toList_eq] at h
  rw [cbB, cb_less, if_pos h]
theorem cbB_same {a b : ByteArray} (h : Op.bytesLess a.toList b.toList = false) (h2 : (!a.toList == b.toList) = false) : cbB a b = 0 := by
  rw [ByteArray.toList_eq, ByteArray.toList_eq] at h h2
  rw [cbB, cb_less, if_neg (by simp [h]), if_pos (by simpa using h2)]
theorem cbB_more {a b : ByteArray} (h : Op.bytesLess a.toList b.toList = false) (h2 : (!a.toList == b.toList) = true) : cbB a b = 1 := by
  rw [ByteArray.toList_eq, ByteArray.toList_eq] at h h2
  rw [cbB, cb_less, if_neg (by simp [h]), if_neg (by simpa using h2)]

set_option maxHeartbeats 400000 in
theorem compare_any (a b : ByteArray) (w : World) :
    Calls Try.prog 35 #[.string a, .string b] w fun e w' => e = .returned (.int .i64 (cbB a b)) ∧ w' = w := by
  go_enter Try.func35, Try.ntmps35
  go_wp2
  · go_ret
    exact ⟨ret_int (cbB_less ‹_›).symm, rfl⟩
  · go_ret
    exact ⟨ret_int (cbB_more ‹_› ‹_›).symm, rfl⟩
  · go_ret
    exact ⟨ret_int (cbB_same ‹_› ‹_›).symm, rfl⟩

/-- the first that is not nought -/
def orI (a b c d : Int) : Int := if a ≠ 0 then a else if b ≠ 0 then b else if c ≠ 0 then c else d

set_option maxHeartbeats 400000 in
theorem or_any (bk : Nat) (a b c d : Int) (w : World) (h0 : w.cell? ⟨bk, 0, none⟩ = some (.int .i64 a)) (h1 : w.cell? ⟨bk, 1, none⟩ = some (.int .i64 b)) (h2 : w.cell? ⟨bk, 2, none⟩ = some (.int .i64 c)) (h3 : w.cell? ⟨bk, 3, none⟩ = some (.int .i64 d)) :
    Calls Try.prog 34 #[.slice (some ⟨bk, 0, none⟩) 4 4] w fun e w' => e = .returned (.int .i64 (orI a b c d)) ∧ w' = w := by
  go_enter Try.func34, Try.ntmps34
  go_wp2
  refine wp_loop_rounds 5 ?_
  rw [rounds_succ]
  go_wp2
  · go_ret; exact ⟨ret_int (by simp_all [orI]), rfl⟩
  rw [rounds_succ]
  go_wp2
  · go_ret; exact ⟨ret_int (by simp_all [orI]), rfl⟩
  rw [rounds_succ]
  go_wp2
  · go_ret; exact ⟨ret_int (by simp_all [orI]), rfl⟩
  rw [rounds_succ]
  go_wp2
  · go_ret; exact ⟨ret_int (by simp_all [orI]), rfl⟩
  rw [rounds_succ]
  go_wp2
  go_ret; exact ⟨ret_int (by simp_all [orI]), rfl⟩

theorem wp_region_still_tail' {P : Program} {id : Nat} {Q : Exit → Act → World → Prop} {a : Act} {w : World} {l : List Oper} (n : Nat) (hm : P.follows .mixedOrders = true) (hB : Region.lexTailB .any l.toArray n = true)
    (h : wpStill P l.toArray w.drew (fun a' => wpList P l.toArray Q (l.drop n) a' w.drew) (l.take n) a) : (Code.region id l.toArray true).wp P Q a w := wp_region_still_tail n hm hB h
theorem mixed : Try.prog.follows .mixedOrders = true := by kernel_rfl

set_option maxRecDepth 20000 in
set_option maxHeartbeats 400000 in
theorem compareB_any (x y : ZB) (w : World) :
    Calls Try.prog 22 #[aggZ x, aggZ y] w fun e w' => e = .returned (.int .i64 (cmpZ x y)) ∧ Gr w w' := by
  obtain ⟨p, r, m, s⟩ := x
  obtain ⟨p', r', m', s'⟩ := y
  simp only [aggZ]
  go_enter Try.func22, Try.ntmps22
  go_wp2_with fail
  refine wp_region_still_tail' 20 mixed (by kernel_rfl) ?_
  simp only [List.take_succ_cons, List.take_zero, List.drop_succ_cons, List.drop_zero]
  repeat (first | still_step | still_call (compare_any _ _ _))
  refine wpStill_nil ?_
  go_wp2_with fail

  refine (or_any (w.heap.size + 2) (cbB p p') (cbB s s') (cbB r r') (cbB m m') _ ?_ ?_ ?_ ?_).mono ?_
  go_simp; go_simp; go_simp; go_simp
  rintro e w2 ⟨rfl, rfl⟩
  go_wp2_with fail
  go_ret
  exact ⟨ret_int (by simp [orI, cmpZ]), by repeat (first | exact Gr.refl _ | apply Gr.drewN | apply Gr.alloc | exact (Gr.refl _).drewN 1)⟩
end Go.Proofs.Qxb6627916a
