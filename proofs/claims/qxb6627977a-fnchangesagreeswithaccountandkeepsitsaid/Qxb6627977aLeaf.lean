import Derived.Test.Qxb6627977aRows
import Derived.Test.Qxb6627977aPlain
import Derived.WalkKit
import Derived.WalkSpells
import Derived.WalkLawsBesides
import Derived.Deep.QuietTactic
import Derived.Deep.MidRow
import Derived.Deep.WholeRow
import Derived.BigQuiet
import Derived.OwnWalk
import Derived.Sort.Grow
import Derived.Below
import Derived.StillTailTactics
import Derived.Shelf.SlSortCmp.QuietGrown
namespace Go.Proofs.Qxb6627977a
open Go.RowKit Go.Sort

theorem hide {p : Prop} (h : p) : Hid p := h
theorem ret_bool {a b : Bool} (h : a = b) : Ending.returned (.bool a) = .returned (.bool b) := by rw [h]
theorem mixed : Try.prog.follows .mixedOrders = true := by kernel_rfl
def byteV (b : UInt8) : Value := .int .u8 b.toNat
/-- a key's cells -/
def kc (k : Key) : List Value := k.map byteV
def keyA (k : Key) : Array Value := (kc k).toArray
theorem kc_get {k : Key} {i : Nat} (h : i < k.length) : (keyA k)[i]? = some (byteV (k[i]'h)) := by simp [keyA, kc, h]
theorem keyA_size (k : Key) : (keyA k).size = k.length := by simp [keyA, kc]
/-- an account's cells -/
def acc (a : Ac) : List Value := [.int .u64 a.1, .int .u64 a.2.1, .int .u64 a.2.2]
/-- a record's cells -/
def rc (x : AR) : List Value := kc x.1 ++ acc x.2
def recA (x : AR) : Array Value := (rc x).toArray
/-- w' is w with draws taken and new blocks laid. -/
def Gr (w w' : World) : Prop := ∃ (q : Nat) (os : Array Obj), w' = grow (w.drewN q) os
theorem Gr.refl (w : World) : Gr w w := ⟨0, #[], by rw [grow_empty]; rfl⟩
theorem Gr.alloc {w v : World} (h : Gr w v) (o : Obj) : Gr w (v.alloc o) := by
  obtain ⟨q, os, rfl⟩ := h
  exact ⟨q, os ++ #[o], by rw [alloc_eq_grow, grow_grow]⟩
theorem Gr.drewN {w v : World} (h : Gr w v) (n : Nat) : Gr w (v.drewN n) := by
  obtain ⟨q, os, rfl⟩ := h
  exact ⟨q + n, os, by show grow ((w.drewN q).drewN n) os = _; rw [World.drewN_drewN]⟩
theorem Gr.trans {u v w : World} (h : Gr u v) (k : Gr v w) : Gr u w := by
  obtain ⟨q, os, rfl⟩ := h
  obtain ⟨q', os', rfl⟩ := k
  exact ⟨q + q', os ++ os', by show grow ((grow (u.drewN q) os).drewN q') os' = _; show grow (grow ((u.drewN q).drewN q') os) os' = _; rw [grow_grow, World.drewN_drewN]⟩
theorem Gr.below {w v : World} (h : Gr w v) : Below w.heap.size w v := by
  obtain ⟨q, os, rfl⟩ := h
  exact ⟨rfl, rfl, rfl, by simp, fun k hk => heap_grow_old _ _ hk⟩
theorem cell_new (w : World) (c : Array Value) (T : TypeId) (o : Nat) : (w.alloc (.cells c T)).cell? ⟨w.heap.size, o, none⟩ = c[o]? := by
  unfold World.cell?
  rw [heap_alloc_last]
  rfl
theorem cell_alloc {w : World} {p : Addr} {v : Value} (h : w.cell? p = some v) (o : Obj) : (w.alloc o).cell? p = some v :=
  (((Below.refl w.heap.size w).alloc (Nat.le_refl _) o).cell (World.block_lt_of_cell? w _ h)).trans h

set_option maxHeartbeats 1000000 in
set_option maxRecDepth 100000 in
theorem keyLess_any (a b : Key) (ha : a.length = 32) (hb : b.length = 32) (w : World) :
    Calls Try.prog 14 #[.agg (keyA a), .agg (keyA b)] w fun e w' => e = .returned (.bool (decide (klt a b))) ∧ ∃ q os, w' = grow (w.drewN q) os := by
  obtain ⟨A, hA⟩ : ∃ A, A = keyA a := ⟨_, rfl⟩
  obtain ⟨B, hB⟩ : ∃ B, B = keyA b := ⟨_, rfl⟩
  obtain ⟨R, hR⟩ : ∃ R, R = decide (klt a b) := ⟨_, rfl⟩
  rw [← hA, ← hB, ← hR]
  have HR := hide hR
  clear hR
  have HA := hide hA
  have HB := hide hB
  have LA := hide ha
  have LB := hide hb
  clear hA hB ha hb
  go_enter Try.func14, Try.ntmps14
  go_wp2_with fail
  obtain ⟨W, hW⟩ : ∃ W, W = (w.alloc (.cells A 31)).alloc (.cells B 31) := ⟨_, rfl⟩
  rw [← hW]
  have hcA : Hid (∀ i (h : i < a.length), W.cell? ⟨w.heap.size, i, none⟩ = some (byteV (a[i]'h))) := fun i h => by
    rw [hW]
    exact cell_alloc (by rw [cell_new, HA.out, kc_get h]) _
  have hcB : Hid (∀ i (h : i < b.length), W.cell? ⟨w.heap.size + 1, i, none⟩ = some (byteV (b[i]'h))) := fun i h => by
    rw [hW]
    have := cell_new (w.alloc (.cells A 31)) B 31 i
    rw [show (w.alloc (.cells A 31)).heap.size = w.heap.size + 1 by simp] at this
    rw [this, HB.out, kc_get h]
  have hGr : Hid (Gr w W) := by show Gr w W; rw [hW]; exact ((Gr.refl w).alloc _).alloc _
  clear hW
  go_loopw [5] (fun vi wr => ∃ i q : Nat, i ≤ 32 ∧ vi = .int .i64 i ∧ Hid (a.take i = b.take i) ∧ wr = W.drewN q) (fun vi _ => 32 - (intOf vi).toNat)
  case atStart => exact ⟨0, 0, by omega, rfl, rfl, rfl⟩
  case round =>
    obtain ⟨i, q, hi, rfl, htk, rfl⟩ := hrel
    by_cases hin : i < 32
    · have hia : i < a.length := by rw [LA.out]; exact hin
      have hib : i < b.length := by rw [LB.out]; exact hin
      obtain ⟨x, hx⟩ : ∃ x, x = (a[i]'hia).toNat := ⟨_, rfl⟩
      obtain ⟨y, hy⟩ : ∃ y, y = (b[i]'hib).toNat := ⟨_, rfl⟩
      have h1 : W.cell? ⟨w.heap.size, i, none⟩ = some (.int .u8 x) := by rw [hx]; exact hcA.out i hia
      have h2 : W.cell? ⟨w.heap.size + 1, i, none⟩ = some (.int .u8 y) := by rw [hy]; exact hcB.out i hib
      have HX := hide hx
      have HY := hide hy
      clear hx hy
      rcases Nat.lt_trichotomy x y with hxy | hxy | hxy
      · have hK : Hid (R = true) := by show R = true; rw [HR.out]; apply decide_eq_true; unfold klt; rw [cb_lt hia hib htk.out (by rw [← HX.out, ← HY.out]; exact hxy)]; omega
        go_wp2
        go_quiet (fail)
        go_wp2
        go_quiet (fail)
        go_wp2
        go_ret
        exact ⟨ret_bool hK.out.symm, ((hGr.out.drewN _).drewN _).drewN _⟩
      · subst hxy
        have HS : Hid (a.take (i + 1) = b.take (i + 1)) := take_eq_succ hia hib htk.out (HX.out.symm.trans HY.out)
        go_wp2
        go_quiet (fail)
        go_wp2
        go_roundw
        case rel => exact ⟨i + 1, _, by omega, by go_num, HS.out, by first | rfl | (simp only [World.drewN_drewN]; rfl)⟩
        case measure => simp [intOf]; omega
      · have hK : Hid (R = false) := by show R = false; rw [HR.out]; apply decide_eq_false; unfold klt; rw [cb_gt hia hib htk.out (by rw [← HX.out, ← HY.out]; exact hxy)]; omega
        have hle : y ≤ x := by omega
        go_wp2
        go_quiet (fail)
        go_wp2
        go_quiet (fail)
        go_wp2
        go_ret
        exact ⟨ret_bool (by rw [hK.out]; first | rfl | (apply decide_eq_false; omega)), ((hGr.out.drewN _).drewN _).drewN _⟩
    · have hK : Hid (R = false) := by
        show R = false
        rw [HR.out]
        apply decide_eq_false
        have h1 := htk.out
        rw [List.take_of_length_le (by rw [LA.out]; omega), List.take_of_length_le (by rw [LB.out]; omega)] at h1
        rw [h1]; exact klt_irrefl b
      clear htk
      go_wp2
      go_ret
      exact ⟨ret_bool hK.out.symm, hGr.out.drewN q⟩

theorem rec_num {x : AR} (hx : x.1.length = 32) : (recA x)[32]? = some (.int .u64 x.2.1) ∧ (recA x)[33]? = some (.int .u64 x.2.2.1) ∧ (recA x)[34]? = some (.int .u64 x.2.2.2) := by
  have hl : (kc x.1).length = 32 := by simp [kc, hx]
  refine ⟨?_, ?_, ?_⟩
  all_goals
    unfold recA rc
    rw [List.getElem?_toArray, List.getElem?_append_right (by omega), hl]
    rfl

set_option maxHeartbeats 1000000 in
set_option maxRecDepth 100000 in
theorem acctZero_any (x : AR) (hx : x.1.length = 32) (w : World) :
    Calls Try.prog 13 #[.agg (recA x)] w fun e w' => (∃ r, e = .returned (.bool r)) ∧ ∃ q os, w' = grow (w.drewN q) os := by
  obtain ⟨h1, h2, h3⟩ := rec_num hx
  obtain ⟨X, hX⟩ : ∃ X, X = recA x := ⟨_, rfl⟩
  rw [← hX] at h1 h2 h3 ⊢
  clear hX
  go_enter Try.func13, Try.ntmps13
  go_wp2_with fail
  all_goals
    go_ret
    exact ⟨⟨_, rfl⟩, (Gr.refl w).alloc _⟩

set_option maxHeartbeats 1000000 in
set_option maxRecDepth 100000 in
theorem sameFields_any (x y : AR) (hx : x.1.length = 32) (hy : y.1.length = 32) (w : World) :
    Calls Try.prog 16 #[.agg (recA x), .agg (recA y)] w fun e w' => (∃ r, e = .returned (.bool r)) ∧ ∃ q os, w' = grow (w.drewN q) os := by
  obtain ⟨h1, h2, h3⟩ := rec_num hx
  obtain ⟨g1, g2, g3⟩ := rec_num hy
  obtain ⟨X, hX⟩ : ∃ X, X = recA x := ⟨_, rfl⟩
  obtain ⟨Y, hY⟩ : ∃ Y, Y = recA y := ⟨_, rfl⟩
  rw [← hX] at h1 h2 h3 ⊢
  rw [← hY] at g1 g2 g3 ⊢
  clear hX hY
  go_enter Try.func16, Try.ntmps16
  go_wp2_with fail
  all_goals
    go_ret
    exact ⟨⟨_, rfl⟩, ((Gr.refl w).alloc _).alloc _⟩

set_option maxHeartbeats 1000000 in
set_option maxRecDepth 100000 in
theorem eq_any (a : Ac) (x : AR) (hx : x.1.length = 32) (w : World) :
    Calls Try.prog 9 #[.agg (acc a).toArray, .agg (recA x)] w fun e w' => e = .returned (.bool (decide (a = x.2))) ∧ ∃ q os, w' = grow (w.drewN q) os := by
  obtain ⟨g1, g2, g3⟩ := rec_num hx
  obtain ⟨Y, hY⟩ : ∃ Y, Y = recA x := ⟨_, rfl⟩
  rw [← hY] at g1 g2 g3 ⊢
  clear hY hx
  obtain ⟨a1, a2, a3⟩ := a
  obtain ⟨k, b1, b2, b3⟩ := x
  simp only [acc]
  simp only at g1 g2 g3
  go_enter Try.func9, Try.ntmps9
  go_wp2_with fail
  all_goals
    go_ret
    refine ⟨ret_bool ?_, ((Gr.refl w).alloc _).alloc _⟩
    first
      | (simp [*]; done)
      | (rw [Bool.eq_iff_iff]; simp [*])
end Go.Proofs.Qxb6627977a
