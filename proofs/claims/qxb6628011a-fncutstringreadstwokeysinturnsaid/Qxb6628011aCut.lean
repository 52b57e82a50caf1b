import Derived.Test.Qxb6628011aPlain
import Derived.WalkKit
import Derived.Below
import Derived.OwnWalk
import Derived.Deep.AppendLies
import Derived.Deep.QuietTactic
import Derived.BigQuiet
import Derived.Deep.MidRow
import Derived.Laws.IdiomStrings
import Derived.Laws.BytesArg
namespace Go.Proofs.Qxb6628011a
set_option linter.unusedSimpArgs false
open Go.RowKit

theorem hide {p : Prop} (h : p) : Hid p := h
def byteV (b : UInt8) : Value := .int .u8 b.toNat
theorem info5 : (Try.prog.info? 5).map (fun i => (i.zero, i.size, i.bytes)) = some (some (.int .u8 0), 1, 1) := by kernel_rfl
theorem mixed : Try.prog.follows .mixedOrders = true := by kernel_rfl
/-- a slice of bytes as it lies -/
def SlB (w : World) (a : Option Addr) (l : B) : Prop := 0 < l.length → ∃ g o, a = some ⟨g, o, none⟩ ∧ g < w.heap.size ∧ ∀ i (h : i < l.length), w.cell? ⟨g, o + i, none⟩ = some (byteV (l[i]'h))
theorem SlB.below {B' : Nat} {w w' : World} {a : Option Addr} {l : B} (h : SlB w a l) (hb : Below B' w w') (hB : w.heap.size ≤ B') : SlB w' a l := fun h0 => by
  obtain ⟨g, o, e, hg, hr⟩ := h h0
  exact ⟨g, o, e, Nat.lt_of_lt_of_le hg hb.size, fun i hi => (hb.cell (p := ⟨g, o + i, none⟩) (Nat.lt_of_lt_of_le hg hB)).trans (hr i hi)⟩

theorem bytes1_any (a : Option Addr) (n cap : Nat) (hn : n ≤ maxLen) (w : World) : Calls Try.prog 5 #[.slice a n cap] w fun e w' => (∃ r, e = .returned (.bool r)) ∧ w' = w := by
  unfold maxLen at hn
  by_cases h : 1048576 < n
  · go_enter Try.func5, Try.ntmps5
    go_wp2_with fail
    go_ret
    exact ⟨⟨_, rfl⟩, rfl⟩
  · go_enter Try.func5, Try.ntmps5
    go_wp2_with fail
    go_ret
    exact ⟨⟨_, rfl⟩, rfl⟩

theorem below_drewN {b : Nat} {u w : World} (h : Below b u w) (n : Nat) : Below b u (w.drewN n) := ⟨h.os, h.tape, h.output, h.size, h.block⟩
/-- 'string(out)' of a slice of bytes that the call owns -/
theorem conv_own {w : World} {base : Nat} {v : Value} {out : B} (h : w.ownsRow base 5 1 v out.length (out.map byteV)) : (convert 22 9 v).run Try.prog w = .ok (.string ⟨out.toArray⟩) w := by
  obtain ⟨hl, ⟨rfl, h0⟩ | ⟨g, cap, cur, rfl, hg, hh, h1, h2, h3, h4⟩⟩ := h
  · obtain rfl : out = [] := List.length_eq_zero_iff.1 h0
    exact run_convert_bytes_nil (P := Try.prog) (w := w) 22 5 Try.underlying22 Try.underlying5 0 0 9 Try.underlying9
  · refine run_convert_bytes_back w 22 9 5 ⟨g, 0, none⟩ cap out Try.underlying22 Try.underlying5 Try.underlying9 (fun j hj => ?_)
    rw [Addr.add_mid, Nat.zero_add]
    unfold World.cell?
    rw [hh]
    have e : (cur.toList.take (out.length * 1))[j]? = some (byteV (out[j]'hj)) := by rw [h4]; simp [hj]
    rw [List.getElem?_take, if_pos (by omega)] at e
    simpa [byteV] using e

/-- what CutString answers -/
def CutE (w : World) (l : B) (a : Option Addr) (n : Nat) (e : Ending) (w' : World) : Prop := Below w.heap.size w w' ∧
  ((e = .returned (.tuple #[.string ⟨#[]⟩, .slice none 0 0, .bool false]) ∧ ∀ k, First l k → l[k + 1]? ≠ some 1) ∨
   ∃ k ad cp, First l k ∧ l[k + 1]? = some 1 ∧ e = .returned (.tuple #[.string ⟨(want l k).toArray⟩, .slice ad (n - (k + 2)) cp, .bool true]) ∧ n - (k + 2) ≤ cp ∧ ∀ g o, a = some ⟨g, o, none⟩ → k + 2 < n → ad = some ⟨g, o + (k + 2), none⟩)

set_option maxHeartbeats 2000000 in
set_option maxRecDepth 100000 in
theorem cut_any (a : Option Addr) (l : B) (cap : Nat) (w : World) (hs : SlB w a l) (hc : l.length ≤ cap) (hn : l.length ≤ 2097152) : Calls Try.prog 6 #[.slice a l.length cap] w (CutE w l a l.length) := by
  obtain ⟨n, hnl⟩ : ∃ n, n = l.length := ⟨_, rfl⟩
  rw [← hnl] at hc hn ⊢
  have N := hide hnl
  have S := hide hs
  obtain ⟨i0, hi0, hz0, hz1, hz2⟩ := info_parts info5
  clear hnl hs
  go_enter Try.func6, Try.ntmps6
  go_wp2_with fail
  go_loopw [5, 6] (fun vo vi wr => ∃ (i : Nat) (out : B), i ≤ n ∧ vi = .int .i64 i ∧ out.length ≤ i ∧ Hid (wr.ownsRow w.heap.size 5 1 vo out.length (out.map byteV)) ∧ Hid (Inv l i out) ∧ Hid (Below w.heap.size w wr)) (fun _ vi _ => n - (intOf vi).toNat)
  case atStart => exact ⟨0, [], Nat.zero_le _, rfl, Nat.le_refl _, ⟨rfl, .inl ⟨rfl, rfl⟩⟩, Inv.zero l, Below.refl _ _⟩
  case round =>
    obtain ⟨i, out, hi, rfl, hol, hrow, hinv, hbel⟩ := hrel
    by_cases hin : i + 1 < n
    · have hl1 : i + 1 < l.length := by rw [← N.out]; exact hin
      obtain ⟨g, off, had, hgs, hcell⟩ := S.out (by omega)
      subst had
      have h0 : l[i]? = some (l[i]'(by omega)) := List.getElem?_eq_getElem (by omega)
      have h1 : l[i + 1]? = some (l[i + 1]'hl1) := List.getElem?_eq_getElem hl1
      have c0 : wr.cell? ⟨g, off + i, none⟩ = some (byteV (l[i]'(by omega))) := (hbel.out.cell hgs).trans (hcell i (by omega))
      have c1 : wr.cell? ⟨g, off + (i + 1), none⟩ = some (byteV (l[i + 1]'hl1)) := (hbel.out.cell hgs).trans (hcell (i + 1) hl1)
      obtain ⟨x, hx⟩ : ∃ x, x = l[i]'(by omega) := ⟨_, rfl⟩
      obtain ⟨y, hy⟩ : ∃ y, y = l[i + 1]'hl1 := ⟨_, rfl⟩
      rw [← hx] at h0 c0
      rw [← hy] at h1 c1
      have H0 := hide h0
      have H1 := hide h1
      clear hx hy h0 h1 hcell
      unfold byteV at c0 c1
      by_cases hx0 : x = 0
      · subst hx0
        have c0' : wr.cell? ⟨g, off + i, none⟩ = some (.int .u8 0) := c0
        clear c0
        by_cases hy1 : y = 255
        · subst hy1
          have c1' : wr.cell? ⟨g, off + (i + 1), none⟩ = some (.int .u8 255) := c1
          have hinv2 := hide (hinv.out.two H0.out H1.out)
          clear c1
          have HNB := hide (show (wr.alloc (.cells #[.int .u8 0] 5)).heap[wr.heap.size]? = some (.cells #[.int .u8 0] 5 (0, 0)) from (MapKept.heap_alloc wr _).1)
          go_wp2_with (at_builtin; refine wpList_append_lies _ rfl _ _ 22 rfl w.heap.size 5 i0 (.int .u8 0) 1 1 Try.underlying22 hi0 hz0 hz1 hz2 rfl (by omega) u5 out.length _ rfl (hrow.out.alloc _) ⟨wr.heap.size, 0, none⟩ 1 1 [.int .u8 0] rfl rfl (World.news_of_block HNB.out) (by simp [Value.oneCell']) (by omega) (by unfold maxLen; omega) (by omega) (by have := hbel.out.size; simp; omega) (wr.heap.size + 1) (by simp) ?_; intro g3 cap3 w3 hr3 hg3 hat3 hlt3)
          have hr4 : Hid (w3.ownsRow w.heap.size 5 1 (.slice (some ⟨g3, 0, none⟩) (out.length + 1) cap3) (out ++ [0]).length ((out ++ [(0 : UInt8)]).map byteV)) := by
            rw [List.map_append, List.length_append]; exact hr3
          have hb4 : Hid (Below w.heap.size w w3) := (hbel.out.alloc (hbel.out.size) _).grown hg3 (by have := hbel.out.size; simp; omega) (fun j hj => (hrow.out.lt _ hj).1)
          clear hr3 hg3 hat3 hlt3 hrow hbel
          go_wp2_with fail
          exact ⟨⟨i + 2, out ++ [0], by omega, by go_num, by simp; omega, hr4.out, hinv2.out, hb4.out⟩, by simp [intOf]; omega⟩
        · have hfst := hide (hinv.out.first H0.out (by rw [H1.out]; exact fun e => hy1 (Option.some.inj e)))
          have hyn : y.toNat ≠ 255 := fun e => hy1 (UInt8.toNat_inj.1 e)
          by_cases hy2 : y = 1
          · subst hy2
            have c1' : wr.cell? ⟨g, off + (i + 1), none⟩ = some (.int .u8 1) := c1
            have hcv : ∀ m, (convert 22 9 u5).run Try.prog (wr.drewN m) = .ok (.string ⟨out.toArray⟩) (wr.drewN m) := fun m => conv_own (w := wr.drewN m) hrow.out
            have hout := hide hinv.out.out
            clear c1 hyn hy1 hrow hinv
            go_wp2_with fail
            go_quiet (fail)
            go_wp2_with fail
            · go_ret3
              exact ⟨below_drewN hbel.out nq, .inr ⟨i, _, _, hfst.out, H1.out, by rw [hout.out]; rfl, by omega, fun _ _ _ h => by omega⟩⟩
            · go_ret3
              exact ⟨below_drewN hbel.out nq, .inr ⟨i, _, _, hfst.out, H1.out, by rw [hout.out]; rfl, by omega, fun _ _ e _ => by cases e; rfl⟩⟩
          · have hyn1 : y.toNat ≠ 1 := fun e => hy2 (UInt8.toNat_inj.1 e)
            have hno : Hid (∀ k, First l k → l[k + 1]? ≠ some 1) := fun k hk => by
              rw [hk.unique hfst.out, H1.out]
              exact fun e => hy2 (Option.some.inj e)
            obtain ⟨yn, hye⟩ : ∃ yn, yn = y.toNat := ⟨_, rfl⟩
            rw [← hye] at c1 hyn hyn1
            clear hye hy1 hy2 hinv
            go_wp2_with fail
            go_ret3
            exact ⟨hbel.out, .inl ⟨rfl, hno.out⟩⟩
      · have hxn : x.toNat ≠ 0 := fun e => hx0 (UInt8.toNat_inj.1 e)
        have hinv1 := hide (hinv.out.one H0.out hx0)
        obtain ⟨xn, hxe⟩ : ∃ xn, xn = x.toNat := ⟨_, rfl⟩
        rw [← hxe] at c0 hxn
        have HX := hide hxe
        clear hxe hx0
        have HNB := hide (show (wr.alloc (.cells #[.int .u8 xn] 5)).heap[wr.heap.size]? = some (.cells #[.int .u8 xn] 5 (0, 0)) from (MapKept.heap_alloc wr _).1)
        go_wp2_with (at_builtin; refine wpList_append_lies _ rfl _ _ 22 rfl w.heap.size 5 i0 (.int .u8 0) 1 1 Try.underlying22 hi0 hz0 hz1 hz2 rfl (by omega) u5 out.length _ rfl (hrow.out.alloc _) ⟨wr.heap.size, 0, none⟩ 1 1 [.int .u8 xn] rfl rfl (World.news_of_block HNB.out) (by simp [Value.oneCell']) (by omega) (by unfold maxLen; omega) (by omega) (by have := hbel.out.size; simp; omega) (wr.heap.size + 1) (by simp) ?_; intro g3 cap3 w3 hr3 hg3 hat3 hlt3)
        have hr4 : Hid (w3.ownsRow w.heap.size 5 1 (.slice (some ⟨g3, 0, none⟩) (out.length + 1) cap3) (out ++ [x]).length ((out ++ [x]).map byteV)) := by
          rw [List.map_append, List.length_append]
          rw [HX.out] at hr3
          exact hr3
        have hb4 : Hid (Below w.heap.size w w3) := (hbel.out.alloc (hbel.out.size) _).grown hg3 (by have := hbel.out.size; simp; omega) (fun j hj => (hrow.out.lt _ hj).1)
        clear hr3 hg3 hat3 hlt3 hrow hbel
        go_wp2_with fail
        exact ⟨⟨i + 1, out ++ [x], by omega, by go_num, by simp; omega, hr4.out, hinv1.out, hb4.out⟩, by simp [intOf]; omega⟩
    · have hend := hide (hinv.out.ends (by rw [← N.out]; omega))
      go_wp2_with fail
      go_ret3
      exact ⟨hbel.out, .inl ⟨rfl, hend.out⟩⟩
end Go.Proofs.Qxb6628011a
