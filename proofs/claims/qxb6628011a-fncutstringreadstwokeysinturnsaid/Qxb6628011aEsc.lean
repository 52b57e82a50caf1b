import Derived.Test.Qxb6628011aCut
namespace Go.Proofs.Qxb6628011a
set_option linter.unusedSimpArgs false
open Go.RowKit

theorem own_as {w : World} {base n n' : Nat} {v : Value} {xs ys : List Value} (h : w.ownsRow base 5 1 v n xs) (hn : n = n') (hx : xs = ys) : w.ownsRow base 5 1 v n' ys := by
  subst hn hx
  exact h
theorem nb (W : World) (v : Value) : (W.alloc (.cells #[v] 5)).heap[W.heap.size]? = some (.cells #[v] 5 (0, 0)) := (MapKept.heap_alloc W _).1
theorem bytes3_any (s t : ByteArray) (a : Option Addr) (n cap : Nat) (hs : s.size ≤ maxLen) (ht : t.size ≤ maxLen) (hn : n ≤ maxLen) (w : World) : Calls Try.prog 7 #[.string s, .string t, .slice a n cap] w fun e w' => (∃ r, e = .returned (.bool r)) ∧ w' = w := by
  obtain ⟨p, hp⟩ : ∃ p, p = s.size := ⟨_, rfl⟩
  obtain ⟨q, hq⟩ : ∃ q, q = t.size := ⟨_, rfl⟩
  rw [← hp] at hs
  rw [← hq] at ht
  unfold maxLen at hn hs ht
  have hp' : s.size = p := hp.symm
  have hq' : t.size = q := hq.symm
  clear hp hq
  go_enter Try.func7, Try.ntmps7
  go_wp2_with fail
  all_goals
    go_ret
    exact ⟨⟨_, rfl⟩, rfl⟩
def EscE (base : Nat) (w : World) (ys : B) (e : Ending) (w' : World) : Prop := ∃ v', e = .returned v' ∧ w'.ownsRow base 5 1 v' ys.length (ys.map byteV) ∧ Below base w w'

set_option maxHeartbeats 2000000 in
set_option maxRecDepth 100000 in
theorem esc_any (base : Nat) (v : Value) (xs : B) (s : ByteArray) (w : World) (h : w.ownsRow base 5 1 v xs.length (xs.map byteV)) (hb : base ≤ w.heap.size) (hx : xs.length ≤ 1048576) (hs : s.size ≤ 131072) :
    Calls Try.prog 8 #[v, .string s] w (EscE base w (xs ++ esc s.data.toList ++ [0, 1])) := by
  obtain ⟨l, hl⟩ : ∃ l : B, l = s.data.toList := ⟨_, rfl⟩
  obtain ⟨n, hn⟩ : ∃ n, n = s.size := ⟨_, rfl⟩
  have hnl : n = l.length := by rw [hn, hl]; rfl
  rw [← hl]
  rw [← hn] at hs
  have HL := hide hl
  have HN := hide hnl
  have hn' : s.size = n := hn.symm
  have HO := hide h
  obtain ⟨i0, hi0, hz0, hz1, hz2⟩ := info_parts info5
  clear h hl hn hnl
  go_enter Try.func8, Try.ntmps8
  go_wp2_with fail
  go_loopw [0, 5] (fun vb vi wr => ∃ (i ne : Nat) (es : B), i ≤ n ∧ vi = .int .i64 i ∧ es.length = ne ∧ ne ≤ 2 * i ∧ Hid (es = esc (l.take i)) ∧ Hid (wr.ownsRow base 5 1 vb (xs.length + ne) ((xs ++ es).map byteV)) ∧ Hid (Below base w wr)) (fun _ vi _ => n - (intOf vi).toNat)
  case atStart => exact ⟨0, 0, [], Nat.zero_le _, rfl, rfl, Nat.le_refl _, rfl, by have := HO.out; show w.ownsRow _ _ _ _ _ _; simpa using this, Below.refl _ _⟩
  case round =>
    clear HO
    obtain ⟨i, ne, es, hi, rfl, hel, hne, hes, hrow, hbel⟩ := hrel
    have hbw : Hid (base ≤ wr.heap.size) := Nat.le_trans hb hbel.out.size
    have HEL := hide hel
    clear hel
    by_cases hin : i < n
    · have hil : i < l.length := by rw [← HN.out]; exact hin
      have hsz : i < s.size := by rw [hn']; exact hin
      obtain ⟨x, hx0⟩ : ∃ x, x = l[i]'hil := ⟨_, rfl⟩
      have hsx0 : s[i]'hsz = x := by
        rw [hx0]
        have e : l = s.data.toList := HL.out
        subst e
        rfl
      obtain ⟨xn, hxn⟩ : ∃ xn, xn = x.toNat := ⟨_, rfl⟩
      have hsx : (s[i]'hsz).toNat = xn := by rw [hsx0, hxn]
      have htk : l.take (i + 1) = l.take i ++ [x] := by rw [take_succ_snoc hil, hx0]
      have hes' : Hid (es ++ esc1 x = esc (l.take (i + 1))) := by show _ = _; rw [htk, esc_snoc, hes.out]
      have HXN := hide hxn
      clear hx0 hsx0 hxn htk hes
      by_cases hz : x = 0
      · subst hz
        obtain rfl : xn = 0 := HXN.out
        have e1 : Hid (esc1 0 = [0, 255]) := rfl
        go_wp2_with (first | (at_builtin; refine wpList_append_lies _ rfl _ _ 22 rfl base 5 i0 (.int .u8 0) 1 1 Try.underlying22 hi0 hz0 hz1 hz2 rfl (by omega) u0 (xs.length + ne) _ rfl (hrow.out.alloc _) ⟨wr.heap.size, 0, none⟩ 1 1 [.int .u8 0] rfl rfl (World.news_of_block (nb wr (.int .u8 0))) (by simp [Value.oneCell']) (by omega) (by unfold maxLen; omega) (by omega) (by have h1 := hbw.out; have h2 := hbw.out; simp at h1 ⊢; omega) (wr.heap.size + 1) (by simp) ?_; intro g3 cap3 w3 hr3 hg3 hat3 hlt3) | (at_builtin; refine wpList_append_lies _ rfl _ _ 22 rfl base 5 i0 (.int .u8 0) 1 1 Try.underlying22 hi0 hz0 hz1 hz2 rfl (by omega) _ (xs.length + ne + 1) _ rfl (hr3.alloc _) ⟨w3.heap.size, 0, none⟩ 1 1 [.int .u8 255] rfl rfl (World.news_of_block (nb w3 (.int .u8 255))) (by simp [Value.oneCell']) (by omega) (by unfold maxLen; omega) (by omega) (by have h1 := hg3.size; have h2 := hbw.out; simp at h1 ⊢; omega) (w3.heap.size + 1) (by simp) ?_; intro g4 cap4 w4 hr4 hg4 hat4 hlt4))
        have hr5 : Hid (w4.ownsRow base 5 1 (.slice (some ⟨g4, 0, none⟩) (xs.length + ne + 1 + 1) cap4) (xs.length + (ne + 2)) ((xs ++ (es ++ [0, 255])).map byteV)) := own_as hr4 (by omega) (by simp [byteV])
        have hb3 : Below base w w3 := (hbel.out.alloc hbw.out _).grown hg3 (by have := hbw.out; simp; omega) (fun q hq => (hrow.out.lt _ hq).1)
        have hbw3 : base ≤ w3.heap.size := Nat.le_trans hb hb3.size
        have hb4 : Hid (Below base w w4) := (hb3.alloc hbw3 _).grown hg4 (by simp; omega) (fun q hq => (hr3.lt _ hq).1)
        clear hr3 hg3 hat3 hlt3 hr4 hg4 hat4 hlt4 hrow hbel hb3 hbw3
        go_wp2_with fail
        exact ⟨⟨i + 1, ne + 2, es ++ [0, 255], by omega, by go_num, by simp [HEL.out], by omega, hes'.out, hr5.out, hb4.out⟩, by simp [intOf]; omega⟩
      · have hxz : xn ≠ 0 := fun e => hz (UInt8.toNat_inj.1 (HXN.out.symm.trans e))
        have e1 : Hid (esc1 x = [x]) := by show _ = _; simp [esc1, hz]
        clear hz
        go_wp2_with (at_builtin; refine wpList_append_lies _ rfl _ _ 22 rfl base 5 i0 (.int .u8 0) 1 1 Try.underlying22 hi0 hz0 hz1 hz2 rfl (by omega) u0 (xs.length + ne) _ rfl (hrow.out.alloc _) ⟨wr.heap.size, 0, none⟩ 1 1 [.int .u8 xn] rfl rfl (World.news_of_block (nb wr (.int .u8 xn))) (by simp [Value.oneCell']) (by omega) (by unfold maxLen; omega) (by omega) (by have h1 := hbw.out; have h2 := hbw.out; simp at h1 ⊢; omega) (wr.heap.size + 1) (by simp) ?_; intro g3 cap3 w3 hr3 hg3 hat3 hlt3)
        have hr5 : Hid (w3.ownsRow base 5 1 (.slice (some ⟨g3, 0, none⟩) (xs.length + ne + 1) cap3) (xs.length + (ne + 1)) ((xs ++ (es ++ [x])).map byteV)) := own_as hr3 (by omega) (by rw [HXN.out]; simp [byteV])
        have hb3 : Hid (Below base w w3) := (hbel.out.alloc hbw.out _).grown hg3 (by have := hbw.out; simp; omega) (fun q hq => (hrow.out.lt _ hq).1)
        have hes2 : Hid (es ++ [x] = esc (l.take (i + 1))) := by show _ = _; rw [← e1.out]; exact hes'.out
        clear hr3 hg3 hat3 hlt3 hrow hbel
        go_wp2_with fail
        exact ⟨⟨i + 1, ne + 1, es ++ [x], by omega, by go_num, by simp [HEL.out], by omega, hes2.out, hr5.out, hb3.out⟩, by simp [intOf]; omega⟩
    · have hes2 : Hid (es = esc l) := by
        show _ = _
        rw [hes.out]
        congr 1
        exact List.take_of_length_le (by rw [← HN.out]; omega)
      clear hes
      go_wp2_with (first | (at_builtin; refine wpList_append_lies _ rfl _ _ 22 rfl base 5 i0 (.int .u8 0) 1 1 Try.underlying22 hi0 hz0 hz1 hz2 rfl (by omega) u0 (xs.length + ne) _ rfl (hrow.out.alloc _) ⟨wr.heap.size, 0, none⟩ 1 1 [.int .u8 0] rfl rfl (World.news_of_block (nb wr (.int .u8 0))) (by simp [Value.oneCell']) (by omega) (by unfold maxLen; omega) (by omega) (by have h1 := hbw.out; have h2 := hbw.out; simp at h1 ⊢; omega) (wr.heap.size + 1) (by simp) ?_; intro g3 cap3 w3 hr3 hg3 hat3 hlt3) | (at_builtin; refine wpList_append_lies _ rfl _ _ 22 rfl base 5 i0 (.int .u8 0) 1 1 Try.underlying22 hi0 hz0 hz1 hz2 rfl (by omega) _ (xs.length + ne + 1) _ rfl (hr3.alloc _) ⟨w3.heap.size, 0, none⟩ 1 1 [.int .u8 1] rfl rfl (World.news_of_block (nb w3 (.int .u8 1))) (by simp [Value.oneCell']) (by omega) (by unfold maxLen; omega) (by omega) (by have h1 := hg3.size; have h2 := hbw.out; simp at h1 ⊢; omega) (w3.heap.size + 1) (by simp) ?_; intro g4 cap4 w4 hr4 hg4 hat4 hlt4))
      go_ret
      have hb3 : Below base w w3 := (hbel.out.alloc hbw.out _).grown hg3 (by have := hbw.out; simp; omega) (fun q hq => (hrow.out.lt _ hq).1)
      have hbw3 : base ≤ w3.heap.size := Nat.le_trans hb hb3.size
      have hb4 : Below base w w4 := (hb3.alloc hbw3 _).grown hg4 (by simp; omega) (fun q hq => (hr3.lt _ hq).1)
      exact ⟨_, rfl, own_as hr4 (by rw [← hes2.out]; simp [HEL.out]; omega) (by rw [← hes2.out]; simp [byteV]), hb4⟩
end Go.Proofs.Qxb6628011a
