import Derived.Test.Qxb6627951aDoorStr
import Derived.Deep.DeepCutAuto
import Derived.Deep.CutRange
namespace Go.Proofs.Qxb6627951aDoor
open Go.RowKit

theorem ret_false {l k : List UInt8} (h : l ≠ k) : Ending.returned (.bool false) = .returned (.bool (decide (l = k))) := by rw [decide_eq_false h]
theorem ret_true {l k : List UInt8} (h : l = k) : Ending.returned (.bool true) = .returned (.bool (decide (l = k))) := by rw [decide_eq_true h]

set_option maxHeartbeats 1000000 in
set_option maxRecDepth 100000 in
theorem zz5_ok (v0 p : Value) (a1 a2 : Option Addr) (n1 c1 n2 c2 : Nat) (h1 : n1 ≤ maxLen) (h2 : n2 ≤ maxLen) (w : World) :
    Calls Tryd.prog 5 #[v0, .slice a1 n1 c1, p, .slice a2 n2 c2] w fun e w' => e = .returned (.bool (decide (n1 + n2 ≤ 1048576))) ∧ w' = w := by
  unfold maxLen at h1 h2
  by_cases hb : n1 ≤ 1048576
  · by_cases hc : n2 ≤ 1048576
    · by_cases hd : n1 + n2 ≤ 1048576
      all_goals
        go_enter Tryd.func5, Tryd.ntmps5
        go_wp2
        go_ret
        simp [hd]
    · rw [decide_eq_false (by omega)]
      go_enter Tryd.func5, Tryd.ntmps5
      go_wp2
      go_ret
      exact ⟨rfl, rfl⟩
  · rw [decide_eq_false (by omega)]
    go_enter Tryd.func5, Tryd.ntmps5
    go_wp2
    go_ret
    exact ⟨rfl, rfl⟩

set_option maxHeartbeats 1000000 in
set_option maxRecDepth 100000 in
theorem decimalLen_ok (b : Nat) (hb : b < 256) (w : World) :
    Calls Tryd.prog 15 #[.int .u8 b] w fun e w' => e = .returned (.int .i64 (decLen b)) ∧ w' = w := by
  unfold decLen
  by_cases h1 : 100 ≤ b
  · go_enter Tryd.func15, Tryd.ntmps15
    go_wp2
    go_ret
    exact ⟨rfl, rfl⟩
  · by_cases h2 : 10 ≤ b
    all_goals
      go_enter Tryd.func15, Tryd.ntmps15
      go_wp2
      go_ret
      exact ⟨rfl, rfl⟩

set_option maxHeartbeats 1000000 in
set_option maxRecDepth 100000 in
theorem bytesEqual_ok (a b : Option Addr) (l k : List UInt8) (ca cb : Nat) (w : World) (ha : SlV w a l) (hb : SlV w b k) (hl : l.length ≤ 1048576) :
    Calls Tryd.prog 14 #[.slice a l.length ca, .slice b k.length cb] w fun e w' => e = .returned (.bool (decide (l = k))) ∧ ∃ q, w' = w.drewN q := by
  by_cases hlk : l.length = k.length
  · by_cases h0 : 0 < l.length
    · obtain ⟨ba, rfl, hba, hca⟩ := ha h0
      obtain ⟨bb, rfl, hbb, hcb⟩ := hb (by omega)
      rw [← hlk]
      obtain ⟨n, hn⟩ : ∃ n, n = l.length := ⟨_, rfl⟩
      rw [← hn]
      rw [← hn] at hl h0
      have HN := hide hn
      have HK := hide hlk
      have HA := hide hca
      have HB := hide hcb
      clear hn hlk hca hcb
      go_enter Tryd.func14, Tryd.ntmps14
      go_wp2
      go_loopw [5] (fun vi wr => ∃ i q : Nat, i ≤ n ∧ vi = .int .i64 i ∧ Hid (l.take i = k.take i) ∧ wr = w.drewN q) (fun vi _ => n - (intOf vi).toNat)
      case atStart => exact ⟨0, 0, Nat.zero_le _, rfl, rfl, rfl⟩
      case round =>
        obtain ⟨i, q, hi, rfl, htk, rfl⟩ := hrel
        by_cases hin : i < n
        · have hil : i < l.length := by rw [← HN.out]; exact hin
          have hik : i < k.length := by rw [← HK.out]; exact hil
          obtain ⟨x, hx⟩ : ∃ x, x = (l[i]'hil).toNat := ⟨_, rfl⟩
          obtain ⟨y, hy⟩ : ∃ y, y = (k[i]'hik).toNat := ⟨_, rfl⟩
          have h1 : w.cell? ⟨ba, 0 + i, none⟩ = some (.int .u8 x) := by rw [hx]; exact HA.out i hil
          have h2 : w.cell? ⟨bb, 0 + i, none⟩ = some (.int .u8 y) := by rw [hy]; exact HB.out i hik
          rw [Nat.zero_add] at h1 h2
          have HX := hide hx
          have HY := hide hy
          clear hx hy
          rcases Nat.lt_trichotomy x y with hxy | hxy | hxy
          · go_wp2
            go_quiet (fail)
            go_wp2
            go_ret
            exact ⟨ret_false (fun e => by subst e; have := HX.out; have := HY.out; omega), _, by first | rfl | (simp only [World.drewN_drewN]; rfl)⟩
          · subst hxy
            have HS : Hid (l.take (i + 1) = k.take (i + 1)) := by
              show _ = _
              rw [List.take_succ_eq_append_getElem hil, List.take_succ_eq_append_getElem hik, htk.out, UInt8.toNat_inj.1 (HX.out.symm.trans HY.out)]
            go_wp2
            go_quiet (fail)
            go_wp2
            go_roundw
            case rel => exact ⟨i + 1, _, by omega, by go_num, HS.out, by first | rfl | (simp only [World.drewN_drewN]; rfl)⟩
            case measure => simp [intOf]; omega
          · go_wp2
            go_quiet (fail)
            go_wp2
            go_ret
            exact ⟨ret_false (fun e => by subst e; have := HX.out; have := HY.out; omega), _, by first | rfl | (simp only [World.drewN_drewN]; rfl)⟩
        · have HE : Hid (l = k) := by
            have h1 := htk.out
            rwa [List.take_of_length_le (by have := HN.out; omega), List.take_of_length_le (by have := HN.out; have := HK.out; omega)] at h1
          clear htk
          go_wp2
          go_ret
          exact ⟨ret_true HE.out, _, rfl⟩
    · have e1 : l = [] := List.length_eq_zero_iff.1 (by omega)
      have e2 : k = [] := List.length_eq_zero_iff.1 (by omega)
      subst e1
      subst e2
      clear ha hb hlk h0 hl
      go_enter Tryd.func14, Tryd.ntmps14
      go_wp2_with fail
      refine wp_loop_rounds 1 ?_
      rw [rounds_succ]
      go_wp2
      go_ret
      exact ⟨rfl, 0, rfl⟩
  · rw [decide_eq_false (fun e => hlk (by rw [e]))]
    rcases Nat.lt_or_gt_of_ne hlk with h | h
    all_goals
      obtain ⟨n, hn⟩ : ∃ n, n = l.length := ⟨_, rfl⟩
      obtain ⟨m, hm⟩ : ∃ m, m = k.length := ⟨_, rfl⟩
      rw [← hn, ← hm] at h
      rw [← hn, ← hm]
      clear hlk ha hb hl hn hm
      go_enter Tryd.func14, Tryd.ntmps14
      go_wp2
      go_ret
      exact ⟨rfl, 0, rfl⟩

theorem decLen_le (a : Nat) : decLen a ≤ 3 := by
  unfold decLen; split
  · omega
  · split <;> omega
def mLen (m : Option Nat) (q : Nat) : Nat := match m with | none => 0 | some b => 1 + (decLen b + if q = 0 then 0 else 1 + 2 * q)
theorem mLen_none (q : Nat) : mLen none q = 0 := rfl
theorem mLen_some (b q : Nat) : mLen (some b) q = 1 + (decLen b + if q = 0 then 0 else 1 + 2 * q) := rfl
theorem SlV.drewN {w : World} {a : Option Addr} {l : List UInt8} (h : SlV w a l) (n : Nat) : SlV (w.drewN n) a l := h

set_option maxHeartbeats 1000000 in
set_option maxRecDepth 100000 in
theorem textLen_ok (a : Nat) (ha : a < 256) (al ak p : Option Addr) (n cl q ck : Nat) (m : Option Nat) (w : World) (hp : PtV w p m) (hn : n ≤ 1048576) (hq : q ≤ 1048576) :
    Calls Tryd.prog 11 #[.int .u8 a, .slice al n cl, .pointer p, .slice ak q ck] w fun e w' => e = .returned (.int .i64 ((decLen a + (if n = 0 then 0 else 1 + 2 * n) + mLen m q : Nat) : Int)) ∧ w' = w := by
  obtain ⟨u, hu⟩ : ∃ u, u = decLen a := ⟨_, rfl⟩
  have hu3 : u ≤ 3 := by rw [hu]; exact decLen_le a
  have hdl := decimalLen_ok a ha
  rw [← hu] at hdl ⊢
  have HD := hide hdl
  clear hdl hu
  rcases hp with ⟨rfl, rfl⟩ | ⟨pa, x, rfl, rfl, hx, hpb, hpc⟩
  · rw [mLen_none]
    by_cases h0 : n = 0
    · subst h0
      go_enter Tryd.func11, Tryd.ntmps11
      go_wp2_with (go_at_call 15; refine (HD.out _).mono ?_; rintro e w' ⟨rfl, rfl⟩)
      go_ret
      exact ⟨by go_num, rfl⟩
    · have h0' : 0 < n := by omega
      rw [if_neg h0]
      clear h0
      go_enter Tryd.func11, Tryd.ntmps11
      go_wp2_with (go_at_call 15; refine (HD.out _).mono ?_; rintro e w' ⟨rfl, rfl⟩)
      go_ret
      exact ⟨by go_num, rfl⟩
  · obtain ⟨v, hv⟩ : ∃ v, v = decLen x := ⟨_, rfl⟩
    have hv3 : v ≤ 3 := by rw [hv]; exact decLen_le x
    have hdx := decimalLen_ok x hx
    rw [mLen_some]
    rw [← hv] at hdx ⊢
    have HX := hide hdx
    clear hdx hv
    by_cases h0 : n = 0
    · subst h0
      by_cases h1 : q = 0
      · subst h1
        go_enter Tryd.func11, Tryd.ntmps11
        go_wp2_with (go_at_call 15; first | (refine (HD.out _).mono ?_; rintro e w' ⟨rfl, rfl⟩) | (refine (HX.out _).mono ?_; rintro e w' ⟨rfl, rfl⟩))
        go_ret
        exact ⟨by go_num, rfl⟩
      · have h1' : 0 < q := by omega
        rw [if_neg h1]
        clear h1
        go_enter Tryd.func11, Tryd.ntmps11
        go_wp2_with (go_at_call 15; first | (refine (HD.out _).mono ?_; rintro e w' ⟨rfl, rfl⟩) | (refine (HX.out _).mono ?_; rintro e w' ⟨rfl, rfl⟩))
        go_ret
        exact ⟨by go_num, rfl⟩
    · have h0' : 0 < n := by omega
      rw [if_neg h0]
      clear h0
      by_cases h1 : q = 0
      · subst h1
        go_enter Tryd.func11, Tryd.ntmps11
        go_wp2_with (go_at_call 15; first | (refine (HD.out _).mono ?_; rintro e w' ⟨rfl, rfl⟩) | (refine (HX.out _).mono ?_; rintro e w' ⟨rfl, rfl⟩))
        go_ret
        exact ⟨by go_num, rfl⟩
      · have h1' : 0 < q := by omega
        rw [if_neg h1]
        clear h1
        go_enter Tryd.func11, Tryd.ntmps11
        go_wp2_with (go_at_call 15; first | (refine (HD.out _).mono ?_; rintro e w' ⟨rfl, rfl⟩) | (refine (HX.out _).mono ?_; rintro e w' ⟨rfl, rfl⟩))
        go_ret
        exact ⟨by go_num, rfl⟩

theorem textLen_any (a : Nat) (ha : a < 256) (al ak p : Option Addr) (cl ck : Nat) (l k : List UInt8) (m : Option Nat) (w : World) (hp : PtV w p m) (hn : l.length ≤ 1048576) (hq : k.length ≤ 1048576) :
    Calls Tryd.prog 11 #[.int .u8 a, .slice al l.length cl, .pointer p, .slice ak k.length ck] w fun e w' => e = .returned (.int .i64 ((txt a l m k).length : Int)) ∧ w' = w := by
  rw [txt_length]
  unfold txtLen partLen
  exact textLen_ok a ha al ak p l.length cl k.length ck m w hp hn hq

def sameB (a : Nat) (l : List UInt8) (m : Option Nat) (k : List UInt8) (a' : Nat) (l' : List UInt8) (m' : Option Nat) (k' : List UInt8) : Bool :=
  decide (a = a') && (decide (l = l') && match m, m' with | none, none => true | some b, some b' => decide (b = b') && decide (k = k') | _, _ => false)
theorem sameB_iff (a : Nat) (l : List UInt8) (m : Option Nat) (k : List UInt8) (a' : Nat) (l' : List UInt8) (m' : Option Nat) (k' : List UInt8) : sameB a l m k a' l' m' k' = true ↔ same a l m k a' l' m' k' := by
  unfold sameB same
  cases m <;> cases m' <;> simp

set_option maxHeartbeats 1000000 in
set_option maxRecDepth 100000 in
theorem sameMeaning_ok (a a' : Nat) (al ak al' ak' p p' : Option Addr) (cl ck cl' ck' : Nat) (l k l' k' : List UInt8) (m m' : Option Nat) (w : World)
    (hp : PtV w p m) (hp' : PtV w p' m') (hl : SlV w al l) (hk : SlV w ak k) (hl' : SlV w al' l') (hk' : SlV w ak' k')
    (ha' : a' < 256) (h1 : l.length ≤ 1048576) (h2 : k.length ≤ 1048576) :
    Calls Tryd.prog 10 #[.int .u8 a, .slice al l.length cl, .pointer p, .slice ak k.length ck, .int .u8 a', .slice al' l'.length cl', .pointer p', .slice ak' k'.length ck'] w
      fun e w' => e = .returned (.bool (sameB a l m k a' l' m' k')) ∧ ∃ q, w' = w.drewN q := by
  have hc1 : ∀ n, Calls Tryd.prog 14 #[.slice al l.length cl, .slice al' l'.length cl'] (w.drewN n) fun e w' => e = .returned (.bool (decide (l = l'))) ∧ ∃ q, w' = (w.drewN n).drewN q := fun n => bytesEqual_ok al al' l l' cl cl' (w.drewN n) hl hl' h1
  have hc2 : ∀ q n, Calls Tryd.prog 14 #[.slice ak k.length ck, .slice ak' k'.length ck'] ((w.drewN q).drewN n) fun e w' => e = .returned (.bool (decide (k = k'))) ∧ ∃ m, w' = ((w.drewN q).drewN n).drewN m := fun q n => bytesEqual_ok ak ak' k k' ck ck' ((w.drewN q).drewN n) hk hk' h2
  have HC1 := hide hc1
  have HC2 := hide hc2
  clear hc1 hc2 hl hk hl' hk'
  rcases Nat.lt_trichotomy a a' with h | h | h
  · rw [show sameB a l m k a' l' m' k' = false by unfold sameB; rw [decide_eq_false (by omega)]; rfl]
    go_enter Tryd.func10, Tryd.ntmps10
    go_wp2_with fail
    go_ret
    exact ⟨rfl, 0, rfl⟩
  · subst h
    have hc0 := HC1.out 0
    by_cases hll : l = l'
    · rw [decide_eq_true hll] at hc0
      have HC0 := hide hc0
      clear hc0 HC1
      rcases hp with ⟨rfl, rfl⟩ | ⟨pa, x, rfl, rfl, hx, hpb, hpc⟩
      · rcases hp' with ⟨rfl, rfl⟩ | ⟨pa', x', rfl, rfl, hx', hpb', hpc'⟩
        · rw [show sameB a l none k a l' none k' = true by unfold sameB; simp [hll]]
          clear hll
          go_enter Tryd.func10, Tryd.ntmps10
          go_wp2_with (go_at_call 14; refine HC0.out.mono ?_; rintro e w' ⟨rfl, q, rfl⟩)
          go_ret
          exact ⟨rfl, _, rfl⟩
        · rw [show sameB a l none k a l' (some x') k' = false by unfold sameB; simp]
          clear hll
          go_enter Tryd.func10, Tryd.ntmps10
          go_wp2_with (go_at_call 14; refine HC0.out.mono ?_; rintro e w' ⟨rfl, q, rfl⟩)
          go_ret
          exact ⟨rfl, _, rfl⟩
      · rcases hp' with ⟨rfl, rfl⟩ | ⟨pa', x', rfl, rfl, hx', hpb', hpc'⟩
        · rw [show sameB a l (some x) k a l' none k' = false by unfold sameB; simp]
          clear hll
          go_enter Tryd.func10, Tryd.ntmps10
          go_wp2_with (go_at_call 14; refine HC0.out.mono ?_; rintro e w' ⟨rfl, q, rfl⟩)
          go_ret
          exact ⟨rfl, _, rfl⟩
        · rcases Nat.lt_trichotomy x x' with hxx | hxx | hxx
          · rw [show sameB a l (some x) k a l' (some x') k' = false by unfold sameB; simp only [decide_eq_false (show ¬ x = x' by omega)]; simp]
            clear hll
            have hbx : ((x : Int) == (x' : Int)) = false := by rw [beq_eq_false_iff_ne]; omega
            go_enter Tryd.func10, Tryd.ntmps10
            go_wp2_with (go_at_call 14; refine HC0.out.mono ?_; rintro e w' ⟨rfl, q, rfl⟩)
            go_quiet (first | (go_at_call 14; refine Calls.quiet_of (HC2.out _ _)))
            go_wp2
            go_ret
            exact ⟨rfl, _, by first | rfl | (simp only [World.drewN_drewN]; rfl)⟩
          · subst hxx
            rw [show sameB a l (some x) k a l' (some x) k' = decide (k = k') by unfold sameB; simp [hll]]
            obtain ⟨b2, hb2⟩ : ∃ b2, b2 = decide (k = k') := ⟨_, rfl⟩
            rw [← hb2] at HC2 ⊢
            clear hb2 hll
            go_enter Tryd.func10, Tryd.ntmps10
            go_wp2_with (go_at_call 14; refine HC0.out.mono ?_; rintro e w2 ⟨rfl, q, hw2⟩
                         have hpa2 : w2.cell? pa = some (.int .u8 x) := by rw [hw2]; exact hpc
                         have hpa3 : w2.cell? pa' = some (.int .u8 x) := by rw [hw2]; exact hpc'
                         have HC3 : Hid (∀ n, Calls Tryd.prog 14 #[.slice ak k.length ck, .slice ak' k'.length ck'] (w2.drewN n) fun e w' => e = .returned (.bool b2) ∧ ∃ m, w' = (w2.drewN n).drewN m) := by rw [hw2]; exact HC2.out q
                         have HW2 := hide hw2
                         clear hw2)
            go_quiet (first | (go_at_call 14; refine Calls.quiet_of (HC3.out _)))
            go_wp2
            go_ret
            exact ⟨rfl, q + nq, by rw [HW2.out, ← World.drewN_drewN]; rfl⟩
          · rw [show sameB a l (some x) k a l' (some x') k' = false by unfold sameB; simp only [decide_eq_false (show ¬ x = x' by omega)]; simp]
            clear hll
            have hbx : ((x : Int) == (x' : Int)) = false := by rw [beq_eq_false_iff_ne]; omega
            go_enter Tryd.func10, Tryd.ntmps10
            go_wp2_with (go_at_call 14; refine HC0.out.mono ?_; rintro e w' ⟨rfl, q, rfl⟩)
            go_quiet (first | (go_at_call 14; refine Calls.quiet_of (HC2.out _ _)))
            go_wp2
            go_ret
            exact ⟨rfl, _, by first | rfl | (simp only [World.drewN_drewN]; rfl)⟩
    · rw [decide_eq_false hll] at hc0
      have HC0 := hide hc0
      rw [show sameB a l m k a l' m' k' = false by unfold sameB; rw [decide_eq_false hll]; simp]
      clear hc0 HC1 hll
      go_enter Tryd.func10, Tryd.ntmps10
      go_wp2_with (go_at_call 14; refine HC0.out.mono ?_; rintro e w' ⟨rfl, q, rfl⟩)
      go_ret
      exact ⟨rfl, _, rfl⟩
  · rw [show sameB a l m k a' l' m' k' = false by unfold sameB; rw [decide_eq_false (by omega)]; rfl]
    go_enter Tryd.func10, Tryd.ntmps10
    go_wp2_with fail
    go_ret
    exact ⟨rfl, 0, rfl⟩

set_option maxHeartbeats 1000000 in
set_option maxRecDepth 100000 in
theorem zz9_ok (v0 p v4 p' : Value) (a1 a2 a3 a4 : Option Addr) (n1 c1 n2 c2 n3 c3 n4 c4 : Nat) (h1 : n1 ≤ maxLen) (h2 : n2 ≤ maxLen) (h3 : n3 ≤ maxLen) (h4 : n4 ≤ maxLen) (w : World) :
    Calls Tryd.prog 9 #[v0, .slice a1 n1 c1, p, .slice a2 n2 c2, v4, .slice a3 n3 c3, p', .slice a4 n4 c4] w fun e w' => e = .returned (.bool (decide (n1 + n2 + n3 + n4 ≤ 1048576))) ∧ w' = w := by
  unfold maxLen at h1 h2 h3 h4
  by_cases hb : n1 ≤ 1048576
  · by_cases hc : n1 + n2 ≤ 1048576
    · by_cases hd : n1 + n2 + n3 ≤ 1048576
      · by_cases he : n1 + n2 + n3 + n4 ≤ 1048576
        · rw [decide_eq_true he]
          go_enter Tryd.func9, Tryd.ntmps9
          go_wp2
          go_ret
          exact ⟨rfl, rfl⟩
        · rw [decide_eq_false he]
          by_cases hf : n4 ≤ 1048576
          all_goals
            go_enter Tryd.func9, Tryd.ntmps9
            go_wp2
            go_ret
            exact ⟨rfl, rfl⟩
      · rw [decide_eq_false (by omega)]
        by_cases hf : n3 ≤ 1048576
        all_goals
          go_enter Tryd.func9, Tryd.ntmps9
          go_wp2
          go_ret
          exact ⟨rfl, rfl⟩
    · rw [decide_eq_false (by omega)]
      by_cases hf : n2 ≤ 1048576
      all_goals
        go_enter Tryd.func9, Tryd.ntmps9
        go_wp2
        go_ret
        exact ⟨rfl, rfl⟩
  · rw [decide_eq_false (by omega)]
    go_enter Tryd.func9, Tryd.ntmps9
    go_wp2
    go_ret
    exact ⟨rfl, rfl⟩
end Go.Proofs.Qxb6627951aDoor
