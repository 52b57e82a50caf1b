import Derived.Test.Qxb6627977aFind
namespace Go.Proofs.Qxb6627977a
open Go.RowKit Go.Sort

theorem rangeAt_grown {w : World} {g o : Nat} {cs : List Value} (h : w.rangeAt g o cs) (n : Nat) (os : Array Obj) : (grow (w.drewN n) os).rangeAt g o cs := fun j v hv =>
  cell_grown (a := ⟨g, o + j, none⟩) (World.block_lt_of_cell? w _ (h j v hv)) (h j v hv) n os
theorem Cx.grown {w wr : World} {g1 : Nat} {ad : Option Addr} {l : List AR} {k : Key} (h : Cx w wr g1 ad l k) (n : Nat) (os : Array Obj) : Cx w (grow (wr.drewN n) os) g1 ad l k := by
  have hG : Gr wr (grow (wr.drewN n) os) := ⟨n, os, rfl⟩
  refine ⟨h.1, h.2.1.trans hG, rangeAt_grown h.2.2.1 n os, h.2.2.2.1.below hG.below (Nat.le_refl _), ?_⟩
  rw [hG.below.block _ (Array.getElem?_eq_some_iff.1 h.2.2.2.2).1]
  exact h.2.2.2.2
/-- the two halves of a search -/
def Lo (l : List AR) (k : Key) (lo : Nat) : Prop := ∀ j (hj : j < l.length), j < lo → klt (l[j]'hj).1 k
def Hi (l : List AR) (k : Key) (hi : Nat) : Prop := ∀ j (hj : j < l.length), hi ≤ j → ¬ klt (l[j]'hj).1 k
theorem Lo.step {l : List AR} {k : Key} {mid : Nat} (hs : Sorted l) (hm : mid < l.length) (h : klt (l[mid]'hm).1 k) : Lo l k (mid + 1) := fun j hj hjm => by
  by_cases e : j = mid
  · subst e; exact h
  · exact klt_trans (hs.lt (by omega) hm) h
theorem Hi.step {l : List AR} {k : Key} {mid : Nat} (hs : Sorted l) (hm : mid < l.length) (h : ¬ klt (l[mid]'hm).1 k) : Hi l k mid := fun j hj hjm => by
  by_cases e : j = mid
  · subst e; exact h
  · exact fun hk => h (klt_trans (hs.lt (by omega) hj) hk)
theorem not_found {l : List AR} {k : Key} {lo : Nat} (hs : Sorted l) (h1 : Lo l k lo) (h2 : Hi l k lo) (h3 : ∀ hlo : lo < l.length, (l[lo]'hlo).1 ≠ k) : find l k = none := by
  refine find_none fun j hj e => ?_
  rcases Nat.lt_trichotomy j lo with h | h | h
  · have := h1 j hj h; rw [e] at this; exact klt_irrefl _ this
  · subst h; exact h3 hj e
  · have := hs.lt h hj; rw [e] at this; exact h2 lo (by omega) (Nat.le_refl _) this

set_option maxHeartbeats 2000000 in
set_option maxRecDepth 100000 in
theorem baseFind_any (ad : Option Addr) (l : List AR) (cap : Nat) (k : Key) (w : World) (hk : k.length = 32) (hl : KOk l) (hs : SlA w ad l) (hn : l.length ≤ 1048576) (hso : Sorted l) :
    Calls Try.prog 15 #[.slice ad l.length cap, .agg (keyA k)] w fun e w' => e = .returned (tup (find l k)) ∧ ∃ q os, w' = grow (w.drewN q) os := by
  obtain ⟨A, hA⟩ : ∃ A, A = keyA k := ⟨_, rfl⟩
  obtain ⟨n, hnl⟩ : ∃ n, n = l.length := ⟨_, rfl⟩
  obtain ⟨T, hT⟩ : ∃ T, T = tup (find l k) := ⟨_, rfl⟩
  rw [← hA, ← hnl, ← hT]
  rw [← hnl] at hn
  have HA := hide hA
  have HN := hide hnl
  have HT := hide hT
  have HS := hide hs
  have HL := hide hl
  have HK := hide hk
  have HO := hide hso
  clear hA hnl hs hl hk hT hso
  go_enter Try.func15, Try.ntmps15
  go_wp2_with fail
  rw [recA_zero]
  obtain ⟨W, hW⟩ : ∃ W, W = (w.alloc (.cells A 31)).alloc (.cells (recA zeroR) 39) := ⟨_, rfl⟩
  rw [← hW]
  obtain ⟨g1, hg1⟩ : ∃ g1, g1 = w.heap.size := ⟨_, rfl⟩
  rw [← hg1]
  have hcx : Hid (Cx w W g1 ad l k) := by
    show Cx w W g1 ad l k
    have hgr : Gr w W := by rw [hW]; exact ((Gr.refl w).alloc _).alloc _
    refine ⟨hg1, hgr, ?_, HS.out.below hgr.below (Nat.le_refl _), ?_⟩
    · rw [hW, HA.out, hg1]
      exact range_alloc (range_new w (kc k) 31) _
    · have := heap_alloc_last (w.alloc (.cells A 31)) (.cells (recA zeroR) 39)
      rw [show (w.alloc (.cells A 31)).heap.size = w.heap.size + 1 by simp] at this
      rw [hW, hg1, this]
  clear hW hg1
  go_loopw [6, 7] (fun vl vh wr => ∃ lo hi : Nat, lo ≤ hi ∧ hi ≤ n ∧ vl = .int .i64 lo ∧ vh = .int .i64 hi ∧ Hid (Lo l k lo) ∧ Hid (Hi l k hi) ∧ Hid (Cx w wr g1 ad l k)) (fun vl vh _ => (intOf vh).toNat - (intOf vl).toNat)
  case atStart => exact ⟨0, n, Nat.zero_le _, Nat.le_refl _, rfl, rfl, fun j _ h => absurd h (Nat.not_lt_zero _), fun j hj h => absurd h (by have := HN.out; omega), hcx.out⟩
  case round =>
    clear hcx
    obtain ⟨lo, hi, hlh, hhn, rfl, rfl, hlo, hhi, hcx⟩ := hrel
    by_cases hlt : lo < hi
    · obtain ⟨mid, hmid⟩ : ∃ mid, mid = lo + (hi - lo) / 2 := ⟨_, rfl⟩
      have hm1 : lo ≤ mid := by omega
      have hm2 : mid < hi := by omega
      have hmn : mid < n := by omega
      have hml : mid < l.length := by rw [← HN.out]; omega
      obtain ⟨g, o, had, hgs, hrow⟩ := hcx.out.2.2.2.1 (by omega)
      subst had
      have hxk : Hid ((l[mid]'hml).1.length = 32) := HL.out _ (List.getElem_mem hml)
      have hr1 : Hid (wr.rangeAt g (o + mid * 35) (rc (l[mid]'hml))) := hrow mid hml
      clear hrow
      have hsum : (lo : Int) + ((hi : Int) - (lo : Int)) / 2 = (mid : Int) := by omega
      have HM := hide hmid
      clear hmid
      have hmix := mixed
      have hkl : Hid (∀ W', Calls Try.prog 14 #[.agg (kc (l[mid]'hml).1).toArray, .agg (kc k).toArray] W' fun e w' => e = .returned (.bool (decide (klt (l[mid]'hml).1 k))) ∧ ∃ q os, w' = grow (W'.drewN q) os) := fun W' => keyLess_any _ _ hxk.out HK.out W'
      by_cases hkk : klt (l[mid]'hml).1 k
      · rw [decide_eq_true hkk] at hkl
        have hst : Hid (Lo l k (mid + 1)) := Lo.step HO.out hml hkk
        clear hkk
        go_wp2_with fail
        refine wp_region_quiet_grown (by assumption) (by kernel_rfl) ?_
        repeat (first
          | (refine quiet_load_mid (by rfl) 31 _ rfl g (o + mid * 35) rfl (kc (l[mid]'hml).1) (.array 32 5) (by rintro _ ⟨m, rfl⟩; exact rc_key (rangeAt_grown hr1.out _ _)) Try.underlying31 rfl (by rw [kc_length, hxk.out]; exact info31) ?_)
          | (refine quiet_load_mid (by rfl) 31 _ rfl g1 0 rfl (kc k) (.array 32 5) (by rintro _ ⟨m, rfl⟩; exact rangeAt_grown hcx.out.2.2.1 _ _) Try.underlying31 rfl (by rw [kc_length, HK.out]; exact info31) ?_)
          | quiet_step ((go_at_call 14; refine Calls.grown_of (hkl.out _))))
        refine wpQuiet_nil ?_
        intro _ hw'
        obtain ⟨⟨nq, osq⟩, hw''⟩ := hw'
        subst hw''
        go_wp2_with fail
        exact ⟨⟨mid + 1, hi, by omega, hhn, by go_num, rfl, hst.out, hhi.out, hcx.out.grown _ _⟩, by simp [intOf]; omega⟩
      · rw [decide_eq_false hkk] at hkl
        have hst : Hid (Hi l k mid) := Hi.step HO.out hml hkk
        clear hkk
        go_wp2_with fail
        refine wp_region_quiet_grown (by assumption) (by kernel_rfl) ?_
        repeat (first
          | (refine quiet_load_mid (by rfl) 31 _ rfl g (o + mid * 35) rfl (kc (l[mid]'hml).1) (.array 32 5) (by rintro _ ⟨m, rfl⟩; exact rc_key (rangeAt_grown hr1.out _ _)) Try.underlying31 rfl (by rw [kc_length, hxk.out]; exact info31) ?_)
          | (refine quiet_load_mid (by rfl) 31 _ rfl g1 0 rfl (kc k) (.array 32 5) (by rintro _ ⟨m, rfl⟩; exact rangeAt_grown hcx.out.2.2.1 _ _) Try.underlying31 rfl (by rw [kc_length, HK.out]; exact info31) ?_)
          | quiet_step ((go_at_call 14; refine Calls.grown_of (hkl.out _))))
        refine wpQuiet_nil ?_
        intro _ hw'
        obtain ⟨⟨nq, osq⟩, hw''⟩ := hw'
        subst hw''
        go_wp2_with fail
        exact ⟨⟨lo, mid, by omega, by omega, rfl, rfl, hlo.out, hst.out, hcx.out.grown _ _⟩, by simp [intOf]; omega⟩
    · have hle : lo = hi := by omega
      subst hle
      by_cases hln : lo < n
      · have hml : lo < l.length := by rw [← HN.out]; exact hln
        obtain ⟨g, o, had, hgs, hrow⟩ := hcx.out.2.2.2.1 (by omega)
        subst had
        have hxk : Hid ((l[lo]'hml).1.length = 32) := HL.out _ (List.getElem_mem hml)
        have hr1 : Hid (∀ m, (wr.drewN m).rangeAt g (o + lo * 35) (rc (l[lo]'hml))) := fun m => hrow lo hml
        have hr0 : Hid (∀ m, (wr.drewN m).rangeAt g1 0 (kc k)) := fun m => hcx.out.2.2.1
        clear hrow
        have heq : ∀ W', (Op.equalIn 10000 31 (.agg (kc (l[lo]'hml).1).toArray) (.agg (kc k).toArray)).run Try.prog W' = .ok (decide ((l[lo]'hml).1 = k)) W' := fun W' => run_keyEq _ _ hxk.out HK.out W'
        by_cases hkk : (l[lo]'hml).1 = k
        · rw [decide_eq_true hkk] at heq
          have hTT : Hid (T = .tuple #[.agg (recA (l[lo]'hml)), .bool true]) := by
            show T = _
            rw [HT.out, ← tup_some, ← hkk, find_at HO.out.distinct hml]
          clear hkk
          go_wp2_with fail
          refine wp_region_quiet_lit (by kernel_rfl) (by kernel_rfl) ?_
          repeat (first
            | (refine quiet_load_mid (by first | rfl | (go_simp; done)) 31 _ rfl g (o + lo * 35) rfl (kc (l[lo]'hml).1) (.array 32 5) (by rintro _ ⟨m, rfl⟩; exact rc_key (hr1.out m)) Try.underlying31 rfl (by rw [kc_length, hxk.out]; exact info31) ?_)
            | (refine quiet_load_mid (by first | rfl | (go_simp; done)) 31 _ rfl g1 0 rfl (kc k) (.array 32 5) (by rintro _ ⟨m, rfl⟩; exact hr0.out m) Try.underlying31 rfl (by rw [kc_length, HK.out]; exact info31) ?_)
            | quiet_step (fail))
          refine wpQuiet_nil ?_
          intro _ hw'
          obtain ⟨nq, hw''⟩ := hw'
          subst hw''
          go_wp2_with (first
            | (refine wpList_load_mid rfl 39 (.tmp 45) rfl g (o + lo * 35) rfl (rc (l[lo]'hml)) _ (hr1.out nq) Try.underlying39 rfl (by rw [rc_length hxk.out]; exact info39) ?_)
            | (refine wpList_store_row rfl 39 (.tmp 4) (.tmp 46) rfl (g1 + 1) (recA (l[lo]'hml)) rfl rfl 39 (recA zeroR) hcx.out.2.2.2.2 (by rw [size_recA hxk.out]; exact info39) (by rw [size_recA hxk.out]; kernel_rfl) (one_recA _) ?_))
          (try simp only [Exit.inBlock, Exit.then])
          refine bodyPost_ret (results_cell_tmp_row rfl _ _ (g1 + 1) 39 (recA (l[lo]'hml)) (0, 0) _ rfl (setRow_heap (wr.drewN nq) _ _ _ _ _ hcx.out.2.2.2.2) Try.underlying39 rfl (by rw [size_recA hxk.out]; exact info39)) rfl ?_
          exact ⟨by rw [hTT.out]; rfl, (hcx.out.2.1.drewN nq).setRow (by rw [hcx.out.1]; omega) _⟩
        · rw [decide_eq_false hkk] at heq
          have hTT : Hid (T = .tuple #[.agg (recA zeroR), .bool false]) := by
            show T = _
            rw [HT.out, ← tup_none, not_found HO.out hlo.out hhi.out (fun _ => hkk)]
          clear hkk
          go_wp2_with fail
          refine wp_region_quiet_lit (by kernel_rfl) (by kernel_rfl) ?_
          repeat (first
            | (refine quiet_load_mid (by first | rfl | (go_simp; done)) 31 _ rfl g (o + lo * 35) rfl (kc (l[lo]'hml).1) (.array 32 5) (by rintro _ ⟨m, rfl⟩; exact rc_key (hr1.out m)) Try.underlying31 rfl (by rw [kc_length, hxk.out]; exact info31) ?_)
            | (refine quiet_load_mid (by first | rfl | (go_simp; done)) 31 _ rfl g1 0 rfl (kc k) (.array 32 5) (by rintro _ ⟨m, rfl⟩; exact hr0.out m) Try.underlying31 rfl (by rw [kc_length, HK.out]; exact info31) ?_)
            | quiet_step (fail))
          refine wpQuiet_nil ?_
          intro _ hw'
          obtain ⟨nq, hw''⟩ := hw'
          subst hw''
          go_wp2_with (first
            | (refine wpList_store_row rfl 39 (.tmp 4) (.tmp 47) rfl (g1 + 1) (recA zeroR) rfl recA_zero_agg 39 (recA zeroR) hcx.out.2.2.2.2 (by exact info39) rfl (one_recA _) ?_))
          (try simp only [Exit.inBlock, Exit.then])
          refine bodyPost_ret (results_cell_tmp_row rfl _ _ (g1 + 1) 39 (recA zeroR) (0, 0) _ rfl (setRow_heap (wr.drewN nq) _ _ _ _ _ hcx.out.2.2.2.2) Try.underlying39 rfl (by exact info39)) rfl ?_
          exact ⟨by rw [hTT.out]; rfl, (hcx.out.2.1.drewN nq).setRow (by rw [hcx.out.1]; omega) _⟩
      · have hTT : Hid (T = .tuple #[.agg (recA zeroR), .bool false]) := by
          show T = _
          rw [HT.out, ← tup_none, not_found HO.out hlo.out hhi.out (fun h => absurd h (by have := HN.out; omega))]
        go_wp2_with fail
        go_quiet (fail)
        go_wp2_with (first
          | (refine wpList_store_row rfl 39 (.tmp 4) (.tmp 47) rfl (g1 + 1) (recA zeroR) rfl recA_zero_agg 39 (recA zeroR) hcx.out.2.2.2.2 (by exact info39) rfl (one_recA _) ?_))
        (try simp only [Exit.inBlock, Exit.then])
        refine bodyPost_ret (results_cell_tmp_row rfl _ _ (g1 + 1) 39 (recA zeroR) (0, 0) _ rfl (setRow_heap (wr.drewN nq) _ _ _ _ _ hcx.out.2.2.2.2) Try.underlying39 rfl (by exact info39)) rfl ?_
        exact ⟨by rw [hTT.out]; rfl, (hcx.out.2.1.drewN nq).setRow (by rw [hcx.out.1]; omega) _⟩
end Go.Proofs.Qxb6627977a
