import Derived.Test.Qxb6627977aLaw1
namespace Go.Proofs.Qxb6627977a
set_option linter.unusedSimpArgs false
open Go.RowKit Go.Sort

theorem wpList_acNe {ops : Array Oper} {rest : List Oper} {op : Oper} {a : Act} {w : World} {Q : Exit → Act → World → Prop} (hgd : op.guard = none) (x y : Operand) (ho : op.op = .binOp .neq 34 x y 34) (M : Ac) (hx : a.eval x = .agg (acc M).toArray) (hy : a.eval y = .agg (acc M).toArray)
    (h : wpList Try.prog ops Q rest (a.put op.dst (.bool false)) w) : wpList Try.prog ops Q (op :: rest) a w :=
  wpList_plain hgd fun _ hK => by
    unfold Oper.wp execOp
    simp only [ho, hx, hy, acc]
    go_simp
    exact hK _ _ h
/-- the callees' contracts, in every world that has grown out of one -/
theorem acct_q {wr : World} {lb bb ga mat mov mch : Nat} {b o : List AR} (hL : LedAt wr lb bb ga mat mov mch b o) {k : Key} (hk : k.length = 32) {M : Ac} (hM : M = model b o k) (n : Nat) (os : Array Obj) :
    Calls Try.prog 12 #[.pointer (some ⟨lb, 0, none⟩), .agg (kc k).toArray] (grow (wr.drewN n) os) fun e w'' => e = .returned (.agg (acc M).toArray) ∧ ∃ q os', w'' = grow ((grow (wr.drewN n) os).drewN q) os' := by
  rw [hM]
  exact account_any lb bb ga mat mov mch b o k _ hk (hL.of_gr ⟨n, os, rfl⟩)
theorem model_q {w' wr : World} {ab ao : Option Addr} {b o : List AR} {nb cb no co : Nat} (hbel : Below w'.heap.size w' wr) (hb : KOk b) (ho : KOk o) (hsb : SlA w' ab b) (hso : SlA w' ao o) (NB : nb = b.length) (NO : no = o.length) (hnb : nb ≤ 8192) (hno : no ≤ 8192) (hS : Sorted b) {k : Key} (hk : k.length = 32) {Y : AR} (hY : Y = modelR b o k) (n : Nat) (os : Array Obj) :
    Calls Try.prog 10 #[.slice ab nb cb, .slice ao no co, .agg (kc k).toArray] (grow (wr.drewN n) os) fun e w'' => e = .returned (.agg (recA Y)) ∧ ∃ q os', w'' = grow ((grow (wr.drewN n) os).drewN q) os' := by
  have hbg : Below w'.heap.size w' (grow (wr.drewN n) os) := hbel.trans ((show Gr wr (grow (wr.drewN n) os) from ⟨n, os, rfl⟩).below.mono hbel.size)
  rw [NB, NO, hY]
  exact model_any ab ao b o cb co k _ hk hb ho (hsb.below hbg (Nat.le_refl _)) (hso.below hbg (Nat.le_refl _)) (by omega) (by omega) hS
theorem eq_q {M : Ac} {Y : AR} (hY : Y.1.length = 32) (h : M = Y.2) (W' : World) : Calls Try.prog 9 #[.agg (acc M).toArray, .agg (recA Y)] W' fun e w'' => e = .returned (.bool true) ∧ ∃ q os, w'' = grow (W'.drewN q) os := by
  have := eq_any M Y hY W'
  rwa [decide_eq_true h] at this

set_option maxHeartbeats 4000000 in
set_option maxRecDepth 100000 in
theorem law2_any (ab ao ac aq : Option Addr) (b o : List AR) (c q : List Key) (cb co cc cq : Nat) (w : World) (hb : KOk b) (ho : KOk o) (hc : KsOk c) (hq : KsOk q) (hsb : SlA w ab b) (hso : SlA w ao o) (hsc : SlK w ac c) (hsq : SlK w aq q) (hnb : b.length ≤ maxLen) (hno : o.length ≤ maxLen) (hnc : c.length ≤ maxLen) (hnq : q.length ≤ maxLen) :
    Calls Try.prog 4 #[.slice ab b.length cb, .slice ao o.length co, .slice ac c.length cc, .slice aq q.length cq] w (TrueE w) := by
  obtain ⟨nb, hnb'⟩ : ∃ n, n = b.length := ⟨_, rfl⟩
  obtain ⟨no, hno'⟩ : ∃ n, n = o.length := ⟨_, rfl⟩
  obtain ⟨nc, hnc'⟩ : ∃ n, n = c.length := ⟨_, rfl⟩
  obtain ⟨np, hnq'⟩ : ∃ n, n = q.length := ⟨_, rfl⟩
  have h5 := hide (bytes4_any ab ao ac aq nb cb no co nc cc np cq (by rw [hnb']; exact hnb) (by rw [hno']; exact hno) (by rw [hnc']; exact hnc) (by rw [hnq']; exact hnq) w)
  rw [← hnb', ← hno', ← hnc', ← hnq']
  have NB := hide hnb'
  have NO := hide hno'
  have NC := hide hnc'
  have NQ := hide hnq'
  have HB := hide hb
  have HO := hide ho
  have HC := hide hc
  have HQ := hide hq
  have SB := hide hsb
  have SO := hide hso
  have SC := hide hsc
  have SQ := hide hsq
  have hmix := mixed
  clear hnb' hno' hnc' hnq' hb ho hc hq hsb hso hsc hsq hnb hno hnc hnq
  go_enter Try.func4, Try.ntmps4
  go_wp2_with fail
  refine h5.out.mono ?_
  rintro e w' ⟨⟨r, rfl⟩, rfl⟩
  clear h5
  cases r
  · go_wp2_with fail
    go_ret
    exact ⟨rfl, Below.refl _ _⟩
  by_cases h1 : 8192 < nb
  · go_wp2_with fail
    go_ret
    exact ⟨rfl, Below.refl _ _⟩
  by_cases h2 : 8192 < no
  · go_wp2_with fail
    go_ret
    exact ⟨rfl, Below.refl _ _⟩
  by_cases h3 : 8192 < nc
  · go_wp2_with fail
    go_ret
    exact ⟨rfl, Below.refl _ _⟩
  by_cases h4 : 8192 < np
  · go_wp2_with fail
    go_ret
    exact ⟨rfl, Below.refl _ _⟩
  go_wp2_with fail
  · go_ret
    exact ⟨rfl, Below.refl _ _⟩
  have h6 := domain_any ab ao b o cb co w' HB.out HO.out SB.out SO.out (by rw [← NB.out]; omega) (by rw [← NO.out]; omega)
  rw [← NB.out, ← NO.out] at h6
  refine h6.mono ?_
  rintro e w1 ⟨⟨r, rfl, hr⟩, hB1⟩
  clear h6
  have HB1 := hide hB1
  clear hB1
  cases r
  · go_wp2_with fail
    go_ret
    exact ⟨rfl, HB1.out⟩
  obtain ⟨hS, hD⟩ := hr rfl
  have HS := hide hS
  have HD := hide hD
  clear hS hD hr
  have h7 := build_any ab ao ac b o c cb co cc w1 HB.out HO.out HC.out (SB.out.below HB1.out (Nat.le_refl _)) (SO.out.below HB1.out (Nat.le_refl _)) (SC.out.below HB1.out (Nat.le_refl _)) (by rw [← NB.out]; omega) (by rw [← NO.out]; omega) (by rw [← NC.out]; omega) HS.out HD.out
  rw [← NB.out, ← NO.out, ← NC.out] at h7
  have H7 := hide h7
  clear h7
  go_wp2_with fail
  refine H7.out.mono ?_
  clear H7
  rintro e w2 ⟨lb, bb, ga, mat, mov, mch, Dch, rfl, hL, hM, hin, hge, hne, hB2⟩
  have HL := hide hL
  have HM := hide hM
  have HIC := hide hin
  have HNE := hide hne
  have HB2 : Hid (Below w'.heap.size w' w2) := HB1.out.trans (hB2.mono HB1.out.size)
  have hmcw : Hid (w'.heap.size ≤ mch) := Nat.le_trans HB1.out.size hge.2.2.2.2.2
  clear hL hM hin hge hne hB2 HB1
  go_wp2_with fail
  go_loopw [10] (fun vi wr => ∃ i : Nat, i ≤ np ∧ vi = .int .i64 i ∧ Hid (Gr w2 wr)) (fun vi _ => np - (intOf vi).toNat)
  case atStart => exact ⟨0, Nat.zero_le _, rfl, Gr.refl _⟩
  case round =>
    obtain ⟨i, hi, rfl, hgr⟩ := hrel
    by_cases hin : i < np
    · have hil : i < q.length := by rw [← NQ.out]; exact hin
      have hbr : Hid (Below w'.heap.size w' wr) := HB2.out.trans (hgr.out.below.mono HB2.out.size)
      obtain ⟨g, off, had, hgs, hrow⟩ := SQ.out (by omega)
      subst had
      obtain ⟨k, hk⟩ : ∃ k, k = q[i]'hil := ⟨_, rfl⟩
      have hxk : Hid (k.length = 32) := by show k.length = 32; rw [hk]; exact HQ.out _ (List.getElem_mem hil)
      have hr1 : Hid (wr.rangeAt g (off + i * 32) (kc k)) := by rw [hk]; exact rangeAt_below (hrow i hil) hbr.out hgs
      obtain ⟨M, hM⟩ : ∃ M, M = model b o k := ⟨_, rfl⟩
      obtain ⟨Y, hY⟩ : ∃ Y, Y = modelR b o k := ⟨_, rfl⟩
      have c12 := hide (acct_q (HL.out.of_gr hgr.out) hxk.out hM)
      have c10 := hide (model_q (cb := cb) (co := co) hbr.out HB.out HO.out SB.out SO.out NB.out NO.out (by omega) (by omega) HS.out hxk.out hY)
      have c9 := hide (eq_q (M := M) (Y := Y) (by rw [hY]; exact modelR_len HB.out HO.out k) (by rw [hM, hY, modelR_acct]))
      clear hk hM hY hrow
      go_wp2_with fail
      refine wp_region_quiet_grown (by assumption) (by kernel_rfl) ?_
      repeat (first
        | (refine quiet_load_mid (by first | rfl | (go_simp; done)) 31 _ rfl g (off + i * 32) rfl (kc k) _ (by rintro _ ⟨m, rfl⟩; exact rangeAt_grown hr1.out _ _) Try.underlying31 rfl (by rw [kc_length, hxk.out]; exact info31) ?_)
        | quiet_step ((first | (go_at_call 12; refine Calls.grown_of (c12.out _ _)) | (go_at_call 10; refine Calls.grown_of (c10.out _ _)) | (go_at_call 9; refine Calls.grown_of (c9.out _)))))
      refine wpQuiet_nil ?_
      intro _ hw'
      obtain ⟨⟨nq, osq⟩, hw''⟩ := hw'
      subst hw''
      go_wp2_with fail
      exact ⟨⟨i + 1, by omega, by go_num, hgr.out.trans ⟨nq, osq, rfl⟩⟩, by simp [intOf]; omega⟩
    · have hbr : Hid (Below w'.heap.size w' wr) := HB2.out.trans (hgr.out.below.mono HB2.out.size)
      have HLr : Hid (LedAt wr lb bb ga mat mov mch b o) := HL.out.of_gr hgr.out
      have HMr : Hid (wr.ownsMap Try.prog 36 RV mch c.length Dch) := ownsMap_block HM.out (hgr.out.below.block _ HM.out.lt)
      clear hgr HL HM HB2
      go_wp2_with fail
      refine (changes_any lb bb ga mat mov mch c.length b o Dch wr HLr.out HMr.out (by rw [← NC.out]; omega)).mono ?_
      rintro e w3 ⟨mo, Do, rfl, hmo, hown, hhas, hout, hown3, hg3⟩
      have HL3 := hide (HLr.out.grown hg3 HNE.out)
      have HO1 := hide hown
      have HH1 : Hid (∀ kl, Maps.has Do kl = inSet c kl) := fun kl => (hhas kl).trans (HIC.out kl)
      have HU1 := hide hout
      have HB3 : Hid (Below w'.heap.size w' w3) := hbr.out.grown hg3 hbr.out.size (fun j hj => by cases hj; exact hmcw.out)
      clear hmo hown hhas hout hown3 hg3 HLr HMr HIC hbr
      go_wp2_with fail
      go_loopw [12] (fun vi wr => ∃ i : Nat, i ≤ nc ∧ vi = .int .i64 i ∧ Hid (Gr w3 wr)) (fun vi _ => nc - (intOf vi).toNat)
      case atStart => exact ⟨0, Nat.zero_le _, rfl, Gr.refl _⟩
      case round =>
        rename_i wr
        obtain ⟨i, hi, rfl, hgr⟩ := hrel
        by_cases hin : i < nc
        · have hil : i < c.length := by rw [← NC.out]; exact hin
          have hbr : Hid (Below w'.heap.size w' wr) := HB3.out.trans (hgr.out.below.mono HB3.out.size)
          obtain ⟨g, off, had, hgs, hrow⟩ := SC.out (by omega)
          subst had
          obtain ⟨k, hk⟩ : ∃ k, k = c[i]'hil := ⟨_, rfl⟩
          have hxk : Hid (k.length = 32) := by show k.length = 32; rw [hk]; exact HC.out _ (List.getElem_mem hil)
          have hr1 : Hid (wr.rangeAt g (off + i * 32) (kc k)) := by rw [hk]; exact rangeAt_below (hrow i hil) hbr.out hgs
          have hrg : Hid (∀ W, Below w'.heap.size w' W → W.rangeAt g (off + i * 32) (kc k)) := fun W hW => by rw [hk]; exact rangeAt_below (hrow i hil) hW hgs
          have hkm : Hid (Maps.has Do (.string k) = true) := by show _ = _; rw [HH1.out]; exact inSet_mem.2 (by rw [hk]; exact List.getElem_mem hil)
          obtain ⟨M, hM⟩ : ∃ M, M = model b o k := ⟨_, rfl⟩
          obtain ⟨Y, hY⟩ : ∃ Y, Y = modelR b o k := ⟨_, rfl⟩
          obtain ⟨gk, hgk⟩ : ∃ gk, gk = wr.heap.size := ⟨_, rfl⟩
          obtain ⟨W1, hW1⟩ : ∃ W1, W1 = wr.alloc (.cells (kc k).toArray 36) := ⟨_, rfl⟩
          have hG1 : Hid (Gr w3 W1) := by show Gr w3 W1; rw [hW1]; exact hgr.out.alloc _
          have hrk1 : Hid (W1.rangeAt gk 0 (kc k)) := by show W1.rangeAt _ _ _; rw [hW1, hgk]; exact range_new wr (kc k) 36
          have hmo1 : W1.ownsMap Try.prog 36 RV mo c.length Do := ownsMap_block HO1.out (hG1.out.below.block _ HO1.out.lt)
          have hlk := out_look hmo1 HU1.out hxk.out hkm.out
          rw [← hM] at hlk
          obtain ⟨gv, hgv⟩ : ∃ gv, gv = W1.heap.size := ⟨_, rfl⟩
          obtain ⟨W2, hW2⟩ : ∃ W2, W2 = W1.alloc (.cells (acc M).toArray 34) := ⟨_, rfl⟩
          have hGW : Gr W1 W2 := by rw [hW2]; exact (Gr.refl _).alloc _
          have hgkl : gk < W1.heap.size := by rw [hW1, hgk]; simp
          have hG2 : Hid (Gr w3 W2) := hG1.out.trans hGW
          have hrk2 : Hid (W2.rangeAt gk 0 (kc k)) := rangeAt_below hrk1.out hGW.below hgkl
          have hrv2 : Hid (W2.rangeAt gv 0 (acc M)) := by show W2.rangeAt _ _ _; rw [hW2, hgv]; exact range_new W1 (acc M) 34
          have hgvl : Hid (gv < W2.heap.size) := by show gv < _; rw [hW2, hgv]; simp
          have c12 : Hid (Calls Try.prog 12 #[.pointer (some ⟨lb, 0, none⟩), .agg (kc k).toArray] W2 fun e w'' => e = .returned (.agg (acc M).toArray) ∧ ∃ q os', w'' = grow (W2.drewN q) os') := by rw [hM]; exact account_any lb bb ga mat mov mch b o k W2 hxk.out (HL3.out.of_gr hG2.out)
          have HMM := hide hM
          have HY := hide hY
          have HGK := hide hgk
          have HW1 := hide hW1
          have HGV := hide hgv
          have HW2 := hide hW2
          clear hk hM hY hgk hW1 hrow hgv hW2 hmo1 hGW hgkl
          go_wp2_with (first
            | (refine wpList_load_mid rfl 31 (.tmp 97) rfl g (off + i * 32) rfl (kc k) _ hr1.out Try.underlying31 rfl (by rw [kc_length, hxk.out]; exact info31) ?_)
            | (refine wpList_store_row rfl 36 (.tmp 13) (.tmp 98) rfl wr.heap.size (kc k).toArray rfl rfl 36 _ (heap_alloc_last wr _) (by rw [size_kc hxk.out]; exact info36) (by rw [size_kc hxk.out]; rfl) (one_kc _) ?_
               rw [World.setRow_alloc_new, ← HW1.out, ← HGK.out])
            | (refine wpList_load_mid rfl 36 (.tmp 13) rfl gk 0 rfl (kc k) _ hrk1.out Try.underlying36 rfl (by rw [kc_length, hxk.out]; exact info36) ?_)
            | (refine wpList_load_mid rfl 36 (.tmp 13) rfl gk 0 rfl (kc k) _ hrk2.out Try.underlying36 rfl (by rw [kc_length, hxk.out]; exact info36) ?_)
            | (refine wpList_store_row rfl 34 (.tmp 14) (.tmp 103) rfl W1.heap.size (acc M).toArray rfl rfl 34 _ (heap_alloc_last W1 _) (by exact info34) (by rfl) (one_acc _) ?_
               rw [World.setRow_alloc_new, ← HW2.out, ← HGV.out]))
          refine c12.out.mono ?_
          rintro e W3 ⟨rfl, q3, os3, hw3⟩
          have hG3 : Hid (Gr W2 W3) := ⟨q3, os3, hw3⟩
          clear hw3 c12 hlk
          obtain ⟨gn, hgn⟩ : ∃ gn, gn = W3.heap.size := ⟨_, rfl⟩
          obtain ⟨W4, hW4⟩ : ∃ W4, W4 = W3.alloc (.cells (acc M).toArray 34) := ⟨_, rfl⟩
          have hG4 : Hid (Gr W2 W4) := by show Gr _ _; rw [hW4]; exact hG3.out.alloc _
          have hrv4 : Hid (W4.rangeAt gv 0 (acc M)) := rangeAt_below hrv2.out hG4.out.below hgvl.out
          have hrn4 : Hid (W4.rangeAt gn 0 (acc M)) := by show W4.rangeAt _ _ _; rw [hW4, hgn]; exact range_new W3 (acc M) 34
          have hG5 : Hid (Gr w3 W4) := hG2.out.trans hG4.out
          have hb4 : Hid (Below w'.heap.size w' W4) := HB3.out.trans (hG5.out.below.mono HB3.out.size)
          have hrc4 : Hid (W4.rangeAt g (off + i * 32) (kc k)) := hrg.out W4 hb4.out
          have c10 := hide (model_q (cb := cb) (co := co) hb4.out HB.out HO.out SB.out SO.out NB.out NO.out (by omega) (by omega) HS.out hxk.out HY.out)
          have c9 := hide (eq_q (M := M) (Y := Y) (by rw [HY.out]; exact modelR_len HB.out HO.out k) (by rw [HMM.out, HY.out, modelR_acct]))
          have HGN := hide hgn
          have HW4 := hide hW4
          clear hgn hW4 hr1 hrk1 hrk2 hrv2 hG1 hG3
          go_wp2_with (first
            | (refine wpList_store_row rfl 34 (.tmp 16) (.tmp 109) rfl W3.heap.size (acc M).toArray rfl rfl 34 _ (heap_alloc_last W3 _) (by exact info34) (by rfl) (one_acc _) ?_
               rw [World.setRow_alloc_new, ← HW4.out, ← HGN.out])
            | (refine wpList_load_mid rfl 34 (.tmp 14) rfl gv 0 rfl (acc M) _ hrv4.out Try.underlying34 rfl (by exact info34) ?_)
            | (refine wpList_load_mid rfl 34 (.tmp 16) rfl gn 0 rfl (acc M) _ hrn4.out Try.underlying34 rfl (by exact info34) ?_)
            | (refine wpList_acNe rfl (.tmp 110) (.tmp 111) rfl M rfl rfl ?_))
          refine wp_region_quiet_grown (by assumption) (by kernel_rfl) ?_
          repeat (first
            | (refine quiet_load_mid (by first | rfl | (go_simp; done)) 34 _ rfl gn 0 rfl (acc M) _ (by rintro _ ⟨m, rfl⟩; exact rangeAt_grown hrn4.out _ _) Try.underlying34 rfl (by exact info34) ?_)
            | (refine quiet_load_mid (by first | rfl | (go_simp; done)) 31 _ rfl g (off + i * 32) rfl (kc k) _ (by rintro _ ⟨m, rfl⟩; exact rangeAt_grown hrc4.out _ _) Try.underlying31 rfl (by rw [kc_length, hxk.out]; exact info31) ?_)
            | quiet_step ((first | (go_at_call 10; refine Calls.grown_of (c10.out _ _)) | (go_at_call 9; refine Calls.grown_of (c9.out _)))))
          refine wpQuiet_nil ?_
          intro _ hw'
          obtain ⟨⟨nq, osq⟩, hw''⟩ := hw'
          subst hw''
          go_wp2_with fail
          exact ⟨⟨i + 1, by omega, by go_num, hG5.out.trans ⟨nq, osq, rfl⟩⟩, by simp [intOf]; omega⟩
        · go_wp2_with fail
          have HBr : Hid (Below w'.heap.size w' wr) := HB3.out.trans (hgr.out.below.mono HB3.out.size)
          have HLr : Hid (LedAt wr lb bb ga mat mov mch b o) := HL3.out.of_gr hgr.out
          go_loopw [17] (fun vi ws => ∃ i : Nat, i ≤ np ∧ vi = .int .i64 i ∧ Hid (Gr wr ws)) (fun vi _ => np - (intOf vi).toNat)
          case atStart => exact ⟨0, Nat.zero_le _, rfl, Gr.refl _⟩
          case round =>
            obtain ⟨i, hi, rfl, hgr⟩ := hrel
            by_cases hin : i < np
            · have hil : i < q.length := by rw [← NQ.out]; exact hin
              have hbr : Hid (Below w'.heap.size w' wr) := HBr.out.trans (hgr.out.below.mono HBr.out.size)
              obtain ⟨g, off, had, hgs, hrow⟩ := SQ.out (by omega)
              subst had
              obtain ⟨k, hk⟩ : ∃ k, k = q[i]'hil := ⟨_, rfl⟩
              have hxk : Hid (k.length = 32) := by show k.length = 32; rw [hk]; exact HQ.out _ (List.getElem_mem hil)
              have hr1 : Hid (wr.rangeAt g (off + i * 32) (kc k)) := by rw [hk]; exact rangeAt_below (hrow i hil) hbr.out hgs
              obtain ⟨M, hM⟩ : ∃ M, M = model b o k := ⟨_, rfl⟩
              obtain ⟨Y, hY⟩ : ∃ Y, Y = modelR b o k := ⟨_, rfl⟩
              have c12 := hide (acct_q (HLr.out.of_gr hgr.out) hxk.out hM)
              have c10 := hide (model_q (cb := cb) (co := co) hbr.out HB.out HO.out SB.out SO.out NB.out NO.out (by omega) (by omega) HS.out hxk.out hY)
              have c9 := hide (eq_q (M := M) (Y := Y) (by rw [hY]; exact modelR_len HB.out HO.out k) (by rw [hM, hY, modelR_acct]))
              clear hk hM hY hrow
              go_wp2_with fail
              refine wp_region_quiet_grown (by assumption) (by kernel_rfl) ?_
              repeat (first
                | (refine quiet_load_mid (by first | rfl | (go_simp; done)) 31 _ rfl g (off + i * 32) rfl (kc k) _ (by rintro _ ⟨m, rfl⟩; exact rangeAt_grown hr1.out _ _) Try.underlying31 rfl (by rw [kc_length, hxk.out]; exact info31) ?_)
                | quiet_step ((first | (go_at_call 12; refine Calls.grown_of (c12.out _ _)) | (go_at_call 10; refine Calls.grown_of (c10.out _ _)) | (go_at_call 9; refine Calls.grown_of (c9.out _)))))
              refine wpQuiet_nil ?_
              intro _ hw'
              obtain ⟨⟨nq, osq⟩, hw''⟩ := hw'
              subst hw''
              go_wp2_with fail
              exact ⟨⟨i + 1, by omega, by go_num, hgr.out.trans ⟨nq, osq, rfl⟩⟩, by simp [intOf]; omega⟩
            · have hbr : Hid (Below w'.heap.size w' wr) := HBr.out.trans (hgr.out.below.mono HBr.out.size)
              go_wp2_with fail
              go_ret
              exact ⟨rfl, hbr.out⟩
end Go.Proofs.Qxb6627977a
