import Derived.Test.Qxb6627977aBld
namespace Go.Proofs.Qxb6627977a
set_option linter.unusedSimpArgs false
open Go.RowKit Go.Sort

/-- the answer is true, and of what was there nothing has turned -/
def TrueE (w : World) (e : Ending) (w' : World) : Prop := e = .returned (.bool true) ∧ Below w.heap.size w w'

theorem LedAt.grown {w w' : World} {lb bb ga mat mov mch : Nat} {b o : List AR} (h : LedAt w lb bb ga mat mov mch b o) (hg : w.grownBy w' (some mch)) (hne : mch ≠ lb ∧ mch ≠ bb ∧ mch ≠ ga ∧ mch ≠ mat ∧ mch ≠ mov) : LedAt w' lb bb ga mat mov mch b o := by
  obtain ⟨⟨⟨ks, ts, cap, hx⟩, ha, D', hD', hA⟩, h2, ⟨D, h3, h4⟩, h5⟩ := h
  have hs := hg.size
  have k : ∀ i, i < w.heap.size → mch ≠ i → w'.heap[i]? = w.heap[i]? := fun i hi hn => hg.block i hi (by intro e; cases e; exact hn rfl)
  refine ⟨⟨⟨ks, ts, cap, (k bb h5.2.1 hne.2.1).trans hx⟩, fun i hi => rangeAt_grownBy (ha i hi) hg (by intro e; cases e; exact hne.2.2.1 rfl), D', ownsMap_block hD' (k mat h5.2.2.2.1 hne.2.2.2.1), hA⟩, (k lb h5.1 hne.1).trans h2, ⟨D, ownsMap_block h3 (k mov h5.2.2.2.2.1 hne.2.2.2.2), h4⟩, ?_⟩
  exact ⟨by omega, by omega, by omega, by omega, by omega, by omega⟩
/-- the set 'seen' -/
def SeenV (D : DataW Value) : Prop := ∀ k : Key, D.atKey (.string k) (.held (.bool false)) = .held (.bool (Maps.has D (.string k)))
theorem SeenV.zero : SeenV (.map []) := fun _ => rfl
theorem SeenV.put {D : DataW Value} (h : SeenV D) (hm : Maps.IsMap D) (k : Key) : SeenV (D.put (.string k) (.held (.bool true))) := fun k' => by
  by_cases e : k' = k
  · subst e; rw [Maps.atKey_put_same hm (keyIs _), Maps.has_put_same hm (keyIs _)]
  · rw [Maps.atKey_put_other (string_ne e), Maps.has_put_other (string_ne e)]; exact h k'
theorem inSet_old {D : DataW Value} {cs : List Key} (h : ∀ kl, Maps.has D kl = inSet cs kl) {k : Key} (hk : Maps.has D (.string k) = true) (kl : Lit) : Maps.has D kl = inSet (cs ++ [k]) kl := by
  rw [inSet_snoc]
  by_cases e : kl = .string k
  · subst e; rw [hk, WideAt.sameKey_self (keyIs k), Bool.or_true]
  · rw [h, sameKey_other e, Bool.or_false]
/-- a look-up in what Changes gave -/
theorem out_look {w : World} {mo n : Nat} {D : DataW Value} {b o : List AR} (h : w.ownsMap Try.prog 36 RV mo n D) (ho : OutIs b o D) {k : Key} (hk : k.length = 32) (hh : Maps.has D (.string k) = true) : (Instr.lookup 28 (.map (some mo)) (.agg (kc k).toArray) true).run Try.prog w = .ok (.tuple #[.agg (acc (model b o k)).toArray, .bool true]) w := by
  obtain ⟨v, ps, h1, h2⟩ := h.look_ok law36 Try.underlying28 (Try.zeroValue34 w) (show RV (.agg (acc zeroAc).toArray) = some (.held (.agg (acc zeroAc).toArray), []) from rfl) (keyOf36 k hk)
  rw [hh] at h1
  rw [ho k hh] at h2
  simp only [RV, Option.some.injEq, Prod.mk.injEq, DataW.held.injEq] at h2
  rw [h2.1] at h1
  exact h1
theorem seen_look {w : World} {ms n : Nat} {D : DataW Value} (h : w.ownsMap Try.prog 31 RV ms n D) (hv : SeenV D) {k : Key} (hk : k.length = 32) : (Instr.lookup 30 (.map (some ms)) (.agg (kc k).toArray) false).run Try.prog w = .ok (.bool (Maps.has D (.string k))) w := by
  obtain ⟨v, ps, h1, h2⟩ := h.lookup law31 Try.underlying30 (Try.zeroValue4 w) (show RV (.bool false) = some (.held (.bool false), []) from rfl) (keyOf31 k hk)
  rw [hv] at h2
  simp only [RV, Option.some.injEq, Prod.mk.injEq, DataW.held.injEq] at h2
  rw [h2.1] at h1
  exact h1

set_option maxHeartbeats 4000000 in
set_option maxRecDepth 100000 in
theorem law1_any (ab ao ac : Option Addr) (b o : List AR) (c : List Key) (cb co cc : Nat) (w : World) (hb : KOk b) (ho : KOk o) (hc : KsOk c) (hsb : SlA w ab b) (hso : SlA w ao o) (hsc : SlK w ac c) (hnb : b.length ≤ maxLen) (hno : o.length ≤ maxLen) (hnc : c.length ≤ maxLen) :
    Calls Try.prog 3 #[.slice ab b.length cb, .slice ao o.length co, .slice ac c.length cc] w (TrueE w) := by
  obtain ⟨nb, hnb'⟩ : ∃ n, n = b.length := ⟨_, rfl⟩
  obtain ⟨no, hno'⟩ : ∃ n, n = o.length := ⟨_, rfl⟩
  obtain ⟨nc, hnc'⟩ : ∃ n, n = c.length := ⟨_, rfl⟩
  have h5 := hide (bytes3_any ab ao ac nb cb no co nc cc (by rw [hnb']; exact hnb) (by rw [hno']; exact hno) (by rw [hnc']; exact hnc) w)
  rw [← hnb', ← hno', ← hnc']
  have NB := hide hnb'
  have NO := hide hno'
  have NC := hide hnc'
  have HB := hide hb
  have HO := hide ho
  have HC := hide hc
  have SB := hide hsb
  have SO := hide hso
  have SC := hide hsc
  have hmix := mixed
  clear hnb' hno' hnc' hb ho hc hsb hso hsc hnb hno hnc
  go_enter Try.func3, Try.ntmps3
  go_wp2_with fail
  refine h5.out.mono ?_
  rintro e w' ⟨⟨r, rfl⟩, rfl⟩
  cases r
  · go_wp2_with fail
    go_ret
    exact ⟨rfl, Below.refl _ _⟩
  by_cases h1 : 8192 < nb
  · go_wp2_with fail
    go_ret
    exact ⟨rfl, Below.refl _ _⟩
  by_cases h2 : 8192 < no
  · go_wp2_with fail
    go_ret
    exact ⟨rfl, Below.refl _ _⟩
  by_cases h3 : 8192 < nc
  · go_wp2_with fail
    go_ret
    exact ⟨rfl, Below.refl _ _⟩
  go_wp2_with fail
  · go_ret
    exact ⟨rfl, Below.refl _ _⟩
  have h6 := domain_any ab ao b o cb co w' HB.out HO.out SB.out SO.out (by rw [← NB.out]; omega) (by rw [← NO.out]; omega)
  rw [← NB.out, ← NO.out] at h6
  refine h6.mono ?_
  rintro e w1 ⟨⟨r, rfl, hr⟩, hB1⟩
  clear h6
  have HB1 := hide hB1
  clear hB1
  cases r
  · go_wp2_with fail
    go_ret
    exact ⟨rfl, HB1.out⟩
  obtain ⟨hS, hD⟩ := hr rfl
  have HS := hide hS
  have HD := hide hD
  clear hS hD hr
  have h7 := build_any ab ao ac b o c cb co cc w1 HB.out HO.out HC.out (SB.out.below HB1.out (Nat.le_refl _)) (SO.out.below HB1.out (Nat.le_refl _)) (SC.out.below HB1.out (Nat.le_refl _)) (by rw [← NB.out]; omega) (by rw [← NO.out]; omega) (by rw [← NC.out]; omega) HS.out HD.out
  rw [← NB.out, ← NO.out, ← NC.out] at h7
  have H7 := hide h7
  clear h7
  go_wp2_with fail
  refine H7.out.mono ?_
  clear H7
  rintro e w2 ⟨lb, bb, ga, mat, mov, mch, Dch, rfl, hL, hM, hin, hge, hne, hB2⟩
  have HL := hide hL
  have HM := hide hM
  have HIC := hide hin
  have HNE := hide hne
  have HGE := hide hge
  have HB2 : Hid (Below w'.heap.size w' w2) := HB1.out.trans (hB2.mono HB1.out.size)
  have hmcw : Hid (w'.heap.size ≤ mch) := Nat.le_trans HB1.out.size hge.2.2.2.2.2
  clear hL hM hin hge hne hB2 HGE HB1
  go_wp2_with fail
  refine (changes_any lb bb ga mat mov mch c.length b o Dch w2 HL.out HM.out (by rw [← NC.out]; omega)).mono ?_
  rintro e w3 ⟨mo, Do, rfl, hmo, hown, hhas, hout, hown3, hg3⟩
  have HL3 := hide (HL.out.grown hg3 HNE.out)
  have HO1 := hide hown
  have HH1 : Hid (∀ kl, Maps.has Do kl = inSet c kl) := fun kl => (hhas kl).trans (HIC.out kl)
  have HU1 := hide hout
  have HM3 := hide hown3
  have HB3 : Hid (Below w'.heap.size w' w3) := HB2.out.grown hg3 HB2.out.size (fun j hj => by cases hj; exact hmcw.out)
  have hmo' : Hid (mch < mo ∧ w'.heap.size ≤ mo) := ⟨Nat.lt_of_lt_of_le HM.out.lt hmo, Nat.le_trans HB2.out.size hmo⟩
  clear hmo hown hhas hout hown3 hg3 HL HM HIC HB2
  go_wp2_with fail
  refine (changes_any lb bb ga mat mov mch 0 b o (.map []) w3 HL3.out HM3.out (by omega)).mono ?_
  rintro e w4 ⟨mo2, Do2, rfl, hmo2, hown2, hhas2, _, _, hg4⟩
  have HO2 := hide (HO1.out.kept hg4 (by intro e; cases e; exact absurd hmo'.out.1 (Nat.lt_irrefl _)))
  have HP2 := hide hown2
  have hz2 : Hid (Maps.size Do2 = 0) := size_none (hown2.canon law36) (fun kl => by rw [hhas2 kl]; rfl)
  have HB4 : Hid (Below w'.heap.size w' w4) := HB3.out.grown hg4 HB3.out.size (fun j hj => by cases hj; exact hmcw.out)
  have hmo2' : Hid (w'.heap.size ≤ mo2) := Nat.le_trans HB3.out.size hmo2
  clear hmo2 hown2 hhas2 hg4 HB3 HL3 HM3 HO1
  have hmm := makeMap_hint Try.underlying30 nc w4
  obtain ⟨w5, hw5⟩ : ∃ w5, w5 = w4.alloc (.map #[] 0) := ⟨_, rfl⟩
  obtain ⟨ms, hms⟩ : ∃ m, m = w4.heap.size := ⟨_, rfl⟩
  rw [← hw5, ← hms] at hmm
  have hgw5 : w4.grownBy w5 none := by rw [hw5]; exact World.grownBy_alloc w4 _ none
  have HB5 : Hid (Below w'.heap.size w' w5) := HB4.out.grown hgw5 HB4.out.size (fun j hj => by cases hj)
  have HO3 := hide (HO2.out.kept hgw5 (by intro e; cases e))
  have HP3 := hide (HP2.out.kept hgw5 (by intro e; cases e))
  have HS3 : Hid (w5.ownsMap Try.prog 31 RV ms 0 (.map [])) := by show w5.ownsMap _ _ _ _ _ _; rw [hw5, hms]; exact World.ownsMap_made w4 Try.prog 31 RV
  have hmsl : Hid (mo < ms ∧ mo2 < ms ∧ w'.heap.size ≤ ms) := by
    show _ ∧ _ ∧ _
    rw [hms]
    exact ⟨HO2.out.lt, HP2.out.lt, HB4.out.size⟩
  clear hw5 hgw5 hms HB4 HO2 HP2
  go_wp2_with fail
  clear hmm
  go_loopw [11, 12] (fun vd vi wr => ∃ (i sd : Nat) (Ds : DataW Value), i ≤ nc ∧ sd ≤ i ∧ Hid (sd = Maps.size Ds) ∧ vd = .int .i64 sd ∧ vi = .int .i64 i ∧ Hid (wr.ownsMap Try.prog 31 RV ms i Ds) ∧ Hid (∀ kl, Maps.has Ds kl = inSet (c.take i) kl) ∧ Hid (SeenV Ds) ∧ Hid (wr.ownsMap Try.prog 36 RV mo c.length Do) ∧ Hid (wr.ownsMap Try.prog 36 RV mo2 0 Do2) ∧ Hid (Below w'.heap.size w' wr)) (fun _ vi _ => nc - (intOf vi).toNat)
  case atStart => exact ⟨0, 0, .map [], Nat.zero_le _, Nat.le_refl _, show (0 : Nat) = 0 from rfl, rfl, rfl, HS3.out, fun _ => rfl, SeenV.zero, HO3.out, HP3.out, HB5.out⟩
  case round =>
    clear HS3 HO3 HP3 HB5
    obtain ⟨i, sd, Ds, hi, hsdi, hsd, hvd, rfl, hown, hin, hsv, hmo1, hmo22, hbel⟩ := hrel
    subst hvd
    by_cases hil0 : i < nc
    · have hil : i < c.length := by rw [← NC.out]; exact hil0
      obtain ⟨g, off, had, hgs, hrow⟩ := SC.out (by omega)
      subst had
      obtain ⟨k, hk⟩ : ∃ k, k = c[i]'hil := ⟨_, rfl⟩
      have hxk : Hid (k.length = 32) := by show k.length = 32; rw [hk]; exact HC.out _ (List.getElem_mem hil)
      have hr1 : Hid (wr.rangeAt g (off + i * 32) (kc k)) := by rw [hk]; exact rangeAt_below (hrow i hil) hbel.out hgs
      have htk : Hid (c.take (i + 1) = c.take i ++ [k]) := by show _ = _; rw [List.take_succ_eq_append_getElem hil, ← hk]
      have hkm : Hid (Maps.has Do (.string k) = true) := by show _ = _; rw [HH1.out]; exact inSet_mem.2 (by rw [hk]; exact List.getElem_mem hil)
      obtain ⟨M, hM⟩ : ∃ M, M = model b o k := ⟨_, rfl⟩
      obtain ⟨Y, hY⟩ : ∃ Y, Y = modelR b o k := ⟨_, rfl⟩
      have HY := hide hY
      have HYL : Hid (Y.1.length = 32) := by show _ = _; rw [hY]; exact modelR_len HB.out HO.out k
      have HMY : Hid (M = Y.2) := by show _ = _; rw [hM, hY, modelR_acct]
      have HMM := hide hM
      clear hk hM hY
      obtain ⟨gk, hgk⟩ : ∃ gk, gk = wr.heap.size := ⟨_, rfl⟩
      obtain ⟨W1, hW1⟩ : ∃ W1, W1 = wr.alloc (.cells (kc k).toArray 31) := ⟨_, rfl⟩
      have hG1 : Hid (Gr wr W1) := by show Gr wr W1; rw [hW1]; exact (Gr.refl _).alloc _
      have hrk1 : Hid (W1.rangeAt gk 0 (kc k)) := by show W1.rangeAt _ _ _; rw [hW1, hgk]; exact range_new wr (kc k) 31
      have hown1 : Hid (W1.ownsMap Try.prog 31 RV ms i Ds) := ownsMap_block hown.out (hG1.out.below.block _ hown.out.lt)
      have hmo11 : Hid (W1.ownsMap Try.prog 36 RV mo c.length Do) := ownsMap_block hmo1.out (hG1.out.below.block _ hmo1.out.lt)
      have hmo221 : Hid (W1.ownsMap Try.prog 36 RV mo2 0 Do2) := ownsMap_block hmo22.out (hG1.out.below.block _ hmo22.out.lt)
      have hbel1 : Hid (Below w'.heap.size w' W1) := hbel.out.trans (hG1.out.below.mono hbel.out.size)
      have hgm : Hid (ms < gk) := by show ms < gk; rw [hgk]; exact hown.out.lt
      have hsk := seen_look hown1.out hsv.out hxk.out
      have HGK := hide hgk
      have HW1 := hide hW1
      clear hgk hW1 hown hmo1 hmo22 hbel hG1
      cases hcs : Maps.has Ds (.string k) with
      | true =>
        rw [hcs] at hsk
        have hlk := out_look hmo11.out HU1.out hxk.out hkm.out
        rw [← HMM.out] at hlk
        have HIN : Hid (∀ kl, Maps.has Ds kl = inSet (c.take (i + 1)) kl) := by show ∀ kl, _; rw [htk.out]; exact inSet_old hin.out hcs
        have HOW : Hid (W1.ownsMap Try.prog 31 RV ms (i + 1) Ds) := hown1.out.mono (by omega)
        have HMO := hmo11
        have HMO2 := hmo221
        have HBW := hbel1
        have HRK := hrk1
        have HSV := hsv
        clear hcs hin hown1 hmo11 hmo221 hbel1 hsv
        go_wp2_with (first
          | (refine wpList_load_mid rfl 31 (.tmp 69) rfl g (off + i * 32) rfl (kc k) _ hr1.out Try.underlying31 rfl (by rw [kc_length, hxk.out]; exact info31) ?_)
          | (refine wpList_store_row rfl 31 (.tmp 13) (.tmp 70) rfl wr.heap.size (kc k).toArray rfl rfl 31 _ (heap_alloc_last wr _) (by rw [size_kc hxk.out]; exact info31) (by rw [size_kc hxk.out]; rfl) (one_kc _) ?_
             rw [World.setRow_alloc_new, ← HW1.out, ← HGK.out])
          | (refine wpList_load_mid rfl 31 (.tmp 13) rfl gk 0 rfl (kc k) _ hrk1.out Try.underlying31 rfl (by rw [kc_length, hxk.out]; exact info31) ?_)
          | (refine wpList_store_row rfl 34 (.tmp 14) (.tmp 83) rfl W1.heap.size (acc M).toArray rfl rfl 34 _ (heap_alloc_last W1 _) (by exact info34) (by rfl) (one_acc _) ?_
             rw [World.setRow_alloc_new]))

        obtain ⟨w5, hw5⟩ : ∃ w5, w5 = W1.alloc (.cells (acc M).toArray 34) := ⟨_, rfl⟩
        obtain ⟨gv, hgv⟩ : ∃ gv, gv = W1.heap.size := ⟨_, rfl⟩
        rw [← hw5, ← hgv]
        have hG5 : Hid (Gr W1 w5) := by show Gr _ w5; rw [hw5]; exact (Gr.refl _).alloc _
        have hrv : Hid (w5.rangeAt gv 0 (acc M)) := by show w5.rangeAt gv 0 (acc M); rw [hw5, hgv]; exact range_new _ (acc M) 34
        have hrk : Hid (w5.rangeAt gk 0 (kc k)) := rangeAt_below HRK.out hG5.out.below (World.block_lt_of_cell? W1 ⟨gk, 0 + 0, none⟩ (HRK.out 0 _ (List.getElem?_eq_getElem (by rw [kc_length, hxk.out]; decide))))
        have hb5 : Hid (Below w'.heap.size w' w5) := HBW.out.trans (hG5.out.below.mono HBW.out.size)
        have hm10 : Hid (∀ n os, Calls Try.prog 10 #[.slice ab nb cb, .slice ao no co, .agg (kc k).toArray] (grow (w5.drewN n) os) fun e w'' => e = .returned (.agg (recA Y)) ∧ ∃ q os', w'' = grow ((grow (w5.drewN n) os).drewN q) os') := fun n os => by
          have hbg : Below w'.heap.size w' (grow (w5.drewN n) os) := hb5.out.trans ((show Gr w5 (grow (w5.drewN n) os) from ⟨n, os, rfl⟩).below.mono hb5.out.size)
          have := model_any ab ao b o cb co k (grow (w5.drewN n) os) hxk.out HB.out HO.out (SB.out.below hbg (Nat.le_refl _)) (SO.out.below hbg (Nat.le_refl _)) (by rw [← NB.out]; omega) (by rw [← NO.out]; omega) HS.out
          rw [← NB.out, ← NO.out, ← HY.out] at this
          exact this
        have hm9 : Hid (∀ W', Calls Try.prog 9 #[.agg (acc M).toArray, .agg (recA Y)] W' fun e w'' => e = .returned (.bool true) ∧ ∃ q os, w'' = grow (W'.drewN q) os) := fun W' => by
          have := eq_any M Y HYL.out W'
          rw [decide_eq_true HMY.out] at this
          exact this
        clear hw5 hgv
        refine wp_region_quiet_grown (by assumption) (by kernel_rfl) ?_
        repeat (first
          | (refine quiet_load_mid (by rfl) 34 _ rfl gv 0 rfl (acc M) _ (by rintro _ ⟨m, rfl⟩; exact rangeAt_grown hrv.out _ _) Try.underlying34 rfl (by exact info34) ?_)
          | (refine quiet_load_mid (by rfl) 31 _ rfl gk 0 rfl (kc k) _ (by rintro _ ⟨m, rfl⟩; exact rangeAt_grown hrk.out _ _) Try.underlying31 rfl (by rw [kc_length, hxk.out]; exact info31) ?_)
          | quiet_step ((first | (go_at_call 10; refine Calls.grown_of (hm10.out _ _)) | (go_at_call 9; refine Calls.grown_of (hm9.out _)))))
        refine wpQuiet_nil ?_
        intro _ hw'
        obtain ⟨⟨nq, osq⟩, hw''⟩ := hw'
        subst hw''
        go_wp2_with fail
        have hG6 : Gr W1 (grow (w5.drewN nq) osq) := hG5.out.trans ⟨nq, osq, rfl⟩
        have hb6 : Below w'.heap.size w' (grow (w5.drewN nq) osq) := HBW.out.trans (hG6.below.mono HBW.out.size)
        exact ⟨⟨i + 1, sd, Ds, by omega, by omega, hsd.out, rfl, by go_num, ownsMap_block HOW.out (hG6.below.block _ HOW.out.lt), HIN.out, HSV.out, ownsMap_block HMO.out (hG6.below.block _ HMO.out.lt), ownsMap_block HMO2.out (hG6.below.block _ HMO2.out.lt), hb6⟩, by simp [intOf]; omega⟩
      | false =>
        rw [hcs] at hsk
        obtain ⟨WU, hrunU, hownU, hgU⟩ := hown1.out.update law31 Try.underlying30 (by unfold maxLen; omega) (keyOf31 _ hxk.out) (show RV (.bool true) = some (.held (.bool true), []) from rfl)
        have hrunU' : (Instr.mapUpdate 30 (.map (some ms)) (.agg (kc k).toArray) (.bool true)).run Try.prog W1 = .ok () WU := hrunU
        have hml := hmsl.out
        have hgm' := hgm.out
        have HMO : Hid (WU.ownsMap Try.prog 36 RV mo c.length Do) := hmo11.out.kept hgU (by intro e; cases e; omega)
        have HMO2 : Hid (WU.ownsMap Try.prog 36 RV mo2 0 Do2) := hmo221.out.kept hgU (by intro e; cases e; omega)
        have hlk := out_look HMO.out HU1.out hxk.out hkm.out
        rw [← HMM.out] at hlk
        have HIN : Hid (∀ kl, Maps.has (Ds.put (.string k) (.held (.bool true))) kl = inSet (c.take (i + 1)) kl) := by show ∀ kl, _; rw [htk.out]; exact inSet_put hown1.out.isMap hin.out k _
        have HOW : Hid (WU.ownsMap Try.prog 31 RV ms (i + 1) (Ds.put (.string k) (.held (.bool true)))) := hownU
        have HBW : Hid (Below w'.heap.size w' WU) := hbel1.out.grown hgU hbel1.out.size (fun j hj => by cases hj; omega)
        have HRK : Hid (WU.rangeAt gk 0 (kc k)) := rangeAt_grownBy hrk1.out hgU (by intro e; cases e; omega)
        have HSV : Hid (SeenV (Ds.put (.string k) (.held (.bool true)))) := hsv.out.put hown1.out.isMap k
        have hsd' : Hid (sd + 1 = Maps.size (Ds.put (.string k) (.held (.bool true)))) := by show _ = _; rw [Maps.size_put (hown1.out.tidy law31), hcs, hsd.out]; rfl
        clear hcs hin hown1 hmo11 hmo221 hbel1 hsv hrunU hownU hgU hml hgm'
        go_wp2_with (first
          | (refine wpList_load_mid rfl 31 (.tmp 69) rfl g (off + i * 32) rfl (kc k) _ hr1.out Try.underlying31 rfl (by rw [kc_length, hxk.out]; exact info31) ?_)
          | (refine wpList_store_row rfl 31 (.tmp 13) (.tmp 70) rfl wr.heap.size (kc k).toArray rfl rfl 31 _ (heap_alloc_last wr _) (by rw [size_kc hxk.out]; exact info31) (by rw [size_kc hxk.out]; rfl) (one_kc _) ?_
             rw [World.setRow_alloc_new, ← HW1.out, ← HGK.out])
          | (refine wpList_load_mid rfl 31 (.tmp 13) rfl gk 0 rfl (kc k) _ hrk1.out Try.underlying31 rfl (by rw [kc_length, hxk.out]; exact info31) ?_)
          | (refine wpList_load_mid rfl 31 (.tmp 13) rfl gk 0 rfl (kc k) _ HRK.out Try.underlying31 rfl (by rw [kc_length, hxk.out]; exact info31) ?_)
          | (refine wpList_store_row rfl 34 (.tmp 14) (.tmp 83) rfl WU.heap.size (acc M).toArray rfl rfl 34 _ (heap_alloc_last WU _) (by exact info34) (by rfl) (one_acc _) ?_
             rw [World.setRow_alloc_new]))

        obtain ⟨w5, hw5⟩ : ∃ w5, w5 = WU.alloc (.cells (acc M).toArray 34) := ⟨_, rfl⟩
        obtain ⟨gv, hgv⟩ : ∃ gv, gv = WU.heap.size := ⟨_, rfl⟩
        rw [← hw5, ← hgv]
        have hG5 : Hid (Gr WU w5) := by show Gr _ w5; rw [hw5]; exact (Gr.refl _).alloc _
        have hrv : Hid (w5.rangeAt gv 0 (acc M)) := by show w5.rangeAt gv 0 (acc M); rw [hw5, hgv]; exact range_new _ (acc M) 34
        have hrk : Hid (w5.rangeAt gk 0 (kc k)) := rangeAt_below HRK.out hG5.out.below (World.block_lt_of_cell? WU ⟨gk, 0 + 0, none⟩ (HRK.out 0 _ (List.getElem?_eq_getElem (by rw [kc_length, hxk.out]; decide))))
        have hb5 : Hid (Below w'.heap.size w' w5) := HBW.out.trans (hG5.out.below.mono HBW.out.size)
        have hm10 : Hid (∀ n os, Calls Try.prog 10 #[.slice ab nb cb, .slice ao no co, .agg (kc k).toArray] (grow (w5.drewN n) os) fun e w'' => e = .returned (.agg (recA Y)) ∧ ∃ q os', w'' = grow ((grow (w5.drewN n) os).drewN q) os') := fun n os => by
          have hbg : Below w'.heap.size w' (grow (w5.drewN n) os) := hb5.out.trans ((show Gr w5 (grow (w5.drewN n) os) from ⟨n, os, rfl⟩).below.mono hb5.out.size)
          have := model_any ab ao b o cb co k (grow (w5.drewN n) os) hxk.out HB.out HO.out (SB.out.below hbg (Nat.le_refl _)) (SO.out.below hbg (Nat.le_refl _)) (by rw [← NB.out]; omega) (by rw [← NO.out]; omega) HS.out
          rw [← NB.out, ← NO.out, ← HY.out] at this
          exact this
        have hm9 : Hid (∀ W', Calls Try.prog 9 #[.agg (acc M).toArray, .agg (recA Y)] W' fun e w'' => e = .returned (.bool true) ∧ ∃ q os, w'' = grow (W'.drewN q) os) := fun W' => by
          have := eq_any M Y HYL.out W'
          rw [decide_eq_true HMY.out] at this
          exact this
        clear hw5 hgv
        refine wp_region_quiet_grown (by assumption) (by kernel_rfl) ?_
        repeat (first
          | (refine quiet_load_mid (by rfl) 34 _ rfl gv 0 rfl (acc M) _ (by rintro _ ⟨m, rfl⟩; exact rangeAt_grown hrv.out _ _) Try.underlying34 rfl (by exact info34) ?_)
          | (refine quiet_load_mid (by rfl) 31 _ rfl gk 0 rfl (kc k) _ (by rintro _ ⟨m, rfl⟩; exact rangeAt_grown hrk.out _ _) Try.underlying31 rfl (by rw [kc_length, hxk.out]; exact info31) ?_)
          | quiet_step ((first | (go_at_call 10; refine Calls.grown_of (hm10.out _ _)) | (go_at_call 9; refine Calls.grown_of (hm9.out _)))))
        refine wpQuiet_nil ?_
        intro _ hw'
        obtain ⟨⟨nq, osq⟩, hw''⟩ := hw'
        subst hw''
        go_wp2_with fail
        have hG6 : Gr WU (grow (w5.drewN nq) osq) := hG5.out.trans ⟨nq, osq, rfl⟩
        have hb6 : Below w'.heap.size w' (grow (w5.drewN nq) osq) := HBW.out.trans (hG6.below.mono HBW.out.size)
        exact ⟨⟨i + 1, sd + 1, Ds.put (.string k) (.held (.bool true)), by omega, by omega, hsd'.out, by go_num, by go_num, ownsMap_block HOW.out (hG6.below.block _ HOW.out.lt), HIN.out, HSV.out, ownsMap_block HMO.out (hG6.below.block _ HMO.out.lt), ownsMap_block HMO2.out (hG6.below.block _ HMO2.out.lt), hb6⟩, by simp [intOf]; omega⟩
    · have hie : i = c.length := by rw [← NC.out]; omega
      have hin' : ∀ kl, Maps.has Ds kl = inSet c kl := fun kl => by have := hin.out kl; rwa [hie, List.take_length] at this
      have hsz : Hid (Maps.size Do = sd) := by
        show _ = _
        rw [hsd.out]
        exact size_of_has (hmo1.out.canon law36) (hown.out.canon law31) (fun kl => by rw [HH1.out, hin' kl])
      clear hin hin' hie
      have hl1 := fun ty => hmo1.out.len Try.underlying28 ty
      have hl2 := fun ty => hmo22.out.len Try.underlying28 ty
      rw [hsz.out] at hl1
      rw [hz2.out] at hl2
      go_wp2_with fail
      go_ret
      exact ⟨rfl, hbel.out⟩
end Go.Proofs.Qxb6627977a
