import Derived.Test.Qxb6627977aModel
import Derived.Test.Qxb6627977aBytes
namespace Go.Proofs.Qxb6627977a
open Go.RowKit Go.Sort

/-- an element of a map is what it is -/
def RV (v : Value) : Option (DataW Value × List MemPlace) := some (.held v, [])
theorem keyIs (k : Key) : WideAt.IsKeyLit (.string k) := trivial
theorem string_ne {a b : Key} (h : a ≠ b) : (Lit.string a : Lit) ≠ .string b := fun e => h (by cases e; rfl)

set_option maxHeartbeats 1000000 in
set_option maxRecDepth 100000 in
theorem sameFields_eq (x y : AR) (hx : x.1.length = 32) (hy : y.1.length = 32) (w : World) :
    Calls Try.prog 16 #[.agg (recA x), .agg (recA y)] w fun e w' => e = .returned (.bool (decide (x.2 = y.2))) ∧ ∃ q os, w' = grow (w.drewN q) os := by
  obtain ⟨h1, h2, h3⟩ := rec_num hx
  obtain ⟨g1, g2, g3⟩ := rec_num hy
  obtain ⟨X, hX⟩ : ∃ X, X = recA x := ⟨_, rfl⟩
  obtain ⟨Y, hY⟩ : ∃ Y, Y = recA y := ⟨_, rfl⟩
  rw [← hX] at h1 h2 h3 ⊢
  rw [← hY] at g1 g2 g3 ⊢
  clear hX hY hx hy
  obtain ⟨k, a1, a2, a3⟩ := x
  obtain ⟨k', b1, b2, b3⟩ := y
  simp only at g1 g2 g3 h1 h2 h3
  go_enter Try.func16, Try.ntmps16
  go_wp2_with fail
  all_goals
    go_ret
    refine ⟨ret_bool ?_, ((Gr.refl w).alloc _).alloc _⟩
    first
      | (simp [*]; done)
      | (rw [Bool.eq_iff_iff]; simp [*])

/-- the first i records are in order -/
def SortedTo (b : List AR) (i : Nat) : Prop := ∀ j m (hm : m < b.length) (hjm : j < m), m < i → klt (b[j]'(by omega)).1 (b[m]'hm).1
theorem SortedTo.step {b : List AR} {i : Nat} (h : SortedTo b i) (hi : i < b.length) (h0 : 0 < i → klt (b[i - 1]'(by omega)).1 (b[i]'hi).1) : SortedTo b (i + 1) := fun j m hm hjm hmi => by
  by_cases e : m = i
  · subst e
    by_cases e2 : j = m - 1
    · subst e2; exact h0 (by omega)
    · exact klt_trans (h j (m - 1) (by omega) (by omega) (by omega)) (h0 (by omega))
  · exact h j m hm hjm (by omega)
theorem SortedTo.all {b : List AR} (h : SortedTo b b.length) : Sorted b := List.pairwise_iff_getElem.2 fun i j _ hj hij => h i j hj hij hj
def DistinctTo (o : List AR) (i : Nat) : Prop := ∀ j m (hm : m < o.length) (hjm : j < m), m < i → (o[j]'(by omega)).1 ≠ (o[m]'hm).1
theorem DistinctTo.all {o : List AR} (h : DistinctTo o o.length) : Distinct o := List.pairwise_iff_getElem.2 fun i j _ hj hij => h i j hj hij hj
/-- the set 'seen' holds the keys of the first i records -/
def Seen (o : List AR) (i : Nat) (D : DataW Value) : Prop := ∀ k : Key, D.atKey (.string k) (.held (.bool false)) = .held (.bool (decide (∃ j, ∃ h : j < o.length, j < i ∧ (o[j]'h).1 = k)))
theorem Seen.zero (o : List AR) : Seen o 0 (.map []) := fun k => by
  rw [decide_eq_false (by rintro ⟨j, _, h, _⟩; omega)]
  rfl
theorem Seen.step {o : List AR} {i : Nat} {D : DataW Value} (h : Seen o i D) (hD : Maps.IsMap D) (hi : i < o.length) : Seen o (i + 1) (D.put (.string (o[i]'hi).1) (.held (.bool true))) := fun k => by
  by_cases e : k = (o[i]'hi).1
  · subst e
    rw [Maps.atKey_put_same hD (keyIs _), decide_eq_true ⟨i, hi, by omega, rfl⟩]
  · rw [Maps.atKey_put_other (string_ne e), h k]
    congr 2
    rw [decide_eq_decide]
    constructor
    · rintro ⟨j, hj, h1, h2⟩; exact ⟨j, hj, by omega, h2⟩
    · rintro ⟨j, hj, h1, h2⟩
      refine ⟨j, hj, ?_, h2⟩
      by_cases ej : j = i
      · subst ej; exact absurd h2.symm e
      · omega
theorem DistinctTo.step {o : List AR} {i : Nat} (h : DistinctTo o i) (hi : i < o.length) (hn : ¬ ∃ j, ∃ hj : j < o.length, j < i ∧ (o[j]'hj).1 = (o[i]'hi).1) : DistinctTo o (i + 1) := fun j m hm hjm hmi => by
  by_cases e : m = i
  · subst e; exact fun he => hn ⟨j, by omega, hjm, he⟩
  · exact h j m hm hjm (by omega)

theorem ownsMap_block {w w' : World} {k : TypeId} {R : Value → Option (DataW Value × List MemPlace)} {b n : Nat} {D : DataW Value} (h : w.ownsMap Try.prog k R b n D) (hb : w'.heap[b]? = w.heap[b]?) : w'.ownsMap Try.prog k R b n D := by
  obtain ⟨es, clock, hb0, rest⟩ := h
  exact ⟨es, clock, hb.trans hb0, rest⟩
theorem makeMap_hint {t k e : TypeId} (ht : Try.prog.underlying t = some (.map k e)) (n : Nat) (w : World) : (Instr.makeMap t (some (.int .i64 n))).run Try.prog w = .ok (.map (some w.heap.size)) (w.alloc (.map #[] 0)) := by
  simp [Instr.makeMap, run_underlying ht, asInt, asIntOf]
def DomE (b o : List AR) (e : Ending) : Prop := ∃ r, e = .returned (.bool r) ∧ (r = true → Sorted b ∧ Distinct o)
theorem domE_false (b o : List AR) : DomE b o (.returned (.bool false)) := ⟨false, rfl, fun h => by cases h⟩

set_option maxHeartbeats 2000000 in
set_option maxRecDepth 100000 in
theorem domain_any (ab ao : Option Addr) (b o : List AR) (cb co : Nat) (w : World) (hb : KOk b) (ho : KOk o) (hsb : SlA w ab b) (hso : SlA w ao o) (hnb : b.length ≤ 8192) (hno : o.length ≤ 8192) :
    Calls Try.prog 6 #[.slice ab b.length cb, .slice ao o.length co] w fun e w' => DomE b o e ∧ Below w.heap.size w w' := by
  obtain ⟨nb, hnb'⟩ : ∃ n, n = b.length := ⟨_, rfl⟩
  obtain ⟨no, hno'⟩ : ∃ n, n = o.length := ⟨_, rfl⟩
  rw [← hnb', ← hno']
  rw [← hnb'] at hnb
  rw [← hno'] at hno
  have NB := hide hnb'
  have NO := hide hno'
  have HB := hide hb
  have HO := hide ho
  have SB := hide hsb
  have SO := hide hso
  have hmix := mixed
  clear hnb' hno' hb ho hsb hso
  go_enter Try.func6, Try.ntmps6
  go_wp2_with fail
  go_loopw [5] (fun vi wr => ∃ i : Nat, i ≤ nb ∧ vi = .int .i64 i ∧ Hid (SortedTo b i) ∧ Hid (Gr w wr)) (fun vi _ => nb - (intOf vi).toNat)
  case atStart => exact ⟨0, Nat.zero_le _, rfl, fun _ _ _ _ h => absurd h (Nat.not_lt_zero _), Gr.refl w⟩
  case round =>
    obtain ⟨i, hi, rfl, hso, hgr⟩ := hrel
    by_cases hin : i < nb
    · have hil : i < b.length := by rw [← NB.out]; exact hin
      obtain ⟨g, off, had, hgs, hrow⟩ := SB.out (by omega)
      subst had
      have hsz := hgr.out.size
      have hxk : Hid ((b[i]'hil).1.length = 32) := HB.out _ (List.getElem_mem hil)
      have hr1 : Hid (wr.rangeAt g (off + i * 35) (rc (b[i]'hil))) := rangeAt_below (hrow i hil) hgr.out.below hgs
      go_wp2_with (first
        | (refine wpList_load_mid rfl 39 (.tmp 18) rfl g (off + i * 35) rfl (rc (b[i]'hil)) _ hr1.out Try.underlying39 rfl (by rw [rc_length hxk.out]; exact info39) ?_))
      refine (acctZero_any (b[i]'hil) hxk.out wr).mono ?_
      rintro e w1 ⟨⟨r, rfl⟩, q1, os1, hw1⟩
      have hg1 : Hid (Gr w w1) := hgr.out.trans ⟨q1, os1, hw1⟩
      have hr2 : Hid (w1.rangeAt g (off + i * 35) (rc (b[i]'hil))) := rangeAt_below (hrow i hil) hg1.out.below hgs
      clear hw1 hr1
      cases r
      · by_cases hi0 : 0 < i
        · obtain ⟨p, hp⟩ : ∃ p, p = i - 1 := ⟨_, rfl⟩
          have hsub : (i : Int) - 1 = (p : Int) := by omega
          have hpn : p < nb := by omega
          have hwrap : IntKind.i64.wrap (p : Int) = (p : Int) := by rw [IntKind.wrap_i64]; omega
          have hpl : p < b.length := by omega
          have hpk : Hid ((b[p]'hpl).1.length = 32) := HB.out _ (List.getElem_mem hpl)
          have hr3 : Hid (w1.rangeAt g (off + p * 35) (rc (b[p]'hpl))) := rangeAt_below (hrow p hpl) hg1.out.below hgs
          have hkl : Hid (∀ W', Calls Try.prog 14 #[.agg (kc (b[p]'hpl).1).toArray, .agg (kc (b[i]'hil).1).toArray] W' fun e w' => e = .returned (.bool (decide (klt (b[p]'hpl).1 (b[i]'hil).1))) ∧ ∃ q os, w' = grow (W'.drewN q) os) := fun W' => keyLess_any _ _ hpk.out hxk.out W'
          have HP := hide hp
          clear hp hrow
          by_cases hkk : klt (b[p]'hpl).1 (b[i]'hil).1
          · rw [decide_eq_true hkk] at hkl
            have hst : Hid (SortedTo b (i + 1)) := hso.out.step hil (fun _ => by have e := HP.out; subst e; exact hkk)
            clear hkk
            go_wp2_with fail
            refine wp_region_quiet_grown (by assumption) (by kernel_rfl) ?_
            repeat (first
              | (refine quiet_load_mid (by first | rfl | (go_simp; done)) 31 _ rfl g (off + p * 35) rfl (kc (b[p]'hpl).1) (.array 32 5) (by rintro _ ⟨m, rfl⟩; exact rc_key (rangeAt_grown hr3.out _ _)) Try.underlying31 rfl (by rw [kc_length, hpk.out]; exact info31) ?_)
              | (refine quiet_load_mid (by first | rfl | (go_simp; done)) 31 _ rfl g (off + i * 35) rfl (kc (b[i]'hil).1) (.array 32 5) (by rintro _ ⟨m, rfl⟩; exact rc_key (rangeAt_grown hr2.out _ _)) Try.underlying31 rfl (by rw [kc_length, hxk.out]; exact info31) ?_)
              | quiet_step ((go_at_call 14; refine Calls.grown_of (hkl.out _))))
            refine wpQuiet_nil ?_
            intro _ hw'
            obtain ⟨⟨nq, osq⟩, hw''⟩ := hw'
            subst hw''
            go_wp2_with fail
            exact ⟨⟨i + 1, by omega, by go_num, hst.out, hg1.out.trans ⟨nq, osq, rfl⟩⟩, by simp [intOf]; omega⟩
          · rw [decide_eq_false hkk] at hkl
            clear hkk
            go_wp2_with fail
            refine wp_region_quiet_grown (by assumption) (by kernel_rfl) ?_
            repeat (first
              | (refine quiet_load_mid (by first | rfl | (go_simp; done)) 31 _ rfl g (off + p * 35) rfl (kc (b[p]'hpl).1) (.array 32 5) (by rintro _ ⟨m, rfl⟩; exact rc_key (rangeAt_grown hr3.out _ _)) Try.underlying31 rfl (by rw [kc_length, hpk.out]; exact info31) ?_)
              | (refine quiet_load_mid (by first | rfl | (go_simp; done)) 31 _ rfl g (off + i * 35) rfl (kc (b[i]'hil).1) (.array 32 5) (by rintro _ ⟨m, rfl⟩; exact rc_key (rangeAt_grown hr2.out _ _)) Try.underlying31 rfl (by rw [kc_length, hxk.out]; exact info31) ?_)
              | quiet_step ((go_at_call 14; refine Calls.grown_of (hkl.out _))))
            refine wpQuiet_nil ?_
            intro _ hw'
            obtain ⟨⟨nq, osq⟩, hw''⟩ := hw'
            subst hw''
            go_wp2_with fail
            go_ret
            exact ⟨domE_false _ _, (hg1.out.trans ⟨nq, osq, rfl⟩).below⟩
        · have hst : Hid (SortedTo b (i + 1)) := hso.out.step hil (fun h => absurd h hi0)
          have hi1 : i = 0 := by omega
          subst hi1
          go_wp2_with fail
          go_quiet (fail)
          go_wp2_with fail
          exact ⟨⟨1, by omega, by go_num, hst.out, hg1.out.drewN _⟩, by simp [intOf]; omega⟩
      · go_wp2_with fail
        go_ret
        exact ⟨domE_false _ _, hg1.out.below⟩
    · have hS : Hid (Sorted b) := by
        have e : i = b.length := by have := NB.out; omega
        subst e
        exact hso.out.all
      clear hso
      have hmm := makeMap_hint Try.underlying30 no wr
      go_wp2_with fail
      obtain ⟨mb, hmb⟩ : ∃ mb, mb = wr.heap.size := ⟨_, rfl⟩
      rw [← hmb]
      have hmw : w.heap.size ≤ mb := by rw [hmb]; exact hgr.out.size
      have hown0 : Hid ((wr.alloc (.map #[] 0)).ownsMap Try.prog 31 RV mb 0 (.map [])) := by
        show (wr.alloc (.map #[] 0)).ownsMap Try.prog 31 RV mb 0 (.map [])
        rw [hmb]; exact World.ownsMap_made wr Try.prog 31 RV
      have hbel0 : Hid (Below w.heap.size w (wr.alloc (.map #[] 0))) := (hgr.out.alloc _).below
      clear hmb
      go_loopw [7] (fun vi wr => ∃ (i : Nat) (D : DataW Value), i ≤ no ∧ vi = .int .i64 i ∧ Hid (wr.ownsMap Try.prog 31 RV mb i D) ∧ Hid (Seen o i D) ∧ Hid (DistinctTo o i) ∧ Hid (Below w.heap.size w wr)) (fun vi _ => no - (intOf vi).toNat)
      case atStart => exact ⟨0, _, Nat.zero_le _, rfl, hown0.out, Seen.zero o, fun _ _ _ _ h => absurd h (Nat.not_lt_zero _), hbel0.out⟩
      case round =>
        clear hown0 hbel0
        rename_i wr
        obtain ⟨i, D, hi, rfl, hown, hseen, hdis, hbel⟩ := hrel
        by_cases hin : i < no
        · have hil : i < o.length := by rw [← NO.out]; exact hin
          obtain ⟨g, off, had, hgs, hrow⟩ := SO.out (by omega)
          subst had
          have hxk : Hid ((o[i]'hil).1.length = 32) := HO.out _ (List.getElem_mem hil)
          have hr1 : Hid (wr.rangeAt g (off + i * 35) (rc (o[i]'hil))) := rangeAt_below (hrow i hil) hbel.out hgs
          obtain ⟨u, ps, hrun, hu⟩ := hown.out.lookup law31 Try.underlying30 (Try.zeroValue4 wr) (show RV (.bool false) = some (.held (.bool false), []) from rfl) (keyOf31 _ hxk.out)
          rw [hseen.out] at hu
          simp only [RV, Option.some.injEq, Prod.mk.injEq, DataW.held.injEq] at hu
          rw [hu.1] at hrun
          have hrun' : (Instr.lookup 30 (.map (some mb)) (.agg (kc (o[i]'hil).1).toArray) false).run Try.prog wr = .ok (.bool (decide (∃ j, ∃ h : j < o.length, j < i ∧ (o[j]'h).1 = (o[i]'hil).1))) wr := hrun
          clear hrun hu
          by_cases hse : ∃ j, ∃ h : j < o.length, j < i ∧ (o[j]'h).1 = (o[i]'hil).1
          · rw [decide_eq_true hse] at hrun'
            clear hse
            go_wp2_with (first
              | (refine wpList_load_mid rfl 31 (.tmp 51) rfl g (off + i * 35) rfl (kc (o[i]'hil).1) _ (rc_key hr1.out) Try.underlying31 rfl (by rw [kc_length, hxk.out]; exact info31) ?_))
            go_ret
            exact ⟨domE_false _ _, hbel.out⟩
          · rw [decide_eq_false hse] at hrun'
            have hdis' : Hid (DistinctTo o (i + 1)) := hdis.out.step hil hse
            have hseen' : Hid (Seen o (i + 1) (D.put (.string (o[i]'hil).1) (.held (.bool true)))) := hseen.out.step hown.out.isMap hil
            obtain ⟨w2, hrun2, hown2, hgrow2⟩ := hown.out.update law31 Try.underlying30 (by unfold maxLen; omega) (keyOf31 _ hxk.out) (show RV (.bool true) = some (.held (.bool true), []) from rfl)
            have hrun2' : (Instr.mapUpdate 30 (.map (some mb)) (.agg (kc (o[i]'hil).1).toArray) (.bool true)).run Try.prog wr = .ok () w2 := hrun2
            have hb2 : Hid (Below w.heap.size w w2) := hbel.out.grown hgrow2 hbel.out.size (fun j hj => by cases hj; omega)
            have hr2 : Hid (w2.rangeAt g (off + i * 35) (rc (o[i]'hil))) := rangeAt_below (hrow i hil) hb2.out hgs
            have HO2 := hide hown2
            obtain ⟨d, hd, _⟩ := tup_find b (o[i]'hil).1
            obtain ⟨y, hy⟩ : ∃ y, y = (find b (o[i]'hil).1).getD zeroR := ⟨_, rfl⟩
            rw [← hy] at hd
            have hyl : Hid (y.1.length = 32) := by
              show y.1.length = 32
              rw [hy]
              cases h : find b (o[i]'hil).1 with
              | some z => exact HB.out z (find_mem h)
              | none => exact zeroR_len
            have hbf : Hid (Calls Try.prog 15 #[.slice ab nb cb, .agg (kc (o[i]'hil).1).toArray] w2 fun e w' => e = .returned (.tuple #[.agg (recA y), .bool d]) ∧ ∃ q os, w' = grow (w2.drewN q) os) := by
              have := baseFind_any ab b cb (o[i]'hil).1 w2 hxk.out HB.out (SB.out.below hb2.out (Nat.le_refl _)) (by rw [← NB.out]; omega) hS.out
              rw [← NB.out, hd] at this
              exact this
            clear hse hrun2 hown2 hgrow2 hd hy hdis hseen
            go_wp2_with (first
              | (refine wpList_load_mid rfl 31 (.tmp 51) rfl g (off + i * 35) rfl (kc (o[i]'hil).1) _ (rc_key hr1.out) Try.underlying31 rfl (by rw [kc_length, hxk.out]; exact info31) ?_)
              | (refine wpList_load_mid rfl 31 (.tmp 58) rfl g (off + i * 35) rfl (kc (o[i]'hil).1) _ (rc_key hr1.out) Try.underlying31 rfl (by rw [kc_length, hxk.out]; exact info31) ?_)
              | (refine wpList_load_mid rfl 31 (.tmp 65) rfl g (off + i * 35) rfl (kc (o[i]'hil).1) _ (rc_key hr2.out) Try.underlying31 rfl (by rw [kc_length, hxk.out]; exact info31) ?_))
            refine hbf.out.mono ?_
            rintro e w3 ⟨rfl, q3, os3, hw3⟩
            have hg3 : Hid (Gr w2 w3) := ⟨q3, os3, hw3⟩
            clear hw3 hbf
            go_wp2_with (first
              | (refine wpList_store_row rfl 39 (.tmp 8) (.tmp 68) rfl w3.heap.size (recA y) rfl rfl 39 _ (heap_alloc_last w3 _) (by rw [size_recA hyl.out]; exact info39) (by rw [size_recA hyl.out]; rfl) (one_recA _) ?_
                 rw [World.setRow_alloc_new]))
            obtain ⟨w4, hw4⟩ : ∃ w4, w4 = w3.alloc (.cells (recA y) 39) := ⟨_, rfl⟩
            rw [← hw4]
            have hg4 : Hid (Gr w2 w4) := by show Gr w2 w4; rw [hw4]; exact hg3.out.alloc _
            have hry : Hid (w4.rangeAt w3.heap.size 0 (rc y)) := by show w4.rangeAt w3.heap.size 0 (rc y); rw [hw4]; exact range_new w3 (rc y) 39
            have hb4 : Hid (Below w.heap.size w w4) := hb2.out.trans (hg4.out.below.mono hb2.out.size)
            have hr4 : Hid (w4.rangeAt g (off + i * 35) (rc (o[i]'hil))) := rangeAt_below (hrow i hil) hb4.out hgs
            have hsf : Hid (∀ W', Calls Try.prog 16 #[.agg (rc y).toArray, .agg (rc (o[i]'hil)).toArray] W' fun e w' => e = .returned (.bool (decide (y.2 = (o[i]'hil).2))) ∧ ∃ q os, w' = grow (W'.drewN q) os) := fun W' => sameFields_eq _ _ hyl.out hxk.out W'
            clear hw4 hrow hrun' hrun2'
            by_cases hyy : y.2 = (o[i]'hil).2
            · rw [decide_eq_true hyy] at hsf
              clear hyy
              refine wp_region_quiet_grown (by assumption) (by kernel_rfl) ?_
              repeat (first
                | (refine quiet_load_mid (by rfl) 39 _ rfl w3.heap.size 0 rfl (rc y) _ (by rintro _ ⟨m, rfl⟩; exact rangeAt_grown hry.out _ _) Try.underlying39 rfl (by rw [rc_length hyl.out]; exact info39) ?_)
                | (refine quiet_load_mid (by rfl) 39 _ rfl g (off + i * 35) rfl (rc (o[i]'hil)) _ (by rintro _ ⟨m, rfl⟩; exact rangeAt_grown hr4.out _ _) Try.underlying39 rfl (by rw [rc_length hxk.out]; exact info39) ?_)
                | quiet_step ((go_at_call 16; refine Calls.grown_of (hsf.out _))))
              refine wpQuiet_nil ?_
              intro _ hw'
              obtain ⟨⟨nq, osq⟩, hw''⟩ := hw'
              subst hw''
              go_wp2_with fail
              go_ret
              exact ⟨domE_false _ _, hb4.out.trans ((show Gr w4 _ from ⟨nq, osq, rfl⟩).below.mono hb4.out.size)⟩
            · rw [decide_eq_false hyy] at hsf
              clear hyy
              refine wp_region_quiet_grown (by assumption) (by kernel_rfl) ?_
              repeat (first
                | (refine quiet_load_mid (by rfl) 39 _ rfl w3.heap.size 0 rfl (rc y) _ (by rintro _ ⟨m, rfl⟩; exact rangeAt_grown hry.out _ _) Try.underlying39 rfl (by rw [rc_length hyl.out]; exact info39) ?_)
                | (refine quiet_load_mid (by rfl) 39 _ rfl g (off + i * 35) rfl (rc (o[i]'hil)) _ (by rintro _ ⟨m, rfl⟩; exact rangeAt_grown hr4.out _ _) Try.underlying39 rfl (by rw [rc_length hxk.out]; exact info39) ?_)
                | quiet_step ((go_at_call 16; refine Calls.grown_of (hsf.out _))))
              refine wpQuiet_nil ?_
              intro _ hw'
              obtain ⟨⟨nq, osq⟩, hw''⟩ := hw'
              subst hw''
              go_wp2_with fail
              have hg5 : Gr w2 (grow (w4.drewN nq) osq) := hg4.out.trans ⟨nq, osq, rfl⟩
              exact ⟨⟨i + 1, _, by omega, by go_num, ownsMap_block HO2.out (hg5.below.block mb HO2.out.lt), hseen'.out, hdis'.out, hb2.out.trans (hg5.below.mono hb2.out.size)⟩, by simp [intOf]; omega⟩
        · have hD : Hid (Distinct o) := by
            have e : i = o.length := by have := NO.out; omega
            subst e
            exact hdis.out.all
          clear hdis
          go_wp2_with fail
          go_ret
          exact ⟨⟨true, rfl, fun _ => ⟨hS.out, hD.out⟩⟩, hbel.out⟩
end Go.Proofs.Qxb6627977a
