import Derived.Test.Qxb6627977aSet
import Derived.Deep.WholeRow
namespace Go.Proofs.Qxb6627977a
set_option linter.unusedSimpArgs false
open Go.RowKit Go.Sort

theorem ranges_block {w w' : World} {k : TypeId} {R : Value → Option (DataW Value × List MemPlace)} {b r n cnt : Nat} {D : DataW Value} {left : Lit → Bool} (h : w.ranges Try.prog k R b r n D left cnt) (hb : w'.heap[b]? = w.heap[b]?) (hr : w'.heap[r]? = w.heap[r]?) : w'.ranges Try.prog k R b r n D left cnt := by
  obtain ⟨es, clock, since, seen, c0, h1, h2, h3, h4, h5, h6⟩ := h
  exact ⟨es, clock, since, seen, c0, hb.trans h1, h2, h3, h4, hr.trans h5, h6⟩
theorem ranges_lt {w : World} {k : TypeId} {R : Value → Option (DataW Value × List MemPlace)} {b r n cnt : Nat} {D : DataW Value} {left : Lit → Bool} (h : w.ranges Try.prog k R b r n D left cnt) : b < w.heap.size ∧ r < w.heap.size := by
  obtain ⟨es, clock, since, seen, c0, h1, h2, h3, h4, h5, h6⟩ := h
  exact ⟨(Array.getElem?_eq_some_iff.1 h1).1, (Array.getElem?_eq_some_iff.1 h5).1⟩
/-- 'clear' of a map -/
theorem clear_own {w : World} {b n : Nat} {D : DataW Value} (h : w.ownsMap Try.prog 36 RV b n D) : ∃ w', (∀ ty, (Builtin.clear_ #[51] ty #[.map (some b)]).run Try.prog w = .ok (.tuple #[]) w') ∧ w'.ownsMap Try.prog 36 RV b 0 (.map []) ∧ w.grownBy w' (some b) := by
  obtain ⟨es, clock, hb, _⟩ := h
  refine ⟨{ w with heap := w.heap.setIfInBounds b (.map #[] clock) }, fun ty => ?_, ?_, ?_⟩
  · simp [Builtin.clear_, run_underlying Try.underlying51, MapKept.run_getObj_map hb, MapKept.run_setObj_map _ hb, Result.andThen]
  · exact ⟨#[], clock, (MapKept.heap_set hb).1, ⟨by simp, MapKept.stamped_empty clock, by simp⟩, Nat.le_refl _, rfl⟩
  · exact ⟨rfl, rfl, rfl, by simp, fun k _ hk => (MapKept.heap_set hb).2 k (fun e => hk (by rw [e]))⟩
theorem one_kc (k : Key) : ((kc k).toArray).all (·.oneCell') = true := by simp [kc, byteV, Value.oneCell']
theorem size_kc {k : Key} (h : k.length = 32) : ((kc k).toArray).size = 32 := by rw [List.size_toArray, kc_length, h]
theorem LedAt.of_below {w w' : World} {lb bb ga mat mov mch : Nat} {b o : List AR} (h : LedAt w lb bb ga mat mov mch b o) (hb : Below w.heap.size w w') : LedAt w' lb bb ga mat mov mch b o := by
  obtain ⟨h1, h2, ⟨D, h3, h4⟩, h5⟩ := h
  have hs := hb.size
  exact ⟨h1.below hb h5.2.1 h5.2.2.1 h5.2.2.2.1, (hb.block _ h5.1).trans h2, ⟨D, ownsMap_block h3 (hb.block _ h5.2.2.2.2.1), h4⟩, by omega, by omega, by omega, by omega, by omega, by omega⟩
theorem has_step {Do Dch : DataW Value} {left : Lit → Bool} (hA : ∀ kl, Maps.has Do kl = (Maps.has Dch kl && !left kl)) (hm : Maps.IsMap Do) (k : Key) (hk : Maps.has Dch (.string k) = true) (d : DataW Value) (kl : Lit) :
    Maps.has (Do.put (.string k) d) kl = (Maps.has Dch kl && !(left kl && !kl.sameKey (.string k))) := by
  by_cases e : kl = .string k
  · subst e
    rw [Maps.has_put_same hm (keyIs k), hk, WideAt.sameKey_self (keyIs k)]
    simp
  · rw [Maps.has_put_other e, hA kl, Maps.sameKey_ne e]
    simp
def LS3 (gk : Nat) (k : Key) (w : World) : Prop := w.rangeAt gk 0 (kc k)
/-- what Changes gives for the keys: the accounts as the layers tell them -/
def OutIs (b o : List AR) (D : DataW Value) : Prop := ∀ k : Key, Maps.has D (.string k) = true → ∀ zd, D.atKey (.string k) zd = .held (.agg (acc (model b o k)).toArray)
theorem OutIs.put {b o : List AR} {D : DataW Value} (h : OutIs b o D) (hm : Maps.IsMap D) (k : Key) : OutIs b o (D.put (.string k) (.held (.agg (acc (model b o k)).toArray))) := fun k' hk' zd => by
  by_cases e : k' = k
  · subst e; exact Maps.atKey_put_same hm (keyIs _) _ _
  · rw [Maps.atKey_put_other (string_ne e)]
    exact h k' (by rwa [Maps.has_put_other (string_ne e)] at hk') zd
abbrev K32 := {k : Key // k.length = 32}
theorem invK36 : ∀ key kl, keyOf Try.prog 36 key = some kl → ∃ x : K32, key = (fun x : K32 => Value.agg (kc x.1).toArray) x := fun key kl h => by obtain ⟨k, hk, e, _⟩ := inv36 h; exact ⟨⟨k, hk⟩, e⟩
theorem invVV : ∀ (v : Value) (y : DataW Value × List MemPlace), RV v = some y → ∃ c : Value, v = (fun c => c) c := fun v _ _ => ⟨v, rfl⟩
set_option maxHeartbeats 4000000 in
set_option maxRecDepth 100000 in
theorem changes_any (lb bb ga mat mov mch n : Nat) (b o : List AR) (Dch : DataW Value) (w : World) (hL : LedAt w lb bb ga mat mov mch b o) (hM : w.ownsMap Try.prog 36 RV mch n Dch) (hn : n ≤ 8192) :
    Calls Try.prog 8 #[.pointer (some ⟨lb, 0, none⟩)] w fun e w' => ∃ mo Do, e = .returned (.map (some mo)) ∧ w.heap.size ≤ mo ∧ w'.ownsMap Try.prog 36 RV mo n Do ∧ (∀ kl, Maps.has Do kl = Maps.has Dch kl) ∧ OutIs b o Do ∧ w'.ownsMap Try.prog 36 RV mch 0 (.map []) ∧ w.grownBy w' (some mch) := by
  have HL := hide hL
  have HM := hide hM
  have hc2 : w.cell? ⟨lb, 2, none⟩ = some (.map (some mch)) := by unfold World.cell?; rw [hL.box]; rfl
  have hlb : lb < w.heap.size := hL.lt.1
  have hmc : mch < w.heap.size := hM.lt
  obtain ⟨sz, hsz⟩ : ∃ sz, sz = Maps.size Dch := ⟨_, rfl⟩
  have hszn : Hid (sz ≤ n) := by show sz ≤ n; rw [hsz]; exact hM.size_le
  have hmm := makeMap_hint Try.underlying28 sz w
  have HSZ := hide hsz
  clear hL hM hsz
  go_enter Try.func8, Try.ntmps8
  go_wp2_with (first
    | (at_len; refine wpList_len_own _ rfl _ 51 rfl 36 4 Try.underlying51 RV mch n Dch rfl HM.out ?_; rw [← HSZ.out])
    | (at_range; refine wpList_range_own _ rfl _ 51 rfl 36 4 law36 Try.underlying51 RV mch n Dch rfl (HM.out.alloc _) ?_; intro w2 hrg0 hg0 hs0))
  go_frame
  obtain ⟨mo, hmo⟩ : ∃ mo, mo = w.heap.size := ⟨_, rfl⟩
  obtain ⟨r, hr⟩ : ∃ r, r = (w.alloc (.map #[] 0)).heap.size := ⟨_, rfl⟩
  have hr1 : mo < r := by rw [hr, hmo]; simp
  rw [← hr] at hrg0 hs0 ⊢
  rw [← hmo]
  have HR0 := hide hrg0
  have hB0 : Hid (Below w.heap.size w w2) := by
    have h1 : Below w.heap.size w (w.alloc (.map #[] 0)) := ((Gr.refl w).alloc _).below
    exact h1.grown hg0 h1.size (fun j hj => by cases hj)
  have hown0 : Hid (w2.ownsMap Try.prog 36 RV mo 0 (.map [])) := by
    show w2.ownsMap Try.prog 36 RV mo 0 (.map [])
    rw [hmo]
    exact (World.ownsMap_made w Try.prog 36 RV).kept hg0 (by simp)
  have HMO := hide hmo
  have hmow : w.heap.size ≤ mo := by omega
  have hmol : mch < mo ∧ lb < mo := by omega
  clear hrg0 hg0 hs0 hr hmm hmo
  go_loopw [] (fun wr => ∃ (left : Lit → Bool) (cnt m : Nat) (Do : DataW Value), Hid (wr.ranges Try.prog 36 RV mch r n Dch left cnt) ∧ Hid (wr.ownsMap Try.prog 36 RV mo m Do) ∧ m + cnt ≤ n ∧ Hid (∀ kl, Maps.has Do kl = (Maps.has Dch kl && !left kl)) ∧ Hid (OutIs b o Do) ∧ Hid (Below w.heap.size w wr)) (fun wr => wr.rangeLeft mch r)
  case atStart => exact ⟨_, _, 0, _, HR0.out, hown0.out, by have := hszn.out; rw [HSZ.out] at this; omega, fun kl => by simp [Maps.has], fun (k : Key) hk => by simp [Maps.has] at hk, hB0.out⟩
  case round =>
    clear HR0 hown0 hB0
    obtain ⟨left, cnt, m, Do, hrg, hown, hmc2, hhas, hout, hB⟩ := hrel
    go_wp2_with (first | (at_next; refine wpList_next_ranges _ rfl _ rfl 36 law36 RV (fun x : K32 => Value.agg (kc x.1).toArray) (fun v : Value => v) invK36 invVV mch r n Dch left cnt rfl hrg.out ?_ ?_))
    · intro _ hl0
      have HH : Hid (∀ kl, Maps.has Do kl = Maps.has Dch kl) := fun kl => by rw [hhas.out kl, hl0 kl]; simp
      have hcx : wr.cell? ⟨lb, 2, none⟩ = some (.map (some mch)) := (hB.out.cell hlb).trans hc2
      obtain ⟨w3, hcl, hown3, hg3⟩ := clear_own hrg.out.owns
      have HO3 := hide hown3
      have HG3 := hide hg3
      clear hl0 hown3 hg3 hhas
      have hcl0 := hcl 0
      go_wp2_with fail
      go_ret
      exact ⟨mo, Do, rfl, hmow, (hown.out.kept HG3.out (by intro e; cases e; omega)).mono (by omega), HH.out, hout.out, HO3.out,
        ⟨HG3.out.os.trans hB.out.os, HG3.out.tape.trans hB.out.tape, HG3.out.output.trans hB.out.output, Nat.le_trans hB.out.size HG3.out.size, fun k hk hne => (HG3.out.block k (Nat.lt_of_lt_of_le hk hB.out.size) hne).trans (hB.out.block k hk)⟩⟩
    · intro k hk c kl dd pp w' cnt' hkey hlk hv hat hrg' hlt' hgr hsz' hen
      obtain rfl : Lit.string k = kl := Option.some.inj ((keyOf36 k hk).symm.trans hkey)
      have hhasK : Maps.has Dch (.string k) = true := Maps.has_true_of_atKey hat
      obtain ⟨T, hT⟩ : ∃ T, T = Value.agg (acc (model b o k)).toArray := ⟨_, rfl⟩
      have hhas' : Hid (∀ kl, Maps.has (Do.put (.string k) (.held T)) kl = (Maps.has Dch kl && !(left kl && !kl.sameKey (.string k)))) := has_step hhas.out hown.out.isMap k hhasK _
      have hout' : Hid (OutIs b o (Do.put (.string k) (.held T))) := by show OutIs _ _ _; rw [hT]; exact hout.out.put hown.out.isMap k
      have hB' : Hid (Below w.heap.size w w') := hB.out.grown hgr hB.out.size (fun j hj => by cases hj; omega)
      have hown' : Hid (w'.ownsMap Try.prog 36 RV mo m Do) := hown.out.kept hgr (by intro e; cases e; omega)
      have HK := hide hk
      have HT := hide hT
      have HRG := hide hrg'
      have HOLD := hide hrg.out.left_eq
      clear hkey hlk hv hat hrg' hgr hsz' hhasK hhas hout hB hown hk hT hrg
      go_wp2_with (first
        | (refine wpList_store_row rfl 36 (.tmp 4) (.tmp 19) rfl w'.heap.size (kc k).toArray rfl rfl 36 _ (heap_alloc_last w' _) (by rw [size_kc HK.out]; exact info36) (by rw [size_kc HK.out]; rfl) (one_kc _) ?_
           rw [World.setRow_alloc_new]))
      obtain ⟨W, hW⟩ : ∃ W, W = w'.alloc (.cells (kc k).toArray 36) := ⟨_, rfl⟩
      obtain ⟨gk, hgk⟩ : ∃ gk, gk = w'.heap.size := ⟨_, rfl⟩
      rw [← hW, ← hgk]
      have hG : Hid (Gr w' W) := by show Gr w' W; rw [hW]; exact (Gr.refl w').alloc _
      have hrk : LS3 gk k W := by show W.rangeAt gk 0 (kc k); rw [hW, hgk]; exact range_new w' (kc k) 36
      have hgkm : mo < gk := by rw [hgk]; exact hown'.out.lt
      have hgl : gk < W.heap.size := by rw [hW, hgk]; simp
      clear hW hgk hen
      refine wp_region_held_drew (S := LS3 gk k) mixed hrk (fun hS => ?_)
      refine wpAnyH_take (i := 1) (v := .agg (kc k).toArray) rfl (by kernel_rfl) (by kernel_rfl) (by kernel_rfl) (fun _ _ _ h => h) (yieldsIf_load_mid (by rfl) 36 _ rfl gk 0 rfl (kc k) _ (fun _ h => h) Try.underlying36 rfl (by rw [kc_length, HK.out]; exact info36)) hS ?_
      simp only [Act.put, List.getElem_toArray, List.getElem_cons_zero, List.getElem_cons_succ, List.setIfInBounds_toArray, List.set_cons_zero, List.set_cons_succ]
      refine wpAnyH_take (i := 3) (v := .agg (kc k).toArray) rfl (by kernel_rfl) (by kernel_rfl) (by kernel_rfl) (fun _ _ _ h => h) (yieldsIf_load_mid (by rfl) 36 _ rfl gk 0 rfl (kc k) _ (fun _ h => h) Try.underlying36 rfl (by rw [kc_length, HK.out]; exact info36)) hS ?_
      simp only [Act.put, List.getElem_toArray, List.getElem_cons_zero, List.getElem_cons_succ, List.setIfInBounds_toArray, List.set_cons_zero, List.set_cons_succ]
      refine wpAnyH_take (i := 0) (v := .map (some mo)) rfl (by kernel_rfl) (by kernel_rfl) (by kernel_rfl) (fun _ _ _ h => h) (.inl ⟨by rfl, fun w hw => by rfl⟩) hS ?_
      simp only [Act.put, List.getElem_toArray, List.getElem_cons_zero, List.getElem_cons_succ, List.setIfInBounds_toArray, List.set_cons_zero, List.set_cons_succ]
      refine wpAnyH_take (i := 2) (v := .pointer (some ⟨lb, 0, none⟩)) rfl (by kernel_rfl) (by kernel_rfl) (by kernel_rfl) (fun _ _ _ h => h) (.inl ⟨by rfl, fun w hw => by rfl⟩) hS ?_
      simp only [Act.put, List.getElem_toArray, List.getElem_cons_zero, List.getElem_cons_succ, List.setIfInBounds_toArray, List.set_cons_zero, List.set_cons_succ]
      refine wpAnyH_all (rs := [4]) (by kernel_rfl) (by simp) ?_
      intro i hi
      rw [List.mem_singleton] at hi
      subst hi
      unfold wpOp
      simp only [List.getElem?_toArray, List.getElem?_cons_succ, List.getElem?_cons_zero]
      go_simp
      have hL1 := HL.out.of_below (hB'.out.trans ((hG.out.drewN 1).below.mono hB'.out.size))
      have hcall := account_any lb bb ga mat mov mch b o k W.drew HK.out hL1
      rw [← HT.out] at hcall
      refine .inl (hcall.mono ?_)
      rintro e w6 ⟨rfl, q6, os6, hw6⟩
      have hG6 : Hid (Gr w' w6) := (hG.out.drewN 1).trans ⟨q6, os6, hw6⟩
      have hs6 : W.heap.size ≤ w6.heap.size := (show Gr W.drew w6 from ⟨q6, os6, hw6⟩).size
      have hS6 : LS3 gk k w6 := rangeAt_below (B := W.heap.size) (w := W.drew) hrk ((show Gr W.drew w6 from ⟨q6, os6, hw6⟩).below) hgl
      have hown6 : w6.ownsMap Try.prog 36 RV mo m Do := ownsMap_block hown'.out (hG6.out.below.block mo hown'.out.lt)
      obtain ⟨w7, hrun7, hown7, hg7⟩ := hown6.update law36 Try.underlying28 (by unfold maxLen; omega) (keyOf36 k HK.out) (show RV T = some (.held T, []) from rfl)
      have hrun7' : (Instr.mapUpdate 28 (.map (some mo)) (.agg (kc k).toArray) T).run Try.prog w6 = .ok () w7 := hrun7
      have HO7 := hide hown7
      have HG7 := hide hg7
      clear hw6 hcall hL1 hown6 hrun7 hown7 hg7
      refine ⟨hS6, ?_⟩
      refine wpAnyH_all (rs := [5]) (by kernel_rfl) (by simp) ?_
      intro i hi
      rw [List.mem_singleton] at hi
      subst hi
      unfold wpOp
      simp only [List.getElem?_toArray, List.getElem?_cons_succ, List.getElem?_cons_zero]
      go_simp
      refine .inl ⟨fun j v hv => (World.cell?_of_block (a := ⟨gk, 0 + j, none⟩) (HG7.out.block gk (Nat.lt_of_lt_of_le hgl ?_) (by intro e; cases e; omega))).trans (hS6 j v hv), wpAnyH_done (by kernel_rfl) ?_ _⟩
      · exact hs6
      have hrg7 : Hid (w7.ranges Try.prog 36 RV mch r n Dch (fun z => left z && !z.sameKey (.string k)) cnt') := ranges_block HRG.out
        ((HG7.out.block mch (Nat.lt_of_lt_of_le (ranges_lt HRG.out).1 hG6.out.size) (by intro e; cases e; omega)).trans (hG6.out.below.block mch (ranges_lt HRG.out).1))
        ((HG7.out.block r (Nat.lt_of_lt_of_le (ranges_lt HRG.out).2 hG6.out.size) (by intro e; cases e; omega)).trans (hG6.out.below.block r (ranges_lt HRG.out).2))
      go_wp2_with fail
      refine ⟨⟨_, cnt', m + 1, _, hrg7.out, HO7.out, by omega, hhas'.out, hout'.out, ?_⟩, ?_⟩
      · have h6 : Below w.heap.size w w6 := hB'.out.trans (hG6.out.below.mono hB'.out.size)
        exact h6.grown HG7.out h6.size (fun j hj => by cases hj; exact hmow)
      · rw [HOLD.out, hrg7.out.left_eq]
        exact hlt'
end Go.Proofs.Qxb6627977a
