import Derived.Test.Qxb6627977aChg
import Derived.Deep.MidRow
import Derived.Laws.MakeOwn
namespace Go.Proofs.Qxb6627977a
set_option linter.unusedSimpArgs false
open Go.RowKit Go.Sort

theorem setCells_grown (b : Nat) : ∀ (vs : List Value) (o : Nat) (w : World), w.grownBy (w.setCells b o vs) (some b)
  | [], _, _ => ⟨rfl, rfl, rfl, Nat.le_refl _, fun _ _ _ => rfl⟩
  | v :: r, o, w => by
    have h := setCells_grown b r (o + 1) (w.setCell ⟨b, o, none⟩ v)
    have hs : (w.setCell ⟨b, o, none⟩ v).heap.size = w.heap.size := by simp [World.setCell]
    exact ⟨h.os, h.tape, h.output, by have := h.size; rw [hs] at this; exact this, fun k hk hne => (h.block k (by rw [hs]; exact hk) hne).trans (Below.heap_setCell _ _ _ _ (fun e => hne (by rw [e])))⟩
/-- 'make' of n keys, of n accounts -/
theorem mk48 (n : Nat) (hn : n ≤ 8192) (w : World) : ∃ C : Array Value, C.size = n * 32 ∧ (Instr.makeSlice 48 (.int .i64 n) (.int .i64 n)).run Try.prog w = .ok (.slice (some ⟨w.heap.size, 0, none⟩) n n) (w.alloc (.cells C 36)) := by
  have hi : (Try.prog.info? 36).map (fun i => (i.zero.isSome, i.size, i.bytes)) = some (true, 32, 32) := by kernel_rfl
  obtain ⟨i, h1, h2⟩ := Option.map_eq_some_iff.1 hi
  simp only [Prod.mk.injEq] at h2
  obtain ⟨z, hz⟩ := Option.isSome_iff_exists.1 h2.1
  refine ⟨madeCells z.cells (n * i.size), by rw [size_madeCells, h2.2.1], ?_⟩
  have := run_make w 48 36 i z Try.underlying48 h1 hz .i64 .i64 n n (by omega) (by omega) (by rw [h2.2.2]; omega) (by omega)
  simpa using this
theorem mk49 (n : Nat) (hn : n ≤ 8192) (w : World) : ∃ C : Array Value, C.size = n * 3 ∧ (Instr.makeSlice 49 (.int .i64 n) (.int .i64 n)).run Try.prog w = .ok (.slice (some ⟨w.heap.size, 0, none⟩) n n) (w.alloc (.cells C 34)) := by
  have hi : (Try.prog.info? 34).map (fun i => (i.zero.isSome, i.size, i.bytes)) = some (true, 3, 24) := by kernel_rfl
  obtain ⟨i, h1, h2⟩ := Option.map_eq_some_iff.1 hi
  simp only [Prod.mk.injEq] at h2
  obtain ⟨z, hz⟩ := Option.isSome_iff_exists.1 h2.1
  refine ⟨madeCells z.cells (n * i.size), by rw [size_madeCells, h2.2.1], ?_⟩
  have := run_make w 49 34 i z Try.underlying49 h1 hz .i64 .i64 n n (by omega) (by omega) (by rw [h2.2.2]; omega) (by omega)
  simpa using this
theorem there_block {w : World} {g : Nat} {C : Array Value} {t : TypeId} (h : w.heap[g]? = some (.cells C t (0, 0))) {o n : Nat} (hn : o + n ≤ C.size) : w.there g o n := fun j hj => by
  refine ⟨?_, ?_⟩
  · unfold World.cell?; rw [h]; simp; omega
  · unfold World.frozen?; rw [h]; simp

def NewE (w : World) (gk n1 c1 ga n2 c2 mat mov mch : Nat) (e : Ending) (w' : World) : Prop := ∃ lb bb ts, e = .returned (.pointer (some ⟨lb, 0, none⟩)) ∧ w'.heap[bb]? = some (.cells #[.slice (some ⟨gk, 0, none⟩) n1 c1, .slice (some ⟨ga, 0, none⟩) n2 c2, .map (some mat), ts] 58 (0, 0)) ∧ w'.heap[lb]? = some (.cells #[.pointer (some ⟨bb, 0, none⟩), .map (some mov), .map (some mch)] 55 (0, 0)) ∧ w.heap.size ≤ bb ∧ w.heap.size ≤ lb ∧ Gr w w'

set_option maxHeartbeats 1000000 in
theorem newLedger_any (gk n1 c1 ga n2 c2 mat mov mch : Nat) (w : World) :
    Calls Try.prog 17 #[.slice (some ⟨gk, 0, none⟩) n1 c1, .slice (some ⟨ga, 0, none⟩) n2 c2, .map (some mat), .map (some mov), .map (some mch)] w (NewE w gk n1 c1 ga n2 c2 mat mov mch) := by
  go_enter Try.func17, Try.ntmps17
  go_wp2_with fail
  go_ret
  refine ⟨w.heap.size + 1, w.heap.size, .slice none 0 0, rfl, ?_, ?_, Nat.le_refl _, Nat.le_succ _, ((Gr.refl w).alloc _).alloc _⟩
  · exact (heap_alloc_old _ _ (by simp)).trans (heap_alloc_last w _)
  · have := heap_alloc_last (w.alloc (.cells #[.slice (some ⟨gk, 0, none⟩) n1 c1, .slice (some ⟨ga, 0, none⟩) n2 c2, .map (some mat), .slice none 0 0] 58)) (.cells #[.pointer (some ⟨w.heap.size, 0, none⟩), .map (some mov), .map (some mch)] 55)
    simpa using this

/-- the map holds, for each of the first i records, what v gives -/
def ToIs (v : Nat → AR → Value) (z : Value) (l : List AR) (i : Nat) (D : DataW Value) : Prop := (∀ k : Key, Maps.has D (.string k) = true ↔ ∃ j, ∃ h : j < l.length, j < i ∧ (l[j]'h).1 = k) ∧ ∀ j (hj : j < l.length), j < i → D.atKey (.string (l[j]'hj).1) (.held z) = .held (v j (l[j]'hj))
theorem ToIs.zero (v : Nat → AR → Value) (z : Value) (l : List AR) : ToIs v z l 0 (.map []) := ⟨fun k => ⟨fun h => by simp [Maps.has] at h, fun ⟨_, _, h, _⟩ => absurd h (Nat.not_lt_zero _)⟩, fun _ _ h => absurd h (Nat.not_lt_zero _)⟩
theorem ToIs.step {v : Nat → AR → Value} {z : Value} {l : List AR} {i : Nat} {D : DataW Value} (h : ToIs v z l i D) (hm : Maps.IsMap D) (hi : i < l.length) (hd : Distinct l) : ToIs v z l (i + 1) (D.put (.string (l[i]'hi).1) (.held (v i (l[i]'hi)))) := by
  refine ⟨fun k => ?_, fun j hj hji => ?_⟩
  · by_cases e : k = (l[i]'hi).1
    · subst e
      rw [Maps.has_put_same hm (keyIs _)]
      exact ⟨fun _ => ⟨i, hi, by omega, rfl⟩, fun _ => rfl⟩
    · rw [Maps.has_put_other (string_ne e), h.1 k]
      constructor
      · rintro ⟨j, hj, h1, h2⟩; exact ⟨j, hj, by omega, h2⟩
      · rintro ⟨j, hj, h1, h2⟩
        refine ⟨j, hj, ?_, h2⟩
        by_cases ej : j = i
        · subst ej; exact absurd h2.symm e
        · omega
  · by_cases e : j = i
    · subst e
      exact Maps.atKey_put_same hm (keyIs _) _ _
    · have hne : (l[j]'hj).1 ≠ (l[i]'hi).1 := List.pairwise_iff_getElem.1 hd j i hj hi (by omega)
      rw [Maps.atKey_put_other (string_ne hne)]
      exact h.2 j hj (by omega)
theorem find_isSome {l : List AR} {k : Key} : (find l k).isSome = true ↔ ∃ j, ∃ h : j < l.length, j < l.length ∧ (l[j]'h).1 = k := by
  constructor
  · intro h
    obtain ⟨x, hx⟩ := Option.isSome_iff_exists.1 h
    obtain ⟨i, hi, e, ek⟩ := find_idx hx
    exact ⟨i, hi, hi, by rw [e]; exact ek⟩
  · rintro ⟨j, hj, _, e⟩
    exact List.find?_isSome.2 ⟨_, List.getElem_mem hj, by simp [e]⟩
def vAt (j : Nat) (_ : AR) : Value := .int .i64 j
def vOver (_ : Nat) (x : AR) : Value := .agg (acc x.2).toArray
theorem ToIs.at {b : List AR} {D : DataW Value} (h : ToIs vAt (.int .i64 0) b b.length D) : AtIs b D := ⟨fun k => Bool.eq_iff_iff.2 ((h.1 k).trans find_isSome.symm), fun i hi => h.2 i hi hi⟩
theorem ToIs.over {o : List AR} {D : DataW Value} (h : ToIs vOver (.agg (acc zeroAc).toArray) o o.length D) : OverIs o D := ⟨fun k => Bool.eq_iff_iff.2 ((h.1 k).trans find_isSome.symm), fun i hi => h.2 i hi hi⟩

/-- a slice of keys -/
def SlK (w : World) (ad : Option Addr) (l : List Key) : Prop := 0 < l.length → ∃ g o, ad = some ⟨g, o, none⟩ ∧ g < w.heap.size ∧ ∀ i (h : i < l.length), w.rangeAt g (o + i * 32) (kc (l[i]'h))
theorem SlK.below {B : Nat} {w w' : World} {ad : Option Addr} {l : List Key} (h : SlK w ad l) (hb : Below B w w') (hB : w.heap.size ≤ B) : SlK w' ad l := fun h0 => by
  obtain ⟨g, o, e, hg, hr⟩ := h h0
  exact ⟨g, o, e, Nat.lt_of_lt_of_le hg hb.size, fun i hi => rangeAt_below (hr i hi) hb (Nat.lt_of_lt_of_le hg hB)⟩
def KsOk (l : List Key) : Prop := ∀ x ∈ l, x.length = 32

theorem grown_drew {w w' : World} {row : Option Nat} (h : w.drew.grownBy w' row) : w.grownBy w' row := ⟨h.os, h.tape, h.output, h.size, h.block⟩
theorem there_grown {w w' : World} {g o n : Nat} {row : Option Nat} (h : w.there g o n) (hg : w.grownBy w' row) (hne : some g ≠ row) : w'.there g o n := fun j hj => by
  obtain ⟨h1, h2⟩ := h j hj
  obtain ⟨u, hu⟩ := Option.isSome_iff_exists.1 h1
  have e := hg.block g (World.block_lt_of_cell? w _ hu) hne
  exact ⟨by rw [World.cell?_of_block (a := ⟨g, o + j, none⟩) e]; exact h1, by rw [World.frozen?_of_block (a := ⟨g, o + j, none⟩) e]; exact h2⟩
theorem rangeAt_grownBy {w w' : World} {g o : Nat} {cs : List Value} {row : Option Nat} (h : w.rangeAt g o cs) (hg : w.grownBy w' row) (hne : some g ≠ row) : w'.rangeAt g o cs := fun j v hv =>
  (World.cell?_of_block (a := ⟨g, o + j, none⟩) (hg.block g (World.block_lt_of_cell? w _ (h j v hv)) hne)).trans (h j v hv)
def RS3 (g o : Nat) (x : AR) (w : World) : Prop := w.cell? ⟨g, o + 32, none⟩ = some (.int .u64 x.2.1) ∧ w.cell? ⟨g, o + 33, none⟩ = some (.int .u64 x.2.2.1) ∧ w.cell? ⟨g, o + 34, none⟩ = some (.int .u64 x.2.2.2)
theorem RS3.of {w : World} {g o : Nat} {x : AR} (h : w.rangeAt g o (rc x)) (hx : x.1.length = 32) : RS3 g o x w := by
  obtain ⟨h1, h2, h3⟩ := rec_num hx
  exact ⟨h 32 _ (by simpa [recA] using h1), h 33 _ (by simpa [recA] using h2), h 34 _ (by simpa [recA] using h3)⟩

def BldE (w : World) (b o : List AR) (c : List Key) (e : Ending) (w' : World) : Prop := ∃ lb bb ga mat mov mch Dch, e = .returned (.pointer (some ⟨lb, 0, none⟩)) ∧ LedAt w' lb bb ga mat mov mch b o ∧ w'.ownsMap Try.prog 36 RV mch c.length Dch ∧ (∀ kl, Maps.has Dch kl = inSet c kl) ∧ (w.heap.size ≤ lb ∧ w.heap.size ≤ bb ∧ w.heap.size ≤ ga ∧ w.heap.size ≤ mat ∧ w.heap.size ≤ mov ∧ w.heap.size ≤ mch) ∧ (mch ≠ lb ∧ mch ≠ bb ∧ mch ≠ ga ∧ mch ≠ mat ∧ mch ≠ mov) ∧ Below w.heap.size w w'

set_option maxHeartbeats 4000000 in
set_option maxRecDepth 100000 in
theorem build_any (ab ao ac : Option Addr) (b o : List AR) (c : List Key) (cb co cc : Nat) (w : World) (hb : KOk b) (ho : KOk o) (hc : KsOk c) (hsb : SlA w ab b) (hso : SlA w ao o) (hsc : SlK w ac c) (hnb : b.length ≤ 8192) (hno : o.length ≤ 8192) (hnc : c.length ≤ 8192) (hS : Sorted b) (hD : Distinct o) :
    Calls Try.prog 7 #[.slice ab b.length cb, .slice ao o.length co, .slice ac c.length cc] w (BldE w b o c) := by
  obtain ⟨nb, hnb'⟩ : ∃ n, n = b.length := ⟨_, rfl⟩
  obtain ⟨no, hno'⟩ : ∃ n, n = o.length := ⟨_, rfl⟩
  obtain ⟨nc, hnc'⟩ : ∃ n, n = c.length := ⟨_, rfl⟩
  rw [← hnb', ← hno', ← hnc']
  rw [← hnb'] at hnb
  rw [← hno'] at hno
  rw [← hnc'] at hnc
  have NB := hide hnb'
  have NO := hide hno'
  have NC := hide hnc'
  have HB := hide hb
  have HO := hide ho
  have HC := hide hc
  have SB := hide hsb
  have SO := hide hso
  have SC := hide hsc
  have HS := hide hS
  have HD := hide hD
  have hmix := mixed
  clear hnb' hno' hnc' hb ho hc hsb hso hsc hS hD
  obtain ⟨C1, hC1, hm1⟩ := mk48 nb hnb w
  obtain ⟨w1, hw1⟩ : ∃ w1, w1 = w.alloc (.cells C1 36) := ⟨_, rfl⟩
  rw [← hw1] at hm1
  obtain ⟨C2, hC2, hm2⟩ := mk49 nb hnb w1
  obtain ⟨w2, hw2⟩ : ∃ w2, w2 = w1.alloc (.cells C2 34) := ⟨_, rfl⟩
  rw [← hw2] at hm2
  have hm3 := makeMap_hint Try.underlying50 nb w2
  obtain ⟨w3, hw3⟩ : ∃ w3, w3 = w2.alloc (.map #[] 0) := ⟨_, rfl⟩
  rw [← hw3] at hm3
  obtain ⟨gk, hgk⟩ : ∃ g, g = w.heap.size := ⟨_, rfl⟩
  obtain ⟨ga, hga⟩ : ∃ g, g = w1.heap.size := ⟨_, rfl⟩
  obtain ⟨mat, hmat⟩ : ∃ g, g = w2.heap.size := ⟨_, rfl⟩
  rw [← hgk] at hm1
  rw [← hga] at hm2
  rw [← hmat] at hm3
  have hgr3 : Gr w w3 := by rw [hw3, hw2, hw1]; exact (((Gr.refl w).alloc _).alloc _).alloc _
  have hs1 : w1.heap.size = w.heap.size + 1 := by rw [hw1]; simp
  have hs2 : w2.heap.size = w1.heap.size + 1 := by rw [hw2]; simp
  have hk3 : w3.heap[gk]? = some (.cells C1 36 (0, 0)) := by
    rw [hw3, heap_alloc_old _ _ (by omega), hw2, heap_alloc_old _ _ (by omega), hw1, hgk]; exact heap_alloc_last w _
  have ha3 : w3.heap[ga]? = some (.cells C2 34 (0, 0)) := by
    rw [hw3, heap_alloc_old _ _ (by omega), hw2, hga]; exact heap_alloc_last w1 _
  have hown3 : w3.ownsMap Try.prog 36 RV mat 0 (.map []) := by rw [hw3, hmat]; exact World.ownsMap_made w2 Try.prog 36 RV
  have TK := hide (there_block (o := 0) (n := nb * 32) hk3 (by omega))
  have TA := hide (there_block (o := 0) (n := nb * 3) ha3 (by omega))
  have OM := hide hown3
  have GR3 := hide hgr3
  have hlay : w.heap.size ≤ gk ∧ gk < ga ∧ ga < mat := by omega
  clear hw1 hw2 hw3 hs1 hs2 hk3 ha3 hown3 hgr3 hgk hga hmat hC1 hC2
  go_enter Try.func7, Try.ntmps7
  go_wp2_with fail
  clear hm1 hm2 hm3
  go_loopw [10] (fun vi wr => ∃ (i : Nat) (D : DataW Value), i ≤ nb ∧ vi = .int .i64 i ∧ Hid (wr.there gk 0 (nb * 32)) ∧ Hid (wr.there ga 0 (nb * 3)) ∧ Hid (∀ j (hj : j < b.length), j < i → wr.rangeAt ga (j * 3) (acc (b[j]'hj).2)) ∧ Hid (wr.ownsMap Try.prog 36 RV mat i D) ∧ Hid (ToIs vAt (.int .i64 0) b i D) ∧ Hid (Below w.heap.size w wr)) (fun vi _ => nb - (intOf vi).toNat)
  case atStart => exact ⟨0, _, Nat.zero_le _, rfl, TK.out, TA.out, fun _ _ h => absurd h (Nat.not_lt_zero _), OM.out, ToIs.zero _ _ b, GR3.out.below⟩
  case round =>
    clear TK TA OM GR3
    obtain ⟨i, D, hi, rfl, htk, hta, hac, hown, hto, hbel⟩ := hrel
    by_cases hin : i < nb
    · have hil : i < b.length := by rw [← NB.out]; exact hin
      obtain ⟨g, off, had, hgs, hrow⟩ := SB.out (by omega)
      subst had
      obtain ⟨x, hx⟩ : ∃ x, x = b[i]'hil := ⟨_, rfl⟩
      have hxk : Hid (x.1.length = 32) := by show x.1.length = 32; rw [hx]; exact HB.out _ (List.getElem_mem hil)
      have hr1 : Hid (wr.rangeAt g (off + i * 35) (rc x)) := by rw [hx]; exact rangeAt_below (hrow i hil) hbel.out hgs
      have HX := hide hx
      clear hx
      go_wp2_with (first
        | (refine wpList_load_mid rfl 31 (.tmp 35) rfl g (off + i * 35) rfl (kc x.1) _ (rc_key hr1.out) Try.underlying31 rfl (by rw [kc_length, hxk.out]; exact info31) ?_)
        | (refine wpList_store_mid rfl 36 (.tmp 37) (.tmp 36) rfl gk (i * 32) (kc x.1).toArray rfl rfl (by rw [size_kc hxk.out]; exact fun j hj => by simpa using htk.out (i * 32 + j) (by omega)) (by rw [size_kc hxk.out]; exact info36) (one_kc _) ?_))
      obtain ⟨W, hW⟩ : ∃ W, W = wr.setCells gk (i * 32) (kc x.1).toArray.toList := ⟨_, rfl⟩
      rw [← hW]
      have hgW : wr.grownBy W (some gk) := by rw [hW]; exact setCells_grown _ _ _ _
      have hbW : Hid (Below w.heap.size w W) := hbel.out.grown hgW hbel.out.size (fun j hj => by cases hj; omega)
      have htkW : Hid (W.there gk 0 (nb * 32)) := by show W.there _ _ _; rw [hW]; exact World.there_setCells htk.out _ _ _
      have htaW : Hid (W.there ga 0 (nb * 3)) := by show W.there _ _ _; rw [hW]; exact World.there_setCells hta.out _ _ _
      have hacW : Hid (∀ j (hj : j < b.length), j < i → W.rangeAt ga (j * 3) (acc (b[j]'hj).2)) := fun j hj hji => by rw [hW]; exact World.rangeAt_setCells_apart (hac.out j hj hji) _ _ _ (.inl (by omega))
      have hownW : Hid (W.ownsMap Try.prog 36 RV mat i D) := hown.out.kept hgW (by intro e; cases e; omega)
      have hrW : Hid (W.rangeAt g (off + i * 35) (rc x)) := by show W.rangeAt _ _ _; rw [HX.out]; exact rangeAt_below (hrow i hil) hbW.out hgs
      clear hW hgW hbel htk hta hac hown hr1
      refine wp_region_held_drew (S := RS3 g (off + i * 35) x) mixed (RS3.of hrW.out hxk.out) (fun hS => ?_)
      refine wpAnyH_take (i := 0) (v := .slice (some ⟨ga, 0, none⟩) nb nb) rfl (by kernel_rfl) (by kernel_rfl) (by kernel_rfl) (fun _ _ _ h => h) (.inl ⟨by rfl, fun w hw => by rfl⟩) hS ?_
      simp only [Act.put, List.getElem_toArray, List.getElem_cons_zero, List.getElem_cons_succ, List.setIfInBounds_toArray, List.set_cons_zero, List.set_cons_succ]
      refine wpAnyH_take (i := 1) (v := .int .i64 i) rfl (by kernel_rfl) (by kernel_rfl) (by kernel_rfl) (fun _ _ _ h => h) (.inl ⟨by rfl, fun w hw => by rfl⟩) hS ?_
      simp only [Act.put, List.getElem_toArray, List.getElem_cons_zero, List.getElem_cons_succ, List.setIfInBounds_toArray, List.set_cons_zero, List.set_cons_succ]
      refine wpAnyH_take (i := 2) (v := .slice (some ⟨g, off, none⟩) nb cb) rfl (by kernel_rfl) (by kernel_rfl) (by kernel_rfl) (fun _ _ _ h => h) (.inl ⟨by rfl, fun w hw => by rfl⟩) hS ?_
      simp only [Act.put, List.getElem_toArray, List.getElem_cons_zero, List.getElem_cons_succ, List.setIfInBounds_toArray, List.set_cons_zero, List.set_cons_succ]
      refine wpAnyH_take (i := 3) (v := .int .i64 i) rfl (by kernel_rfl) (by kernel_rfl) (by kernel_rfl) (fun _ _ _ h => h) (.inl ⟨by rfl, fun w hw => by rfl⟩) hS ?_
      simp only [Act.put, List.getElem_toArray, List.getElem_cons_zero, List.getElem_cons_succ, List.setIfInBounds_toArray, List.set_cons_zero, List.set_cons_succ]
      refine wpAnyH_take (i := 7) (v := .slice (some ⟨g, off, none⟩) nb cb) rfl (by kernel_rfl) (by kernel_rfl) (by kernel_rfl) (fun _ _ _ h => h) (.inl ⟨by rfl, fun w hw => by rfl⟩) hS ?_
      simp only [Act.put, List.getElem_toArray, List.getElem_cons_zero, List.getElem_cons_succ, List.setIfInBounds_toArray, List.set_cons_zero, List.set_cons_succ]
      refine wpAnyH_take (i := 8) (v := .int .i64 i) rfl (by kernel_rfl) (by kernel_rfl) (by kernel_rfl) (fun _ _ _ h => h) (.inl ⟨by rfl, fun w hw => by rfl⟩) hS ?_
      simp only [Act.put, List.getElem_toArray, List.getElem_cons_zero, List.getElem_cons_succ, List.setIfInBounds_toArray, List.set_cons_zero, List.set_cons_succ]
      refine wpAnyH_take (i := 12) (v := .slice (some ⟨g, off, none⟩) nb cb) rfl (by kernel_rfl) (by kernel_rfl) (by kernel_rfl) (fun _ _ _ h => h) (.inl ⟨by rfl, fun w hw => by rfl⟩) hS ?_
      simp only [Act.put, List.getElem_toArray, List.getElem_cons_zero, List.getElem_cons_succ, List.setIfInBounds_toArray, List.set_cons_zero, List.set_cons_succ]
      refine wpAnyH_take (i := 13) (v := .int .i64 i) rfl (by kernel_rfl) (by kernel_rfl) (by kernel_rfl) (fun _ _ _ h => h) (.inl ⟨by rfl, fun w hw => by rfl⟩) hS ?_
      simp only [Act.put, List.getElem_toArray, List.getElem_cons_zero, List.getElem_cons_succ, List.setIfInBounds_toArray, List.set_cons_zero, List.set_cons_succ]
      refine wpAnyH_take (i := 4) (v := .pointer (some ⟨g, off + i * 35, none⟩)) rfl (by kernel_rfl) (by kernel_rfl) (by kernel_rfl) (fun _ _ _ h => h) (.inl ⟨by rfl, fun w hw => by go_simp⟩) hS ?_
      simp only [Act.put, List.getElem_toArray, List.getElem_cons_zero, List.getElem_cons_succ, List.setIfInBounds_toArray, List.set_cons_zero, List.set_cons_succ]
      refine wpAnyH_take (i := 9) (v := .pointer (some ⟨g, off + i * 35, none⟩)) rfl (by kernel_rfl) (by kernel_rfl) (by kernel_rfl) (fun _ _ _ h => h) (.inl ⟨by rfl, fun w hw => by go_simp⟩) hS ?_
      simp only [Act.put, List.getElem_toArray, List.getElem_cons_zero, List.getElem_cons_succ, List.setIfInBounds_toArray, List.set_cons_zero, List.set_cons_succ]
      refine wpAnyH_take (i := 14) (v := .pointer (some ⟨g, off + i * 35, none⟩)) rfl (by kernel_rfl) (by kernel_rfl) (by kernel_rfl) (fun _ _ _ h => h) (.inl ⟨by rfl, fun w hw => by go_simp⟩) hS ?_
      simp only [Act.put, List.getElem_toArray, List.getElem_cons_zero, List.getElem_cons_succ, List.setIfInBounds_toArray, List.set_cons_zero, List.set_cons_succ]
      refine wpAnyH_take (i := 5) (v := .pointer (some ⟨g, off + i * 35 + 32, none⟩)) rfl (by kernel_rfl) (by kernel_rfl) (by kernel_rfl) (fun _ _ _ h => h) (.inl ⟨by rfl, fun w hw => by go_simp⟩) hS ?_
      simp only [Act.put, List.getElem_toArray, List.getElem_cons_zero, List.getElem_cons_succ, List.setIfInBounds_toArray, List.set_cons_zero, List.set_cons_succ]
      refine wpAnyH_take (i := 10) (v := .pointer (some ⟨g, off + i * 35 + 33, none⟩)) rfl (by kernel_rfl) (by kernel_rfl) (by kernel_rfl) (fun _ _ _ h => h) (.inl ⟨by rfl, fun w hw => by go_simp⟩) hS ?_
      simp only [Act.put, List.getElem_toArray, List.getElem_cons_zero, List.getElem_cons_succ, List.setIfInBounds_toArray, List.set_cons_zero, List.set_cons_succ]
      refine wpAnyH_take (i := 15) (v := .pointer (some ⟨g, off + i * 35 + 34, none⟩)) rfl (by kernel_rfl) (by kernel_rfl) (by kernel_rfl) (fun _ _ _ h => h) (.inl ⟨by rfl, fun w hw => by go_simp⟩) hS ?_
      simp only [Act.put, List.getElem_toArray, List.getElem_cons_zero, List.getElem_cons_succ, List.setIfInBounds_toArray, List.set_cons_zero, List.set_cons_succ]
      refine wpAnyH_take (i := 6) (v := .int .u64 x.2.1) rfl (by kernel_rfl) (by kernel_rfl) (by kernel_rfl) (fun _ _ _ h => h) (.inl ⟨by rfl, fun w hw => by have h := hw.1; go_simp⟩) hS ?_
      simp only [Act.put, List.getElem_toArray, List.getElem_cons_zero, List.getElem_cons_succ, List.setIfInBounds_toArray, List.set_cons_zero, List.set_cons_succ]
      refine wpAnyH_take (i := 11) (v := .int .u64 x.2.2.1) rfl (by kernel_rfl) (by kernel_rfl) (by kernel_rfl) (fun _ _ _ h => h) (.inl ⟨by rfl, fun w hw => by have h := hw.2.1; go_simp⟩) hS ?_
      simp only [Act.put, List.getElem_toArray, List.getElem_cons_zero, List.getElem_cons_succ, List.setIfInBounds_toArray, List.set_cons_zero, List.set_cons_succ]
      refine wpAnyH_take (i := 16) (v := .int .u64 x.2.2.2) rfl (by kernel_rfl) (by kernel_rfl) (by kernel_rfl) (fun _ _ _ h => h) (.inl ⟨by rfl, fun w hw => by have h := hw.2.2; go_simp⟩) hS ?_
      simp only [Act.put, List.getElem_toArray, List.getElem_cons_zero, List.getElem_cons_succ, List.setIfInBounds_toArray, List.set_cons_zero, List.set_cons_succ]
      refine wpAnyH_take (i := 17) (v := .agg (acc x.2).toArray) rfl (by kernel_rfl) (by kernel_rfl) (by kernel_rfl) (fun _ _ _ h => h) (.inl ⟨by rfl, fun w hw => by simp only [acc]; go_simp⟩) hS ?_
      simp only [Act.put, List.getElem_toArray, List.getElem_cons_zero, List.getElem_cons_succ, List.setIfInBounds_toArray, List.set_cons_zero, List.set_cons_succ]
      refine wpAnyH_take (i := 18) (v := .pointer (some ⟨ga, i * 3, none⟩)) rfl (by kernel_rfl) (by kernel_rfl) (by kernel_rfl) (fun _ _ _ h => h) (.inl ⟨by rfl, fun w hw => by go_simp⟩) hS ?_
      simp only [Act.put, List.getElem_toArray, List.getElem_cons_zero, List.getElem_cons_succ, List.setIfInBounds_toArray, List.set_cons_zero, List.set_cons_succ]
      refine wpAnyH_all (rs := [19]) (by kernel_rfl) (by simp) ?_
      intro i hi
      rw [List.mem_singleton] at hi
      subst hi
      unfold wpOp
      simp only [List.getElem?_toArray, List.getElem?_cons_succ, List.getElem?_cons_zero]
      rw [if_pos (by rfl)]
      refine .inl ?_
      refine wp_store_mid 34 (.tmp 56) (.tmp 55) rfl ga (i * 3) (acc x.2).toArray rfl rfl (fun j hj => by have hj' : j < 3 := hj; simpa using htaW.out (i * 3 + j) (by omega)) (by exact info34) (one_acc _) ?_
      have hgW2 : W.grownBy (W.drew.setCells ga (i * 3) (acc x.2).toArray.toList) (some ga) := grown_drew (setCells_grown _ _ _ W.drew)
      obtain ⟨W2, hW2⟩ : ∃ W2, W2 = W.drew.setCells ga (i * 3) (acc x.2).toArray.toList := ⟨_, rfl⟩
      rw [← hW2] at hgW2 ⊢
      have hbW2 : Hid (Below w.heap.size w W2) := hbW.out.grown hgW2 hbW.out.size (fun j hj => by cases hj; omega)
      have htkW2 : Hid (W2.there gk 0 (nb * 32)) := by show W2.there _ _ _; rw [hW2]; exact World.there_setCells (w := W.drew) htkW.out _ _ _
      have htaW2 : Hid (W2.there ga 0 (nb * 3)) := by show W2.there _ _ _; rw [hW2]; exact World.there_setCells (w := W.drew) htaW.out _ _ _
      have hacW2 : Hid (∀ j (hj : j < b.length), j < i + 1 → W2.rangeAt ga (j * 3) (acc (b[j]'hj).2)) := fun j hj hji => by
        rw [hW2]
        by_cases e : j = i
        · subst e
          rw [← HX.out]
          exact World.rangeAt_setCells_same W.drew _ _ _ (fun j' hj' => by have hj2 : j' < 3 := hj'; simpa using htaW.out (j * 3 + j') (by omega))
        · exact World.rangeAt_setCells_apart (w := W.drew) (hacW.out j hj (by omega)) _ _ _ (.inr (.inl (by show j * 3 + 3 ≤ i * 3; omega)))
      have hownW2 : Hid (W2.ownsMap Try.prog 36 RV mat i D) := hownW.out.kept hgW2 (by intro e; cases e; omega)
      have hrW2 : Hid (W2.rangeAt g (off + i * 35) (rc x)) := by show W2.rangeAt _ _ _; rw [HX.out]; exact rangeAt_below (hrow i hil) hbW2.out hgs
      obtain ⟨w4, hrun4, hown4, hg4⟩ := hownW2.out.update law36 Try.underlying50 (by unfold maxLen; omega) (keyOf36 _ hxk.out) (show RV (.int .i64 i) = some (.held (.int .i64 i), []) from rfl)
      have hrun4' : (Instr.mapUpdate 50 (.map (some mat)) (.agg (kc x.1).toArray) (.int .i64 i)).run Try.prog W2 = .ok () w4 := hrun4
      have hto4 : Hid (ToIs vAt (.int .i64 0) b (i + 1) (D.put (.string x.1) (.held (.int .i64 i)))) := by
        have := hto.out.step hownW2.out.isMap hil HS.out.distinct
        rw [← HX.out] at this
        exact this
      have H4 := hide hown4
      have G4 := hide hg4
      refine ⟨RS3.of hrW2.out hxk.out, wpAnyH_done (by kernel_rfl) ?_ _⟩
      clear hW2 hgW2 hown4 hg4 hrun4 hbW htkW htaW hacW hownW hto hownW2 hS
      go_wp2_with (first
        | (refine wpList_load_mid rfl 31 (.tmp 61) rfl g (off + i * 35) rfl (kc x.1) _ (rc_key hrW2.out) Try.underlying31 rfl (by rw [kc_length, hxk.out]; exact info31) ?_))
      refine ⟨⟨i + 1, _, by omega, by go_num, ?_, ?_, ?_, H4.out, hto4.out, ?_⟩, by simp [intOf]; omega⟩
      · exact there_grown htkW2.out G4.out (by intro e; cases e; omega)
      · exact there_grown htaW2.out G4.out (by intro e; cases e; omega)
      · exact fun j hj hji => rangeAt_grownBy (hacW2.out j hj hji) G4.out (by intro e; cases e; omega)
      · exact hbW2.out.grown G4.out hbW2.out.size (fun j hj => by cases hj; omega)
    · have hie : i = b.length := by rw [← NB.out]; omega
      have hAt : Hid (AtIs b D) := by subst hie; exact hto.out.at
      have hA : Hid (∀ j (hj : j < b.length), wr.rangeAt ga (j * 3) (acc (b[j]'hj).2)) := fun j hj => hac.out j hj (by omega)
      have hM : Hid (wr.ownsMap Try.prog 36 RV mat b.length D) := by rw [← hie]; exact hown.out
      have hie' : i = nb := by omega
      subst hie'
      have hmm := makeMap_hint Try.underlying28 no wr
      obtain ⟨w2, hw2⟩ : ∃ w2, w2 = wr.alloc (.map #[] 0) := ⟨_, rfl⟩
      obtain ⟨mov, hmov⟩ : ∃ m, m = wr.heap.size := ⟨_, rfl⟩
      rw [← hw2, ← hmov] at hmm
      have hgw2 : wr.grownBy w2 none := by rw [hw2]; exact World.grownBy_alloc wr _ none
      have hb2 : Hid (Below w.heap.size w w2) := hbel.out.grown hgw2 hbel.out.size (fun j hj => by cases hj)
      have hA2 : Hid (∀ j (hj : j < b.length), w2.rangeAt ga (j * 3) (acc (b[j]'hj).2)) := fun j hj => rangeAt_grownBy (hA.out j hj) hgw2 (by intro e; cases e)
      have hM2 : Hid (w2.ownsMap Try.prog 36 RV mat b.length D) := hM.out.kept hgw2 (by intro e; cases e)
      have hO2 : Hid (w2.ownsMap Try.prog 36 RV mov 0 (.map [])) := by show w2.ownsMap _ _ _ _ _ _; rw [hw2, hmov]; exact World.ownsMap_made wr Try.prog 36 RV
      have hmm' : mat < mov := by rw [hmov]; exact hM.out.lt
      have hga : ga < mov := by omega
      clear hw2 hgw2 hmov hbel htk hta hac hown hto hA hM hie
      go_wp2_with fail
      clear hmm
      go_loopw [12] (fun vi wr => ∃ (i : Nat) (Dv : DataW Value), i ≤ no ∧ vi = .int .i64 i ∧ Hid (∀ j (hj : j < b.length), wr.rangeAt ga (j * 3) (acc (b[j]'hj).2)) ∧ Hid (wr.ownsMap Try.prog 36 RV mat b.length D) ∧ Hid (wr.ownsMap Try.prog 36 RV mov i Dv) ∧ Hid (ToIs vOver (.agg (acc zeroAc).toArray) o i Dv) ∧ Hid (Below w.heap.size w wr)) (fun vi _ => no - (intOf vi).toNat)
      case atStart => exact ⟨0, _, Nat.zero_le _, rfl, hA2.out, hM2.out, hO2.out, ToIs.zero _ _ o, hb2.out⟩
      case round =>
        clear hA2 hM2 hO2 hb2
        rename_i wr
        obtain ⟨i, Dv, hi, rfl, hA, hM, hO, hto, hbel⟩ := hrel
        by_cases hin : i < no
        · have hil : i < o.length := by rw [← NO.out]; exact hin
          obtain ⟨g, off, had, hgs, hrow⟩ := SO.out (by omega)
          subst had
          obtain ⟨x, hx⟩ : ∃ x, x = o[i]'hil := ⟨_, rfl⟩
          have hxk : Hid (x.1.length = 32) := by show x.1.length = 32; rw [hx]; exact HO.out _ (List.getElem_mem hil)
          have hr1 : Hid (wr.rangeAt g (off + i * 35) (rc x)) := by rw [hx]; exact rangeAt_below (hrow i hil) hbel.out hgs
          have HX := hide hx
          clear hx
          go_wp2_with fail
          refine wp_region_held_drew (S := fun w => RS3 g (off + i * 35) x w ∧ w.rangeAt g (off + i * 35) (kc x.1)) mixed ⟨RS3.of hr1.out hxk.out, rc_key hr1.out⟩ (fun hS => ?_)
          refine wpAnyH_take (i := 0) (v := .map (some mov)) rfl (by kernel_rfl) (by kernel_rfl) (by kernel_rfl) (fun _ _ _ h => h) (.inl ⟨by rfl, fun w hw => by rfl⟩) hS ?_
          simp only [Act.put, List.getElem_toArray, List.getElem_cons_zero, List.getElem_cons_succ, List.setIfInBounds_toArray, List.set_cons_zero, List.set_cons_succ]
          refine wpAnyH_take (i := 1) (v := .slice (some ⟨g, off, none⟩) no co) rfl (by kernel_rfl) (by kernel_rfl) (by kernel_rfl) (fun _ _ _ h => h) (.inl ⟨by rfl, fun w hw => by rfl⟩) hS ?_
          simp only [Act.put, List.getElem_toArray, List.getElem_cons_zero, List.getElem_cons_succ, List.setIfInBounds_toArray, List.set_cons_zero, List.set_cons_succ]
          refine wpAnyH_take (i := 2) (v := .int .i64 i) rfl (by kernel_rfl) (by kernel_rfl) (by kernel_rfl) (fun _ _ _ h => h) (.inl ⟨by rfl, fun w hw => by rfl⟩) hS ?_
          simp only [Act.put, List.getElem_toArray, List.getElem_cons_zero, List.getElem_cons_succ, List.setIfInBounds_toArray, List.set_cons_zero, List.set_cons_succ]
          refine wpAnyH_take (i := 6) (v := .slice (some ⟨g, off, none⟩) no co) rfl (by kernel_rfl) (by kernel_rfl) (by kernel_rfl) (fun _ _ _ h => h) (.inl ⟨by rfl, fun w hw => by rfl⟩) hS ?_
          simp only [Act.put, List.getElem_toArray, List.getElem_cons_zero, List.getElem_cons_succ, List.setIfInBounds_toArray, List.set_cons_zero, List.set_cons_succ]
          refine wpAnyH_take (i := 7) (v := .int .i64 i) rfl (by kernel_rfl) (by kernel_rfl) (by kernel_rfl) (fun _ _ _ h => h) (.inl ⟨by rfl, fun w hw => by rfl⟩) hS ?_
          simp only [Act.put, List.getElem_toArray, List.getElem_cons_zero, List.getElem_cons_succ, List.setIfInBounds_toArray, List.set_cons_zero, List.set_cons_succ]
          refine wpAnyH_take (i := 11) (v := .slice (some ⟨g, off, none⟩) no co) rfl (by kernel_rfl) (by kernel_rfl) (by kernel_rfl) (fun _ _ _ h => h) (.inl ⟨by rfl, fun w hw => by rfl⟩) hS ?_
          simp only [Act.put, List.getElem_toArray, List.getElem_cons_zero, List.getElem_cons_succ, List.setIfInBounds_toArray, List.set_cons_zero, List.set_cons_succ]
          refine wpAnyH_take (i := 12) (v := .int .i64 i) rfl (by kernel_rfl) (by kernel_rfl) (by kernel_rfl) (fun _ _ _ h => h) (.inl ⟨by rfl, fun w hw => by rfl⟩) hS ?_
          simp only [Act.put, List.getElem_toArray, List.getElem_cons_zero, List.getElem_cons_succ, List.setIfInBounds_toArray, List.set_cons_zero, List.set_cons_succ]
          refine wpAnyH_take (i := 16) (v := .slice (some ⟨g, off, none⟩) no co) rfl (by kernel_rfl) (by kernel_rfl) (by kernel_rfl) (fun _ _ _ h => h) (.inl ⟨by rfl, fun w hw => by rfl⟩) hS ?_
          simp only [Act.put, List.getElem_toArray, List.getElem_cons_zero, List.getElem_cons_succ, List.setIfInBounds_toArray, List.set_cons_zero, List.set_cons_succ]
          refine wpAnyH_take (i := 17) (v := .int .i64 i) rfl (by kernel_rfl) (by kernel_rfl) (by kernel_rfl) (fun _ _ _ h => h) (.inl ⟨by rfl, fun w hw => by rfl⟩) hS ?_
          simp only [Act.put, List.getElem_toArray, List.getElem_cons_zero, List.getElem_cons_succ, List.setIfInBounds_toArray, List.set_cons_zero, List.set_cons_succ]
          refine wpAnyH_take (i := 3) (v := .pointer (some ⟨g, off + i * 35, none⟩)) rfl (by kernel_rfl) (by kernel_rfl) (by kernel_rfl) (fun _ _ _ h => h) (.inl ⟨by rfl, fun w hw => by go_simp⟩) hS ?_
          simp only [Act.put, List.getElem_toArray, List.getElem_cons_zero, List.getElem_cons_succ, List.setIfInBounds_toArray, List.set_cons_zero, List.set_cons_succ]
          refine wpAnyH_take (i := 8) (v := .pointer (some ⟨g, off + i * 35, none⟩)) rfl (by kernel_rfl) (by kernel_rfl) (by kernel_rfl) (fun _ _ _ h => h) (.inl ⟨by rfl, fun w hw => by go_simp⟩) hS ?_
          simp only [Act.put, List.getElem_toArray, List.getElem_cons_zero, List.getElem_cons_succ, List.setIfInBounds_toArray, List.set_cons_zero, List.set_cons_succ]
          refine wpAnyH_take (i := 13) (v := .pointer (some ⟨g, off + i * 35, none⟩)) rfl (by kernel_rfl) (by kernel_rfl) (by kernel_rfl) (fun _ _ _ h => h) (.inl ⟨by rfl, fun w hw => by go_simp⟩) hS ?_
          simp only [Act.put, List.getElem_toArray, List.getElem_cons_zero, List.getElem_cons_succ, List.setIfInBounds_toArray, List.set_cons_zero, List.set_cons_succ]
          refine wpAnyH_take (i := 18) (v := .pointer (some ⟨g, off + i * 35, none⟩)) rfl (by kernel_rfl) (by kernel_rfl) (by kernel_rfl) (fun _ _ _ h => h) (.inl ⟨by rfl, fun w hw => by go_simp⟩) hS ?_
          simp only [Act.put, List.getElem_toArray, List.getElem_cons_zero, List.getElem_cons_succ, List.setIfInBounds_toArray, List.set_cons_zero, List.set_cons_succ]
          refine wpAnyH_take (i := 4) (v := .pointer (some ⟨g, off + i * 35, none⟩)) rfl (by kernel_rfl) (by kernel_rfl) (by kernel_rfl) (fun _ _ _ h => h) (.inl ⟨by rfl, fun w hw => by go_simp⟩) hS ?_
          simp only [Act.put, List.getElem_toArray, List.getElem_cons_zero, List.getElem_cons_succ, List.setIfInBounds_toArray, List.set_cons_zero, List.set_cons_succ]
          refine wpAnyH_take (i := 9) (v := .pointer (some ⟨g, off + i * 35 + 32, none⟩)) rfl (by kernel_rfl) (by kernel_rfl) (by kernel_rfl) (fun _ _ _ h => h) (.inl ⟨by rfl, fun w hw => by go_simp⟩) hS ?_
          simp only [Act.put, List.getElem_toArray, List.getElem_cons_zero, List.getElem_cons_succ, List.setIfInBounds_toArray, List.set_cons_zero, List.set_cons_succ]
          refine wpAnyH_take (i := 14) (v := .pointer (some ⟨g, off + i * 35 + 33, none⟩)) rfl (by kernel_rfl) (by kernel_rfl) (by kernel_rfl) (fun _ _ _ h => h) (.inl ⟨by rfl, fun w hw => by go_simp⟩) hS ?_
          simp only [Act.put, List.getElem_toArray, List.getElem_cons_zero, List.getElem_cons_succ, List.setIfInBounds_toArray, List.set_cons_zero, List.set_cons_succ]
          refine wpAnyH_take (i := 19) (v := .pointer (some ⟨g, off + i * 35 + 34, none⟩)) rfl (by kernel_rfl) (by kernel_rfl) (by kernel_rfl) (fun _ _ _ h => h) (.inl ⟨by rfl, fun w hw => by go_simp⟩) hS ?_
          simp only [Act.put, List.getElem_toArray, List.getElem_cons_zero, List.getElem_cons_succ, List.setIfInBounds_toArray, List.set_cons_zero, List.set_cons_succ]
          refine wpAnyH_take (i := 5) (v := .agg (kc x.1).toArray) rfl (by kernel_rfl) (by kernel_rfl) (by kernel_rfl) (fun _ _ _ h => h) (yieldsIf_load_mid (by rfl) 31 _ rfl g (off + i * 35) rfl (kc x.1) _ (fun _ h => h.2) Try.underlying31 rfl (by rw [kc_length, hxk.out]; exact info31)) hS ?_
          simp only [Act.put, List.getElem_toArray, List.getElem_cons_zero, List.getElem_cons_succ, List.setIfInBounds_toArray, List.set_cons_zero, List.set_cons_succ]
          refine wpAnyH_take (i := 10) (v := .int .u64 x.2.1) rfl (by kernel_rfl) (by kernel_rfl) (by kernel_rfl) (fun _ _ _ h => h) (.inl ⟨by rfl, fun w hw => by have h := hw.1.1; go_simp⟩) hS ?_
          simp only [Act.put, List.getElem_toArray, List.getElem_cons_zero, List.getElem_cons_succ, List.setIfInBounds_toArray, List.set_cons_zero, List.set_cons_succ]
          refine wpAnyH_take (i := 15) (v := .int .u64 x.2.2.1) rfl (by kernel_rfl) (by kernel_rfl) (by kernel_rfl) (fun _ _ _ h => h) (.inl ⟨by rfl, fun w hw => by have h := hw.1.2.1; go_simp⟩) hS ?_
          simp only [Act.put, List.getElem_toArray, List.getElem_cons_zero, List.getElem_cons_succ, List.setIfInBounds_toArray, List.set_cons_zero, List.set_cons_succ]
          refine wpAnyH_take (i := 20) (v := .int .u64 x.2.2.2) rfl (by kernel_rfl) (by kernel_rfl) (by kernel_rfl) (fun _ _ _ h => h) (.inl ⟨by rfl, fun w hw => by have h := hw.1.2.2; go_simp⟩) hS ?_
          simp only [Act.put, List.getElem_toArray, List.getElem_cons_zero, List.getElem_cons_succ, List.setIfInBounds_toArray, List.set_cons_zero, List.set_cons_succ]
          refine wpAnyH_take (i := 21) (v := .agg (acc x.2).toArray) rfl (by kernel_rfl) (by kernel_rfl) (by kernel_rfl) (fun _ _ _ h => h) (.inl ⟨by rfl, fun w hw => by simp only [acc]; go_simp⟩) hS ?_
          simp only [Act.put, List.getElem_toArray, List.getElem_cons_zero, List.getElem_cons_succ, List.setIfInBounds_toArray, List.set_cons_zero, List.set_cons_succ]
          refine wpAnyH_all (rs := [22]) (by kernel_rfl) (by simp) ?_
          intro i hi
          rw [List.mem_singleton] at hi
          subst hi
          unfold wpOp
          simp only [List.getElem?_toArray, List.getElem?_cons_succ, List.getElem?_cons_zero]
          obtain ⟨w4, hrun4, hown4, hg4⟩ := (hO.out.drew).update law36 Try.underlying28 (by unfold maxLen; omega) (keyOf36 _ hxk.out) (show RV (.agg (acc x.2).toArray) = some (.held (.agg (acc x.2).toArray), []) from rfl)
          have hrun4' : (Instr.mapUpdate 28 (.map (some mov)) (.agg (kc x.1).toArray) (.agg (acc x.2).toArray)).run Try.prog wr.drew = .ok () w4 := hrun4
          have hto4 : Hid (ToIs vOver (.agg (acc zeroAc).toArray) o (i + 1) (Dv.put (.string x.1) (.held (.agg (acc x.2).toArray)))) := by
            have := hto.out.step hO.out.isMap hil HD.out
            rw [← HX.out] at this
            exact this
          have H4 := hide hown4
          have G4 : Hid (wr.grownBy w4 (some mov)) := grown_drew hg4
          have hb4 : Hid (Below w.heap.size w w4) := hbel.out.grown G4.out hbel.out.size (fun j hj => by cases hj; omega)
          have hr4 : Hid (w4.rangeAt g (off + i * 35) (rc x)) := by show w4.rangeAt _ _ _; rw [HX.out]; exact rangeAt_below (hrow i hil) hb4.out hgs
          clear hown4 hg4 hrun4
          go_simp
          refine .inl ⟨⟨RS3.of hr4.out hxk.out, rc_key hr4.out⟩, wpAnyH_done (by kernel_rfl) ?_ _⟩
          clear hrun4'
          go_wp2_with fail
          refine ⟨⟨i + 1, _, by omega, by go_num, ?_, ?_, H4.out, hto4.out, hb4.out⟩, by simp [intOf]; omega⟩
          · exact fun j hj => rangeAt_grownBy (hA.out j hj) G4.out (by intro e; cases e; omega)
          · exact hM.out.kept G4.out (by intro e; cases e; omega)
        · have hie : i = o.length := by rw [← NO.out]; omega
          have hOv : Hid (OverIs o Dv) := by subst hie; exact hto.out.over
          have hO1 : Hid (wr.ownsMap Try.prog 36 RV mov o.length Dv) := by rw [← hie]; exact hO.out
          have hie' : i = no := by omega
          subst hie'
          have hmm := makeMap_hint Try.underlying51 nc wr
          obtain ⟨w2, hw2⟩ : ∃ w2, w2 = wr.alloc (.map #[] 0) := ⟨_, rfl⟩
          obtain ⟨mch, hmch⟩ : ∃ m, m = wr.heap.size := ⟨_, rfl⟩
          rw [← hw2, ← hmch] at hmm
          have hgw2 : wr.grownBy w2 none := by rw [hw2]; exact World.grownBy_alloc wr _ none
          have hb2 : Hid (Below w.heap.size w w2) := hbel.out.grown hgw2 hbel.out.size (fun j hj => by cases hj)
          have hA2 : Hid (∀ j (hj : j < b.length), w2.rangeAt ga (j * 3) (acc (b[j]'hj).2)) := fun j hj => rangeAt_grownBy (hA.out j hj) hgw2 (by intro e; cases e)
          have hM2 : Hid (w2.ownsMap Try.prog 36 RV mat b.length D) := hM.out.kept hgw2 (by intro e; cases e)
          have hO2 : Hid (w2.ownsMap Try.prog 36 RV mov o.length Dv) := hO1.out.kept hgw2 (by intro e; cases e)
          have hC2 : Hid (w2.ownsMap Try.prog 36 RV mch 0 (.map [])) := by show w2.ownsMap _ _ _ _ _ _; rw [hw2, hmch]; exact World.ownsMap_made wr Try.prog 36 RV
          have hmm' : mov < mch := by rw [hmch]; exact hO1.out.lt
          clear hw2 hgw2 hmch hbel hto hA hM hO hO1 hie
          go_wp2_with fail
          clear hmm
          go_loopw [14] (fun vi wr => ∃ (i : Nat) (Dc : DataW Value), i ≤ nc ∧ vi = .int .i64 i ∧ Hid (∀ j (hj : j < b.length), wr.rangeAt ga (j * 3) (acc (b[j]'hj).2)) ∧ Hid (wr.ownsMap Try.prog 36 RV mat b.length D) ∧ Hid (wr.ownsMap Try.prog 36 RV mov o.length Dv) ∧ Hid (wr.ownsMap Try.prog 36 RV mch i Dc) ∧ Hid (∀ kl, Maps.has Dc kl = inSet (c.take i) kl) ∧ Hid (Below w.heap.size w wr)) (fun vi _ => nc - (intOf vi).toNat)
          case atStart => exact ⟨0, _, Nat.zero_le _, rfl, hA2.out, hM2.out, hO2.out, hC2.out, fun _ => rfl, hb2.out⟩
          case round =>
            clear hA2 hM2 hO2 hC2 hb2
            rename_i wr
            obtain ⟨i, Dc, hi, rfl, hA, hM, hO, hC, hin2, hbel⟩ := hrel
            by_cases hin : i < nc
            · have hil : i < c.length := by rw [← NC.out]; exact hin
              obtain ⟨g, off, had, hgs, hrow⟩ := SC.out (by omega)
              subst had
              obtain ⟨x, hx⟩ : ∃ x, x = c[i]'hil := ⟨_, rfl⟩
              have hxk : Hid (x.length = 32) := by show x.length = 32; rw [hx]; exact HC.out _ (List.getElem_mem hil)
              have hr1 : Hid (wr.rangeAt g (off + i * 32) (kc x)) := by rw [hx]; exact rangeAt_below (hrow i hil) hbel.out hgs
              have HX := hide hx
              obtain ⟨w4, hrun4, hown4, hg4⟩ := hC.out.update law36 Try.underlying51 (by unfold maxLen; omega) (keyOf36 _ hxk.out) (show RV (.bool true) = some (.held (.bool true), []) from rfl)
              have hrun4' : (Instr.mapUpdate 51 (.map (some mch)) (.agg (kc x).toArray) (.bool true)).run Try.prog wr = .ok () w4 := hrun4
              have hin4 : Hid (∀ kl, Maps.has (Dc.put (.string x) (.held (.bool true))) kl = inSet (c.take (i + 1)) kl) := fun kl => by
                rw [List.take_succ_eq_append_getElem hil, ← hx]
                exact inSet_put hC.out.isMap hin2.out x _ kl
              have H4 := hide hown4
              have G4 := hide hg4
              have hb4 : Hid (Below w.heap.size w w4) := hbel.out.grown G4.out hbel.out.size (fun j hj => by cases hj; omega)
              clear hown4 hg4 hrun4 hx
              go_wp2_with (first
                | (refine wpList_load_mid rfl 31 (.tmp 107) rfl g (off + i * 32) rfl (kc x) _ hr1.out Try.underlying31 rfl (by rw [kc_length, hxk.out]; exact info31) ?_))
              refine ⟨⟨i + 1, _, by omega, by go_num, ?_, ?_, ?_, H4.out, hin4.out, hb4.out⟩, by simp [intOf]; omega⟩
              · exact fun j hj => rangeAt_grownBy (hA.out j hj) G4.out (by intro e; cases e; omega)
              · exact hM.out.kept G4.out (by intro e; cases e; omega)
              · exact hO.out.kept G4.out (by intro e; cases e; omega)
            · have hie : i = c.length := by rw [← NC.out]; omega
              have hin3 : Hid (∀ kl, Maps.has Dc kl = inSet c kl) := fun kl => by have := hin2.out kl; rwa [hie, List.take_length] at this
              have hC3 : Hid (wr.ownsMap Try.prog 36 RV mch c.length Dc) := by rw [← hie]; exact hC.out
              clear hin2 hC hie
              go_wp2_with fail
              refine (newLedger_any _ _ _ _ _ _ _ _ _ _).mono ?_
              rintro e w5 ⟨lb, bb, ts, rfl, hbx, hlx, hb1, hl1, hG5⟩
              have HBX := hide hbx
              have HLX := hide hlx
              have G5 := hide hG5
              clear hbx hlx hG5
              go_wp2_with fail
              go_ret
              have hs5 := G5.out.size
              have hM5 := G5.out.below
              refine ⟨lb, bb, ga, mat, mov, mch, Dc, rfl, ⟨⟨⟨_, ts, _, by rw [← NB.out]; exact HBX.out⟩, fun j hj => rangeAt_below (hA.out j hj) hM5 (by have := hM.out.lt; omega), D, ownsMap_block hM.out (hM5.block _ hM.out.lt), hAt.out⟩, HLX.out, ⟨Dv, ownsMap_block hO.out (hM5.block _ hO.out.lt), hOv.out⟩, ?_⟩, ownsMap_block hC3.out (hM5.block _ hC3.out.lt), hin3.out, ?_, ?_, hbel.out.trans (hM5.mono hbel.out.size)⟩
              · have h1 := hM.out.lt
                have h2 := hC3.out.lt
                have h3 := (Array.getElem?_eq_some_iff.1 HBX.out).1
                have h4 := (Array.getElem?_eq_some_iff.1 HLX.out).1
                exact ⟨h4, h3, by omega, by omega, by omega, by omega⟩
              · have := hbel.out.size
                exact ⟨by omega, by omega, by omega, by omega, by omega, by omega⟩
              · have h2 := hC3.out.lt
                exact ⟨by omega, by omega, by omega, by omega, by omega⟩
end Go.Proofs.Qxb6627977a
