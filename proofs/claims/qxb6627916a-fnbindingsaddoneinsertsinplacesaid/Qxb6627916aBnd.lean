import Derived.Test.Qxb6627916aSb
namespace Go.Proofs.Qxb6627916a
open Go.RowKit Go.Sort

/-- the engine's cells while it is held for reading -/
def engHeld (mb : Nat) : Array Value := #[.int .i32 0, .int .u32 0, .int .u32 0, .int .u32 0, .int .i32 1, .int .i32 0, .pointer none, .map (some mb), .int .u64 0]

theorem setCell_size (w : World) (a : Addr) (v : Value) : (w.setCell a v).heap.size = w.heap.size := by simp [World.setCell]

theorem w01 : wrap32 (0 + 1) = 1 := by unfold wrap32; omega
theorem w10 : wrap32 (1 + -1) = 0 := by unfold wrap32; omega
theorem flatH_length : ∀ l : List ZB, (flatH l).length = l.length * 6
  | [] => rfl
  | x :: l => by
    show (encH x ++ flatH l).length = _
    rw [List.length_append, flatH_length l, List.length_cons]
    show 6 + _ = _
    omega
theorem flatH_get : ∀ (l : List ZB) (i c : Nat) (hi : i < l.length) (_hc : c < 6), (flatH l)[i * 6 + c]? = (encH l[i])[c]?
  | [], i, c, hi, _ => by simp at hi
  | x :: l, 0, c, _, hc => by
    show (encH x ++ flatH l)[0 * 6 + c]? = _
    rw [List.getElem?_append_left (by show _ < 6; omega)]
    simp
  | x :: l, i + 1, c, hi, hc => by
    show (encH x ++ flatH l)[(i + 1) * 6 + c]? = _
    rw [List.getElem?_append_right (by show 6 ≤ _; omega), show (i + 1) * 6 + c - (encH x).length = i * 6 + c by show (i + 1) * 6 + c - 6 = _; omega]
    simpa using flatH_get l i c (by simpa using hi) hc
/-- the six cells of holding i -/
def AtH (w : World) (g i : Nat) (x : ZB) : Prop :=
  w.cell? ⟨g, i * 6, none⟩ = some (.string x.1) ∧ w.cell? ⟨g, i * 6 + 1, none⟩ = some (.string x.2.1) ∧ w.cell? ⟨g, i * 6 + 2, none⟩ = some (.string x.2.2.1) ∧ w.cell? ⟨g, i * 6 + 3, none⟩ = some (.string x.2.2.2) ∧
  w.cell? ⟨g, i * 6 + 4, none⟩ = some (.map none) ∧ w.cell? ⟨g, i * 6 + 5, none⟩ = some (.map none)
theorem atH_of {w : World} {base g m cap : Nat} {l : List ZB} (h : w.ownsRow base 65 6 (.slice (some ⟨g, 0, none⟩) m cap) m (flatH l)) (hm : m = l.length) (i : Nat) (hi : i < l.length) : AtH w g i l[i] := by
  have f := fun c (hc : c < 6) => (h.cellAt (i * 6 + c) (by rw [hm]; omega)).trans (flatH_get l i c hi hc)
  exact ⟨f 0 (by omega), f 1 (by omega), f 2 (by omega), f 3 (by omega), f 4 (by omega), f 5 (by omega)⟩
theorem AtH.below {w w' : World} {g i : Nat} {x : ZB} (h : AtH w g i x) (hb : Below w.heap.size w w') (hg : g < w.heap.size) : AtH w' g i x := by
  obtain ⟨h0, h1, h2, h3, h4, h5⟩ := h
  exact ⟨(hb.cell (p := ⟨g, _, none⟩) hg).trans h0, (hb.cell (p := ⟨g, _, none⟩) hg).trans h1, (hb.cell (p := ⟨g, _, none⟩) hg).trans h2, (hb.cell (p := ⟨g, _, none⟩) hg).trans h3, (hb.cell (p := ⟨g, _, none⟩) hg).trans h4, (hb.cell (p := ⟨g, _, none⟩) hg).trans h5⟩
theorem has_all {w : World} {base eb mb : Nat} {l : List ZB} {D : DataW Value} (h : Eng w base eb mb l D) : l.filter (fun x => !Maps.has D (keyZ x)) = [] := by
  rw [List.filter_eq_nil_iff]
  intro x hx
  have := h.has x.1.data.toList
  have hm : x ∈ grp l x.1.data.toList := List.mem_filter.2 ⟨hx, by simp⟩
  rw [show keyZ x = .string x.1.data.toList from rfl, this]
  cases hg : grp l x.1.data.toList with
  | nil => rw [hg] at hm; cases hm
  | cons a b => simp
theorem invK9 (key : Value) (kl : Lit) (h : keyOf Try.prog 9 key = some kl) : ∃ x : ByteArray, key = .string x := by
  obtain ⟨s, hs, _⟩ := WideMaps.string_of_keyOf Try.underlying9 h
  exact ⟨s, hs⟩
theorem invVV (v : Value) (y : DataW Value × List MemPlace) (_h : RV v = some y) : ∃ c : Value, v = (fun v : Value => v) c := ⟨v, rfl⟩

theorem ownsRow_lower {w : World} {base base' : Nat} {e : TypeId} {size : Nat} {v : Value} {n : Nat} {xs : List Value} (h : w.ownsRow base e size v n xs) (hb : base' ≤ base) : w.ownsRow base' e size v n xs := by
  obtain ⟨h1, h2⟩ := h
  refine ⟨h1, ?_⟩
  rcases h2 with h2 | ⟨g, cap, cur, hv, hg, r⟩
  · exact .inl h2
  · exact .inr ⟨g, cap, cur, hv, Nat.le_trans hb hg, r⟩
theorem filter_two {α : Type} (p q : α → Bool) (h : ∀ x, p x = true → q x = false) : ∀ l : List α, (l.filter p ++ l.filter q).Perm (l.filter fun x => p x || q x)
  | [] => List.Perm.refl _
  | x :: l => by
    have ih := filter_two p q h l
    cases hp : p x with
    | true =>
      have hq := h x hp
      simp only [List.filter_cons, hp, hq, Bool.true_or, if_true, List.cons_append]
      exact ih.cons x
    | false =>
      cases hq : q x with
      | true =>
        simp only [List.filter_cons, hp, hq, Bool.false_or, if_true]
        exact List.perm_middle.trans (ih.cons x)
      | false =>
        simp only [List.filter_cons, hp, hq, Bool.false_or]
        exact ih
theorem filter_step {left : Lit → Bool} {k : List UInt8} (hk : left (.string k) = true) (l : List ZB) :
    (l.filter (fun x => !left (keyZ x)) ++ grp l k).Perm (l.filter fun x => !(left (keyZ x) && !(keyZ x).sameKey (.string k))) := by
  have h := filter_two (fun x : ZB => !left (keyZ x)) (fun x : ZB => x.1.data.toList == k) (fun x hx => by
    cases e : x.1.data.toList == k with
    | false => rfl
    | true =>
      have e' : x.1.data.toList = k := by simpa using e
      rw [show keyZ x = .string x.1.data.toList from rfl, e', hk] at hx
      cases hx) l
  refine h.trans ?_
  rw [List.filter_congr (fun x _ => ?_)]
  show (!left (keyZ x) || x.1.data.toList == k) = !(left (keyZ x) && !(x.1.data.toList == k))
  cases left (keyZ x) <;> cases (x.1.data.toList == k) <;> rfl
theorem mergeSort_perm_eq {l m : List ZB} (h : l.Perm m) : l.mergeSort leZ = m.mergeSort leZ := by
  refine List.Perm.eq_of_pairwise (le := fun a b => leZ a b = true) (fun a b _ _ h1 h2 => ?_) (List.pairwise_mergeSort leZ_trans leZ_total l) (List.pairwise_mergeSort leZ_trans leZ_total m) ((List.mergeSort_perm l leZ).trans (h.trans (List.mergeSort_perm m leZ).symm))
  rw [leZ_iff] at h1 h2
  have := cmpZ_ord.anti a b
  exact cmpZ_zero (by omega)

set_option maxRecDepth 100000 in
set_option maxHeartbeats 3200000 in
theorem bindings_any (eb mb base : Nat) (l : List ZB) (D : DataW Value) (w : World) (h : Eng w base eb mb l D) (hok : ∀ x ∈ l, okZ x) (hlen : l.length ≤ 4097) :
    Calls Try.prog 10 #[.pointer (some ⟨eb, 0, none⟩)] w fun e w' => ∃ v, e = .returned v ∧ w'.ownsRow w.heap.size 33 4 v l.length (flatZ (l.mergeSort leZ)) ∧ Below w.heap.size w w' := by
  have c0 : w.cell? ⟨eb, 0, none⟩ = some (.int .i32 0) := by simp [World.cell?, h.cells, engCells]
  have c2 : w.cell? ⟨eb, 0 + 2, none⟩ = some (.int .u32 0) := by simp [World.cell?, h.cells, engCells]
  have c3 : w.cell? ⟨eb, 0 + 3, none⟩ = some (.int .u32 0) := by simp [World.cell?, h.cells, engCells]
  have c4 : w.cell? ⟨eb, 0 + 4, none⟩ = some (.int .i32 0) := by simp [World.cell?, h.cells, engCells]
  have c7 : w.cell? ⟨eb, 7, none⟩ = some (.map (some mb)) := by simp [World.cell?, h.cells, engCells]
  have z4 : w.frozen? ⟨eb, 0 + 4, none⟩ = false := by simp [World.frozen?, h.cells]
  have H := hide h
  have HK := hide hok
  have hlt := h.lt
  have hlm := h.owns.lt
  have hne := h.ne
  -- the world while the lock is held
  obtain ⟨w1, hw1⟩ : ∃ w1, w1 = w.setCell ⟨eb, 4, none⟩ (.int .i32 1) := ⟨_, rfl⟩
  have hs1 : w1.heap.size = w.heap.size := by rw [hw1]; exact setCell_size _ _ _
  have hother : ∀ k, k ≠ eb → w1.heap[k]? = w.heap[k]? := fun k hk => by rw [hw1]; exact Below.heap_setCell _ _ _ _ hk
  have heng1 : w1.heap[eb]? = some (.cells (engHeld mb) 58 (0, 0)) := by rw [hw1]; exact cells_set h.cells 4 _
  have hown1 : w1.ownsMap Try.prog 9 RV mb l.length D := by rw [hw1]; exact h.owns.setCell (a := ⟨eb, 4, none⟩) (Ne.symm hne) _
  have d7 : w1.cell? ⟨eb, 7, none⟩ = some (.map (some mb)) := by simp [World.cell?, heng1, engHeld]
  have HW1 := hide hw1
  have HO := hide hother
  have HE1 := hide heng1
  have HM1 := hide hown1
  have HS1 := hide hs1
  have hle1 : w.heap.size ≤ w1.heap.size := by omega
  have hge1 : w1.heap.size ≤ w.heap.size := by omega
  clear h hok hother heng1 hown1 hs1
  go_enter Try.func10, Try.ntmps10
  go_wp2_with fail
  refine (Go.RwLone.rlock_open rwRLib eb 0 0 _ _ _ c0 c3 c4 z4 (by rw [w01]; omega)).mono ?_
  rintro e w1' ⟨rfl, hw1'⟩
  obtain rfl : w1' = w1 := by rw [hw1', hw1, w01]
  clear hw1' hw1 c0 c2 c3 c4 c7 z4
  go_wp2_with (first | (at_range; refine wpList_range_own _ rfl _ 55 rfl 9 59 law9 Try.underlying55 RV mb l.length D rfl HM1.out ?_; intro w2 hrg0 hg0 hs0))
  go_frame
  have HR0 := hide hrg0
  have HG0 := hide hg0
  have hs2 : w1'.heap.size + 1 ≤ w2.heap.size := by omega
  clear hrg0 hg0 hs0
  go_loopw [3] (fun v wr => ∃ (left : Lit → Bool) (cnt : Nat) (ys : List ZB), wr.ranges Try.prog 9 RV mb w1'.heap.size l.length D left cnt ∧ wr.ownsRow (w1'.heap.size + 1) 33 4 v ys.length (flatZ ys) ∧ ys.Perm (l.filter fun x => !left (keyZ x)) ∧ w1'.heap.size + 1 ≤ wr.heap.size ∧ Below w1'.heap.size w1' wr) (fun _ wr => wr.rangeLeft mb w1'.heap.size)
  case atStart => exact ⟨_, _, [], HR0.out, ⟨rfl, .inl ⟨rfl, rfl⟩⟩, by rw [has_all H.out], hs2, ⟨HG0.out.os, HG0.out.tape, HG0.out.output, HG0.out.size, fun k hk => HG0.out.block k hk (by simp)⟩⟩
  case round =>
    clear HR0 HG0 hs2
    obtain ⟨left, cnt, ys, hrg, hrow, hperm, hsz, hB⟩ := hrel
    have HRG := hide hrg
    have HROW := hide hrow
    have HP := hide hperm
    have HB := hide hB
    clear hrg hrow hperm hB
    go_wp2_with (first | (at_next; refine wpList_next_ranges _ rfl _ rfl 9 law9 RV (fun s : ByteArray => Value.string s) (fun v : Value => v) invK9 invVV mb w1'.heap.size l.length D left cnt rfl HRG.out ?_ ?_))
    · intro _ hl0
      have HL0 := hide hl0
      clear hl0
      have heb : eb < w1'.heap.size := by omega
      have henr : wr.heap[eb]? = some (.cells (engHeld mb) 58 (0, 0)) := (HB.out.block eb heb).trans HE1.out
      have c0 : wr.cell? ⟨eb, 0, none⟩ = some (.int .i32 0) := by simp [World.cell?, henr, engHeld]
      have c2 : wr.cell? ⟨eb, 0 + 2, none⟩ = some (.int .u32 0) := by simp [World.cell?, henr, engHeld]
      have c4 : wr.cell? ⟨eb, 0 + 4, none⟩ = some (.int .i32 1) := by simp [World.cell?, henr, engHeld]
      have z4 : wr.frozen? ⟨eb, 0 + 4, none⟩ = false := by simp [World.frozen?, henr]
      have HER := hide henr
      clear henr
      go_wp2_with fail
      refine (Go.RwLone.runlock_held rwRLib eb 0 1 _ _ _ c0 c2 c4 z4 (by rw [w10]; omega)).mono ?_
      rintro e w3 ⟨rfl, hw3⟩
      clear c0 c2 c4 z4 d7
      rw [w10] at hw3
      have HE3 := hide (show w3.heap[eb]? = some (.cells (engCells mb) 58 (0, 0)) by rw [hw3]; exact cells_set HER.out 4 _)
      have HO3 := hide (show ∀ k, k ≠ eb → w3.heap[k]? = wr.heap[k]? from fun k hk => by rw [hw3]; exact Below.heap_setCell _ _ _ _ hk)
      have HR3 := hide (show w3.ownsRow (w1'.heap.size + 1) 33 4 u3 ys.length (flatZ ys) by rw [hw3]; exact ownsRow_setCell_below HROW.out (by show eb < _; omega) _)
      have hs3 : w3.heap.size = wr.heap.size := by rw [hw3]; exact setCell_size _ _ _
      have hos3 : w3.os = wr.os ∧ w3.tape = wr.tape ∧ w3.output = wr.output := by rw [hw3]; exact ⟨rfl, rfl, rfl⟩
      have hyl : ys.Perm l := HP.out.trans (by rw [List.filter_eq_self.2 (fun x _ => by rw [HL0.out]; rfl)])
      have HY := hide hyl
      have hw0 := HW1.out
      have HB3 := hide (show Below w.heap.size w w3 from ⟨hos3.1.trans (HB.out.os.trans (by rw [hw0]; rfl)), hos3.2.1.trans (HB.out.tape.trans (by rw [hw0]; rfl)), hos3.2.2.trans (HB.out.output.trans (by rw [hw0]; rfl)), by omega, fun k hk => by
        by_cases e : k = eb
        · subst e; rw [HE3.out, H.out.cells]
        · rw [HO3.out k e, HB.out.block k (by omega), HO.out k e]⟩)
      have hsz3 : w.heap.size + 1 ≤ w3.heap.size := by omega
      have hyle : ys.length ≤ 4097 := by rw [hyl.length_eq]; exact hlen
      clear hw3 hs3 hos3 hyl hw0
      obtain ⟨hl, hcase⟩ := HR3.out
      rcases hcase with ⟨hu, h0⟩ | ⟨g, cap, cur, hu, hg, hh, h1, h2, h3, h4⟩
      · subst hu
        clear hl
        go_wp2_with fail
        refine (sortNil_any _ _).mono ?_
        rintro e w4 ⟨rfl, rfl⟩
        go_wp2_with fail
        go_ret
        obtain rfl : ys = [] := List.length_eq_zero_iff.1 h0
        obtain rfl : l = [] := HY.out.symm.eq_nil
        exact ⟨_, rfl, ⟨by rw [List.mergeSort_nil]; rfl, .inl ⟨rfl, rfl⟩⟩, HB3.out⟩
      · subst hu
        have HR4 := hide HR3.out
        clear hl hh h1 h2 h3 h4
        go_wp2_with fail
        refine (sortB_any _ g cap ys _ HR4.out (by omega)).mono ?_
        rintro e w4 ⟨rfl, hr4, hg4⟩
        have HR5 := hide hr4
        have HG5 := hide hg4
        clear hr4 hg4
        go_wp2_with fail
        go_ret
        have hle := HY.out.length_eq
        have hms := mergeSort_perm_eq HY.out
        have hr5 := HR5.out
        rw [hms, hle] at hr5
        refine ⟨_, rfl, ?_, ?_⟩
        · rw [hle]; exact ownsRow_lower hr5 (by omega)
        · exact HB3.out.grown HG5.out (by omega) (fun k hk => by cases hk; omega)
    · intro x c kl dd pp w' cnt' hkey hlk hv hat hrg' hlt' hgr hsz' hen
      obtain ⟨s, hs, hkl, _⟩ := WideMaps.string_of_keyOf Try.underlying9 hkey
      obtain rfl : s = x := by cases hs; rfl
      subst hkl
      clear hs
      have hAt : At D s.data.toList c := by
        have := hat (.held (.slice none 0 0))
        simp only [RV, Option.some.injEq, Prod.mk.injEq] at hv
        rw [← hv.1] at this
        exact this
      have hhas := Maps.has_true_of_atKey hat
      rw [H.out.has] at hhas
      obtain ⟨c', hc', hrowc, hn1, hn2⟩ := H.out.row s.data.toList
      obtain rfl : c' = c := by have := hc'.symm.trans hAt; cases this; rfl
      obtain ⟨hl, hcase⟩ := hrowc
      rcases hcase with ⟨hu, h0⟩ | ⟨g, cap, cur, hu, hg, hh, h1, h2, h3, h4⟩
      · rw [List.length_eq_zero_iff.1 h0] at hhas
        cases hhas
      subst hu
      have hgl : g < w.heap.size := (Array.getElem?_eq_some_iff.1 hh).1
      have hgne : g ≠ eb := fun e => hn1 (by rw [e]; rfl)
      have hB' : Below w1'.heap.size w1' w' := HB.out.trans ⟨hgr.os, hgr.tape, hgr.output, by omega, fun k hk => hgr.block k (by omega) (by intro e; simp at e; omega)⟩
      have hrow' : w'.ownsRow (w1'.heap.size + 1) 33 4 u3 ys.length (flatZ ys) := HROW.out.kept hgr (by
        cases e : u3.ownBlock with
        | none => exact .inl rfl
        | some k => right; intro e'; cases e'; have := (HROW.out.lt _ e).1; omega)
      have hHc : ∀ i (hi : i < (grp l s.data.toList).length), AtH w1' g i (grp l s.data.toList)[i] := fun i hi => by
        have a1 : w1'.ownsRow base 65 6 (.slice (some ⟨g, 0, none⟩) (grp l s.data.toList).length cap) (grp l s.data.toList).length (flatH (grp l s.data.toList)) := ⟨hl, .inr ⟨g, cap, cur, rfl, hg, (HO.out g hgne).trans hh, h1, h2, h3, h4⟩⟩
        exact atH_of a1 rfl i hi
      have hGle := grp_len l s.data.toList
      have HLK := hide hlk
      have HHAS := hide hhas
      clear hat hAt hc' hv hhas hl h3 h4 hh hn1 hn2 hlk hkey HROW HB hgr h2 h1
      obtain ⟨G, hG⟩ : ∃ G, grp l s.data.toList = G := ⟨_, rfl⟩
      rw [hG] at hen hHc hGle HHAS ⊢
      have HG := hide hG
      have HHc := hide hHc
      have HRG' := hide hrg'
      have HB' := hide hB'
      have HROW' := hide hrow'
      clear hG hHc hrg' hB' hrow'
      have hgw' : g < w1'.heap.size := by omega
      have hw's : w1'.heap.size + 1 ≤ w'.heap.size := by omega
      go_wp2_with fail
      go_loopw [3, 23] (fun v j wr => ∃ (k : Nat), j = .int .i64 k ∧ k ≤ G.length ∧ wr.ranges Try.prog 9 RV mb w1'.heap.size l.length D (fun z => left z && !z.sameKey (.string s.data.toList)) cnt' ∧ wr.ownsRow (w1'.heap.size + 1) 33 4 v (ys.length + k) (flatZ (ys ++ G.take k)) ∧ w1'.heap.size + 1 ≤ wr.heap.size ∧ Below w1'.heap.size w1' wr) (fun _ j _ => G.length - (intOf j).toNat)
      case atStart => exact ⟨0, rfl, Nat.zero_le _, HRG'.out, by simpa using HROW'.out, hw's, HB'.out⟩
      case round =>
        clear HRG' HROW' HB' hw's
        obtain ⟨k, rfl, hk, hrg, hrow, hsz2, hB⟩ := hrel
        have HRG2 := hide hrg
        have HROW2 := hide hrow
        have HB2 := hide hB
        clear hrg hrow hB
        by_cases hkl : k < G.length
        · obtain ⟨b0, b1, b2, b3, b4, b5⟩ := (HHc.out k hkl).below HB2.out hgw'
          obtain ⟨i0, hi0, hz0, hz1, hz2⟩ := info_parts info33
          have HNB := hide (show ((wr.alloc (.cells #[.string G[k].1, .string G[k].2.1, .string G[k].2.2.1, .string G[k].2.2.2, .map none, .map none] 65)).alloc (.cells #[.string G[k].1, .string G[k].2.1, .string G[k].2.2.1, .string G[k].2.2.2] 33)).heap[wr.heap.size + 1]? = some (.cells #[.string G[k].1, .string G[k].2.1, .string G[k].2.2.1, .string G[k].2.2.2] 33 (0, 0)) by
            have := heap_new (wr.alloc (.cells #[.string G[k].1, .string G[k].2.1, .string G[k].2.2.1, .string G[k].2.2.2, .map none, .map none] 65)) (.cells #[.string G[k].1, .string G[k].2.1, .string G[k].2.2.1, .string G[k].2.2.2] 33)
            rw [show (wr.alloc (.cells #[.string G[k].1, .string G[k].2.1, .string G[k].2.2.1, .string G[k].2.2.2, .map none, .map none] 65)).heap.size = wr.heap.size + 1 by simp] at this
            exact this)
          have hylen : ys.length ≤ 4097 := by rw [HP.out.length_eq]; exact Nat.le_trans (List.length_filter_le _ _) hlen
          go_wp2_with (at_builtin; refine wpList_append_lies _ rfl _ _ _ rfl (w1'.heap.size + 1) 33 i0 _ 4 64 Try.underlying29 hi0 hz0 hz1 hz2 rfl (by omega) u3 (ys.length + k) _ rfl ((HROW2.out.alloc _).alloc _) ⟨wr.heap.size + 1, 0, none⟩ 1 1 (enc4 G[k]) rfl rfl (World.news_of_block HNB.out) (by simp [enc4, Value.oneCell']) (by omega) (by unfold maxLen; omega) (by omega) (by simp; omega) (wr.heap.size + 2) (by simp) ?_; intro g3 cap3 w3 hr3 hg3 hat3 hlt3)
          have hlow : ∀ b, b < w1'.heap.size + 1 → some b = u3.ownBlock → False := fun b hb e => by have := (HROW2.out.lt _ e.symm).1; omega
          have hr4 : w3.ownsRow (w1'.heap.size + 1) 33 4 (.slice (some ⟨g3, 0, none⟩) (ys.length + k + 1) cap3) (ys.length + (k + 1)) (flatZ (ys ++ G.take (k + 1))) := by
            rw [List.take_succ_eq_append_getElem hkl, ← List.append_assoc, flatZ_append]
            rw [show ys.length + (k + 1) = ys.length + k + 1 by omega]
            simpa [flatZ] using hr3
          exact ⟨⟨k + 1, by go_num, by omega, ((HRG2.out.alloc _).alloc _).kept hg3 (fun e => hlow mb (by omega) e) (fun e => hlow w1'.heap.size (by omega) e), hr4, by have := hg3.size; simp at this; omega,
            ((HB2.out.alloc (by omega) _).alloc (by simp; omega) _).grown hg3 (by simp; omega) (fun j hj => by have := (HROW2.out.lt _ hj).1; omega)⟩, by simp [intOf]; omega⟩
        · go_wp2_with fail
          refine ⟨⟨_, cnt', ys ++ G, HRG2.out, ?_, ?_, hsz2, HB2.out⟩, ?_⟩
          · have := HROW2.out
            rw [show k = G.length by omega, List.take_length] at this
            rwa [List.length_append]
          · have hG := HG.out
            refine (HP.out.append (List.Perm.refl G)).trans ?_
            rw [← hG]
            exact filter_step HLK.out l
          · rw [HRG2.out.left_eq, HRG.out.left_eq]; exact hlt'
end Go.Proofs.Qxb6627916a
