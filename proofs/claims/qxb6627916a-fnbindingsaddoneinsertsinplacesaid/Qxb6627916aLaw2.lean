import Derived.Test.Qxb6627916aIns
namespace Go.Proofs.Qxb6627916a
open Go.RowKit Go.Sort

/-- what 'zzClone' hands back -/
def Cloned (w : World) (q : Option Addr) (n : Nat) (l : List ZB) : Prop :=
  (q = none ∧ n = 0 ∧ l = []) ∨ ∃ B, q = some ⟨B, 0, none⟩ ∧ n = l.length ∧ RowIs w B 35 l
theorem Cloned.len {w : World} {q : Option Addr} {n : Nat} {l : List ZB} (h : Cloned w q n l) : n = l.length := by
  rcases h with ⟨_, rfl, rfl⟩ | ⟨B, _, h, _⟩
  · rfl
  · exact h
theorem Cloned.below {w w' : World} {q : Option Addr} {n : Nat} {l : List ZB} (h : Cloned w q n l) (hb : Below w.heap.size w w') : Cloned w' q n l := by
  rcases h with h | ⟨B, h1, h2, h3⟩
  · exact .inl h
  · exact .inr ⟨B, h1, h2, h3.below hb h3.lt⟩
theorem prem_cl {w : World} {q : Option Addr} {n : Nat} {l : List ZB} (h : Cloned w q n l) (hok : ∀ x ∈ l, okZ x) (h4 : n ≤ 4096) : Calls Try.prog 8 #[.slice q n n] w fun e w' => Prem w w' n l e := by
  rcases h with ⟨rfl, rfl, rfl⟩ | ⟨B, rfl, h2, h3⟩
  · exact prem_nil w
  · exact prem_any B 0 n n l w h2 h3.rowZ hok h4 (Nat.le_refl _) (by unfold maxLen; omega) h3.lt
theorem build_cl {w : World} {q : Option Addr} {n : Nat} {l : List ZB} (h : Cloned w q n l) (hok : ∀ x ∈ l, okZ x) (h4 : n ≤ 4096) :
    Calls Try.prog 9 #[.slice q n n] w fun e w' => ∃ D, e = .returned (.pointer (some ⟨w.heap.size + 1, 0, none⟩)) ∧ Eng w' w.heap.size (w.heap.size + 1) w.heap.size l D ∧ Below w.heap.size w w' := by
  rcases h with ⟨rfl, rfl, rfl⟩ | ⟨B, rfl, h2, h3⟩
  · exact build_nil w
  · exact build_any B 0 n n l w h2 h3.rowZ hok h4 h3.lt

/-- a slice of bindings that reads as S -/
def Reads (w : World) (p : Option Addr) (S : List ZB) : Prop := 0 < S.length → ∃ g, p = some ⟨g, 0, none⟩ ∧ g < w.heap.size ∧ ∀ i (hi : i < S.length), AtZ w g 0 i S[i]
theorem Reads.below {w w' : World} {p : Option Addr} {S : List ZB} (h : Reads w p S) (hb : Below w.heap.size w w') : Reads w' p S := fun h0 => by
  obtain ⟨g, hp, hg, hr⟩ := h h0
  have := hb.size
  exact ⟨g, hp, by omega, RowZ.below (l := S) hr hb hg⟩
theorem reads_of {w : World} {base n : Nat} {v : Value} {S : List ZB} (h : w.ownsRow base 33 4 v n (flatZ S)) (hn : n = S.length) : ∃ p c, v = .slice p n c ∧ Reads w p S := by
  rcases h.2 with ⟨rfl, h0⟩ | ⟨g, cap, cur, rfl, _⟩
  · subst h0
    exact ⟨none, 0, rfl, fun h => by omega⟩
  · exact ⟨_, cap, rfl, fun _ => ⟨g, rfl, (h.lt g rfl).2, fun i hi => rowB_at h hn i hi⟩⟩

theorem neq33 (x : ZB) (W : World) : (binOp .neq 33 (.agg #[.string x.1, .string x.2.1, .string x.2.2.1, .string x.2.2.2]) (.agg #[.string x.1, .string x.2.1, .string x.2.2.1, .string x.2.2.2])).run Try.prog W = .ok (.bool false) W := by
  have u9 := Try.underlying9
  have a9 := Try.isAgg9
  have z9 := Try.sizeOf9
  have hS : Try.prog.underlying 33 = some (.struct (Try.prog.fieldsOf 33)) := by kernel_rfl
  have hp : Try.prog.stoodInHeld 33 = false := by kernel_rfl
  rw [run_neq_struct, show (10000 : Nat) = 9999 + 1 from rfl, run_equalIn_agg W 9999 33 _ _ hS hp]
  simp only [Program.fieldsOf, Try.underlying33]
  go_simp
theorem guard33 (x y : Operand) (xs ys : Array Value) (W : World) : (eqGuard .neq 33 x y (.agg xs) (.agg ys)).run Try.prog W = .ok () W := run_eqGuard_agg W .neq 33 x y xs ys (by kernel_rfl)

theorem box_at {W : World} {X : Nat} {x : ZB} (h : RowIs W X 35 [x]) : W.cell? ⟨X, 0, none⟩ = some (.string x.1) ∧ W.cell? ⟨X, 1, none⟩ = some (.string x.2.1) ∧ W.cell? ⟨X, 2, none⟩ = some (.string x.2.2.1) ∧ W.cell? ⟨X, 3, none⟩ = some (.string x.2.2.2) := by
  have := h.rowZ 0 (by simp)
  simpa [AtZ] using this

theorem ownsRow_same {w w' : World} {base : Nat} {e : TypeId} {size : Nat} {v : Value} {n : Nat} {xs : List Value} (h : w.ownsRow base e size v n xs) (hb : ∀ g, v.ownBlock = some g → w'.heap[g]? = w.heap[g]?) : w'.ownsRow base e size v n xs := by
  obtain ⟨h1, h2⟩ := h
  refine ⟨h1, ?_⟩
  rcases h2 with h2 | ⟨g, cap, cur, hv, hg, hh, r⟩
  · exact .inl h2
  · exact .inr ⟨g, cap, cur, hv, hg, (hb g (by rw [hv]; rfl)).trans hh, r⟩
/-- 'ZZaddHolding', and what it leaves alone -/
theorem addEng2_any (eb mb base : Nat) (x : ZB) (l : List ZB) (D : DataW Value) (w : World) (h : Eng w base eb mb l D) (hx : okZ x) (hbase : base ≤ w.heap.size) (hmb : base ≤ mb) (hl : l.length + 1 ≤ 8192) :
    Calls Try.prog 15 #[.pointer (some ⟨eb, 0, none⟩), aggZ x] w fun e w' => e = .returned (.tuple #[]) ∧ (∃ D', Eng w' base eb mb (l ++ [x]) D') ∧ Below base w w' ∧ ∀ k, k < w.heap.size → k ≠ mb → (∀ u, At D x.1.data.toList u → u.ownBlock ≠ some k) → w'.heap[k]? = w.heap[k]? := by
  obtain ⟨v, hv, hr, hn1, hn2⟩ := h.row x.1.data.toList
  have hlen := grp_len l x.1.data.toList
  have hc : w.cell? ⟨eb, 7, none⟩ = some (.map (some mb)) := by simp [World.cell?, h.cells, engCells]
  refine (addHolding_any eb mb base x l.length (grp l x.1.data.toList).length D v (flatH (grp l x.1.data.toList)) w hx hc h.owns (by unfold maxLen; omega) hv hr hbase (by omega) hn1 hn2 h.ne).mono ?_
  rintro e w' ⟨rfl, g, cap, ho, hr', hg, _, hos, htp, hout, hsz, hblk⟩
  refine ⟨rfl, ⟨_, h.add x v hv g cap ho hr' hg hblk⟩, ⟨hos, htp, hout, hsz, fun k hk => hblk k (by omega) (by omega) (fun e => ?_)⟩, fun k hk hm hu => hblk k hk hm (hu v hv)⟩
  have := (hr.lt _ e).1
  omega

/-- where the earlier answer and the new binding lie in the later answer -/
theorem ins_rows {w : World} {g2 : Nat} {l : List ZB} {x : ZB} {k : Nat} (hx : ∀ y ∈ l, cmpZ y x ≠ 0) (hk : Qxb6627916a.below l x = k)
    (hr : ∀ i (hi : i < ((l ++ [x]).mergeSort leZ).length), AtZ w g2 0 i ((l ++ [x]).mergeSort leZ)[i]) :
    (∀ i (hi : i < (l.mergeSort leZ).length), i < k → AtZ w g2 0 i (l.mergeSort leZ)[i]) ∧ AtZ w g2 0 k x ∧ (∀ i (hi : i < (l.mergeSort leZ).length), k ≤ i → AtZ w g2 0 (i + 1) (l.mergeSort leZ)[i]) := by
  have hl1 : (l.mergeSort leZ).length = l.length := List.length_mergeSort _
  have hl2 : ((l ++ [x]).mergeSort leZ).length = l.length + 1 := by rw [List.length_mergeSort]; simp
  have hkl := below_le l x
  subst hk
  refine ⟨fun i hi hik => ?_, ?_, fun i hi hik => ?_⟩
  · have e := ins_before hx hik
    rw [List.getElem?_eq_getElem (by omega), List.getElem?_eq_getElem hi] at e
    have := hr i (by omega)
    rwa [Option.some.inj e] at this
  · have e := ins_at hx
    rw [List.getElem?_eq_getElem (by omega)] at e
    have := hr (Qxb6627916a.below l x) (by omega)
    rwa [Option.some.inj e] at this
  · have e := ins_after hx hik
    rw [List.getElem?_eq_getElem (by omega), List.getElem?_eq_getElem hi] at e
    have := hr (i + 1) (by omega)
    rwa [Option.some.inj e] at this
theorem AtZ.below {w w' : World} {g i : Nat} {x : ZB} (h : AtZ w g 0 i x) (hb : Below w.heap.size w w') (hg : g < w.heap.size) : AtZ w' g 0 i x := by
  obtain ⟨h0, h1, h2, h3⟩ := h
  exact ⟨(hb.cell (p := ⟨g, _, none⟩) hg).trans h0, (hb.cell (p := ⟨g, _, none⟩) hg).trans h1, (hb.cell (p := ⟨g, _, none⟩) hg).trans h2, (hb.cell (p := ⟨g, _, none⟩) hg).trans h3⟩

set_option maxRecDepth 100000 in
set_option maxHeartbeats 6400000 in
theorem law2_core (p : Option Addr) (n cap : Nat) (l : List ZB) (x : ZB) (w : World) (hn : n = l.length) (hok : ∀ y ∈ l, okZ y) (hx : okZ x)
    (hby : ∀ W, Below w.heap.size w W → Calls Try.prog 12 #[.slice p n cap, aggZ x] W fun e w' => IsB e ∧ Below W.heap.size W w')
    (hsz : ∀ W, Below w.heap.size w W → Calls Try.prog 6 #[.slice p n cap] W fun e w' => IsB e ∧ ∃ m, w' = W.drewN m)
    (hcl : n ≤ 4096 → ∀ W, Below w.heap.size w W → Calls Try.prog 7 #[.slice p n cap] W fun e w' => ∃ q, e = .returned (.slice q n n) ∧ Below W.heap.size W w' ∧ Cloned w' q n l) :
    Calls Try.prog 4 #[.slice p n cap, aggZ x] w fun e w' => e = .returned (.bool true) ∧ Below w.heap.size w w' := by
  have HBY := hide hby
  have HSZ := hide hsz
  have HCL := hide hcl
  have HN := hide hn
  have HK := hide hok
  have HX := hide hx
  obtain ⟨xp, xr, xm, xs⟩ := x
  simp only [aggZ] at HBY ⊢
  clear hby hsz hcl hn hok hx
  -- the box of x
  obtain ⟨w0, hw0⟩ : ∃ w0, w0 = w.alloc (.cells #[.string xp, .string xr, .string xm, .string xs] 35) := ⟨_, rfl⟩
  have HX0 := hide (show RowIs w0 w.heap.size 35 [(xp, xr, xm, xs)] by rw [hw0]; exact heap_new w _)
  have HB0 := hide (show Below w.heap.size w w0 by rw [hw0]; exact below_alloc w _)
  have hs0 : w.heap.size < w0.heap.size := HX0.out.lt
  go_enter Try.func4, Try.ntmps4
  go_wp2_with fail
  rw [← hw0]
  clear hw0
  refine (HBY.out w0 HB0.out).mono ?_
  rintro e w1 ⟨⟨r, rfl⟩, hB1⟩
  have HX1 := hide (HX0.out.below hB1 hs0)
  have HB1 := hide (HB0.out.trans (hB1.mono (by omega)))
  have hs1 : w.heap.size < w1.heap.size := HX1.out.lt
  clear hB1 HB0 HX0 HBY
  cases r
  · go_wp2_with fail
    go_ret
    exact ⟨rfl, HB1.out⟩
  by_cases h4 : n ≤ 4096
  · go_wp2_with fail
    refine (HSZ.out w1 HB1.out).mono ?_
    rintro e w2 ⟨⟨r, rfl⟩, m, hw2⟩
    have HX2 := hide (show RowIs w2 w.heap.size 35 [(xp, xr, xm, xs)] by rw [hw2]; exact HX1.out)
    have HB2 := hide (show Below w.heap.size w w2 by rw [hw2]; exact below_grow HB1.out (by omega) m #[])
    have hs2 : w.heap.size < w2.heap.size := HX2.out.lt
    clear hw2 HX1 HB1 HSZ hs1
    cases r
    · go_wp2_with fail
      go_ret
      exact ⟨rfl, HB2.out⟩
    obtain ⟨y0, y1, y2, y3⟩ := box_at HX2.out
    go_wp2_with fail
    · go_ret; exact ⟨rfl, HB2.out⟩
    · clear y0 y1 y2 y3
      refine (zzValid_any (xp, xr, xm, xs) _).mono ?_
      rintro e w3 ⟨rfl, hG⟩
      have HX3 := hide (HX2.out.below hG.below hs2)
      have HB3 := hide (HB2.out.trans (hG.below.mono (by omega)))
      have hs3 : w.heap.size < w3.heap.size := HX3.out.lt
      clear hG HX2 HB2 hs2
      generalize validZ (xp, xr, xm, xs) = vv
      cases vv
      · go_wp2_with fail
        go_ret
        exact ⟨rfl, HB3.out⟩
      go_wp2_with fail
      refine (HCL.out h4 w3 HB3.out).mono ?_
      rintro e w4 ⟨q, rfl, hB4, hcl⟩
      have HX4 := hide (HX3.out.below hB4 hs3)
      have HB4 := hide (HB3.out.trans (hB4.mono (by omega)))
      have hs4 : w.heap.size < w4.heap.size := HX4.out.lt
      have HC4 := hide hcl
      clear hB4 hcl HX3 HB3 hs3 HCL
      go_wp2_with fail
      refine (prem_cl HC4.out HK.out h4).mono ?_
      rintro e w5 ⟨hB5, hor⟩
      have HX5 := hide (HX4.out.below hB5 hs4)
      have HB5 := hide (HB4.out.trans (hB5.mono (by omega)))
      have HC5 := hide (HC4.out.below hB5)
      have hs5 : w.heap.size < w5.heap.size := HX5.out.lt
      clear hB5 HC4 HX4 HB4 hs4
      rcases hor with rfl | ⟨g, out, rfl, _, hRo, hP, hSt⟩
      · go_wp2_with fail
        go_ret
        exact ⟨rfl, HB5.out⟩
      have HRo := hide hRo
      have HS := hide (sorted_eq hP hSt)
      have HLO := hide (show out.length = n by rw [hP.length_eq]; exact HN.out.symm)
      clear hRo hP hSt
      go_wp2_with fail
      go_loopw [7, 8] (fun k i wr => ∃ j : Nat, j ≤ n ∧ i = .int .i64 j ∧ k = .int .i64 (below (l.take j) (xp, xr, xm, xs) : Nat) ∧ (∀ y ∈ l.take j, cmpZ y (xp, xr, xm, xs) ≠ 0) ∧ Below w5.heap.size w5 wr) (fun _ i _ => n - (intOf i).toNat)
      case atStart => exact ⟨0, Nat.zero_le _, rfl, rfl, by simp, Below.refl _ _⟩
      case round =>
        obtain ⟨j, hj, rfl, rfl, hne, hB⟩ := hrel
        have HNE := hide hne
        have HB := hide hB
        have hsr := hB.size
        have hbl := below_le (l.take j) (xp, xr, xm, xs)
        have hbl2 : (l.take j).length ≤ j := List.length_take_le _ _
        clear hne hB
        by_cases hlt : j < n
        · rcases HC5.out with ⟨_, h0, _⟩ | ⟨B, rfl, hnl, hRB⟩
          · omega
          have hjl : j < l.length := by omega
          have HNL := hide hnl
          have hBr : B < wr.heap.size := by have := hRB.lt; omega
          have hXr : w.heap.size < wr.heap.size := by omega
          obtain ⟨y0, y1, y2, y3⟩ := (hRB.below HB.out hRB.lt).rowZ j hjl
          obtain ⟨x0, x1, x2, x3⟩ := box_at (HX5.out.below HB.out hs5)
          have X0 := cell_grown hXr x0
          have X1 := cell_grown hXr x1
          have X2 := cell_grown hXr x2
          have X3 := cell_grown hXr x3
          have Y0 := cell_grown hBr y0
          have Y1 := cell_grown hBr y1
          have Y2 := cell_grown hBr y2
          have Y3 := cell_grown hBr y3
          simp only [Nat.zero_add] at Y0 Y1 Y2 Y3
          clear x0 x1 x2 x3 y0 y1 y2 y3 hRB hnl
          have hcmp : ∀ W, Calls Try.prog 14 #[.agg #[.string l[j].1, .string l[j].2.1, .string l[j].2.2.1, .string l[j].2.2.2], .agg #[.string xp, .string xr, .string xm, .string xs]] W fun e w' => e = .returned (.int .i64 (cmpZ l[j] (xp, xr, xm, xs))) ∧ ∃ q os, w' = grow (W.drewN q) os :=
            fun W => zzCmp_any l[j] (xp, xr, xm, xs) W (HK.out _ (List.getElem_mem _)) HX.out
          have HC := hide hcmp
          have hmix := mixed
          have HSN := hide (show below (l.take (j + 1)) (xp, xr, xm, xs) = below (l.take j) (xp, xr, xm, xs) + if cmpZ l[j] (xp, xr, xm, xs) < 0 then 1 else 0 by rw [List.take_succ_eq_append_getElem hjl, below_snoc])
          have HNE2 := hide (show cmpZ l[j] (xp, xr, xm, xs) ≠ 0 → ∀ y ∈ l.take (j + 1), cmpZ y (xp, xr, xm, xs) ≠ 0 from fun h y hy => by
            rw [List.take_succ_eq_append_getElem hjl] at hy
            rcases List.mem_append.1 hy with hy | hy
            · exact HNE.out y hy
            · rw [List.mem_singleton.1 hy]; exact h)
          clear hcmp
          obtain ⟨kb, hkb⟩ : ∃ kb, below (l.take j) (xp, xr, xm, xs) = kb := ⟨_, rfl⟩
          obtain ⟨cz, hcz⟩ : ∃ cz, cmpZ l[j] (xp, xr, xm, xs) = cz := ⟨_, rfl⟩
          rw [hkb] at hbl HSN
          rw [hcz] at HSN HNE2 HC
          rw [hkb]
          clear hkb hcz
          go_wp2_with fail
          go_quiet_grown (first | (go_at_call 14; refine Calls.grown_of (HC.out _)))
          go_wp2
          · go_ret
            exact ⟨rfl, HB5.out.trans ((below_grow HB.out hsr _ _).mono (by omega))⟩
          · rename_i hz0 hz1
            exact ⟨⟨j + 1, by omega, by go_num, by rw [HSN.out, if_pos hz1]; go_num, HNE2.out (by simpa using hz0), below_grow HB.out hsr _ _⟩, by simp [intOf]; omega⟩
          · rename_i hz0 hz1
            exact ⟨⟨j + 1, by omega, by go_num, by rw [HSN.out, if_neg (by omega)]; go_num, HNE2.out (by simpa using hz0), below_grow HB.out hsr _ _⟩, by simp [intOf]; omega⟩
        · have hjl : l.take j = l := List.take_of_length_le (by have := HN.out; omega)
          have HNE3 := hide (show ∀ y ∈ l, cmpZ y (xp, xr, xm, xs) ≠ 0 by have := HNE.out; rwa [hjl] at this)
          rw [hjl] at hbl ⊢
          have hk : below l (xp, xr, xm, xs) ≤ n := by have := below_le l (xp, xr, xm, xs); have := HN.out; omega
          obtain ⟨k, hkk⟩ : ∃ k, below l (xp, xr, xm, xs) = k := ⟨_, rfl⟩
          rw [hkk] at hk ⊢
          have HKK := hide hkk
          clear hkk hbl hbl2 HNE hjl
          have HC6 := hide (HC5.out.below HB.out)
          have HX6 := hide (HX5.out.below HB.out hs5)
          have HR6 := hide (HRo.out.below HB.out HRo.out.lt)
          have HB6 := hide (HB5.out.trans (HB.out.mono (by omega)))
          clear HB5 HX5 HC5 HRo HB
          have hsX : w.heap.size < wr.heap.size := HX6.out.lt
          have hsg : g < wr.heap.size := HR6.out.lt
          go_wp2_with fail
          refine (build_cl HC6.out HK.out h4).mono ?_
          rintro e w7 ⟨D, rfl, hE, hB7⟩
          have HE7 := hide hE
          have HB7 := hide hB7
          have hs7 := hB7.size
          have hmb7 := hE.owns.lt
          clear hE hB7
          go_wp2_with fail
          refine (bindings_any _ _ _ l D w7 HE7.out HK.out (by have := HN.out; omega)).mono ?_
          rintro e w8 ⟨v1, rfl, hrow1, hB8⟩
          have HB8 := hide hB8
          have hs8 := hB8.size
          have HR1 := hide hrow1
          clear hB8 hrow1
          obtain ⟨x0, x1, x2, x3⟩ := box_at ((HX6.out.below HB7.out hsX).below HB8.out (by omega))
          go_wp2_with fail
          refine (zzToB_any (xp, xr, xm, xs) _).mono ?_
          rintro e w9 ⟨rfl, hG9⟩
          have HB9 := hide hG9.below
          have hs9 := hG9.below.size
          clear x0 x1 x2 x3 hG9
          go_wp2_with fail
          refine (addEng2_any _ _ _ (xp, xr, xm, xs) l D w9 ((HE7.out.below HB8.out).below HB9.out) HX.out (by omega) (Nat.le_refl _) (by have := HN.out; omega)).mono ?_
          rintro e w10 ⟨rfl, ⟨D', hE10⟩, hB10, hblk⟩
          have hs10 := hB10.size
          have HE10 := hide hE10
          have HB10 := hide (show Below wr.heap.size wr w10 from ((HB7.out.trans (HB8.out.mono (by omega))).trans (HB9.out.mono (by omega))).trans hB10)
          have HR10 := hide (show w10.ownsRow w7.heap.size 33 4 v1 l.length (flatZ (l.mergeSort leZ)) from ownsRow_same HR1.out (fun g1 hg1 => by
            have hb1 := HR1.out.lt g1 hg1
            rw [hblk g1 (by omega) (by omega) (fun u hu e => ?_), HB9.out.block g1 hb1.2]
            obtain ⟨u', hu', hr', _⟩ := HE7.out.row xp.data.toList
            obtain rfl : u' = u := by have := hu'.symm.trans hu; cases this; rfl
            have := (hr'.lt _ e).2
            omega))
          clear hE10 hB10 hblk HR1 HE7 HB7 HB8 HB9
          go_wp2_with fail
          refine (bindings_any _ _ _ (l ++ [(xp, xr, xm, xs)]) D' w10 HE10.out (fun y hy => by
            rcases List.mem_append.1 hy with hy | hy
            · exact HK.out y hy
            · rw [List.mem_singleton.1 hy]; exact HX.out) (by have := HN.out; simp; omega)).mono ?_
          rintro e w11 ⟨v2, rfl, hrow2, hB11⟩
          have hs11 := hB11.size
          have HB11 := hide hB11
          have hlen1 : (l.mergeSort leZ).length = l.length := List.length_mergeSort _
          have hlen2 : ((l ++ [(xp, xr, xm, xs)]).mergeSort leZ).length = l.length + 1 := by rw [List.length_mergeSort]; simp
          have hr2' : w11.ownsRow w10.heap.size 33 4 v2 (n + 1) (flatZ ((l ++ [(xp, xr, xm, xs)]).mergeSort leZ)) := by
            have hh := hrow2
            rwa [show (l ++ [(xp, xr, xm, xs)]).length = n + 1 by have := HN.out; simp; omega] at hh
          have hr1' : w11.ownsRow w7.heap.size 33 4 v1 n (flatZ (l.mergeSort leZ)) := by
            have hh := ownsRow_same HR10.out (fun g1 hg1 => HB11.out.block g1 (HR10.out.lt g1 hg1).2)
            rwa [← HN.out] at hh
          obtain ⟨p1, c1, rfl, hrd1⟩ := reads_of hr1' (by rw [hlen1]; exact HN.out)
          obtain ⟨p2, c2, rfl, hrd2⟩ := reads_of hr2' (by rw [hlen2, ← HN.out])
          have HRD1 := hide hrd1
          have HRD2 := hide hrd2
          have HX11 := hide ((HX6.out.below HB10.out hsX).below HB11.out (by omega))
          have HR11 := hide ((HR6.out.below HB10.out hsg).below HB11.out (by omega))
          have HBall := hide (HB6.out.trans ((HB10.out.trans (HB11.out.mono (by omega))).mono (by omega)))
          have HL1 := hide hlen1
          have HL2 := hide hlen2
          obtain ⟨g2, rfl, hg2, hrw2⟩ := hrd2 (by omega)
          obtain ⟨hbef, hatk, haft⟩ := ins_rows HNE3.out HKK.out hrw2
          have hout := HS.out
          rw [hout] at HRD1
          have HBEF := hide (show ∀ i (hi : i < out.length), i < k → AtZ w11 g2 0 i out[i] by intro i hi; have := hbef i (by rw [hout]; exact hi); simpa only [hout] using this)
          have HAFT := hide (show ∀ i (hi : i < out.length), k ≤ i → AtZ w11 g2 0 (i + 1) out[i] by intro i hi; have := haft i (by rw [hout]; exact hi); simpa only [hout] using this)
          have HATK := hide hatk
          have hgg : g < w11.heap.size := HR11.out.lt
          have hXX : w.heap.size < w11.heap.size := HX11.out.lt
          clear hrow2 hB11 HB11 hr1' hr2' hrd1 hrd2 HR10 HE10 HB10 HX6 HR6 HB6 HC6 hlen1 hlen2 hrw2 hbef hatk haft hout HRD2 HKK HNE3 HS HK HX
          go_wp2_with fail
          go_loopw [13] (fun i wr => ∃ j : Nat, j ≤ n ∧ i = .int .i64 j ∧ Below w11.heap.size w11 wr) (fun i _ => n - (intOf i).toNat)
          case atStart => exact ⟨0, Nat.zero_le _, rfl, Below.refl _ _⟩
          case round =>
            obtain ⟨j2, hj2, rfl, hB⟩ := hrel
            have HB := hide hB
            have hsr2 := hB.size
            clear hB
            by_cases hlt2 : j2 < n
            · have hko : j2 < out.length := by have := HLO.out; omega
              obtain ⟨g1, rfl, hg1, hrw1⟩ := HRD1.out (by omega)
              have hgr : g < wr.heap.size := by omega
              have hgr' : g1 < wr.heap.size := by omega
              obtain ⟨x0, x1, x2, x3⟩ := (HR11.out.below HB.out hgg).rowZ j2 hko
              obtain ⟨y0, y1, y2, y3⟩ := (hrw1 j2 hko).below HB.out hg1
              have X0 := cell_grown hgr x0
              have X1 := cell_grown hgr x1
              have X2 := cell_grown hgr x2
              have X3 := cell_grown hgr x3
              have Y0 := cell_grown hgr' y0
              have Y1 := cell_grown hgr' y1
              have Y2 := cell_grown hgr' y2
              have Y3 := cell_grown hgr' y3
              simp only [Nat.zero_add] at X0 X1 X2 X3 Y0 Y1 Y2 Y3
              clear x0 x1 x2 x3 y0 y1 y2 y3 hrw1
              have hcmp : ∀ W, Calls Try.prog 11 #[.agg #[.string out[j2].1, .string out[j2].2.1, .string out[j2].2.2.1, .string out[j2].2.2.2], .agg #[.string out[j2].1, .string out[j2].2.1, .string out[j2].2.2.1, .string out[j2].2.2.2]] W fun e w' => e = .returned (.bool true) ∧ ∃ q os, w' = grow (W.drewN q) os :=
                fun W => by have := zzSame_any out[j2] out[j2] W; rw [sameZ_refl] at this; exact this
              have HC := hide hcmp
              have hmix := mixed
              clear hcmp
              go_wp2_with fail
              go_quiet_grown (first | (go_at_call 11; refine Calls.grown_of (HC.out _)))
              go_wp2
              exact ⟨⟨j2 + 1, by omega, by go_num, below_grow HB.out hsr2 _ _⟩, by simp [intOf]; omega⟩
            · have hgr2 : g2 < wr.heap.size := by omega
              have hXr2 : w.heap.size < wr.heap.size := by omega
              obtain ⟨x0, x1, x2, x3⟩ := box_at (HX11.out.below HB.out hXX)
              obtain ⟨y0, y1, y2, y3⟩ := HATK.out.below HB.out hg2
              have X0 := cell_grown hXr2 x0
              have X1 := cell_grown hXr2 x1
              have X2 := cell_grown hXr2 x2
              have X3 := cell_grown hXr2 x3
              have Y0 := cell_grown hgr2 y0
              have Y1 := cell_grown hgr2 y1
              have Y2 := cell_grown hgr2 y2
              have Y3 := cell_grown hgr2 y3
              simp only [Nat.zero_add] at Y0 Y1 Y2 Y3
              clear x0 x1 x2 x3 y0 y1 y2 y3
              have hcmp : ∀ W, Calls Try.prog 11 #[.agg #[.string xp, .string xr, .string xm, .string xs], .agg #[.string xp, .string xr, .string xm, .string xs]] W fun e w' => e = .returned (.bool true) ∧ ∃ q os, w' = grow (W.drewN q) os :=
                fun W => by have := zzSame_any (xp, xr, xm, xs) (xp, xr, xm, xs) W; rw [sameZ_refl] at this; exact this
              have HC := hide hcmp
              have hmix := mixed
              have hk1 : k < n + 1 := by omega
              have hk2 : (k : Int) < (n : Int) + 1 := by omega
              clear hcmp
              go_wp2_with fail
              go_quiet_grown (first | (go_at_call 11; refine Calls.grown_of (HC.out _)))
              have HB12 := hide (below_grow HB.out hsr2 nq osq)
              have hs12 := HB12.out.size
              obtain ⟨w12, hw12⟩ : ∃ w12, w12 = grow (wr.drewN nq) osq := ⟨_, rfl⟩
              rw [← hw12] at HB12 hs12 ⊢
              clear X0 X1 X2 X3 Y0 Y1 Y2 Y3 HC hw12 HB hk2
              go_wp2_with fail
              go_loopw [14] (fun i wr => ∃ j : Nat, j ≤ k ∧ i = .int .i64 j ∧ Below w11.heap.size w11 wr) (fun i _ => k - (intOf i).toNat)
              case atStart => exact ⟨0, Nat.zero_le _, rfl, HB12.out⟩
              case round =>
                clear HB12 hs12
                obtain ⟨j3, hj3, rfl, hB⟩ := hrel
                have HB := hide hB
                have hsr3 := hB.size
                clear hB
                by_cases hlt3 : j3 < k
                · have hko : j3 < out.length := by have := HLO.out; omega
                  obtain ⟨g1, rfl, hg1, hrw1⟩ := HRD1.out (by omega)
                  obtain ⟨x0, x1, x2, x3⟩ := (HBEF.out j3 hko hlt3).below HB.out hg2
                  obtain ⟨y0, y1, y2, y3⟩ := (hrw1 j3 hko).below HB.out hg1
                  simp only [Nat.zero_add] at x0 x1 x2 x3 y0 y1 y2 y3
                  have hneq := fun W => neq33 out[j3] W
                  have hgd := guard33
                  have hjn : j3 < n := by omega
                  have hjn1 : j3 < n + 1 := by omega
                  have hjn2 : (j3 : Int) < (n : Int) + 1 := by omega
                  clear hrw1
                  go_wp2_with fail
                  go_quiet (fail)
                  go_wp2
                  exact ⟨⟨j3 + 1, by omega, by go_num, below_drewN HB.out nq⟩, by simp [intOf]; omega⟩
                · go_wp2_with fail
                  go_loopw [15] (fun i wr => ∃ j : Nat, k ≤ j ∧ j ≤ n ∧ i = .int .i64 j ∧ Below w11.heap.size w11 wr) (fun i _ => n - (intOf i).toNat)
                  case atStart => exact ⟨k, Nat.le_refl _, by omega, rfl, HB.out⟩
                  case round =>
                    clear HB hsr3
                    obtain ⟨j4, hj4, hj4n, rfl, hB⟩ := hrel
                    have HB := hide hB
                    have hsr4 := hB.size
                    clear hB
                    by_cases hlt4 : j4 < n
                    · have hko : j4 < out.length := by have := HLO.out; omega
                      obtain ⟨g1, rfl, hg1, hrw1⟩ := HRD1.out (by omega)
                      obtain ⟨i4, hi4⟩ : ∃ i4, j4 + 1 = i4 := ⟨_, rfl⟩
                      have hz := (HAFT.out j4 hko hj4).below HB.out hg2
                      rw [hi4] at hz
                      obtain ⟨x0, x1, x2, x3⟩ := hz
                      obtain ⟨y0, y1, y2, y3⟩ := (hrw1 j4 hko).below HB.out hg1
                      simp only [Nat.zero_add] at x0 x1 x2 x3 y0 y1 y2 y3
                      have hneq := fun W => neq33 out[j4] W
                      have hgd := guard33
                      have hwj : IntKind.i64.wrap ((j4 : Int) + 1) = (i4 : Int) := by rw [IntKind.wrap_i64]; omega
                      have hjn1 : i4 < n + 1 := by omega
                      have hjn2 : (i4 : Int) < (n : Int) + 1 := by omega
                      have HI4 := hide hi4
                      clear hrw1 hi4
                      go_wp2_with fail
                      go_quiet (fail)
                      go_wp2
                      have hi4 := HI4.out
                      exact ⟨⟨i4, by omega, by omega, rfl, below_drewN HB.out nq⟩, by simp [intOf]; omega⟩
                    · go_wp2_with fail
                      go_ret
                      exact ⟨rfl, HBall.out.trans (HB.out.mono (by have := HBall.out.size; omega))⟩
    · go_ret; exact ⟨rfl, HB2.out⟩
    · go_ret; exact ⟨rfl, HB2.out⟩
    · go_ret; exact ⟨rfl, HB2.out⟩
  · go_wp2_with fail
    go_ret
    exact ⟨rfl, HB1.out⟩

set_option maxRecDepth 20000 in
set_option maxHeartbeats 1000000 in
theorem bytes2_nil (p : Option Addr) (cap : Nat) (x : ZB) (w : World) :
    Calls Try.prog 12 #[.slice p 0 cap, .agg #[.string x.1, .string x.2.1, .string x.2.2.1, .string x.2.2.2]] w fun e w' => IsB e ∧ w' = w.alloc (.cells #[.string x.1, .string x.2.1, .string x.2.2.1, .string x.2.2.2] 35) := by
  obtain ⟨xp, xr, xm, xs⟩ := x
  go_enter Try.func12, Try.ntmps12
  go_wp2
  refine wp_loop_rounds 1 ?_
  rw [rounds_succ]
  go_wp2
  all_goals (go_ret; exact ⟨isB _, rfl⟩)

theorem law2_any (b off n cap : Nat) (l : List ZB) (x : ZB) (w : World) (hn : n = l.length) (hr : RowZ w b off l) (hok : ∀ y ∈ l, okZ y) (hx : okZ x) (hcm : n ≤ maxLen) (hb : b < w.heap.size) :
    Calls Try.prog 4 #[.slice (some ⟨b, off, none⟩) n cap, aggZ x] w fun e w' => e = .returned (.bool true) ∧ Below w.heap.size w w' :=
  law2_core (some ⟨b, off, none⟩) n cap l x w hn hok hx
    (fun W hW => (bytes2_any b off n cap l x W (by omega) (hr.below hW hb) hcm).mono fun e w' ⟨h1, h2⟩ => ⟨h1, by rw [h2]; exact below_alloc W _⟩)
    (fun W hW => sizeOK_any b off n cap l W (by omega) (hr.below hW hb) hcm)
    (fun h4 W hW => (clone_any b off n cap l W hn (hr.below hW hb) h4).mono fun e w' ⟨h1, h2⟩ => ⟨_, h1, by rw [h2]; exact below_alloc W _, .inr ⟨W.heap.size, rfl, hn, by rw [h2]; exact heap_new W _⟩⟩)
theorem law2_empty (p : Option Addr) (cap : Nat) (x : ZB) (w : World) (hx : okZ x) (hp : p = none → cap = 0) :
    Calls Try.prog 4 #[.slice p 0 cap, aggZ x] w fun e w' => e = .returned (.bool true) ∧ Below w.heap.size w w' :=
  law2_core p 0 cap [] x w rfl (fun y hy => by cases hy) hx
    (fun W _ => (bytes2_nil p cap x W).mono fun e w' ⟨h1, h2⟩ => ⟨h1, by rw [h2]; exact below_alloc W _⟩)
    (fun W _ => sizeOK_nil p cap W)
    (fun _ W _ => by
      cases p with
      | none =>
        rw [hp rfl]
        exact (clone_nil W).mono fun e w' ⟨h1, h2⟩ => ⟨none, h1, by rw [h2]; exact Below.refl _ _, .inl ⟨rfl, rfl, rfl⟩⟩
      | some a => exact (clone_empty a cap W).mono fun e w' ⟨h1, h2⟩ => ⟨_, h1, by rw [h2]; exact below_alloc W _, .inr ⟨W.heap.size, rfl, rfl, by rw [h2]; exact heap_new W _⟩⟩)
end Go.Proofs.Qxb6627916a
