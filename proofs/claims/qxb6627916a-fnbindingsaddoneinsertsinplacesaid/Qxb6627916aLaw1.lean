import Derived.Test.Qxb6627916aBnd
import Derived.Test.Qxb6627916aNil
namespace Go.Proofs.Qxb6627916a
open Go.RowKit Go.Sort

theorem sorted_eq {out l : List ZB} (hp : out.Perm l) (hs : out.Pairwise (fun a b => cmpZ a b < 0)) : l.mergeSort leZ = out := by
  rw [← mergeSort_perm_eq hp]
  refine List.mergeSort_of_pairwise ?_
  rw [List.pairwise_iff_getElem] at hs ⊢
  exact fun i j hi hj hij => leZ_iff.2 (by have := hs i j hi hj hij; omega)
theorem sameZ_refl (x : ZB) : sameZ x x = true := by simp [sameZ]
theorem rowB_at {w : World} {base g n cap : Nat} {l : List ZB} (h : w.ownsRow base 33 4 (.slice (some ⟨g, 0, none⟩) n cap) n (flatZ l)) (hn : n = l.length) (i : Nat) (hi : i < l.length) : AtZ w g 0 i l[i] := by
  have f := fun c (hc : c < 4) => (h.cellAt (i * 4 + c) (by rw [hn]; omega)).trans (flatZ_get l i c hi hc)
  unfold AtZ
  simp only [Nat.zero_add]
  exact ⟨f 0 (by omega), f 1 (by omega), f 2 (by omega), f 3 (by omega)⟩

set_option maxRecDepth 100000 in
set_option maxHeartbeats 3200000 in
theorem law1_core (p : Option Addr) (n cap : Nat) (l : List ZB) (w : World) (hn : n = l.length) (hok : ∀ x ∈ l, okZ x)
    (hby : Calls Try.prog 5 #[.slice p n cap] w fun e w' => IsB e ∧ w' = w) (hsz : Calls Try.prog 6 #[.slice p n cap] w fun e w' => IsB e ∧ ∃ m, w' = w.drewN m)
    (hcl : n ≤ 4096 → ∀ m, Calls Try.prog 7 #[.slice p n cap] (w.drewN m) fun e w' => e = .returned (.slice (some ⟨w.heap.size, 0, none⟩) n n) ∧ w' = (w.drewN m).alloc (.cells (flatZ l).toArray 35)) :
    Calls Try.prog 3 #[.slice p n cap] w fun e w' => e = .returned (.bool true) ∧ Below w.heap.size w w' := by
  have HBY := hide hby
  have HSZ := hide hsz
  have HCL0 := hide hcl
  have HN := hide hn
  have HK := hide hok
  clear hby hsz hcl hn hok
  go_enter Try.func3, Try.ntmps3
  go_wp2_with fail
  refine HBY.out.mono ?_
  rintro e w1 ⟨⟨r, rfl⟩, rfl⟩
  cases r
  · go_wp2_with fail
    go_ret
    exact ⟨rfl, Below.refl _ _⟩
  by_cases h4 : n ≤ 4096
  · have HCL := hide (HCL0.out h4)
    clear HCL0
    go_wp2_with fail
    refine HSZ.out.mono ?_
    rintro e w2 ⟨⟨r, rfl⟩, m, rfl⟩
    cases r
    · go_wp2_with fail
      go_ret
      exact ⟨rfl, below_grow (Below.refl _ _) (Nat.le_refl _) m #[]⟩
    go_wp2_with fail
    refine (HCL.out m).mono ?_
    rintro e w3 ⟨rfl, hw3⟩
    have HR3 := hide (show RowIs w3 w1.heap.size 35 l by rw [hw3]; exact heap_new (w1.drewN m) _)
    have HB3 := hide (show Below w1.heap.size w1 w3 by rw [hw3]; exact (below_grow (Below.refl _ _) (Nat.le_refl _) m #[]).trans (below_alloc (w1.drewN m) _))
    have hs3 : w1.heap.size < w3.heap.size := HR3.out.lt
    clear hw3 HCL HSZ HBY
    go_wp2_with fail
    refine (prem_any w1.heap.size 0 n n l w3 HN.out HR3.out.rowZ HK.out h4 (Nat.le_refl _) (by unfold maxLen; omega) hs3).mono ?_
    rintro e w4 ⟨hB4, hor⟩
    have HB4 := hide hB4
    have hs4 := hB4.size
    clear hB4
    rcases hor with rfl | ⟨g, out, rfl, hg, hRo, hP, hSt⟩
    · go_wp2_with fail
      go_ret
      exact ⟨rfl, HB3.out.trans (HB4.out.mono (by omega))⟩
    have HRo := hide hRo
    have HS := hide (sorted_eq hP hSt)
    have HLO := hide (show out.length = n by rw [hP.length_eq]; exact HN.out.symm)
    have hgl := hRo.lt
    clear hRo hP hSt
    go_wp2_with fail
    refine (build_any w1.heap.size 0 n n l w4 HN.out (HR3.out.below HB4.out hs3).rowZ HK.out h4 (by omega)).mono ?_
    rintro e w5 ⟨D, rfl, hE, hB5⟩
    have HE := hide hE
    have HB5 := hide hB5
    have hs5 := hB5.size
    clear hE hB5
    go_wp2_with fail
    refine (bindings_any _ _ _ l D w5 HE.out HK.out (by have := HN.out; omega)).mono ?_
    rintro e w6 ⟨v, rfl, hrow, hB6⟩
    have HB6 := hide hB6
    have hs6 := hB6.size
    have hnl := HN.out
    rw [HS.out, ← hnl] at hrow
    have HRB := hide hrow
    have HRo6 := hide ((HRo.out.below HB5.out hgl).below HB6.out (by omega))
    have HBall := hide (show Below w1.heap.size w1 w6 from ((HB3.out.trans (HB4.out.mono (by omega))).trans (HB5.out.mono (by omega))).trans (HB6.out.mono (by omega)))
    clear hB6 hrow hnl HRo HB3 HB4 HB5 HB6 HE HR3
    have hcase := HRB.out.2
    rcases hcase with ⟨rfl, h0⟩ | ⟨g', cap', cur, rfl, hg', _, _, _, _, _⟩
    · subst h0
      go_wp2_with fail
      refine wp_loop_rounds 1 ?_
      rw [rounds_succ]
      go_wp2_with fail
      go_ret
      exact ⟨rfl, HBall.out⟩
    · have hg6 : g' < w6.heap.size := (HRB.out.lt g' rfl).2
      have hg6' := HRo6.out.lt
      go_wp2_with fail
      go_loopw [7] (fun i wr => ∃ k : Nat, k ≤ n ∧ i = .int .i64 k ∧ Below w6.heap.size w6 wr) (fun i _ => n - (intOf i).toNat)
      case atStart => exact ⟨0, Nat.zero_le _, rfl, Below.refl _ _⟩
      case round =>
        obtain ⟨k, hk, rfl, hB⟩ := hrel
        have HB := hide hB
        have hsr := hB.size
        clear hB
        by_cases hlt : k < n
        · have hko : k < out.length := by have := HLO.out; omega
          have hgr : g < wr.heap.size := by omega
          have hgr' : g' < wr.heap.size := by omega
          obtain ⟨x0, x1, x2, x3⟩ := (HRo6.out.below HB.out hg6').rowZ k hko
          obtain ⟨y0, y1, y2, y3⟩ := RowZ.below (l := out) (fun i hi => rowB_at HRB.out HLO.out.symm i hi) HB.out hg6 k hko
          have X0 := cell_grown hgr x0
          have X1 := cell_grown hgr x1
          have X2 := cell_grown hgr x2
          have X3 := cell_grown hgr x3
          have Y0 := cell_grown hgr' y0
          have Y1 := cell_grown hgr' y1
          have Y2 := cell_grown hgr' y2
          have Y3 := cell_grown hgr' y3
          simp only [Nat.zero_add] at X0 X1 X2 X3 Y0 Y1 Y2 Y3
          clear x0 x1 x2 x3 y0 y1 y2 y3
          have hcmp : ∀ W, Calls Try.prog 11 #[.agg #[.string out[k].1, .string out[k].2.1, .string out[k].2.2.1, .string out[k].2.2.2], .agg #[.string out[k].1, .string out[k].2.1, .string out[k].2.2.1, .string out[k].2.2.2]] W fun e w' => e = .returned (.bool true) ∧ ∃ q os, w' = grow (W.drewN q) os :=
            fun W => by have := zzSame_any out[k] out[k] W; rw [sameZ_refl] at this; exact this
          have HC := hide hcmp
          have hmix := mixed
          clear hcmp
          go_wp2_with fail
          go_quiet_grown (first | (go_at_call 11; refine Calls.grown_of (HC.out _)))
          go_wp2
          exact ⟨⟨k + 1, by omega, by go_num, below_grow HB.out hsr _ _⟩, by simp [intOf]; omega⟩
        · go_wp2_with fail
          go_ret
          exact ⟨rfl, HBall.out.trans (HB.out.mono (by have := HBall.out.size; omega))⟩
  · go_wp2_with fail
    go_ret
    exact ⟨rfl, Below.refl _ _⟩

theorem law1_any (b off n cap : Nat) (l : List ZB) (w : World) (hn : n = l.length) (hr : RowZ w b off l) (hok : ∀ x ∈ l, okZ x) (hcm : n ≤ maxLen) :
    Calls Try.prog 3 #[.slice (some ⟨b, off, none⟩) n cap] w fun e w' => e = .returned (.bool true) ∧ Below w.heap.size w w' :=
  law1_core (some ⟨b, off, none⟩) n cap l w hn hok (bytes_any b off n cap l w (by omega) hr hcm) (sizeOK_any b off n cap l w (by omega) hr hcm)
    (fun h4 m => clone_any b off n cap l (w.drewN m) hn (fun i hi => hr i hi) h4)
theorem law1_empty (a : Addr) (cap : Nat) (w : World) : Calls Try.prog 3 #[.slice (some a) 0 cap] w fun e w' => e = .returned (.bool true) ∧ Below w.heap.size w w' :=
  law1_core (some a) 0 cap [] w rfl (fun x hx => by cases hx) (bytes_nil _ _ w) (sizeOK_nil _ _ w) (fun _ m => clone_empty a cap (w.drewN m))

set_option maxRecDepth 100000 in
set_option maxHeartbeats 3200000 in
theorem law1_nil (w : World) : Calls Try.prog 3 #[.slice none 0 0] w fun e w' => e = .returned (.bool true) ∧ Below w.heap.size w w' := by
  go_enter Try.func3, Try.ntmps3
  go_wp2_with fail
  refine (bytes_nil none 0 w).mono ?_
  rintro e w1 ⟨⟨r, rfl⟩, rfl⟩
  cases r
  · go_wp2_with fail
    go_ret
    exact ⟨rfl, Below.refl _ _⟩
  go_wp2_with fail
  refine (sizeOK_nil none 0 w1).mono ?_
  rintro e w2 ⟨⟨r, rfl⟩, m, rfl⟩
  cases r
  · go_wp2_with fail
    go_ret
    exact ⟨rfl, below_grow (Below.refl _ _) (Nat.le_refl _) m #[]⟩
  go_wp2_with fail
  refine (clone_nil _).mono ?_
  rintro e w3 ⟨rfl, hw3⟩
  have HB3 := hide (show Below w1.heap.size w1 w3 by rw [hw3]; exact below_grow (Below.refl _ _) (Nat.le_refl _) m #[])
  clear hw3
  go_wp2_with fail
  refine (prem_nil w3).mono ?_
  rintro e w4 ⟨hB4, hor⟩
  have HB4 := hide hB4
  have hs3 := HB3.out.size
  have hs4 := hB4.size
  clear hB4
  rcases hor with rfl | ⟨g, out, rfl, hg, hRo, hP, hSt⟩
  · go_wp2_with fail
    go_ret
    exact ⟨rfl, HB3.out.trans (HB4.out.mono (by omega))⟩
  clear hRo hP hSt
  go_wp2_with fail
  refine (build_nil w4).mono ?_
  rintro e w5 ⟨D, rfl, hE, hB5⟩
  have HE := hide hE
  have HB5 := hide hB5
  have hs5 := hB5.size
  clear hE hB5
  go_wp2_with fail
  refine (bindings_any _ _ _ [] D w5 HE.out (fun x hx => by cases hx) (by simp)).mono ?_
  rintro e w6 ⟨v, rfl, hrow, hB6⟩
  have HBall := hide (show Below w1.heap.size w1 w6 from ((HB3.out.trans (HB4.out.mono (by omega))).trans (HB5.out.mono (by omega))).trans (hB6.mono (by omega)))
  have hcase := hrow.2
  clear hB6 hrow HB3 HB4 HB5 HE
  rcases hcase with ⟨rfl, _⟩ | ⟨g', cap', cur, rfl, _, _, _, _, _, _⟩
  all_goals
    go_wp2_with fail
    refine wp_loop_rounds 1 ?_
    rw [rounds_succ]
    go_wp2_with fail
    go_ret
    exact ⟨rfl, HBall.out⟩
end Go.Proofs.Qxb6627916a
