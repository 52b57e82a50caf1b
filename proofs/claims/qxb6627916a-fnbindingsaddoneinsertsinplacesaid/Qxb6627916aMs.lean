import Derived.Test.Qxb6627916aSrt
namespace Go.Proofs.Qxb6627916a
open Go.RowKit Go.Sort

/-- what 'zzMergeSort' hands back: a new row, as long as what came in, a sorted permutation of it -/
def Sorted (w w' : World) (n : Nat) (l : List ZB) (e : Ending) : Prop :=
  ∃ (g : Nat) (out : List ZB), e = .returned (.slice (some ⟨g, 0, none⟩) n n) ∧ w.heap.size ≤ g ∧ RowIs w' g 35 out ∧ out.Perm l ∧ out.Pairwise (fun a b => leZ a b = true) ∧ Below w.heap.size w w'

theorem RowZ.below {w w' : World} {b off : Nat} {l : List ZB} (h : RowZ w b off l) (hb : Below w.heap.size w w') (hlt : b < w.heap.size) : RowZ w' b off l := fun i hi => by
  obtain ⟨h0, h1, h2, h3⟩ := h i hi
  exact ⟨(hb.cell (p := ⟨b, _, none⟩) hlt).trans h0, (hb.cell (p := ⟨b, _, none⟩) hlt).trans h1, (hb.cell (p := ⟨b, _, none⟩) hlt).trans h2, (hb.cell (p := ⟨b, _, none⟩) hlt).trans h3⟩
theorem RowZ.take {w : World} {b off : Nat} {l : List ZB} (h : RowZ w b off l) (m : Nat) : RowZ w b off (l.take m) := fun i hi => by
  have := h i (by simp at hi; omega)
  simpa using this
theorem RowZ.drop {w : World} {b off : Nat} {l : List ZB} (h : RowZ w b off l) (m : Nat) : RowZ w b (off + m * 4) (l.drop m) := fun i hi => by
  have := h (m + i) (by simp at hi; omega)
  unfold AtZ at this ⊢
  rw [show off + (m + i) * 4 = off + m * 4 + i * 4 by omega] at this
  simpa using this
theorem below_alloc (w : World) (o : Obj) : Below w.heap.size w (w.alloc o) := (Below.refl _ _).alloc (Nat.le_refl _) _

/-- the binding x written over four cells -/
def put4 (W : World) (g o : Nat) (x : ZB) : World :=
  (((W.setCell ⟨g, o, none⟩ (.string x.1)).setCell ⟨g, o + 1, none⟩ (.string x.2.1)).setCell ⟨g, o + 2, none⟩ (.string x.2.2.1)).setCell ⟨g, o + 3, none⟩ (.string x.2.2.2)
theorem row_put4 {W : World} {g : Nat} {T : TypeId} {l : List ZB} (h : RowIs W g T l) {i : Nat} (hi : i < l.length) (x : ZB) : RowIs (put4 W g (i * 4) x) g T (l.set i x) := by
  have := h.set hi x
  unfold put4
  simpa only [Nat.zero_add] using this
theorem row_put4_other {W : World} {g g' o : Nat} {T : TypeId} {l : List ZB} (h : RowIs W g' T l) (hne : g' ≠ g) (x : ZB) : RowIs (put4 W g o x) g' T l := by
  unfold RowIs put4 at *
  rw [Below.heap_setCell _ _ _ _ hne, Below.heap_setCell _ _ _ _ hne, Below.heap_setCell _ _ _ _ hne, Below.heap_setCell _ _ _ _ hne]
  exact h
theorem below_put4 {B g o : Nat} {a W : World} (h : Below B a W) (hg : B ≤ g) (x : ZB) : Below B a (put4 W g o x) :=
  (((h.setCell hg _).setCell hg _).setCell hg _).setCell hg _
theorem RowIs.grow {W : World} {g : Nat} {T : TypeId} {l : List ZB} (h : RowIs W g T l) (n : Nat) (os : Array Obj) : RowIs (Sort.grow (W.drewN n) os) g T l :=
  (heap_grow_old (W.drewN n) os h.lt).trans h
theorem below_grow {B : Nat} {a W : World} (h : Below B a W) (hB : B ≤ W.heap.size) (n : Nat) (os : Array Obj) : Below B a (Sort.grow (W.drewN n) os) :=
  h.trans ⟨rfl, rfl, rfl, by simp, fun k hk => heap_grow_old (W.drewN n) os (show k < W.heap.size by omega)⟩

theorem merge_r {ls rs : List ZB} {a c : Nat} (ha : a < ls.length) (hc : c < rs.length) (hz : cmpZ rs[c] ls[a] < 0) :
    List.merge (ls.drop a) (rs.drop c) leZ = rs[c] :: List.merge (ls.drop a) (rs.drop (c + 1)) leZ := by
  rw [List.drop_eq_getElem_cons ha, List.drop_eq_getElem_cons hc, List.cons_merge_cons, if_neg (by simpa [leZ] using hz)]
theorem merge_l {ls rs : List ZB} {a c : Nat} (ha : a < ls.length) (hc : c < rs.length) (hz : ¬ cmpZ rs[c] ls[a] < 0) :
    List.merge (ls.drop a) (rs.drop c) leZ = ls[a] :: List.merge (ls.drop (a + 1)) (rs.drop c) leZ := by
  rw [List.drop_eq_getElem_cons ha, List.drop_eq_getElem_cons hc, List.cons_merge_cons, if_pos (by simpa [leZ] using hz)]
theorem merge_l0 {ls rs : List ZB} {a c : Nat} (ha : a < ls.length) (hc : rs.length ≤ c) :
    List.merge (ls.drop a) (rs.drop c) leZ = ls[a] :: List.merge (ls.drop (a + 1)) (rs.drop c) leZ := by
  rw [List.drop_eq_nil_of_le hc, List.merge_right, List.merge_right, List.drop_eq_getElem_cons ha]
theorem merge_r0 {ls rs : List ZB} {a c : Nat} (ha : ls.length ≤ a) (hc : c < rs.length) :
    List.merge (ls.drop a) (rs.drop c) leZ = rs[c] :: List.merge (ls.drop a) (rs.drop (c + 1)) leZ := by
  rw [List.drop_eq_nil_of_le ha, List.nil_merge, List.nil_merge, List.drop_eq_getElem_cons hc]
theorem merge_sorted {ls rs : List ZB} (hl : ls.Pairwise (fun a b => leZ a b = true)) (hr : rs.Pairwise (fun a b => leZ a b = true)) : (List.merge ls rs leZ).Pairwise (fun a b => leZ a b = true) :=
  List.pairwise_merge leZ_trans leZ_total ls rs hl hr
theorem merged_step {L M N : List ZB} {k : Nat} {x : ZB} (hk : k < L.length) (h : L.take k ++ x :: M = N) : (L.set k x).take (k + 1) ++ M = N := by
  rw [List.take_succ_eq_append_getElem (by simpa using hk), List.take_set_of_le (Nat.le_refl k), List.getElem_set_self, List.append_assoc]
  exact h

set_option maxRecDepth 20000 in
set_option maxHeartbeats 1000000 in
theorem ms_short (b off n cap : Nat) (l : List ZB) (w : World) (hn : n = l.length) (hr : RowZ w b off l) (h1 : n ≤ 1) :
    Calls Try.prog 17 #[.slice (some ⟨b, off, none⟩) n cap] w fun e w' => Sorted w w' n l e := by
  have hmk := fun W => run_make35 W n (by omega)
  have hcp := run_copy_made w b off n cap l hn hr
  have HN := hide hn
  have hs := hide (show l.Pairwise (fun a b => leZ a b = true) by
    match l, hn with
    | [], _ => exact List.Pairwise.nil
    | [x], _ => exact List.pairwise_singleton _ _
    | _ :: _ :: _, h => simp at h; omega)
  clear hr hn
  go_enter Try.func17, Try.ntmps17
  go_wp2
  go_ret
  have hn := HN.out
  subst hn
  exact ⟨_, l, rfl, Nat.le_refl _, heap_new _ _, List.Perm.refl _, hs.out, below_alloc _ _⟩

set_option maxRecDepth 20000 in
set_option maxHeartbeats 1000000 in
theorem ms_nil (w : World) : Calls Try.prog 17 #[.slice none 0 0] w fun e w' => Sorted w w' 0 [] e := by
  have hmk : ∀ W, (Instr.makeSlice 22 (.int .i64 0) (.int .i64 0)).run Try.prog W = .ok (.slice (some ⟨W.heap.size, 0, none⟩) 0 0) (W.alloc (.cells #[] 35)) := fun W => run_make35 W 0 (by omega)
  have hcp : ∀ W a, (Builtin.copy_ #[22, 22] 3 #[.slice (some a) 0 0, .slice none 0 0]).run Try.prog W = .ok (.int .i64 0) W := fun W a => run_copy_nil (P := Try.prog) W 22 22 3 35 a 0 0 Try.underlying22 (by rw [info35]; rfl)
  go_enter Try.func17, Try.ntmps17
  go_wp2
  go_ret
  exact ⟨_, [], rfl, Nat.le_refl _, heap_new _ _, List.Perm.refl _, List.Pairwise.nil, below_alloc _ _⟩

set_option maxRecDepth 20000 in
set_option maxHeartbeats 1000000 in
theorem ms_any (m : Nat) : ∀ (b off n cap : Nat) (l : List ZB) (w : World), n ≤ m → n = l.length → RowZ w b off l → (∀ x ∈ l, okZ x) → n ≤ 4096 → n ≤ cap → cap ≤ maxLen → b < w.heap.size →
    Calls Try.prog 17 #[.slice (some ⟨b, off, none⟩) n cap] w fun e w' => Sorted w w' n l e := by
  induction m with
  | zero => intro b off n cap l w hm hn hr _ _ _ _ _; exact ms_short b off n cap l w hn hr (by omega)
  | succ m ih =>
    intro b off n cap l w hm hn hr hok h4 hcap hcm hb
    by_cases h1 : n ≤ 1
    · exact ms_short b off n cap l w hn hr h1
    unfold maxLen at hcm
    have hmk := fun W => run_make35 W n h4
    have IH := hide ih
    have HR := hide hr
    have HN := hide hn
    have HK := hide hok
    clear ih hr hn hok
    go_enter Try.func17, Try.ntmps17
    go_wp2_with fail
    refine (IH.out b off (n / 2) cap (l.take (n / 2)) _ (by omega) (by rw [List.length_take]; have := HN.out; omega) ((HR.out.take _).alloc _) (fun x hx => HK.out x (List.mem_of_mem_take hx)) (by omega) (by omega) (by unfold maxLen; omega) (by simp; omega)).mono ?_
    rintro e w1 ⟨gl, ls, rfl, hgl, hRl, hPl, hSl, hB1⟩
    have hgl' : w.heap.size + 1 ≤ gl := by simpa using hgl
    have HB1 := hide hB1
    have HRl := hide hRl
    clear hgl hB1 hRl
    go_wp2_with fail
    refine (IH.out b (off + n / 2 * 4) (n - n / 2) (cap - n / 2) (l.drop (n / 2)) _ (by omega) (by rw [List.length_drop]; have := HN.out; omega) (((HR.out.drop _).alloc _).below HB1.out (by simp; omega)) (fun x hx => HK.out x (List.mem_of_mem_drop hx)) (by omega) (by omega) (by unfold maxLen; omega) (by have := HB1.out.size; simp at this; omega)).mono ?_
    rintro e w2 ⟨gr, rs, rfl, hgr, hRr, hPr, hSr, hB2⟩
    have hs1 : w.heap.size + 1 ≤ w1.heap.size := by have := HB1.out.size; simpa using this
    have hlt1 : gl < w1.heap.size := HRl.out.lt
    have hlt2 : gr < w2.heap.size := hRr.lt
    have hs2 : w1.heap.size ≤ w2.heap.size := hB2.size
    have HR0 := hide (show RowIs w2 w.heap.size 35 (List.replicate n nilZ) from RowIs.below (RowIs.below (heap_new w _) HB1.out (by simp)) hB2 (by omega))
    have HRl2 := hide (HRl.out.below hB2 hlt1)
    have HRr := hide hRr
    have HB := hide (show Below w.heap.size w w2 from ((below_alloc w _).trans (HB1.out.mono (by simp))).trans (hB2.mono (by omega)))
    have hll : ls.length = n / 2 := by rw [hPl.length_eq, List.length_take]; have := HN.out; omega
    have hrl : rs.length = n - n / 2 := by rw [hPr.length_eq, List.length_drop]; have := HN.out; omega
    have HLL := hide hll
    have HRL := hide hrl
    have HSl := hide hSl
    have HSr := hide hSr
    have HPl := hide hPl
    have HPr := hide hPr
    have HOl := hide (show ∀ x ∈ ls, okZ x from fun x hx => HK.out x (List.mem_of_mem_take (hPl.mem_iff.1 hx)))
    have HOr := hide (show ∀ x ∈ rs, okZ x from fun x hx => HK.out x (List.mem_of_mem_drop (hPr.mem_iff.1 hx)))
    clear hll hrl hRr hSl hSr hPl hPr hB2 HB1 HRl IH
    go_wp2_with fail
    go_loopw [8, 9, 10] (fun i j k wr => ∃ (a c : Nat) (L : List ZB), i = .int .i64 a ∧ j = .int .i64 c ∧ k = .int .i64 (a + c : Nat) ∧ a ≤ n / 2 ∧ c ≤ n - n / 2 ∧ L.length = n ∧ RowIs wr w.heap.size 35 L ∧ RowIs wr gl 35 ls ∧ RowIs wr gr 35 rs ∧
      L.take (a + c) ++ List.merge (ls.drop a) (rs.drop c) leZ = List.merge ls rs leZ ∧ Below w.heap.size w wr) (fun _ _ k _ => n - (intOf k).toNat)
    case atStart => exact ⟨0, 0, _, rfl, rfl, rfl, Nat.zero_le _, Nat.zero_le _, List.length_replicate, HR0.out, HRl2.out, HRr.out, by simp, HB.out⟩
    case round =>
      clear HR0 HRl2 HRr HB
      obtain ⟨a, c, L, rfl, rfl, rfl, ha, hc, hL, h0, hl0, hr0, hM, hB⟩ := hrel
      by_cases hlt : a < n / 2 ∧ c < n - n / 2
      · obtain ⟨h2, h3⟩ := hlt
        have hla : a < ls.length := by rw [HLL.out]; exact h2
        have hrc : c < rs.length := by rw [HRL.out]; exact h3
        obtain ⟨x0, x1, x2, x3⟩ := hr0.rowZ c hrc
        obtain ⟨y0, y1, y2, y3⟩ := hl0.rowZ a hla
        have X0 := cell_grown hr0.lt x0
        have X1 := cell_grown hr0.lt x1
        have X2 := cell_grown hr0.lt x2
        have X3 := cell_grown hr0.lt x3
        have Y0 := cell_grown hl0.lt y0
        have Y1 := cell_grown hl0.lt y1
        have Y2 := cell_grown hl0.lt y2
        have Y3 := cell_grown hl0.lt y3
        simp only [Nat.zero_add] at X0 X1 X2 X3 Y0 Y1 Y2 Y3 x0 x1 x2 x3 y0 y1 y2 y3
        have hcmp : ∀ W, Calls Try.prog 14 #[.agg #[.string rs[c].1, .string rs[c].2.1, .string rs[c].2.2.1, .string rs[c].2.2.2], .agg #[.string ls[a].1, .string ls[a].2.1, .string ls[a].2.2.1, .string ls[a].2.2.2]] W fun e w' => e = .returned (.int .i64 (cmpZ rs[c] ls[a])) ∧ ∃ q os, w' = grow (W.drewN q) os :=
          fun W => zzCmp_any rs[c] ls[a] W (HOr.out _ (List.getElem_mem _)) (HOl.out _ (List.getElem_mem _))
        have HC := hide hcmp
        have hak : a + c < L.length := by omega
        obtain ⟨u0, u1, u2, u3⟩ := h0.rowZ (a + c) hak
        have U0 := cell_grown h0.lt u0
        have U1 := cell_grown h0.lt u1
        have U2 := cell_grown h0.lt u2
        have U3 := cell_grown h0.lt u3
        have F0 := fun o n os => (frozen?_grow (wr.drewN n) os ⟨w.heap.size, o, none⟩ (by exact h0.lt)).trans (h0.frozen o)
        simp only [Nat.zero_add] at U0 U1 U2 U3
        clear u0 u1 u2 u3
        have HR0 := hide h0
        have HRl := hide hl0
        have HRr := hide hr0
        have HM := hide hM
        have HB := hide hB
        have HL := hide hL
        have hmix := mixed
        clear hcmp h0 hl0 hr0 hM hB hL
        go_wp2_with fail
        go_quiet_grown (first | (go_at_call 14; refine Calls.grown_of (HC.out _)))
        go_wp2
        · rename_i hz
          refine ⟨⟨a, c + 1, L.set (a + c) rs[c], rfl, by go_num, by go_num, by omega, by omega, by rw [List.length_set]; exact HL.out, row_put4 (HR0.out.grow nq osq) hak rs[c], row_put4_other (HRl.out.grow nq osq) (by omega) rs[c], row_put4_other (HRr.out.grow nq osq) (by omega) rs[c], ?_, below_put4 (below_grow HB.out (by have := HB.out.size; omega) nq osq) (Nat.le_refl _) _⟩, by simp [intOf]; omega⟩
          exact merged_step hak (by rw [← merge_r hla hrc hz]; exact HM.out)
        · rename_i hz
          refine ⟨⟨a + 1, c, L.set (a + c) ls[a], by go_num, rfl, by go_num, by omega, by omega, by rw [List.length_set]; exact HL.out, row_put4 (HR0.out.grow nq osq) hak ls[a], row_put4_other (HRl.out.grow nq osq) (by omega) ls[a], row_put4_other (HRr.out.grow nq osq) (by omega) ls[a], ?_, below_put4 (below_grow HB.out (by have := HB.out.size; omega) nq osq) (Nat.le_refl _) _⟩, by simp [intOf]; omega⟩
          rw [show a + 1 + c = a + c + 1 by omega]
          exact merged_step hak (by rw [← merge_l hla hrc (by omega)]; exact HM.out)
      · have HR0 := hide h0
        have HRl := hide hl0
        have HRr := hide hr0
        have HM := hide hM
        have HB := hide hB
        have HL := hide hL
        have HE := hide (show a = n / 2 ∨ c = n - n / 2 by omega)
        clear h0 hl0 hr0 hM hB hL
        have hcc : a < n / 2 → n - n / 2 ≤ c := by omega
        clear hlt
        by_cases hgo : a < n / 2
        all_goals
          first | (have hcc' := hcc hgo) | skip
          clear hcc
          go_wp2_with fail
          go_loopw [8, 10] (fun i k wr => ∃ (a : Nat) (L : List ZB), i = .int .i64 a ∧ k = .int .i64 (a + c : Nat) ∧ a ≤ n / 2 ∧ (a = n / 2 ∨ c = n - n / 2) ∧ L.length = n ∧ RowIs wr w.heap.size 35 L ∧ RowIs wr gl 35 ls ∧ RowIs wr gr 35 rs ∧
            L.take (a + c) ++ List.merge (ls.drop a) (rs.drop c) leZ = List.merge ls rs leZ ∧ Below w.heap.size w wr) (fun _ k _ => n - (intOf k).toNat)
          case atStart => exact ⟨a, L, rfl, rfl, ha, HE.out, HL.out, HR0.out, HRl.out, HRr.out, HM.out, HB.out⟩
          case round =>
            clear HE HL HR0 HRl HRr HM HB
            obtain ⟨a', L', rfl, rfl, ha', hE, hL, h0, hl0, hr0, hM, hB⟩ := hrel
            have HR0 := hide h0
            have HRl := hide hl0
            have HRr := hide hr0
            have HM := hide hM
            have HB := hide hB
            have HL := hide hL
            by_cases hlt : a' < n / 2
            · have hla : a' < ls.length := by rw [HLL.out]; exact hlt
              have hak : a' + c < L'.length := by omega
              obtain ⟨y0, y1, y2, y3⟩ := hl0.rowZ a' hla
              obtain ⟨v0, v1, v2, v3⟩ := h0.rowZ (a' + c) hak
              have F0 := fun o => h0.frozen o
              have hcc2 : n - n / 2 ≤ c := by omega
              simp only [Nat.zero_add] at y0 y1 y2 y3 v0 v1 v2 v3
              clear h0 hl0 hr0 hM hB hL hE
              go_wp2
              refine ⟨⟨a' + 1, L'.set (a' + c) ls[a'], by go_num, by go_num, by omega, by omega, by rw [List.length_set]; exact HL.out, row_put4 HR0.out hak ls[a'], row_put4_other HRl.out (by omega) ls[a'], row_put4_other HRr.out (by omega) ls[a'], ?_, below_put4 HB.out (Nat.le_refl _) _⟩, by simp [intOf]; omega⟩
              rw [show a' + 1 + c = a' + c + 1 by omega]
              exact merged_step hak (by rw [← merge_l0 hla (by rw [HRL.out]; omega)]; exact HM.out)
            · clear h0 hl0 hr0 hM hB hL hE
              go_wp2_with fail
              go_loopw [9, 10] (fun j k wr => ∃ (c : Nat) (L : List ZB), j = .int .i64 c ∧ k = .int .i64 (a' + c : Nat) ∧ c ≤ n - n / 2 ∧ L.length = n ∧ RowIs wr w.heap.size 35 L ∧ RowIs wr gl 35 ls ∧ RowIs wr gr 35 rs ∧
                L.take (a' + c) ++ List.merge (ls.drop a') (rs.drop c) leZ = List.merge ls rs leZ ∧ Below w.heap.size w wr) (fun _ k _ => n - (intOf k).toNat)
              case atStart => exact ⟨c, L', rfl, rfl, hc, HL.out, HR0.out, HRl.out, HRr.out, HM.out, HB.out⟩
              case round =>
                clear HL HR0 HRl HRr HM HB
                obtain ⟨c', L'', rfl, rfl, hc', hL, h0, hl0, hr0, hM, hB⟩ := hrel
                have HR0 := hide h0
                have HRl := hide hl0
                have HRr := hide hr0
                have HM := hide hM
                have HB := hide hB
                have HL := hide hL
                by_cases hlt3 : c' < n - n / 2
                · have hrc : c' < rs.length := by rw [HRL.out]; exact hlt3
                  have hak : a' + c' < L''.length := by omega
                  obtain ⟨y0, y1, y2, y3⟩ := hr0.rowZ c' hrc
                  obtain ⟨v0, v1, v2, v3⟩ := h0.rowZ (a' + c') hak
                  have F0 := fun o => h0.frozen o
                  simp only [Nat.zero_add] at y0 y1 y2 y3 v0 v1 v2 v3
                  clear h0 hl0 hr0 hM hB hL
                  go_wp2
                  refine ⟨⟨c' + 1, L''.set (a' + c') rs[c'], by go_num, by go_num, by omega, by rw [List.length_set]; exact HL.out, row_put4 HR0.out hak rs[c'], row_put4_other HRl.out (by omega) rs[c'], row_put4_other HRr.out (by omega) rs[c'], ?_, below_put4 HB.out (Nat.le_refl _) _⟩, by simp [intOf]; omega⟩
                  exact merged_step hak (by rw [← merge_r0 (by rw [HLL.out]; omega) hrc]; exact HM.out)
                · clear h0 hl0 hr0 hM hB hL
                  go_wp2
                  go_ret
                  have hM := HM.out
                  rw [List.drop_eq_nil_of_le (by rw [HLL.out]; omega), List.drop_eq_nil_of_le (by rw [HRL.out]; omega), List.nil_merge, List.append_nil, List.take_of_length_le (by rw [HL.out]; omega)] at hM
                  refine ⟨_, L'', rfl, Nat.le_refl _, HR0.out, ?_, ?_, HB.out⟩
                  · rw [hM]
                    refine (List.merge_perm_append _).trans ?_
                    refine (HPl.out.append HPr.out).trans ?_
                    rw [List.take_append_drop]
                  · rw [hM]
                    exact merge_sorted HSl.out HSr.out
end Go.Proofs.Qxb6627916a
