import Derived.Test.Qxb6627916aEng
namespace Go.Proofs.Qxb6627916a
open Go.RowKit Go.Sort

/-- those of l that are filed under the principal k -/
def grp (l : List ZB) (k : List UInt8) : List ZB := l.filter (fun x => x.1.data.toList == k)
def flatH (l : List ZB) : List Value := l.flatMap encH
def engCells (mb : Nat) : Array Value := #[.int .i32 0, .int .u32 0, .int .u32 0, .int .u32 0, .int .i32 0, .int .i32 0, .pointer none, .map (some mb), .int .u64 0]
/-- the slice that is filed under k -/
def At (D : DataW Value) (k : List UInt8) (v : Value) : Prop := D.atKey (.string k) (.held (.slice none 0 0)) = .held v

/-- the engine at block eb, its map at block mb, holds just l -/
structure Eng (w : World) (base eb mb : Nat) (l : List ZB) (D : DataW Value) : Prop where
  cells : w.heap[eb]? = some (.cells (engCells mb) 58 (0, 0))
  owns : w.ownsMap Try.prog 9 RV mb l.length D
  has : ∀ k, Maps.has D (.string k) = !(grp l k).isEmpty
  row : ∀ k, ∃ v, At D k v ∧ w.ownsRow base 65 6 v (grp l k).length (flatH (grp l k)) ∧ v.ownBlock ≠ some eb ∧ v.ownBlock ≠ some mb
  apart : ∀ k k' v v', k ≠ k' → At D k v → At D k' v' → v.ownBlock = none ∨ v.ownBlock ≠ v'.ownBlock

theorem Eng.ne {w : World} {base eb mb : Nat} {l : List ZB} {D : DataW Value} (h : Eng w base eb mb l D) : eb ≠ mb := fun e => by
  obtain ⟨es, clock, hb, _⟩ := h.owns
  have := h.cells
  rw [e, hb] at this
  cases this
theorem Eng.lt {w : World} {base eb mb : Nat} {l : List ZB} {D : DataW Value} (h : Eng w base eb mb l D) : eb < w.heap.size := (Array.getElem?_eq_some_iff.1 h.cells).1
theorem grown_of_below {w w' : World} (h : Below w.heap.size w w') : w.grownBy w' none := ⟨h.os, h.tape, h.output, h.size, fun k hk _ => h.block k hk⟩
theorem Eng.below {w w' : World} {base eb mb : Nat} {l : List ZB} {D : DataW Value} (h : Eng w base eb mb l D) (hb : Below w.heap.size w w') : Eng w' base eb mb l D := {
  cells := (hb.block eb h.lt).trans h.cells
  owns := h.owns.kept (grown_of_below hb) (by simp)
  has := h.has
  row := fun k => by
    obtain ⟨v, h1, h2, h3⟩ := h.row k
    refine ⟨v, h1, h2.kept (grown_of_below hb) ?_, h3⟩
    cases v.ownBlock <;> simp
  apart := h.apart }

theorem grp_snoc (l : List ZB) (x : ZB) (k : List UInt8) : grp (l ++ [x]) k = grp l k ++ if x.1.data.toList = k then [x] else [] := by
  unfold grp
  rw [List.filter_append]
  congr 1
  by_cases h : x.1.data.toList = k <;> simp [h]
theorem flatH_append (l m : List ZB) : flatH (l ++ m) = flatH l ++ flatH m := by simp [flatH]
theorem string_ne {k k' : List UInt8} (h : k ≠ k') : (Lit.string k) ≠ .string k' := fun e => h (by cases e; rfl)

theorem keyIs (x : ZB) : WideAt.IsKeyLit (keyZ x) := trivial
/-- one holding more -/
theorem Eng.add {w w' : World} {base eb mb : Nat} {l : List ZB} {D : DataW Value} (h : Eng w base eb mb l D) (x : ZB) (v : Value) (hv : At D x.1.data.toList v)
    (g cap : Nat)
    (hown : w'.ownsMap Try.prog 9 RV mb (l.length + 1) (D.put (keyZ x) (.held (.slice (some ⟨g, 0, none⟩) ((grp l x.1.data.toList).length + 1) cap))))
    (hrow : w'.ownsRow base 65 6 (.slice (some ⟨g, 0, none⟩) ((grp l x.1.data.toList).length + 1) cap) ((grp l x.1.data.toList).length + 1) (flatH (grp l x.1.data.toList) ++ encH x))
    (hg : v.ownBlock = some g ∨ w.heap.size < g)
    (hblk : ∀ k, k < w.heap.size → k ≠ mb → v.ownBlock ≠ some k → w'.heap[k]? = w.heap[k]?) :
    Eng w' base eb mb (l ++ [x]) (D.put (keyZ x) (.held (.slice (some ⟨g, 0, none⟩) ((grp l x.1.data.toList).length + 1) cap))) := by
  have hD : Maps.IsMap D := h.owns.isMap
  obtain ⟨v0, hv0, hr0, hne1, hne2⟩ := h.row x.1.data.toList
  obtain rfl : v0 = v := by have := hv0.symm.trans hv; cases this; rfl
  have same : ∀ v', At (D.put (keyZ x) (.held (.slice (some ⟨g, 0, none⟩) ((grp l x.1.data.toList).length + 1) cap))) x.1.data.toList v' ↔ v' = .slice (some ⟨g, 0, none⟩) ((grp l x.1.data.toList).length + 1) cap := fun v' => by
    unfold At
    rw [show (Lit.string x.1.data.toList) = keyZ x from rfl, Maps.atKey_put_same hD (keyIs x)]
    exact ⟨fun e => by cases e; rfl, fun e => by rw [e]⟩
  have other : ∀ k v', x.1.data.toList ≠ k → (At (D.put (keyZ x) (.held (.slice (some ⟨g, 0, none⟩) ((grp l x.1.data.toList).length + 1) cap))) k v' ↔ At D k v') := fun k v' hk => by
    unfold At
    rw [Maps.atKey_put_other (show Lit.string k ≠ keyZ x from string_ne hk.symm)]
  -- what lies elsewhere is as it was
  have keepRow : ∀ k u, x.1.data.toList ≠ k → At D k u → w.ownsRow base 65 6 u (grp l k).length (flatH (grp l k)) → w'.ownsRow base 65 6 u (grp l k).length (flatH (grp l k)) := fun k u hk hu hr => by
    obtain ⟨u', hu', _, _, hn2⟩ := h.row k
    obtain rfl : u' = u := by have := hu'.symm.trans hu; cases this; rfl
    have ha := h.apart k _ u' v0 (Ne.symm hk) hu hv
    obtain ⟨hl, hcase⟩ := hr
    refine ⟨hl, ?_⟩
    rcases hcase with hc | ⟨g', cap', cur, rfl, hb', hh, rest⟩
    · exact .inl hc
    · refine .inr ⟨g', cap', cur, rfl, hb', ?_, rest⟩
      have hlt : g' < w.heap.size := (Array.getElem?_eq_some_iff.1 hh).1
      rw [hblk g' hlt (fun e => hn2 (by rw [e]; rfl)) (fun e => ?_)]
      · exact hh
      · rcases ha with ha | ha
        · cases ha
        · exact ha (by rw [e]; rfl)
  refine ⟨?_, ?_, ?_, ?_, ?_⟩
  · rw [hblk eb h.lt h.ne hne1]; exact h.cells
  · simpa using hown
  · intro k
    rw [grp_snoc]
    by_cases hk : x.1.data.toList = k
    · subst hk
      rw [show (Lit.string x.1.data.toList) = keyZ x from rfl, Maps.has_put_same hD (keyIs x)]
      simp
    · rw [Maps.has_put_other (show Lit.string k ≠ keyZ x from string_ne (Ne.symm hk)), h.has k]
      simp [hk]
  · intro k
    by_cases hk : x.1.data.toList = k
    · subst hk
      refine ⟨_, (same _).2 rfl, ?_, ?_, ?_⟩
      · rw [grp_snoc, if_pos rfl, flatH_append]
        simpa [flatH] using hrow
      · show some g ≠ some eb
        rcases hg with e | e
        · rw [← e]; exact hne1
        · intro e'; have := h.lt; simp at e'; omega
      · show some g ≠ some mb
        rcases hg with e | e
        · rw [← e]; exact hne2
        · intro e'; have := h.owns.lt; simp at e'; omega
    · obtain ⟨u, hu, hr, hn1, hn2⟩ := h.row k
      refine ⟨u, (other k u hk).2 hu, ?_, hn1, hn2⟩
      rw [grp_snoc, if_neg hk, List.append_nil]
      exact keepRow k u hk hu hr
  · -- no two in one row
    have key : ∀ k u, x.1.data.toList ≠ k → At D k u → u.ownBlock ≠ some g := fun k u hk hu => by
      rcases hg with e | e
      · rw [← e]
        rcases h.apart k _ u v0 (Ne.symm hk) hu hv with ha | ha
        · rw [ha, e]; simp
        · exact ha
      · intro e'
        obtain ⟨u', hu', hr', _⟩ := h.row k
        obtain rfl : u' = u := by have := hu'.symm.trans hu; cases this; rfl
        have := (hr'.lt _ e').2
        omega
    intro k k' u u' hkk hu hu'
    by_cases hk : x.1.data.toList = k
    · subst hk
      rw [same] at hu
      rw [other k' u' hkk] at hu'
      subst hu
      right
      exact fun e => key k' u' hkk hu' e.symm
    · rw [other k u hk] at hu
      by_cases hk' : x.1.data.toList = k'
      · subst hk'
        rw [same] at hu'
        subst hu'
        right
        exact key k u hk hu
      · rw [other k' u' hk'] at hu'
        exact h.apart k k' u u' hkk hu hu'

theorem grp_len (l : List ZB) (k : List UInt8) : (grp l k).length ≤ l.length := List.length_filter_le _ _

/-- 'ZZaddHolding' on such an engine -/
theorem addEng_any (eb mb base : Nat) (x : ZB) (l : List ZB) (D : DataW Value) (w : World) (h : Eng w base eb mb l D) (hx : okZ x) (hbase : base ≤ w.heap.size) (hmb : base ≤ mb) (hl : l.length + 1 ≤ 8192) :
    Calls Try.prog 15 #[.pointer (some ⟨eb, 0, none⟩), aggZ x] w fun e w' => e = .returned (.tuple #[]) ∧ (∃ D', Eng w' base eb mb (l ++ [x]) D') ∧ Below base w w' := by
  obtain ⟨v, hv, hr, hn1, hn2⟩ := h.row x.1.data.toList
  have hlen := grp_len l x.1.data.toList
  have hc : w.cell? ⟨eb, 7, none⟩ = some (.map (some mb)) := by simp [World.cell?, h.cells, engCells]
  refine (addHolding_any eb mb base x l.length (grp l x.1.data.toList).length D v (flatH (grp l x.1.data.toList)) w hx hc h.owns (by unfold maxLen; omega) hv hr hbase (by omega) hn1 hn2 h.ne).mono ?_
  rintro e w' ⟨rfl, g, cap, ho, hr', hg, _, hos, htp, hout, hsz, hblk⟩
  refine ⟨rfl, ⟨_, h.add x v hv g cap ho hr' hg hblk⟩, hos, htp, hout, hsz, fun k hk => hblk k (by omega) (by omega) (fun e => ?_)⟩
  have := (hr.lt _ e).1
  omega

theorem eng_new (w : World) : Eng ((w.alloc (.map #[] 0)).alloc (.cells (engCells w.heap.size) 58)) w.heap.size (w.heap.size + 1) w.heap.size [] (.map []) := {
  cells := by
    have := heap_new (w.alloc (.map #[] 0)) (.cells (engCells w.heap.size) 58)
    rw [show (w.alloc (.map #[] 0)).heap.size = w.heap.size + 1 by simp] at this
    exact this
  owns := (World.ownsMap_made w Try.prog 9 RV).alloc _
  has := fun k => rfl
  row := fun k => ⟨.slice none 0 0, rfl, ⟨rfl, .inl ⟨rfl, rfl⟩⟩, by simp [Value.ownBlock], by simp [Value.ownBlock]⟩
  apart := fun k k' v v' _ hv _ => by
    left
    cases hv
    rfl }

set_option maxRecDepth 20000 in
set_option maxHeartbeats 1000000 in
theorem build_any (b off n cap : Nat) (l : List ZB) (w : World) (hn : n = l.length) (hr : RowZ w b off l) (hok : ∀ x ∈ l, okZ x) (h4 : n ≤ 4096) (hb : b < w.heap.size) :
    Calls Try.prog 9 #[.slice (some ⟨b, off, none⟩) n cap] w fun e w' => ∃ D, e = .returned (.pointer (some ⟨w.heap.size + 1, 0, none⟩)) ∧ Eng w' w.heap.size (w.heap.size + 1) w.heap.size l D ∧ Below w.heap.size w w' := by
  have HN := hide hn
  have HR := hide hr
  have HK := hide hok
  clear hn hr hok
  go_enter Try.func9, Try.ntmps9
  go_wp2_with fail
  refine (newEngine_any _).mono ?_
  rintro e w1 ⟨rfl, rfl⟩
  go_wp2_with fail
  go_loopw [4] (fun i wr => ∃ (k : Nat) (D : DataW Value), k ≤ n ∧ i = .int .i64 k ∧ Eng wr w.heap.size (w.heap.size + 1) w.heap.size (l.take k) D ∧ Below w.heap.size w wr) (fun i _ => n - (intOf i).toNat)
  case atStart => exact ⟨0, _, Nat.zero_le _, rfl, eng_new w, (below_alloc w _).alloc (by simp) _⟩
  case round =>
    obtain ⟨k, D, hk, rfl, hE, hB⟩ := hrel
    have HE := hide hE
    have HB := hide hB
    clear hE hB
    by_cases hlt : k < n
    · have hkl : k < l.length := by have := HN.out; omega
      obtain ⟨x0, x1, x2, x3⟩ := (HR.out.below HB.out hb) k hkl
      go_wp2_with fail
      refine (zzToB_any l[k] _).mono ?_
      rintro e w2 ⟨rfl, hG⟩
      have HG := hide hG
      clear hG x0 x1 x2 x3
      have hs1 := HB.out.size
      have hs2 := HG.out.below.size
      go_wp2_with fail
      refine (addEng_any (w.heap.size + 1) w.heap.size w.heap.size l[k] (l.take k) D w2 (HE.out.below HG.out.below) (HK.out _ (List.getElem_mem _)) (by omega) (Nat.le_refl _) (by rw [List.length_take]; omega)).mono ?_
      rintro e w3 ⟨rfl, ⟨D', hE'⟩, hB'⟩
      rw [← List.take_succ_eq_append_getElem hkl] at hE'
      have HE' := hide hE'
      have HB' := hide hB'
      clear hE' hB'
      go_wp2_with fail
      exact ⟨⟨k + 1, D', by omega, by go_num, HE'.out, (HB.out.trans (HG.out.below.mono hs1)).trans HB'.out⟩, by simp [intOf]; omega⟩
    · go_wp2_with fail
      go_ret
      refine ⟨D, rfl, ?_, HB.out⟩
      have := HE.out
      rwa [List.take_of_length_le (by have := HN.out; omega)] at this
end Go.Proofs.Qxb6627916a
