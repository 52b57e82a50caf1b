import Derived.Test.Qxb6628011aCut
import Derived.Laws.MakeOwn
import Derived.Laws.Cover3
namespace Go.Proofs.Qxb6628011a
set_option linter.unusedSimpArgs false
open Go.RowKit

theorem mk22 (n : Nat) (hn : n ≤ 2097152) (w : World) : ∃ C : Array Value, C.size = n ∧ (Instr.makeSlice 22 (.int .i64 n) (.int .i64 n)).run Try.prog w = .ok (.slice (some ⟨w.heap.size, 0, none⟩) n n) (w.alloc (.cells C 5)) := by
  obtain ⟨i, h1, hz, h2, h3⟩ := info_parts info5
  refine ⟨madeCells (Value.int .u8 0).cells (n * i.size), by rw [size_madeCells, h2, Nat.mul_one], ?_⟩
  have := run_make w 22 5 i _ Try.underlying22 h1 hz .i64 .i64 n n (by omega) (by omega) (by rw [h3]; omega) (by omega)
  simpa using this
theorem eqNil (w : World) : (binOp .eql 22 (.slice none 0 0) (.slice none 0 0)).run Try.prog w = .ok (.bool true) w := by
  simp only [binOp]
  simp [run_equal_slice_nil w 22 5 none 0 0 Try.underlying22]
def DrewW (u v : World) : Prop := ∃ m, v = u.drewN m
def SameW (u v : World) : Prop := u = v
theorem SameW.refl (u : World) : SameW u u := rfl
def TrueE (w : World) (e : Ending) (w' : World) : Prop := e = .returned (.bool true) ∧ Below w.heap.size w w'
/-- where the search for the first open zero stands -/
def KAt (l : B) (n j : Nat) (vk : Value) : Prop := (vk = .int .i64 (-1) ∧ ∀ i, i < j → ¬ opn l i) ∨ ∃ k : Nat, k < n ∧ j = k + 1 ∧ vk = .int .i64 k ∧ First l k

set_option maxHeartbeats 4000000 in
set_option maxRecDepth 100000 in
theorem law1_some (ad : Addr) (l : B) (cap : Nat) (w : World) (hs : SlB w (some ad) l) (hn : l.length ≤ maxLen) : Calls Try.prog 3 #[.slice (some ad) l.length cap] w (TrueE w) := by
  obtain ⟨n, hnl⟩ : ∃ n, n = l.length := ⟨_, rfl⟩
  rw [← hnl] at hn ⊢
  have h5 := hide (bytes1_any (some ad) n cap hn w)
  have N := hide hnl
  have S := hide hs
  have hmix := mixed
  have heqn := eqNil
  clear hnl hs hn
  by_cases hbig : 1048576 < n
  · go_enter Try.func3, Try.ntmps3
    go_wp2_with fail
    refine h5.out.mono ?_
    rintro e w' ⟨⟨r, rfl⟩, rfl⟩
    cases r
    · go_wp2_with fail
      go_ret
      exact ⟨rfl, Below.refl _ _⟩
    · go_wp2_with fail
      go_ret
      exact ⟨rfl, Below.refl _ _⟩
  obtain ⟨C, hC, hmk⟩ := mk22 n (by omega) w
  obtain ⟨w1, hw1⟩ : ∃ w1, w1 = w.alloc (.cells C 5) := ⟨_, rfl⟩
  obtain ⟨gc, hgc⟩ : ∃ g, g = w.heap.size := ⟨_, rfl⟩
  rw [← hw1, ← hgc] at hmk
  have hb1 : Hid (Below w.heap.size w w1) := by rw [hw1]; exact (Below.refl _ w).alloc (Nat.le_refl _) _
  have ht1 : Hid (w1.there gc 0 n) := by
    have hh : w1.heap[gc]? = some (.cells C 5 (0, 0)) := by rw [hw1, hgc]; exact (MapKept.heap_alloc w _).1
    refine fun j hj => ⟨?_, ?_⟩
    · unfold World.cell?; rw [hh]; simp; omega
    · unfold World.frozen?; rw [hh]; simp
  have HGC := hide hgc
  clear hw1 hgc hC
  go_enter Try.func3, Try.ntmps3
  go_wp2_with fail
  refine h5.out.mono ?_
  rintro e w' ⟨⟨r, rfl⟩, rfl⟩
  clear h5
  cases r
  · go_wp2_with fail
    go_ret
    exact ⟨rfl, Below.refl _ _⟩
  go_wp2_with fail
  clear hmk
  go_loopw [4] (fun vi wr => ∃ i : Nat, i ≤ n ∧ vi = .int .i64 i ∧ Hid (wr.there gc 0 n) ∧ Hid (∀ j (hj : j < l.length), j < i → wr.cell? ⟨gc, j, none⟩ = some (byteV (l[j]'hj))) ∧ Hid (Below w'.heap.size w' wr)) (fun vi _ => n - (intOf vi).toNat)
  case atStart => exact ⟨0, Nat.zero_le _, rfl, ht1.out, fun _ _ h => absurd h (Nat.not_lt_zero _), hb1.out⟩
  case round =>
    clear ht1 hb1
    obtain ⟨i, hi, rfl, hth, hcp, hbel⟩ := hrel
    by_cases hin : i < n
    · have hil : i < l.length := by rw [← N.out]; exact hin
      obtain ⟨g, off, had, hgs, hcell⟩ := S.out (by omega)
      obtain rfl : ad = ⟨g, off, none⟩ := Option.some.inj had
      have c0 : wr.cell? ⟨g, off + i, none⟩ = some (byteV (l[i]'hil)) := (hbel.out.cell hgs).trans (hcell i hil)
      obtain ⟨v, hv⟩ : ∃ v, v = byteV (l[i]'hil) := ⟨_, rfl⟩
      rw [← hv] at c0
      obtain ⟨h1, h2⟩ := hth.out i hin
      rw [Nat.zero_add] at h1 h2
      obtain ⟨u, hu⟩ := Option.isSome_iff_exists.1 h1
      have hcp' : Hid (∀ j (hj : j < l.length), j < i + 1 → (wr.setCell ⟨gc, i, none⟩ v).cell? ⟨gc, j, none⟩ = some (byteV (l[j]'hj))) := fun j hj hji => by
        by_cases e : j = i
        · subst e
          rw [World.cell?_setCell_same _ _ _ hu, hv]
        · rw [World.cell?_setCell_other _ _ _ _ (by intro e2; cases e2; exact e rfl)]
          exact hcp.out j hj (by omega)
      have hth' : Hid ((wr.setCell ⟨gc, i, none⟩ v).there gc 0 n) := World.there_setCells (w := wr) hth.out gc i [v]
      have hb' : Hid (Below w'.heap.size w' (wr.setCell ⟨gc, i, none⟩ v)) := hbel.out.setCell (by show w'.heap.size ≤ gc; rw [HGC.out]; exact Nat.le_refl _) _
      clear h1 hcell hth hcp hbel had
      unfold byteV at hv
      obtain ⟨xn, hxn⟩ : ∃ xn, xn = (l[i]'hil).toNat := ⟨_, rfl⟩
      rw [← hxn] at hv
      subst hv
      clear hxn
      go_wp2_with fail
      exact ⟨⟨i + 1, by omega, by go_num, hth'.out, hcp'.out, hb'.out⟩, by simp [intOf]; omega⟩
    · have hsc : Hid (SlB wr (some ⟨gc, 0, none⟩) l) := fun h0 => ⟨gc, 0, rfl, by
        obtain ⟨u, hu⟩ := Option.isSome_iff_exists.1 (hth.out 0 (by rw [N.out]; exact h0)).1
        exact World.block_lt_of_cell? wr _ hu, fun j hj => by rw [Nat.zero_add]; exact hcp.out j hj (by rw [N.out] at hin; omega)⟩
      have hcut := cut_any (some ⟨gc, 0, none⟩) l n wr hsc.out (by rw [N.out]; exact Nat.le_refl _) (by rw [← N.out]; omega)
      rw [← N.out] at hcut
      have HCUT := hide hcut
      have hsa : Hid (SlB wr (some ad) l) := S.out.below hbel.out (Nat.le_refl _)
      clear hcut hth hcp
      go_wp2_with fail
      refine HCUT.out.mono ?_
      clear HCUT
      rintro e w3 ⟨hB3, hcase⟩
      have HB3 : Hid (Below w'.heap.size w' w3) := hbel.out.trans (hB3.mono hbel.out.size)
      have SA : Hid (SlB w3 (some ad) l) := hsa.out.below hB3 (Nat.le_refl _)
      have SC : Hid (SlB w3 (some ⟨gc, 0, none⟩) l) := hsc.out.below hB3 (Nat.le_refl _)
      clear hB3 hsc hsa hbel
      rcases hcase with ⟨rfl, hno⟩ | ⟨k0, ad0, cp0, hf0, h10, rfl, hcp0, had0⟩
      · have HNO := hide hno
        clear hno
        go_wp2_with fail
        go_loopw [8, 9] (fun vk vj wr => ∃ j : Nat, j ≤ n ∧ vj = .int .i64 j ∧ Hid (KAt l n j vk) ∧ SameW wr w3) (fun _ vj _ => n - (intOf vj).toNat)
        case atStart => exact ⟨0, Nat.zero_le _, rfl, .inl ⟨rfl, fun _ h => absurd h (Nat.not_lt_zero _)⟩, SameW.refl _⟩
        case round =>
          obtain ⟨j, hj, hvj, hkat, hwr⟩ := hrel
          have hwr' : wr = w3 := hwr
          clear hwr
          subst hvj hwr'
          rcases hkat.out with ⟨hvk, hnone⟩ | ⟨k, hkn, hjk, hvk, hfk⟩
          · subst hvk
            have HNONE := hide hnone
            clear hkat hnone
            by_cases hjn : j < n
            · have hjl : j < l.length := by rw [← N.out]; exact hjn
              obtain ⟨g, off, had, hgs, hcell⟩ := SA.out (by omega)
              obtain rfl : ad = ⟨g, off, none⟩ := Option.some.inj had
              have c0 := hcell j hjl
              have e0 : l[j]? = some (l[j]'hjl) := List.getElem?_eq_getElem hjl
              obtain ⟨x, hx⟩ : ∃ x, x = l[j]'hjl := ⟨_, rfl⟩
              rw [← hx] at c0 e0
              have E0 := hide e0
              clear hx e0
              unfold byteV at c0
              by_cases hx0 : x = 0
              · subst hx0
                have c0' : wr.cell? ⟨g, off + j, none⟩ = some (.int .u8 0) := c0
                clear c0
                by_cases hj1 : j + 1 = n
                · have hf : Hid (First l j) := ⟨⟨E0.out, by rw [List.getElem?_eq_none (by rw [← N.out]; omega)]; simp⟩, HNONE.out⟩
                  clear hcell
                  go_wp2_with fail
                  exact ⟨⟨j + 1, by omega, by go_num, .inr ⟨j, hjn, rfl, rfl, hf.out⟩, SameW.refl _⟩, by simp [intOf]; omega⟩
                · have hj1l : j + 1 < l.length := by rw [← N.out]; omega
                  have c1 := hcell (j + 1) hj1l
                  have e1 : l[j + 1]? = some (l[j + 1]'hj1l) := List.getElem?_eq_getElem hj1l
                  obtain ⟨y, hy⟩ : ∃ y, y = l[j + 1]'hj1l := ⟨_, rfl⟩
                  rw [← hy] at c1 e1
                  have E1 := hide e1
                  have hj1n : j + 1 < n := by omega
                  clear hy e1 hcell
                  unfold byteV at c1
                  by_cases hy1 : y = 255
                  · subst hy1
                    have c1' : wr.cell? ⟨g, off + (j + 1), none⟩ = some (.int .u8 255) := c1
                    clear c1
                    have hn' : Hid (∀ i, i < j + 1 → ¬ opn l i) := fun i hi => by
                      by_cases e : i = j
                      · subst e; exact fun ho => ho.2 E1.out
                      · exact HNONE.out i (by omega)
                    go_wp2_with fail
                    exact ⟨⟨j + 1, by omega, by go_num, .inl ⟨rfl, hn'.out⟩, SameW.refl _⟩, by simp [intOf]; omega⟩
                  · have hyn : y.toNat ≠ 255 := fun e => hy1 (UInt8.toNat_inj.1 e)
                    have hf : Hid (First l j) := ⟨⟨E0.out, by rw [E1.out]; exact fun e => hy1 (Option.some.inj e)⟩, HNONE.out⟩
                    obtain ⟨yn, hye⟩ : ∃ yn, yn = y.toNat := ⟨_, rfl⟩
                    rw [← hye] at c1 hyn
                    have hyz : (((yn : Nat) : Int) != 255) = true := by rw [bne_iff_ne]; omega
                    clear hye hy1
                    go_wp2_with fail
                    exact ⟨⟨j + 1, by omega, by go_num, .inr ⟨j, hjn, rfl, rfl, hf.out⟩, SameW.refl _⟩, by simp [intOf]; omega⟩
              · have hxn : x.toNat ≠ 0 := fun e => hx0 (UInt8.toNat_inj.1 e)
                have hn' : Hid (∀ i, i < j + 1 → ¬ opn l i) := fun i hi => by
                  by_cases e : i = j
                  · subst e; exact fun ho => by have h := ho.1; rw [E0.out] at h; exact hx0 (Option.some.inj h)
                  · exact HNONE.out i (by omega)
                obtain ⟨xn, hxe⟩ : ∃ xn, xn = x.toNat := ⟨_, rfl⟩
                rw [← hxe] at c0 hxn
                clear hxe hx0 hcell
                go_wp2_with fail
                exact ⟨⟨j + 1, by omega, by go_num, .inl ⟨rfl, hn'.out⟩, SameW.refl _⟩, by simp [intOf]; omega⟩
            · go_wp2_with fail
              go_ret
              exact ⟨rfl, HB3.out⟩
          · subst hvk hjk
            have hk1 := hide (HNO.out k hfk)
            clear hkat hfk
            by_cases hkn1 : k + 1 = n
            · go_wp2_with fail
              all_goals
                go_ret
                exact ⟨rfl, HB3.out⟩
            · have hk1l : k + 1 < l.length := by rw [← N.out]; omega
              obtain ⟨g, off, had, hgs, hcell⟩ := SA.out (by omega)
              obtain rfl : ad = ⟨g, off, none⟩ := Option.some.inj had
              have c1 := hcell (k + 1) hk1l
              have e1 : l[k + 1]? = some (l[k + 1]'hk1l) := List.getElem?_eq_getElem hk1l
              obtain ⟨y, hy⟩ : ∃ y, y = l[k + 1]'hk1l := ⟨_, rfl⟩
              rw [← hy] at c1 e1
              have hy1 : y.toNat ≠ 1 := fun e => hk1.out (by rw [e1]; exact congrArg some (UInt8.toNat_inj.1 e))
              have hk1n : k + 1 < n := by omega
              clear hy e1 hcell
              unfold byteV at c1
              obtain ⟨yn, hye⟩ : ∃ yn, yn = y.toNat := ⟨_, rfl⟩
              rw [← hye] at c1 hy1
              have hyz : (((yn : Nat) : Int) != 1) = true := by rw [bne_iff_ne]; omega
              clear hye
              go_wp2_with fail
              all_goals
                go_ret
                exact ⟨rfl, HB3.out⟩
      · have HF0 := hide hf0
        have H10 := hide h10
        have HAD0 := hide had0
        clear hf0 h10 had0
        obtain ⟨r, hr⟩ : ∃ r, r = n - (k0 + 2) := ⟨_, rfl⟩
        rw [← hr]
        have HR := hide hr
        clear hr
        go_wp2_with fail
        go_loopw [8, 9] (fun vk vj wr => ∃ j : Nat, j ≤ n ∧ vj = .int .i64 j ∧ Hid (KAt l n j vk) ∧ SameW wr w3) (fun _ vj _ => n - (intOf vj).toNat)
        case atStart => exact ⟨0, Nat.zero_le _, rfl, .inl ⟨rfl, fun _ h => absurd h (Nat.not_lt_zero _)⟩, SameW.refl _⟩
        case round =>
          obtain ⟨j, hj, hvj, hkat, hwr⟩ := hrel
          have hwr' : wr = w3 := hwr
          clear hwr
          subst hvj hwr'
          rcases hkat.out with ⟨hvk, hnone⟩ | ⟨k, hkn, hjk, hvk, hfk⟩
          · subst hvk
            have HNONE := hide hnone
            clear hkat hnone
            by_cases hjn : j < n
            · have hjl : j < l.length := by rw [← N.out]; exact hjn
              obtain ⟨g, off, had, hgs, hcell⟩ := SA.out (by omega)
              obtain rfl : ad = ⟨g, off, none⟩ := Option.some.inj had
              have c0 := hcell j hjl
              have e0 : l[j]? = some (l[j]'hjl) := List.getElem?_eq_getElem hjl
              obtain ⟨x, hx⟩ : ∃ x, x = l[j]'hjl := ⟨_, rfl⟩
              rw [← hx] at c0 e0
              have E0 := hide e0
              clear hx e0
              unfold byteV at c0
              by_cases hx0 : x = 0
              · subst hx0
                have c0' : wr.cell? ⟨g, off + j, none⟩ = some (.int .u8 0) := c0
                clear c0
                by_cases hj1 : j + 1 = n
                · have hf : Hid (First l j) := ⟨⟨E0.out, by rw [List.getElem?_eq_none (by rw [← N.out]; omega)]; simp⟩, HNONE.out⟩
                  clear hcell
                  go_wp2_with fail
                  exact ⟨⟨j + 1, by omega, by go_num, .inr ⟨j, hjn, rfl, rfl, hf.out⟩, SameW.refl _⟩, by simp [intOf]; omega⟩
                · have hj1l : j + 1 < l.length := by rw [← N.out]; omega
                  have c1 := hcell (j + 1) hj1l
                  have e1 : l[j + 1]? = some (l[j + 1]'hj1l) := List.getElem?_eq_getElem hj1l
                  obtain ⟨y, hy⟩ : ∃ y, y = l[j + 1]'hj1l := ⟨_, rfl⟩
                  rw [← hy] at c1 e1
                  have E1 := hide e1
                  have hj1n : j + 1 < n := by omega
                  clear hy e1 hcell
                  unfold byteV at c1
                  by_cases hy1 : y = 255
                  · subst hy1
                    have c1' : wr.cell? ⟨g, off + (j + 1), none⟩ = some (.int .u8 255) := c1
                    clear c1
                    have hn' : Hid (∀ i, i < j + 1 → ¬ opn l i) := fun i hi => by
                      by_cases e : i = j
                      · subst e; exact fun ho => ho.2 E1.out
                      · exact HNONE.out i (by omega)
                    go_wp2_with fail
                    exact ⟨⟨j + 1, by omega, by go_num, .inl ⟨rfl, hn'.out⟩, SameW.refl _⟩, by simp [intOf]; omega⟩
                  · have hyn : y.toNat ≠ 255 := fun e => hy1 (UInt8.toNat_inj.1 e)
                    have hf : Hid (First l j) := ⟨⟨E0.out, by rw [E1.out]; exact fun e => hy1 (Option.some.inj e)⟩, HNONE.out⟩
                    obtain ⟨yn, hye⟩ : ∃ yn, yn = y.toNat := ⟨_, rfl⟩
                    rw [← hye] at c1 hyn
                    have hyz : (((yn : Nat) : Int) != 255) = true := by rw [bne_iff_ne]; omega
                    clear hye hy1
                    go_wp2_with fail
                    exact ⟨⟨j + 1, by omega, by go_num, .inr ⟨j, hjn, rfl, rfl, hf.out⟩, SameW.refl _⟩, by simp [intOf]; omega⟩
              · have hxn : x.toNat ≠ 0 := fun e => hx0 (UInt8.toNat_inj.1 e)
                have hn' : Hid (∀ i, i < j + 1 → ¬ opn l i) := fun i hi => by
                  by_cases e : i = j
                  · subst e; exact fun ho => by have h := ho.1; rw [E0.out] at h; exact hx0 (Option.some.inj h)
                  · exact HNONE.out i (by omega)
                obtain ⟨xn, hxe⟩ : ∃ xn, xn = x.toNat := ⟨_, rfl⟩
                rw [← hxe] at c0 hxn
                clear hxe hx0 hcell
                go_wp2_with fail
                exact ⟨⟨j + 1, by omega, by go_num, .inl ⟨rfl, hn'.out⟩, SameW.refl _⟩, by simp [intOf]; omega⟩
            · exact absurd HF0.out.1 (HNONE.out k0 (by have := HF0.out.lt; rw [← N.out] at this; omega))
          · subst hvk hjk
            obtain rfl : k = k0 := hfk.unique HF0.out
            have hk1l : k + 1 < l.length := (List.getElem?_eq_some_iff.1 H10.out).1
            have hk1n : k + 1 < n := by rw [N.out]; exact hk1l
            have hkb : ((k : Int) + 1 == (n : Int)) = false := by rw [beq_eq_false_iff_ne]; omega
            have hke : ¬ ((k : Int) + 1 = (n : Int)) := by omega
            clear hkat hfk
            obtain ⟨g, off, had, hgs, hcell⟩ := SA.out (by omega)
            obtain rfl : ad = ⟨g, off, none⟩ := Option.some.inj had
            have c1 := hcell (k + 1) hk1l
            have e1 : l[k + 1]'hk1l = 1 := by have := H10.out; rw [List.getElem?_eq_getElem hk1l] at this; exact Option.some.inj this
            rw [e1] at c1
            have c1' : wr.cell? ⟨g, off + (k + 1), none⟩ = some (.int .u8 1) := c1
            obtain ⟨i0, hi0, hz0, hz1, hz2⟩ := info_parts info5
            obtain ⟨w4, hmk, hown4, hg4⟩ := run_make_own (P := Try.prog) wr wr.heap.size 22 5 i0 (.int .u8 0) 1 Try.underlying22 hi0 hz0 hz1 .i64 .i64 k (by rw [hz2]; omega) (by unfold maxLen; omega) (Nat.le_refl _)
            have HO4 := hide hown4
            have HB4 : Hid (Below wr.heap.size wr w4) := (Below.refl _ wr).grown hg4 (Nat.le_refl _) (fun q hq => by cases hq)
            clear hown4 hg4 c1 e1
            have HCELL := hide hcell
            clear hcell
            go_wp2_with fail
            clear hmk c1'
            obtain ⟨bs, hbs⟩ : ∃ bs, bs = wr.heap.size := ⟨_, rfl⟩
            obtain ⟨w3, hw3⟩ : ∃ w3, w3 = wr := ⟨_, rfl⟩
            rw [← hbs] at HO4 HB4 ⊢
            rw [← hw3] at HB4 HCELL HB3 SC hgs hbs
            have BS := hide hbs
            clear hw3 hbs SA
            go_loopw [10, 11] (fun vo vj wr => ∃ j : Nat, j ≤ k ∧ vj = .int .i64 j ∧ Hid (wr.ownsRow bs 5 1 vo (want l j).length ((want l j).map byteV)) ∧ Hid (Below bs w3 wr)) (fun _ vj _ => k - (intOf vj).toNat)
            case atStart => exact ⟨0, Nat.zero_le _, rfl, HO4.out, HB4.out⟩
            case round =>
              clear HO4 HB4
              obtain ⟨j, hj, rfl, hrow, hbl⟩ := hrel
              by_cases hjk : j < k
              · have hjl : j < l.length := by omega
                have hgb : g < bs := by rw [BS.out]; exact hgs
                have hjn : j < n := by omega
                have cy : wr.cell? ⟨g, off + j, none⟩ = some (byteV (l[j]'hjl)) := (hbl.out.cell hgb).trans (HCELL.out j hjl)
                have ey : l[j]? = some (l[j]'hjl) := List.getElem?_eq_getElem hjl
                obtain ⟨y, hy⟩ : ∃ y, y = l[j]'hjl := ⟨_, rfl⟩
                rw [← hy] at cy ey
                have EY := hide ey
                clear hy ey
                unfold byteV at cy
                by_cases hj0 : j = 0
                · subst hj0
                  have cy0 : wr.cell? ⟨g, off, none⟩ = some (.int .u8 y.toNat) := cy
                  clear cy
                  have cy := cy0
                  clear cy0
                  have hsk : Hid (skipB l 0 = false) := by show _ = _; simp [skipB]
                  obtain ⟨yn, hye⟩ : ∃ yn, yn = y.toNat := ⟨_, rfl⟩
                  rw [← hye] at cy
                  have HYE := hide hye
                  clear hye
                  have HNB := hide (show (wr.alloc (.cells #[.int .u8 yn] 5)).heap[wr.heap.size]? = some (.cells #[.int .u8 yn] 5 (0, 0)) from (MapKept.heap_alloc wr _).1)
                  go_wp2_with (at_builtin; refine wpList_append_lies _ rfl _ _ 22 rfl bs 5 i0 (.int .u8 0) 1 1 Try.underlying22 hi0 hz0 hz1 hz2 rfl (by omega) u10 (want l 0).length _ rfl (hrow.out.alloc _) ⟨wr.heap.size, 0, none⟩ 1 1 [.int .u8 yn] rfl rfl (World.news_of_block HNB.out) (by simp [Value.oneCell']) (by omega) (by have := want_len l 0; unfold maxLen; omega) (by have := want_len l 0; omega) (by have := hbl.out.size; have := BS.out; simp; omega) (wr.heap.size + 1) (by simp) ?_; intro g3 cap3 w4 hr3 hg3 hat3 hlt3)
                  have hr4 : Hid (w4.ownsRow bs 5 1 (.slice (some ⟨g3, 0, none⟩) ((want l 0).length + 1) cap3) (want l (0 + 1)).length ((want l (0 + 1)).map byteV)) := by
                    rw [want_take hsk.out EY.out, List.map_append, List.length_append]
                    rw [HYE.out] at hr3
                    exact hr3
                  have hb4 : Hid (Below bs w3 w4) := (hbl.out.alloc (by have := hbl.out.size; have := BS.out; omega) _).grown hg3 (by have := hbl.out.size; have := BS.out; simp; omega) (fun q hq => (hrow.out.lt _ hq).1)
                  clear hr3 hg3 hat3 hlt3 hrow hbl
                  go_wp2_with fail
                  exact ⟨⟨0 + 1, by omega, by go_num, hr4.out, hb4.out⟩, by simp [intOf]; omega⟩
                · obtain ⟨p, hp⟩ : ∃ p, p = j - 1 := ⟨_, rfl⟩
                  have hsub : (j : Int) - 1 = (p : Int) := by omega
                  have hpn : p < n := by omega
                  have hj0' : 0 < j := by omega
                  have hjz : (0 : Int) < (j : Int) := by omega
                  have hwrap : IntKind.i64.wrap (p : Int) = (p : Int) := by rw [IntKind.wrap_i64]; omega
                  have hpl : p < l.length := by omega
                  have cx : wr.cell? ⟨g, off + p, none⟩ = some (byteV (l[p]'hpl)) := (hbl.out.cell hgb).trans (HCELL.out p hpl)
                  have ex : l[j - 1]? = some (l[p]'hpl) := by rw [← hp]; exact List.getElem?_eq_getElem hpl
                  obtain ⟨x, hx⟩ : ∃ x, x = l[p]'hpl := ⟨_, rfl⟩
                  rw [← hx] at cx ex
                  have EX := hide ex
                  clear hx ex hp hj0
                  unfold byteV at cx
                  by_cases hx0 : x = 0
                  · subst hx0
                    have cx' : wr.cell? ⟨g, off + p, none⟩ = some (.int .u8 0) := cx
                    clear cx
                    by_cases hy1 : y = 255
                    · subst hy1
                      have cy' : wr.cell? ⟨g, off + j, none⟩ = some (.int .u8 255) := cy
                      clear cy
                      have hsk : Hid (skipB l j = true) := by show _ = _; unfold skipB; rw [EX.out, EY.out]; simp [hj0']
                      have hr4 : Hid (wr.ownsRow bs 5 1 u10 (want l (j + 1)).length ((want l (j + 1)).map byteV)) := by rw [want_skip hsk.out]; exact hrow.out
                      go_wp2_with fail
                      exact ⟨⟨j + 1, by omega, by go_num, hr4.out, hbl.out⟩, by simp [intOf]; omega⟩
                    · have hyn : y.toNat ≠ 255 := fun e => hy1 (UInt8.toNat_inj.1 e)
                      have hsk : Hid (skipB l j = false) := by show _ = _; unfold skipB; rw [EY.out]; simp [hy1]
                      obtain ⟨yn, hye⟩ : ∃ yn, yn = y.toNat := ⟨_, rfl⟩
                      rw [← hye] at cy
                      rw [← hye] at hyn
                      have hyz : ((yn : Nat) : Int) ≠ 255 := by omega
                      have hyb : (((yn : Nat) : Int) == 255) = false := by rw [beq_eq_false_iff_ne]; exact hyz
                      have HYE := hide hye
                      clear hye
                      have HNB := hide (show (wr.alloc (.cells #[.int .u8 yn] 5)).heap[wr.heap.size]? = some (.cells #[.int .u8 yn] 5 (0, 0)) from (MapKept.heap_alloc wr _).1)
                      go_wp2_with (at_builtin; refine wpList_append_lies _ rfl _ _ 22 rfl bs 5 i0 (.int .u8 0) 1 1 Try.underlying22 hi0 hz0 hz1 hz2 rfl (by omega) u10 (want l j).length _ rfl (hrow.out.alloc _) ⟨wr.heap.size, 0, none⟩ 1 1 [.int .u8 yn] rfl rfl (World.news_of_block HNB.out) (by simp [Value.oneCell']) (by omega) (by have := want_len l j; unfold maxLen; omega) (by have := want_len l j; omega) (by have := hbl.out.size; have := BS.out; simp; omega) (wr.heap.size + 1) (by simp) ?_; intro g3 cap3 w4 hr3 hg3 hat3 hlt3)
                      have hr4 : Hid (w4.ownsRow bs 5 1 (.slice (some ⟨g3, 0, none⟩) ((want l j).length + 1) cap3) (want l (j + 1)).length ((want l (j + 1)).map byteV)) := by
                        rw [want_take hsk.out EY.out, List.map_append, List.length_append]
                        rw [HYE.out] at hr3
                        exact hr3
                      have hb4 : Hid (Below bs w3 w4) := (hbl.out.alloc (by have := hbl.out.size; have := BS.out; omega) _).grown hg3 (by have := hbl.out.size; have := BS.out; simp; omega) (fun q hq => (hrow.out.lt _ hq).1)
                      clear hr3 hg3 hat3 hlt3 hrow hbl
                      go_wp2_with fail
                      exact ⟨⟨j + 1, by omega, by go_num, hr4.out, hb4.out⟩, by simp [intOf]; omega⟩
                  · have hxn : x.toNat ≠ 0 := fun e => hx0 (UInt8.toNat_inj.1 e)
                    have hxs : Hid (x ≠ 0) := hx0
                    obtain ⟨xn, hxe⟩ : ∃ xn, xn = x.toNat := ⟨_, rfl⟩
                    rw [← hxe] at cx hxn
                    clear hxe hx0
                    have hsk : Hid (skipB l j = false) := by show _ = _; unfold skipB; rw [EX.out]; simp [hxs.out]
                    obtain ⟨yn, hye⟩ : ∃ yn, yn = y.toNat := ⟨_, rfl⟩
                    rw [← hye] at cy
                    have HYE := hide hye
                    clear hye
                    have HNB := hide (show (wr.alloc (.cells #[.int .u8 yn] 5)).heap[wr.heap.size]? = some (.cells #[.int .u8 yn] 5 (0, 0)) from (MapKept.heap_alloc wr _).1)
                    go_wp2_with (at_builtin; refine wpList_append_lies _ rfl _ _ 22 rfl bs 5 i0 (.int .u8 0) 1 1 Try.underlying22 hi0 hz0 hz1 hz2 rfl (by omega) u10 (want l j).length _ rfl (hrow.out.alloc _) ⟨wr.heap.size, 0, none⟩ 1 1 [.int .u8 yn] rfl rfl (World.news_of_block HNB.out) (by simp [Value.oneCell']) (by omega) (by have := want_len l j; unfold maxLen; omega) (by have := want_len l j; omega) (by have := hbl.out.size; have := BS.out; simp; omega) (wr.heap.size + 1) (by simp) ?_; intro g3 cap3 w4 hr3 hg3 hat3 hlt3)
                    have hr4 : Hid (w4.ownsRow bs 5 1 (.slice (some ⟨g3, 0, none⟩) ((want l j).length + 1) cap3) (want l (j + 1)).length ((want l (j + 1)).map byteV)) := by
                      rw [want_take hsk.out EY.out, List.map_append, List.length_append]
                      rw [HYE.out] at hr3
                      exact hr3
                    have hb4 : Hid (Below bs w3 w4) := (hbl.out.alloc (by have := hbl.out.size; have := BS.out; omega) _).grown hg3 (by have := hbl.out.size; have := BS.out; simp; omega) (fun q hq => (hrow.out.lt _ hq).1)
                    clear hr3 hg3 hat3 hlt3 hrow hbl
                    go_wp2_with fail
                    exact ⟨⟨j + 1, by omega, by go_num, hr4.out, hb4.out⟩, by simp [intOf]; omega⟩
              · obtain rfl : j = k := by omega
                have hcv := conv_own hrow.out
                have hrr := HR.out
                have hs1 : (n : Int) - (j : Int) = ((r + 2 : Nat) : Int) := by omega
                obtain ⟨m, hm⟩ : ∃ m, m = r + 2 := ⟨_, rfl⟩
                rw [← hm] at hs1
                have hs2 : (m : Int) - 2 = (r : Int) := by omega
                have hwm : IntKind.i64.wrap (m : Int) = (m : Int) := by rw [IntKind.wrap_i64]; omega
                have hwr : IntKind.i64.wrap (r : Int) = (r : Int) := by rw [IntKind.wrap_i64]; omega
                have hbw : Hid (Below w'.heap.size w' wr) := HB3.out.trans (hbl.out.mono (by rw [BS.out]; exact HB3.out.size))
                obtain ⟨St, hSt⟩ : ∃ St, St = (⟨(want l j).toArray⟩ : ByteArray) := ⟨_, rfl⟩
                rw [← hSt] at hcv ⊢
                have hrest : Hid (∀ q, q < r → ad0 = some ⟨gc, j + 2, none⟩ ∧ ∃ yn : Nat, wr.cell? ⟨gc, j + 2 + q, none⟩ = some (.int .u8 yn) ∧ wr.cell? ⟨g, off + (j + 2 + q), none⟩ = some (.int .u8 yn)) := fun q hq => by
                  have hql : j + 2 + q < l.length := by rw [← N.out]; omega
                  refine ⟨by have := HAD0.out gc 0 rfl (by omega); rwa [Nat.zero_add] at this, (l[j + 2 + q]'hql).toNat, ?_, ?_⟩
                  · obtain ⟨g', o', e', hg', hc'⟩ := SC.out (by omega)
                    cases e'
                    have := (hbl.out.cell (p := ⟨gc, 0 + (j + 2 + q), none⟩) (by show gc < bs; rw [BS.out]; exact hg')).trans (hc' _ hql)
                    rwa [Nat.zero_add] at this
                  · exact (hbl.out.cell (p := ⟨g, off + (j + 2 + q), none⟩) (by show g < bs; rw [BS.out]; exact hgs)).trans (HCELL.out _ hql)
                clear hrr hm hSt hrow hbl HCELL HAD0 SC
                go_wp2_with fail
                clear hcv
                obtain ⟨w5, hw5⟩ : ∃ w5, w5 = wr := ⟨_, rfl⟩
                rw [← hw5] at hbw hrest ⊢
                clear hw5
                go_loopw [12] (fun vj ws => ∃ q : Nat, q ≤ r ∧ vj = .int .i64 q ∧ Hid (DrewW w5 ws)) (fun vj _ => r - (intOf vj).toNat)
                case atStart => exact ⟨0, Nat.zero_le _, rfl, 0, rfl⟩
                case round =>
                  obtain ⟨q, hq, rfl, hdr⟩ := hrel
                  obtain ⟨mq, hmq⟩ := hdr.out
                  subst hmq
                  clear hdr
                  by_cases hqr : q < r
                  · obtain ⟨ha, yn, cr, cb⟩ := hrest.out q hqr
                    have hrr := HR.out
                    have hjq : j + 2 + q < n := by omega
                    clear hrr
                    subst ha
                    go_wp2_with fail
                    go_quiet (fail)
                    go_wp2_with fail
                    exact ⟨⟨q + 1, by omega, by go_num, mq + nq, by first | rfl | rw [World.drewN_drewN]⟩, by simp [intOf]; omega⟩
                  · go_wp2_with fail
                    go_ret
                    exact ⟨rfl, below_drewN hbw.out _⟩

set_option maxHeartbeats 2000000 in
set_option maxRecDepth 100000 in
theorem law1_nil (w : World) : Calls Try.prog 3 #[.slice none 0 0] w (TrueE w) := by
  have h5 := hide (bytes1_any none 0 0 (Nat.zero_le _) w)
  have hcut : Hid (Calls Try.prog 6 #[.slice none 0 0] w (CutE w [] none 0)) := cut_any none [] 0 w (fun h => absurd h (Nat.lt_irrefl _)) (Nat.le_refl _) (Nat.zero_le _)
  have heqn := eqNil
  go_enter Try.func3, Try.ntmps3
  go_wp2_with fail
  refine h5.out.mono ?_
  rintro e w' ⟨⟨r, rfl⟩, rfl⟩
  clear h5
  cases r
  · go_wp2_with fail
    go_ret
    exact ⟨rfl, Below.refl _ _⟩
  go_wp2_with fail
  refine hcut.out.mono ?_
  clear hcut
  rintro e w3 ⟨hB3, hcase⟩
  have HB3 := hide hB3
  clear hB3
  rcases hcase with ⟨rfl, hno⟩ | ⟨k0, ad0, cp0, hf0, h10, rfl, hcp0, had0⟩
  · clear hno
    go_wp2_with fail
    go_loopw [8, 9] (fun vk vj wr => vk = .int .i64 (-1) ∧ vj = .int .i64 0 ∧ SameW wr w3) (fun _ _ _ => 0)
    case atStart => exact ⟨rfl, rfl, SameW.refl _⟩
    case round =>
      obtain ⟨hvk, hvj, hwr⟩ := hrel
      have hwr' : wr = w3 := hwr
      clear hwr
      subst hvk hvj hwr'
      go_wp2_with fail
      go_ret
      exact ⟨rfl, HB3.out⟩
  · exact absurd hf0.lt (Nat.not_lt_zero _)
end Go.Proofs.Qxb6628011a
