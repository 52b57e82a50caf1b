import Derived.Test.Qxb6628011aEsc
namespace Go.Proofs.Qxb6628011a
set_option linter.unusedSimpArgs false
open Go.RowKit

def TrueF (w : World) (e : Ending) (w' : World) : Prop := e = .returned (.bool true) ∧ Below w.heap.size w w'
def DrewF (u v : World) : Prop := ∃ m, v = u.drewN m
/-- where the first key of a text ends -/
theorem first_esc (s t : B) : First (esc s ++ ([0, 1] ++ t)) (esc s).length ∧ (esc s ++ ([0, 1] ++ t))[(esc s).length + 1]? = some 1 ∧ want (esc s ++ ([0, 1] ++ t)) (esc s).length = s := by
  have h := Inv.esc_all s ([0, 1] ++ t)
  have h0 : (esc s ++ ([0, 1] ++ t))[(esc s).length]? = some 0 := by simp
  have h1 : (esc s ++ ([0, 1] ++ t))[(esc s).length + 1]? = some 1 := by simp
  exact ⟨h.first h0 (by rw [h1]; decide), h1, h.out⟩
/-- CutString on a text that begins with a key -/
theorem cut_key (g o cap : Nat) (s t : B) (w : World) (n : Nat) (hn : n = (esc s ++ ([0, 1] ++ t)).length) (hs : SlB w (some ⟨g, o, none⟩) (esc s ++ ([0, 1] ++ t))) (hc : n ≤ cap) (hm : n ≤ 2097152) :
    Calls Try.prog 6 #[.slice (some ⟨g, o, none⟩) n cap] w fun e w' => Below w.heap.size w w' ∧ ∃ ad cp, e = .returned (.tuple #[.string ⟨s.toArray⟩, .slice ad t.length cp, .bool true]) ∧ t.length ≤ cp ∧ (0 < t.length → ad = some ⟨g, o + ((esc s).length + 2), none⟩) := by
  obtain ⟨hf, h1, hw⟩ := first_esc s t
  rw [hn] at hc hm ⊢
  refine (cut_any (some ⟨g, o, none⟩) _ cap w hs hc hm).mono ?_
  rintro e w' ⟨hb, ⟨_, hno⟩ | ⟨k, ad, cp, hfk, _, rfl, hcp, had⟩⟩
  · exact absurd h1 (hno _ hf)
  · obtain rfl : k = (esc s).length := hfk.unique hf
    have hl : (esc s ++ ([0, 1] ++ t)).length - ((esc s).length + 2) = t.length := by simp; omega
    rw [hl] at hcp ⊢
    refine ⟨hb, ad, cp, by rw [hw], hcp, fun h0 => had g o rfl (by simp; omega)⟩
theorem own_sl {w : World} {base : Nat} {v : Value} {ys : B} (h : w.ownsRow base 5 1 v ys.length (ys.map byteV)) (h0 : 0 < ys.length) : ∃ g cap, v = .slice (some ⟨g, 0, none⟩) ys.length cap ∧ ys.length ≤ cap ∧ base ≤ g ∧ SlB w (some ⟨g, 0, none⟩) ys := by
  obtain ⟨hl, ⟨rfl, h1⟩ | ⟨g, cap, cur, rfl, hg, hh, h1, h2, h3, h4⟩⟩ := h
  · omega
  · refine ⟨g, cap, rfl, h1, hg, fun _ => ⟨g, 0, rfl, (Array.getElem?_eq_some_iff.1 hh).1, fun j hj => ?_⟩⟩
    unfold World.cell?
    rw [hh]
    have e : (cur.toList.take (ys.length * 1))[j]? = some (byteV (ys[j]'hj)) := by rw [h4]; simp [hj]
    rw [List.getElem?_take, if_pos (by omega)] at e
    simpa using e
theorem SlB.drop {w : World} {g o : Nat} {p t : B} (h : SlB w (some ⟨g, o, none⟩) (p ++ t)) : SlB w (some ⟨g, o + p.length, none⟩) t := fun h0 => by
  obtain ⟨g', o', e, hg, hc⟩ := h (by simp; omega)
  cases e
  refine ⟨g, o + p.length, rfl, hg, fun i hi => ?_⟩
  have := hc (p.length + i) (by simp; omega)
  rw [Nat.add_assoc, this]
  congr 1
  congr 1
  simp

set_option maxHeartbeats 4000000 in
set_option maxRecDepth 100000 in
theorem law2_any (s1 s2 : ByteArray) (a : Option Addr) (l : B) (cap : Nat) (w : World) (hz1 : s1.size ≤ maxLen) (hz2 : s2.size ≤ maxLen) (hn : l.length ≤ maxLen) (hs : SlB w a l) : Calls Try.prog 4 #[.string s1, .string s2, .slice a l.length cap] w (TrueF w) := by
  obtain ⟨n, hnl⟩ : ∃ n, n = l.length := ⟨_, rfl⟩
  rw [← hnl] at hn ⊢
  have h7 := hide (bytes3_any s1 s2 a n cap hz1 hz2 hn w)
  obtain ⟨n1, hn1⟩ : ∃ n1, n1 = s1.size := ⟨_, rfl⟩
  obtain ⟨n2, hn2⟩ : ∃ n2, n2 = s2.size := ⟨_, rfl⟩
  have hn1' : s1.size = n1 := hn1.symm
  have hn2' : s2.size = n2 := hn2.symm
  unfold maxLen at hz1 hz2 hn
  rw [hn1'] at hz1
  rw [hn2'] at hz2
  have N := hide hnl
  have S := hide hs
  have hmix := mixed
  clear hnl hs hn1 hn2
  go_enter Try.func4, Try.ntmps4
  go_wp2_with fail
  refine h7.out.mono ?_
  rintro e w' ⟨⟨r, rfl⟩, rfl⟩
  clear h7
  cases r
  · go_wp2_with fail
    go_ret
    exact ⟨rfl, Below.refl _ _⟩
  by_cases h1 : 131072 < n1
  · go_wp2_with fail
    go_ret
    exact ⟨rfl, Below.refl _ _⟩
  by_cases h2 : 131072 < n2
  · go_wp2_with fail
    go_ret
    exact ⟨rfl, Below.refl _ _⟩
  by_cases h3 : 131072 < n
  · go_wp2_with fail
    go_ret
    exact ⟨rfl, Below.refl _ _⟩
  obtain ⟨bs, hbs⟩ : ∃ bs, bs = w'.heap.size := ⟨_, rfl⟩
  obtain ⟨l1, hl1⟩ : ∃ l1 : B, l1 = s1.data.toList := ⟨_, rfl⟩
  obtain ⟨l2, hl2⟩ : ∃ l2 : B, l2 = s2.data.toList := ⟨_, rfl⟩
  have hll1 : l1.length = n1 := by rw [hl1, ← hn1']; rfl
  have hll2 : l2.length = n2 := by rw [hl2, ← hn2']; rfl
  have hel1 := esc_len l1
  have hel2 := esc_len l2
  have BS := hide hbs
  obtain ⟨ys1, hys1⟩ : ∃ ys1 : B, ys1 = [] ++ esc l1 ++ [0, 1] := ⟨_, rfl⟩
  obtain ⟨ys2, hys2⟩ : ∃ ys2 : B, ys2 = ys1 ++ esc l2 ++ [0, 1] := ⟨_, rfl⟩
  have hy1 : ys1.length ≤ 262146 := by rw [hys1]; simp; omega
  have hy2 : ys2.length ≤ 524292 := by rw [hys2, hys1]; simp; omega
  have hy2' : 0 < ys2.length := by rw [hys2]; simp; omega
  have hc1 := hide (esc_any bs (.slice none 0 0) [] s1 w' ⟨rfl, .inl ⟨rfl, rfl⟩⟩ (by omega) (Nat.zero_le _) (by omega))
  rw [← hl1, ← hys1] at hc1
  have E1 : Hid (s1 = ⟨l1.toArray⟩) := by show _ = _; rw [hl1]
  have E2 : Hid (s2 = ⟨l2.toArray⟩) := by show _ = _; rw [hl2]
  have HY1 := hide hys1
  have HY2 := hide hys2
  have HL2 := hide hl2
  clear hl1 hl2 hys1 hys2 hbs
  go_wp2_with fail
  refine hc1.out.mono ?_
  clear hc1
  rintro e w1 ⟨v1, rfl, hr1, hB1⟩
  have hc2 := hide (esc_any bs v1 ys1 s2 w1 hr1 (Nat.le_trans (by rw [BS.out]; exact Nat.le_refl _) hB1.size) (by omega) (by omega))
  rw [← HL2.out, ← HY2.out] at hc2
  have HB1 := hide hB1
  clear hr1 hB1
  go_wp2_with fail
  refine hc2.out.mono ?_
  clear hc2
  rintro e w2 ⟨v2, rfl, hr2, hB2⟩
  have HR2 := hide hr2
  have HB2 : Hid (Below bs w' w2) := HB1.out.trans hB2
  obtain ⟨i0, hi0, hz0, hz3, hz4⟩ := info_parts info5
  clear hr2 hB2 HB1
  go_wp2_with fail
  go_loopw [7, 8] (fun vb vi wr => ∃ i : Nat, i ≤ n ∧ vi = .int .i64 i ∧ Hid (wr.ownsRow bs 5 1 vb (ys2.length + i) ((ys2 ++ l.take i).map byteV)) ∧ Hid (Below bs w' wr)) (fun _ vi _ => n - (intOf vi).toNat)
  case atStart => exact ⟨0, Nat.zero_le _, rfl, by have := HR2.out; show w2.ownsRow _ _ _ _ _ _; simpa using this, HB2.out⟩
  case round =>
    clear HR2 HB2
    obtain ⟨i, hi, rfl, hrow, hbel⟩ := hrel
    by_cases hin : i < n
    · have hil : i < l.length := by rw [← N.out]; exact hin
      obtain ⟨g, off, had, hgs, hcell⟩ := S.out (by omega)
      subst had
      have c0 : wr.cell? ⟨g, off + i, none⟩ = some (byteV (l[i]'hil)) := (hbel.out.cell (by show g < bs; rw [BS.out]; exact hgs)).trans (hcell i hil)
      unfold byteV at c0
      obtain ⟨xn, hxn⟩ : ∃ xn, xn = (l[i]'hil).toNat := ⟨_, rfl⟩
      rw [← hxn] at c0
      have HX := hide hxn
      clear hxn hcell
      go_wp2_with (at_builtin; refine wpList_append_lies _ rfl _ _ 22 rfl bs 5 i0 (.int .u8 0) 1 1 Try.underlying22 hi0 hz0 hz3 hz4 rfl (by omega) u7 (ys2.length + i) _ rfl (hrow.out.alloc _) ⟨wr.heap.size, 0, none⟩ 1 1 [.int .u8 xn] rfl rfl (World.news_of_block (nb wr (.int .u8 xn))) (by simp [Value.oneCell']) (by omega) (by unfold maxLen; omega) (by omega) (by have h1 := hbel.out.size; have h2 := BS.out; simp; omega) (wr.heap.size + 1) (by simp) ?_; intro g3 cap3 w3 hr3 hg3 hat3 hlt3)
      have hr4 : Hid (w3.ownsRow bs 5 1 (.slice (some ⟨g3, 0, none⟩) (ys2.length + i + 1) cap3) (ys2.length + (i + 1)) ((ys2 ++ l.take (i + 1)).map byteV)) := own_as hr3 (by omega) (by rw [take_succ_snoc hil, HX.out, ← List.append_assoc, List.map_append, List.map_append, List.map_append]; rfl)
      have hb4 : Hid (Below bs w' w3) := (hbel.out.alloc (by have h1 := hbel.out.size; have h2 := BS.out; omega) _).grown hg3 (by have h1 := hbel.out.size; have h2 := BS.out; simp; omega) (fun q hq => (hrow.out.lt _ hq).1)
      clear hr3 hg3 hat3 hlt3 hrow hbel
      go_wp2_with fail
      exact ⟨⟨i + 1, by omega, by go_num, hr4.out, hb4.out⟩, by simp [intOf]; omega⟩
    · obtain ⟨t2, ht2⟩ : ∃ t2 : B, t2 = esc l2 ++ ([0, 1] ++ l) := ⟨_, rfl⟩
      have hbig : ys2 ++ l.take i = esc l1 ++ ([0, 1] ++ t2) := by
        rw [HY2.out, HY1.out, ht2, List.take_of_length_le (by rw [← N.out]; omega)]
        simp
      have hie : i = n := by omega
      have hrow' : wr.ownsRow bs 5 1 u7 (esc l1 ++ ([0, 1] ++ t2)).length ((esc l1 ++ ([0, 1] ++ t2)).map byteV) := own_as hrow.out (by rw [← hbig, List.length_append, List.length_take, ← N.out]; omega) (by rw [hbig])
      obtain ⟨g, cp, hu, hcp, hgb, hsl⟩ := own_sl hrow' (by simp; omega)
      obtain ⟨nn, hnn⟩ : ∃ nn, nn = (esc l1 ++ ([0, 1] ++ t2)).length := ⟨_, rfl⟩
      have hnb : nn ≤ 2097152 := by rw [hnn, ht2]; simp; rw [← N.out]; omega
      rw [← hnn] at hu hcp
      subst hu
      have hc1 := hide (cut_key g 0 cp l1 t2 wr nn hnn hsl hcp hnb)
      have SL2 : Hid (SlB wr (some ⟨g, (esc l1).length + 2, none⟩) t2) := by
        have := SlB.drop (p := esc l1 ++ [0, 1]) (t := t2) (by rw [List.append_assoc]; exact hsl)
        rw [List.length_append, Nat.zero_add] at this
        exact this
      have HT2 := hide ht2
      have HBL := hbel
      obtain ⟨m2, hm2⟩ : ∃ m2, m2 = t2.length := ⟨_, rfl⟩
      have hm2' : 0 < m2 := by rw [hm2, ht2]; simp; omega
      have hm2b : m2 ≤ 2097152 := by rw [hm2, ht2]; simp; rw [← N.out]; omega
      rw [← hm2] at hc1
      have HM2 := hide hm2
      have GB := hide hgb
      rw [← E1.out] at hc1
      clear hrow hrow' hbig hsl hnn ht2 hm2 hgb hie
      go_wp2_with fail
      refine hc1.out.mono ?_
      clear hc1
      rintro e w3 ⟨hB3, ad, cp2, rfl, hcp2, had⟩
      have had' := had hm2'
      subst had'
      clear had
      rw [Nat.zero_add]
      have SL3 : Hid (SlB w3 (some ⟨g, (esc l1).length + 2, none⟩) t2) := SL2.out.below hB3 (Nat.le_refl _)
      have HB3 : Hid (Below bs w' w3) := HBL.out.trans (hB3.mono (by have h1 := HBL.out.size; have h2 := BS.out; omega))
      obtain ⟨o2, ho2⟩ : ∃ o2, o2 = (esc l1).length + 2 := ⟨_, rfl⟩
      rw [← ho2] at SL3 ⊢
      have hc2 := hide (cut_key g o2 cp2 l2 l w3 m2 (by rw [HM2.out, HT2.out]) (by rw [← HT2.out]; exact SL3.out) hcp2 hm2b)
      rw [← N.out, ← E2.out] at hc2
      have SL4 : Hid (SlB w3 (some ⟨g, o2 + ((esc l2).length + 2), none⟩) l) := by
        have h4 := SL3.out
        rw [HT2.out] at h4
        have := SlB.drop (p := esc l2 ++ [0, 1]) (t := l) (by rw [List.append_assoc]; exact h4)
        rw [List.length_append] at this
        exact this
      clear hB3 SL2 SL3 ho2 HBL hbel
      go_wp2_with fail
      refine hc2.out.mono ?_
      clear hc2
      rintro e w4 ⟨hB4, ad2, cp3, rfl, hcp3, had2⟩
      obtain ⟨o3, ho3⟩ : ∃ o3, o3 = o2 + ((esc l2).length + 2) := ⟨_, rfl⟩
      rw [← ho3] at had2 SL4
      have SL5 : Hid (SlB w4 (some ⟨g, o3, none⟩) l) := SL4.out.below hB4 (Nat.le_refl _)
      have HB4 : Hid (Below bs w' w4) := HB3.out.trans (hB4.mono (by have h1 := HB3.out.size; have h2 := BS.out; omega))
      have HAD := hide had2
      clear hB4 SL4 ho3 had2 HB3
      go_wp2_with fail
      go_loopw [15] (fun vi wr => ∃ i : Nat, i ≤ n ∧ vi = .int .i64 i ∧ Hid (DrewF w4 wr)) (fun vi _ => n - (intOf vi).toNat)
      case atStart => exact ⟨0, Nat.zero_le _, rfl, 0, rfl⟩
      case round =>
        obtain ⟨q, hq, rfl, hdr⟩ := hrel
        obtain ⟨mq, hmq⟩ := hdr.out
        subst hmq
        clear hdr
        by_cases hqn : q < n
        · have hql : q < l.length := by rw [← N.out]; exact hqn
          have ha2 := HAD.out (by omega)
          obtain ⟨g1, off1, e1, hg1, hc1⟩ := SL5.out (by omega)
          cases e1
          obtain ⟨g0, off0, e0, hg0, hc0⟩ := S.out (by omega)
          have cr : w4.cell? ⟨g, o3 + q, none⟩ = some (byteV (l[q]'hql)) := hc1 q hql
          have cb : w4.cell? ⟨g0, off0 + q, none⟩ = some (byteV (l[q]'hql)) := (HB4.out.cell (by show g0 < bs; rw [BS.out]; exact hg0)).trans (hc0 q hql)
          unfold byteV at cr cb
          obtain ⟨yn, hyn⟩ : ∃ yn, yn = (l[q]'hql).toNat := ⟨_, rfl⟩
          rw [← hyn] at cr cb
          clear hyn hc1 hc0
          subst ha2 e0
          go_wp2_with fail
          go_quiet (fail)
          go_wp2_with fail
          exact ⟨⟨q + 1, by omega, by go_num, mq + nq, by first | rfl | rw [World.drewN_drewN]⟩, by simp [intOf]; omega⟩
        · go_wp2_with fail
          go_ret
          exact ⟨rfl, below_drewN (by rw [← BS.out]; exact HB4.out) _⟩
end Go.Proofs.Qxb6628011a
