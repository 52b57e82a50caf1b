import Derived.Test.Qxb6627916aMs
namespace Go.Proofs.Qxb6627916a
open Go.RowKit Go.Sort

/-- what 'zzPremise' hands back: nothing, or the strictly sorted copy -/
def Prem (w w' : World) (n : Nat) (l : List ZB) (e : Ending) : Prop :=
  Below w.heap.size w w' ∧ (e = .returned (.tuple #[.slice none 0 0, .bool false]) ∨
    ∃ (g : Nat) (out : List ZB), e = .returned (.tuple #[.slice (some ⟨g, 0, none⟩) n n, .bool true]) ∧ w.heap.size ≤ g ∧ RowIs w' g 35 out ∧ out.Perm l ∧ out.Pairwise (fun a b => cmpZ a b < 0))

theorem strict_of {out : List ZB} (hs : out.Pairwise (fun a b => leZ a b = true)) (h : ∀ i (hi : i + 1 < out.length), cmpZ out[i] out[i + 1] < 0) : out.Pairwise (fun a b => cmpZ a b < 0) := by
  rw [List.pairwise_iff_getElem] at hs ⊢
  intro i j hi hj hij
  obtain ⟨d, rfl⟩ : ∃ d, j = d + 1 := ⟨j - 1, by omega⟩
  have h2 := h d hj
  by_cases e : i = d
  · subst e; exact h2
  · have h1 := leZ_iff.1 (hs i d hi (by omega) (by omega))
    have t := cmpZ_ord.tr _ _ _ h1 (by omega : cmpZ out[d] out[d + 1] ≤ 0)
    by_cases z : cmpZ out[i] out[d + 1] = 0
    · have := (t.2 z).2; omega
    · omega

set_option maxRecDepth 20000 in
set_option maxHeartbeats 1000000 in
theorem prem_any (b off n cap : Nat) (l : List ZB) (w : World) (hn : n = l.length) (hr : RowZ w b off l) (hok : ∀ x ∈ l, okZ x) (h4 : n ≤ 4096) (hcap : n ≤ cap) (hcm : cap ≤ maxLen) (hb : b < w.heap.size) :
    Calls Try.prog 8 #[.slice (some ⟨b, off, none⟩) n cap] w fun e w' => Prem w w' n l e := by
  have HMS := hide (fun W hW hb => ms_any n b off n cap l W (Nat.le_refl _) hn hW hok h4 hcap hcm hb)
  unfold maxLen at hcm
  have HN := hide hn
  have HR := hide hr
  have HK := hide hok
  clear hn hr hok
  go_enter Try.func8, Try.ntmps8
  go_wp2_with fail
  go_loopw [4] (fun i wr => ∃ k : Nat, k ≤ n ∧ i = .int .i64 k ∧ Below w.heap.size w wr) (fun i _ => n - (intOf i).toNat)
  case atStart => exact ⟨0, Nat.zero_le _, rfl, Below.refl _ _⟩
  case round =>
    obtain ⟨k, hk, rfl, hB⟩ := hrel
    have HB := hide hB
    clear hB
    by_cases hlt : k < n
    · obtain ⟨x0, x1, x2, x3⟩ := (HR.out.below HB.out hb) k (by have := HN.out; omega)
      go_wp2_with (go_at_call 13; refine (zzValid_any (l[k]'(by have := HN.out; omega)) _).mono ?_; rintro e w2 ⟨rfl, hG⟩)
      · go_ret2
        exact ⟨HB.out.trans (hG.below.mono HB.out.size), .inl rfl⟩
      · exact ⟨⟨k + 1, by omega, by go_num, HB.out.trans (hG.below.mono HB.out.size)⟩, by simp [intOf]; omega⟩
    · go_wp2_with fail
      refine (HMS.out _ (HR.out.below HB.out hb) (by have := HB.out.size; omega)).mono ?_
      rintro e w1 ⟨g, out, rfl, hg, hRo, hP, hS, hB1⟩
      have hsz := HB.out.size
      have HB1 := hide (HB.out.trans (hB1.mono hsz))
      have HRo := hide hRo
      have HP := hide hP
      have HS := hide hS
      have HLO := hide (show out.length = n by rw [hP.length_eq]; exact HN.out.symm)
      have HOo := hide (show ∀ x ∈ out, okZ x from fun x hx => HK.out x (hP.mem_iff.1 hx))
      have hgl : g < w1.heap.size := hRo.lt
      clear hB1 hRo hP hS HMS HB
      go_wp2_with fail
      go_loopw [6] (fun i wr => ∃ k : Nat, 1 ≤ k ∧ i = .int .i64 k ∧ (k ≤ n ∨ k = 1) ∧ RowIs wr g 35 out ∧ (∀ i (hi : i + 1 < out.length), i + 1 < k → cmpZ out[i] out[i + 1] < 0) ∧ Below w.heap.size w wr) (fun i _ => n - (intOf i).toNat)
      case atStart => exact ⟨1, Nat.le_refl _, rfl, .inr rfl, HRo.out, fun i hi h => by omega, HB1.out⟩
      case round =>
        clear HRo HB1
        obtain ⟨k, hk1, rfl, hk2, hRo, hT, hB⟩ := hrel
        have HRo := hide hRo
        have HT := hide hT
        have HB := hide hB
        have HK2 := hide hk2
        clear hT hB hk2
        by_cases hlt : k < n
        · obtain ⟨j, hkj⟩ : ∃ j, k = j + 1 := ⟨k - 1, by omega⟩
          have hj0 : j < out.length := by have := HLO.out; omega
          have hj1 : k < out.length := by have := HLO.out; omega
          obtain ⟨x0, x1, x2, x3⟩ := hRo.rowZ j hj0
          obtain ⟨y0, y1, y2, y3⟩ := hRo.rowZ k hj1
          have X0 := cell_grown hRo.lt x0
          have X1 := cell_grown hRo.lt x1
          have X2 := cell_grown hRo.lt x2
          have X3 := cell_grown hRo.lt x3
          have Y0 := cell_grown hRo.lt y0
          have Y1 := cell_grown hRo.lt y1
          have Y2 := cell_grown hRo.lt y2
          have Y3 := cell_grown hRo.lt y3
          simp only [Nat.zero_add] at X0 X1 X2 X3 Y0 Y1 Y2 Y3
          clear x0 x1 x2 x3 y0 y1 y2 y3 hRo
          have hcmp : ∀ W, Calls Try.prog 14 #[.agg #[.string out[j].1, .string out[j].2.1, .string out[j].2.2.1, .string out[j].2.2.2], .agg #[.string out[k].1, .string out[k].2.1, .string out[k].2.2.1, .string out[k].2.2.2]] W fun e w' => e = .returned (.int .i64 (cmpZ out[j] out[k])) ∧ ∃ q os, w' = grow (W.drewN q) os :=
            fun W => zzCmp_any out[j] out[k] W (HOo.out _ (List.getElem_mem _)) (HOo.out _ (List.getElem_mem _))
          have HC := hide hcmp
          have hwj : IntKind.i64.wrap ((k : Int) - 1) = (j : Int) := by rw [IntKind.wrap_i64]; omega
          have HKJ := hide hkj
          have hjn : j < n := by omega
          clear hkj
          have hmix := mixed
          clear hcmp
          go_wp2_with fail
          go_quiet_grown (first | (go_at_call 14; refine Calls.grown_of (HC.out _)))
          go_wp2
          · go_ret2
            exact ⟨below_grow HB.out (by have := HB.out.size; omega) _ _, .inl rfl⟩
          · rename_i hz
            have hkj := HKJ.out
            refine ⟨⟨k + 1, by omega, by go_num, by omega, HRo.out.grow _ _, fun i hi h => ?_, below_grow HB.out (by have := HB.out.size; omega) _ _⟩, by simp [intOf]; omega⟩
            by_cases e : i = j
            · subst e; subst hkj; omega
            · exact HT.out i hi (by omega)
        · go_wp2
          go_ret2
          exact ⟨HB.out, .inr ⟨g, out, rfl, by omega, HRo.out, HP.out, strict_of HS.out (fun i hi => HT.out i hi (by have := HLO.out; omega))⟩⟩

set_option maxRecDepth 20000 in
set_option maxHeartbeats 1000000 in
theorem prem_nil (w : World) : Calls Try.prog 8 #[.slice none 0 0] w fun e w' => Prem w w' 0 [] e := by
  go_enter Try.func8, Try.ntmps8
  go_wp2_with fail
  refine wp_loop_rounds 1 ?_
  rw [rounds_succ]
  go_wp2_with fail
  refine (ms_nil _).mono ?_
  rintro e w1 ⟨g, out, rfl, hg, hRo, hP, hS, hB1⟩
  have HRo := hide hRo
  have HP := hide hP
  have HB := hide hB1
  clear hRo hP hS hB1
  go_wp2_with fail
  refine wp_loop_rounds 1 ?_
  rw [rounds_succ]
  go_wp2_with fail
  go_ret2
  have hP := HP.out
  have e : out = [] := List.length_eq_zero_iff.1 (by rw [hP.length_eq]; rfl)
  exact ⟨HB.out, .inr ⟨g, out, rfl, hg, HRo.out, hP, by rw [e]; exact List.Pairwise.nil⟩⟩
end Go.Proofs.Qxb6627916a
