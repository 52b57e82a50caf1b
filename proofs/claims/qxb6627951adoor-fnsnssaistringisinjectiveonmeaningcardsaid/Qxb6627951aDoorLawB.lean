import Derived.Test.Qxb6627951aDoorLaw
namespace Go.Proofs.Qxb6627951aDoor
open Go.RowKit

def Inv4 (w wx : World) (b1 : Option Addr) (l1 : List UInt8) (b2 : Option Addr) (l2 : List UInt8) (b3 : Option Addr) (l3 : List UInt8) (b4 : Option Addr) (l4 : List UInt8) : Prop :=
  Below w.heap.size w wx ∧ SlV wx b1 l1 ∧ SlV wx b2 l2 ∧ SlV wx b3 l3 ∧ SlV wx b4 l4
theorem Inv4.step {w wx wy : World} {b1 b2 b3 b4 : Option Addr} {l1 l2 l3 l4 : List UInt8} (h : Inv4 w wx b1 l1 b2 l2 b3 l3 b4 l4) (hb : Below wx.heap.size wx wy) : Inv4 w wy b1 l1 b2 l2 b3 l3 b4 l4 :=
  ⟨h.1.trans (hb.mono h.1.size), h.2.1.below hb (Nat.le_refl _), h.2.2.1.below hb (Nat.le_refl _), h.2.2.2.1.below hb (Nat.le_refl _), h.2.2.2.2.below hb (Nat.le_refl _)⟩
theorem slv_alloc {w : World} {b : Option Addr} {l : List UInt8} (h : SlV w b l) (o : Obj) : SlV (w.alloc o) b l := h.below ((Below.refl _ w).alloc (Nat.le_refl _) o) (Nat.le_refl _)
theorem full_any {a : Nat} (ha : a < 256) {n1 d1 n2 d2 : Nat} {b1 b2 p : Option Addr} {l k : List UInt8} {m : Option Nat} {F : ByteArray} {w w0 : World} (L1 : Hid (l.length = n1)) (L2 : Hid (k.length = n2)) (hF : Hid (F = bs (txt a l m k))) (hn : n1 ≤ 1048576) (hn2 : n2 ≤ 1048576) (ht : Hid (Tab w)) (hp : Hid (PtV w p m)) (hb : Below w.heap.size w w0) (h1 : SlV w0 b1 l) (h2 : SlV w0 b2 k) :
    Calls Tryd.prog 6 #[.agg #[.int .u8 a, .slice b1 n1 d1, .pointer p, .slice b2 n2 d2]] w0 fun e w' => e = .returned (.string F) ∧ Below w0.heap.size w0 w' := by
  have e := L1.out
  subst e
  have e := L2.out
  subst e
  rw [hF.out]
  exact string_ok a ha b1 l d1 p m b2 k d2 w0 h1 (hp.out.below hb (Nat.le_refl _)) h2 hn hn2 (ht.out.below hb (Nat.le_refl _))
theorem len_any {a : Nat} (ha : a < 256) {n1 d1 n2 d2 : Nat} {b1 b2 p : Option Addr} {l k : List UInt8} {m : Option Nat} {F : ByteArray} {w w0 : World} (L1 : Hid (l.length = n1)) (L2 : Hid (k.length = n2)) (hF : Hid (F = bs (txt a l m k))) (hn : n1 ≤ 1048576) (hn2 : n2 ≤ 1048576) (hp : Hid (PtV w p m)) (hb : Below w.heap.size w w0) :
    Calls Tryd.prog 11 #[.int .u8 a, .slice b1 n1 d1, .pointer p, .slice b2 n2 d2] w0 fun e w' => e = .returned (.int .i64 (F.size : Int)) ∧ w' = w0 := by
  have e := L1.out
  subst e
  have e := L2.out
  subst e
  rw [hF.out, bs_size]
  exact textLen_any a ha b1 b2 p d1 d2 l k m w0 (hp.out.below hb (Nat.le_refl _)) hn hn2
theorem same_any {a a' : Nat} (ha' : a' < 256) {n1 d1 n2 d2 n3 d3 n4 d4 : Nat} {b1 b2 b3 b4 p p' : Option Addr} {l k l' k' : List UInt8} {m m' : Option Nat} {S : Bool} {w w0 : World}
    (L1 : Hid (l.length = n1)) (L2 : Hid (k.length = n2)) (L3 : Hid (l'.length = n3)) (L4 : Hid (k'.length = n4)) (hS : Hid (S = sameB a l m k a' l' m' k')) (hn : n1 ≤ 1048576) (hn2 : n2 ≤ 1048576)
    (hp : Hid (PtV w p m)) (hp' : Hid (PtV w p' m')) (hi : Hid (Inv4 w w0 b1 l b2 k b3 l' b4 k')) :
    Calls Tryd.prog 10 #[.int .u8 a, .slice b1 n1 d1, .pointer p, .slice b2 n2 d2, .int .u8 a', .slice b3 n3 d3, .pointer p', .slice b4 n4 d4] w0 fun e w' => e = .returned (.bool S) ∧ Below w0.heap.size w0 w' := by
  have e := L1.out
  subst e
  have e := L2.out
  subst e
  have e := L3.out
  subst e
  have e := L4.out
  subst e
  rw [hS.out]
  refine (sameMeaning_ok a a' b1 b2 b3 b4 p p' d1 d2 d3 d4 l k l' k' m m' w0 (hp.out.below hi.out.1 (Nat.le_refl _)) (hp'.out.below hi.out.1 (Nat.le_refl _)) hi.out.2.1 hi.out.2.2.1 hi.out.2.2.2.1 hi.out.2.2.2.2 ha' hn hn2).mono ?_
  rintro e w' ⟨rfl, q, rfl⟩
  exact ⟨rfl, rfl, rfl, rfl, Nat.le_refl _, fun _ _ => rfl⟩
theorem full_small {a : Nat} {l k : List UInt8} {m : Option Nat} (h : l.length ≤ 1048576) (h' : k.length ≤ 1048576) : (bs (txt a l m k)).size ≤ 5000000 := by
  rw [bs_size, txt_length]
  unfold txtLen partLen
  have h1 := decLen_le a
  cases m with
  | none => simp only; split <;> omega
  | some b =>
    have h2 := decLen_le b
    simp only
    split <;> split <;> omega
theorem beq_same {a a' : Nat} {l k l' k' : List UInt8} {m m' : Option Nat} {F F' : ByteArray} (ha : a < 256) (ha' : a' < 256) (hm : ∀ b, m = some b → b < 256) (hm' : ∀ b, m' = some b → b < 256)
    (hF : F = bs (txt a l m k)) (hF' : F' = bs (txt a' l' m' k')) : F = F' ↔ sameB a l m k a' l' m' k' = true := by
  rw [sameB_iff, ← txt_inj ha ha' hm hm', hF, hF']
  constructor
  · intro h
    have := congrArg (fun b : ByteArray => b.data.toList) h
    simpa [bs] using this
  · intro h; rw [h]
theorem toList_data (b : ByteArray) : b.toList = b.data.toList := by rw [Go.ByteArray.toList_eq]
theorem PtV.small {w : World} {p : Option Addr} {m : Option Nat} (h : PtV w p m) : ∀ b, m = some b → b < 256 := by
  intro b hb
  rcases h with ⟨_, rfl⟩ | ⟨_, x, _, rfl, hx, _, _⟩
  · cases hb
  · cases hb; exact hx

set_option maxHeartbeats 16000000 in
set_option maxRecDepth 100000 in
theorem law2 (a a' : Nat) (ha : a < 256) (ha' : a' < 256) (a1 a2 a3 a4 p p' : Option Addr) (n1 c1 n2 c2 n3 c3 n4 c4 : Nat) (l1 l2 l3 l4 : List UInt8) (m m' : Option Nat) (w : World)
    (h1 : ArgS w a1 n1 c1 l1) (h2 : ArgS w a2 n2 c2 l2) (h3 : ArgS w a3 n3 c3 l3) (h4 : ArgS w a4 n4 c4 l4) (hp : PtV w p m) (hp' : PtV w p' m') (ht : Tab w) :
    Calls Tryd.prog 4 #[.int .u8 a, .slice a1 n1 c1, .pointer p, .slice a2 n2 c2, .int .u8 a', .slice a3 n3 c3, .pointer p', .slice a4 n4 c4] w fun e w' => e = .returned (.bool true) ∧ Below w.heap.size w w' := by
  have H1 := hide h1
  have H2 := hide h2
  have H3 := hide h3
  have H4 := hide h4
  have HP := hide hp
  have HQ := hide hp'
  have HT := hide ht
  have hm1 : n1 ≤ maxLen := h1.2.1
  have hm2 : n2 ≤ maxLen := h2.2.1
  have hm3 : n3 ≤ maxLen := h3.2.1
  have hm4 : n4 ≤ maxLen := h4.2.1
  have hz := zz9_ok (.int .u8 a) (.pointer p) (.int .u8 a') (.pointer p') a1 a2 a3 a4 n1 c1 n2 c2 n3 c3 n4 c4 hm1 hm2 hm3 hm4 w
  unfold maxLen at hm1 hm2 hm3 hm4
  clear h1 h2 h3 h4 hp hp' ht
  by_cases hbig : n1 + n2 + n3 + n4 ≤ 1048576
  · rw [decide_eq_true hbig] at hz
    have HZ := hide hz
    clear hz
    have L1 := hide H1.out.1
    have L2 := hide H2.out.1
    have L3 := hide H3.out.1
    have L4 := hide H4.out.1
    go_enter Tryd.func4, Tryd.ntmps4
    go_upto_if 36 with (go_at_call 9; refine HZ.out.mono ?_; rintro e w ⟨rfl, rfl⟩)
    go_cut [1, 17] (fun v vv wx => ∃ b c, v = .slice b n1 c ∧ Hid (Below w.heap.size w wx ∧ SlV wx b l1))
    case first =>
      rcases H1.out.2.2 with ⟨rfl, rfl, rfl⟩ | ⟨x, rfl, hx⟩
      · have hl0 := H1.out.1
        go_wp2_with fail
        go_meet
        case rel => exact ⟨none, 0, rfl, Below.refl _ _, slv_nil _ _ _ hl0⟩
      · have hmk := run_mk n1 (by omega)
        have hcp := run_cp (cap := c1) H1.out.1 w 3 hx
        clear hx
        go_wp2_with fail
        go_meet
        case rel => exact ⟨_, n1, rfl, (Below.refl _ w).alloc (Nat.le_refl _) _, slv_new _ _⟩
    case rest =>
      obtain ⟨b1, d1, rfl, hi1⟩ := hcut
      have h2w := hide (H2.out.below hi1.out.1)
      go_upto_if 45 with fail
      go_cut [3, 18] (fun v vv wx => ∃ b c, v = .slice b n2 c ∧ Hid (Below w.heap.size w wx ∧ SlV wx b1 l1 ∧ SlV wx b l2))
      case first =>
        rcases h2w.out.2.2 with ⟨rfl, rfl, rfl⟩ | ⟨x, rfl, hx⟩
        · have hl0 := h2w.out.1
          go_wp2_with fail
          go_meet
          case rel => exact ⟨none, 0, rfl, hi1.out.1, hi1.out.2, slv_nil _ _ _ hl0⟩
        · have hmk := run_mk n2 (by omega)
          have hcp := run_cp (cap := c2) h2w.out.1 wc 3 hx
          clear hx
          go_wp2_with fail
          go_meet
          case rel => exact ⟨_, n2, rfl, hi1.out.1.alloc hi1.out.1.size _, slv_alloc (hi1.out.2) _, slv_new _ _⟩
      case rest =>
        obtain ⟨b2, d2, rfl, hi2⟩ := hcut
        have h3w := hide (H3.out.below hi2.out.1)
        go_upto_if 54 with fail
        go_cut [5, 19] (fun v vv wx => ∃ b c, v = .slice b n3 c ∧ Hid (Below w.heap.size w wx ∧ SlV wx b1 l1 ∧ SlV wx b2 l2 ∧ SlV wx b l3))
        case first =>
          rcases h3w.out.2.2 with ⟨rfl, rfl, rfl⟩ | ⟨x, rfl, hx⟩
          · have hl0 := h3w.out.1
            go_wp2_with fail
            go_meet
            case rel => exact ⟨none, 0, rfl, hi2.out.1, hi2.out.2.1, hi2.out.2.2, slv_nil _ _ _ hl0⟩
          · have hmk := run_mk n3 (by omega)
            have hcp := run_cp (cap := c3) h3w.out.1 wc 3 hx
            clear hx
            go_wp2_with fail
            go_meet
            case rel => exact ⟨_, n3, rfl, hi2.out.1.alloc hi2.out.1.size _, slv_alloc (hi2.out.2.1) _, slv_alloc (hi2.out.2.2) _, slv_new _ _⟩
        case rest =>
          obtain ⟨b3, d3, rfl, hi3⟩ := hcut
          have h4w := hide (H4.out.below hi3.out.1)
          go_upto_if 63 with fail
          go_cut [7, 20] (fun v vv wx => ∃ b c, v = .slice b n4 c ∧ Hid (Below w.heap.size w wx ∧ SlV wx b1 l1 ∧ SlV wx b2 l2 ∧ SlV wx b3 l3 ∧ SlV wx b l4))
          case first =>
            rcases h4w.out.2.2 with ⟨rfl, rfl, rfl⟩ | ⟨x, rfl, hx⟩
            · have hl0 := h4w.out.1
              go_wp2_with fail
              go_meet
              case rel => exact ⟨none, 0, rfl, hi3.out.1, hi3.out.2.1, hi3.out.2.2.1, hi3.out.2.2.2, slv_nil _ _ _ hl0⟩
            · have hmk := run_mk n4 (by omega)
              have hcp := run_cp (cap := c4) h4w.out.1 wc 3 hx
              clear hx
              go_wp2_with fail
              go_meet
              case rel => exact ⟨_, n4, rfl, hi3.out.1.alloc hi3.out.1.size _, slv_alloc (hi3.out.2.1) _, slv_alloc (hi3.out.2.2.1) _, slv_alloc (hi3.out.2.2.2) _, slv_new _ _⟩
          case rest =>
            obtain ⟨b4, d4, rfl, hi4⟩ := hcut
            obtain ⟨F, hF⟩ : ∃ F, F = bs (txt a l1 m l2) := ⟨_, rfl⟩
            obtain ⟨G, hG⟩ : ∃ G, G = bs (txt a' l3 m' l4) := ⟨_, rfl⟩
            obtain ⟨S, hS⟩ : ∃ S, S = sameB a l1 m l2 a' l3 m' l4 := ⟨_, rfl⟩
            have hFs : F.size ≤ 5000000 := by rw [hF]; exact full_small (by rw [L1.out]; omega) (by rw [L2.out]; omega)
            have hGs : G.size ≤ 5000000 := by rw [hG]; exact full_small (by rw [L3.out]; omega) (by rw [L4.out]; omega)
            have hcmp := beq_same ha ha' HP.out.small HQ.out.small hF hG
            rw [← hS] at hcmp
            have HF := hide hF
            have HG := hide hG
            have HS := hide hS
            have HCMP := hide hcmp
            clear hF hG hS hcmp
            have j0 : Hid (Inv4 w wc b1 l1 b2 l2 b3 l3 b4 l4) := hi4.out
            go_wp2_with fail
            refine (full_any ha L1 L2 HF (by omega) (by omega) HT HP j0.out.1 j0.out.2.1 j0.out.2.2.1).mono ?_
            rintro e w1 ⟨rfl, hb1⟩
            have j1 := hide (j0.out.step hb1)
            clear hb1
            go_wp2_with fail
            refine (full_any ha' L3 L4 HG (by omega) (by omega) HT HQ j1.out.1 j1.out.2.2.2.1 j1.out.2.2.2.2).mono ?_
            rintro e w2 ⟨rfl, hb2⟩
            have j2 := hide (j1.out.step hb2)
            clear hb2
            go_wp2_with fail
            refine (same_any ha' L1 L2 L3 L4 HS (by omega) (by omega) HP HQ j2).mono ?_
            rintro e w3 ⟨rfl, hb3⟩
            have j3 := hide (j2.out.step hb3)
            clear hb3
            by_cases hFG : F = G
            · have hSt := HCMP.out.1 hFG
              clear HCMP
              subst hSt
              subst hFG
              go_wp2_with fail
              refine (len_any ha L1 L2 HF (by omega) (by omega) HP j3.out.1).mono ?_
              rintro e w4 ⟨rfl, hw4⟩
              subst hw4
              go_wp2_with fail
              refine (len_any ha' L3 L4 HG (by omega) (by omega) HQ j3.out.1).mono ?_
              rintro e w4 ⟨rfl, hw4⟩
              subst hw4
              go_wp2_with fail
              go_ret
              exact ⟨rfl, j3.out.1⟩
            · have hSt : S = false := by cases S with | false => rfl | true => exact absurd (HCMP.out.2 rfl) hFG
              have hbf : (F.toList == G.toList) = false := by rw [beq_eq_false_iff_ne]; exact fun e => hFG (ByteArray.ext (by rw [← Array.toList_inj, ← toList_data, ← toList_data, e]))
              clear HCMP
              subst hSt
              go_wp2_with fail
              refine (len_any ha L1 L2 HF (by omega) (by omega) HP j3.out.1).mono ?_
              rintro e w4 ⟨rfl, hw4⟩
              subst hw4
              go_wp2_with fail
              refine (len_any ha' L3 L4 HG (by omega) (by omega) HQ j3.out.1).mono ?_
              rintro e w4 ⟨rfl, hw4⟩
              subst hw4
              go_wp2_with fail
              go_ret
              exact ⟨rfl, j3.out.1⟩
  · rw [decide_eq_false hbig] at hz
    have HZ := hide hz
    clear hz
    go_enter Tryd.func4, Tryd.ntmps4
    go_wp2_with (go_at_call 9; refine HZ.out.mono ?_; rintro e w ⟨rfl, rfl⟩)
    go_ret
    exact ⟨rfl, Below.refl _ _⟩
end Go.Proofs.Qxb6627951aDoor
