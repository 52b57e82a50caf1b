import Derived.Test.Qxb6627951aDoorRest
namespace Go.Proofs.Qxb6627951aDoor
open Go.RowKit

theorem setRow_new (w : World) (c cs : Array Value) (T : TypeId) : (w.alloc (.cells c T)).setRow w.heap.size cs = w.alloc (.cells cs T) := by
  have : (w.heap.push (.cells c T)).modify w.heap.size (fun | .cells _ elem frozen => .cells cs elem frozen | o => o) = w.heap.push (.cells cs T) := by
    apply Array.ext_getElem?
    intro i
    rw [Array.getElem?_modify, Array.getElem?_push, Array.getElem?_push]
    by_cases h : w.heap.size = i
    · subst h; simp
    · rw [if_neg h, if_neg (fun e => h e.symm), if_neg (fun e => h e.symm)]
  exact congrArg (fun h => ({ w with heap := h } : World)) this

/-- a slice of bytes that came in -/
def ArgS (w : World) (a : Option Addr) (n cap : Nat) (l : List UInt8) : Prop :=
  l.length = n ∧ n ≤ maxLen ∧ ((a = none ∧ n = 0 ∧ cap = 0) ∨ ∃ x, a = some x ∧ ∀ i (h : i < l.length), w.cell? (x.add i) = some (byteV (l[i]'h)))
theorem cell_lt {w : World} {p : Addr} {v : Value} (h : w.cell? p = some v) : p.block < w.heap.size := by
  unfold World.cell? at h
  cases hh : w.heap[p.block]? with
  | none => rw [hh] at h; cases h
  | some o => exact (Array.getElem?_eq_some_iff.1 hh).1
theorem ArgS.below {w w' : World} {a : Option Addr} {n cap : Nat} {l : List UInt8} (h : ArgS w a n cap l) (hb : Below w.heap.size w w') : ArgS w' a n cap l := by
  obtain ⟨h1, h2, h3⟩ := h
  refine ⟨h1, h2, ?_⟩
  rcases h3 with h3 | ⟨x, h3, h4⟩
  · exact .inl h3
  · exact .inr ⟨x, h3, fun i hi => (hb.cell (cell_lt (h4 i hi))).trans (h4 i hi)⟩
theorem run_mk (n : Nat) (hn : n ≤ 1048576) (W : World) : (Instr.makeSlice 22 (.int .i64 n) (.int .i64 n)).run Tryd.prog W = .ok (.slice (some ⟨W.heap.size, 0, none⟩) n n) (W.alloc (.cells (madeCells #[.int .u8 0] n) 5)) :=
  run_make_row' (P := Tryd.prog) 22 5 (.int .u8 0) 1 Tryd.underlying22 info5 rfl .i64 .i64 n (by omega) (by omega) W
theorem run_cp {n cap : Nat} {x : Addr} {l : List UInt8} (hl : l.length = n) (W : World) (ty : TypeId) (hc : ∀ i (h : i < l.length), W.cell? (x.add i) = some (byteV (l[i]'h))) :
    (Builtin.copy_ #[22, 22] ty #[.slice (some ⟨W.heap.size, 0, none⟩) n n, .slice (some x) n cap]).run Tryd.prog (W.alloc (.cells (madeCells #[.int .u8 0] n) 5)) =
      .ok (goInt n) (W.alloc (.cells (l.map byteV).toArray 5)) := by
  have hsz : (madeCells #[Value.int .u8 0] n).size = n := by simp [size_madeCells]
  have h := run_copy_row (P := Tryd.prog) (W.alloc (.cells (madeCells #[.int .u8 0] n) 5)) 22 22 ty 5 W.heap.size 0 n n x n cap _ 5 (l.map byteV) Tryd.underlying22 (by kernel_rfl) (alloc_new _ _) (by rw [List.length_map, hl]; simp) (fun j v hj => by
    rw [List.getElem?_map] at hj
    obtain ⟨b, hb, rfl⟩ := Option.map_eq_some_iff.1 hj
    obtain ⟨h1, h2⟩ := List.getElem?_eq_some_iff.1 hb
    rw [← h2, ← hc j h1]
    exact (((Below.refl W.heap.size W).alloc (Nat.le_refl _) _).cell (cell_lt (hc j h1)))) (by rw [List.length_map, hl]; simp [hsz]) (fun v hv => by
      obtain ⟨b, _, rfl⟩ := List.mem_map.1 hv
      rfl)
  rw [h]
  rw [List.length_map, hl, setRow_new]
  have e : (List.take 0 (madeCells #[Value.int .u8 0] n).toList ++ l.map byteV ++ List.drop (0 + n) (madeCells #[Value.int .u8 0] n).toList) = l.map byteV := by
    rw [List.drop_eq_nil_of_le (by simp [hsz])]
    simp
  rw [e]
theorem slv_new (W : World) (l : List UInt8) : SlV (W.alloc (.cells (l.map byteV).toArray 5)) (some ⟨W.heap.size, 0, none⟩) l := fun _ =>
  ⟨W.heap.size, rfl, by simp, fun i hi => by rw [cell_new, Nat.zero_add]; simp [hi]⟩
theorem slv_nil (W : World) (a : Option Addr) (l : List UInt8) (h : l.length = 0) : SlV W a l := fun h0 => by omega

def Inv (w wx : World) (b1 : Option Addr) (l : List UInt8) (b2 : Option Addr) (k : List UInt8) : Prop := Below w.heap.size w wx ∧ SlV wx b1 l ∧ SlV wx b2 k
theorem Inv.step {w wx wy : World} {b1 b2 : Option Addr} {l k : List UInt8} (h : Inv w wx b1 l b2 k) (hb : Below wx.heap.size wx wy) : Inv w wy b1 l b2 k :=
  ⟨h.1.trans (hb.mono h.1.size), h.2.1.below hb (Nat.le_refl _), h.2.2.below hb (Nat.le_refl _)⟩
theorem txt_small (a : Nat) (l : List UInt8) (m : Option Nat) (k : List UInt8) (h : l.length ≤ 1048576) (hm : m = none := by rfl) : (bs (txt a l m k)).size ≤ 2097160 := by
  subst hm
  rw [bs_size, txt_length]
  unfold txtLen partLen
  have := decLen_le a
  simp only
  split <;> omega
theorem head_any {a : Nat} (ha : a < 256) {n1 d1 : Nat} {b1 b2 : Option Addr} {l k : List UInt8} {T : ByteArray} {w w0 : World} (L1 : Hid (l.length = n1)) (hT : Hid (T = bs (txt a l none []))) (hn : n1 ≤ 1048576) (ht : Hid (Tab w)) (hi : Hid (Inv w w0 b1 l b2 k)) :
    Calls Tryd.prog 6 #[.agg #[.int .u8 a, .slice b1 n1 d1, .pointer none, .slice none 0 0]] w0 fun e w' => e = .returned (.string T) ∧ Below w0.heap.size w0 w' := by
  have e := L1.out
  subst e
  rw [hT.out]
  exact string_ok a ha b1 l d1 none none none [] 0 w0 hi.out.2.1 (.inl ⟨rfl, rfl⟩) (slv_nil _ _ _ rfl) hn (by simp) (ht.out.below hi.out.1 (Nat.le_refl _))
theorem tail_any {x : Nat} (hx : x < 256) {n2 d2 : Nat} {b1 b2 : Option Addr} {l k : List UInt8} {U : ByteArray} {w w0 : World} (L2 : Hid (k.length = n2)) (hU : Hid (U = bs (txt x k none []))) (hn : n2 ≤ 1048576) (ht : Hid (Tab w)) (hi : Hid (Inv w w0 b1 l b2 k)) :
    Calls Tryd.prog 6 #[.agg #[.int .u8 x, .slice b2 n2 d2, .pointer none, .slice none 0 0]] w0 fun e w' => e = .returned (.string U) ∧ Below w0.heap.size w0 w' := by
  have e := L2.out
  subst e
  rw [hU.out]
  exact string_ok x hx b2 k d2 none none none [] 0 w0 hi.out.2.2 (.inl ⟨rfl, rfl⟩) (slv_nil _ _ _ rfl) hn (by simp) (ht.out.below hi.out.1 (Nat.le_refl _))
theorem full_none {a : Nat} (ha : a < 256) {n1 d1 n2 d2 : Nat} {b1 b2 : Option Addr} {l k : List UInt8} {T : ByteArray} {w w0 : World} (L1 : Hid (l.length = n1)) (L2 : Hid (k.length = n2)) (hT : Hid (T = bs (txt a l none []))) (hn : n1 ≤ 1048576) (hn2 : n2 ≤ 1048576) (ht : Hid (Tab w)) (hi : Hid (Inv w w0 b1 l b2 k)) :
    Calls Tryd.prog 6 #[.agg #[.int .u8 a, .slice b1 n1 d1, .pointer none, .slice b2 n2 d2]] w0 fun e w' => e = .returned (.string T) ∧ Below w0.heap.size w0 w' := by
  have e := L1.out
  subst e
  have e := L2.out
  subst e
  rw [hT.out]
  exact string_ok a ha b1 l d1 none none b2 k d2 w0 hi.out.2.1 (.inl ⟨rfl, rfl⟩) hi.out.2.2 hn hn2 (ht.out.below hi.out.1 (Nat.le_refl _))
theorem full_some {a x : Nat} {pa : Addr} (ha : a < 256) (_hx : x < 256) {n1 d1 n2 d2 : Nat} {b1 b2 : Option Addr} {l k : List UInt8} {F : ByteArray} {w w0 : World} (L1 : Hid (l.length = n1)) (L2 : Hid (k.length = n2)) (hF : Hid (F = bs (txt a l (some x) k))) (hn : n1 ≤ 1048576) (hn2 : n2 ≤ 1048576) (ht : Hid (Tab w)) (hp : Hid (PtV w (some pa) (some x))) (hi : Hid (Inv w w0 b1 l b2 k)) :
    Calls Tryd.prog 6 #[.agg #[.int .u8 a, .slice b1 n1 d1, .pointer (some pa), .slice b2 n2 d2]] w0 fun e w' => e = .returned (.string F) ∧ Below w0.heap.size w0 w' := by
  have e := L1.out
  subst e
  have e := L2.out
  subst e
  rw [hF.out]
  exact string_ok a ha b1 l d1 (some pa) (some x) b2 k d2 w0 hi.out.2.1 (hp.out.below hi.out.1 (Nat.le_refl _)) hi.out.2.2 hn hn2 (ht.out.below hi.out.1 (Nat.le_refl _))
theorem lowerHex_any {n1 d1 : Nat} {b1 b2 : Option Addr} {l k : List UInt8} {w w0 : World} (L1 : Hid (l.length = n1)) (h0 : 0 < n1) (hn : n1 ≤ 1048576) (hi : Hid (Inv w w0 b1 l b2 k)) :
    Calls Tryd.prog 8 #[.slice b1 n1 d1] w0 fun e w' => e = .returned (str (Lib.Hx.encode l)) ∧ Below w0.heap.size w0 w' := by
  have e := L1.out
  subst e
  obtain ⟨b, rfl, hb, hc⟩ := hi.out.2.1 h0
  exact lowerHex_ok l b 0 d1 w0 hb hn hc
theorem e_pos {a n1 : Nat} {l : List UInt8} {T : ByteArray} (L1 : Hid (l.length = n1)) (h0 : 0 < n1) (hT : Hid (T = bs (txt a l none []))) : bs (dec a) ++ { data := #[45] } ++ bs (Lib.Hx.encode l) = T := by
  rw [hT.out, show ({ data := #[45] } : ByteArray) = bs [45] from rfl]
  unfold txt
  rw [part_pos (L1.out.symm : Hid _) h0]
  simp [bs_append]
theorem e_neg {a n1 : Nat} {l : List UInt8} {T : ByteArray} (L1 : Hid (l.length = n1)) (h0 : ¬ 0 < n1) (hT : Hid (T = bs (txt a l none []))) : bs (dec a) = T := by
  rw [hT.out]
  unfold txt
  rw [part_neg (L1.out.symm : Hid _) h0]
  simp
theorem e_full (a x : Nat) (l k : List UInt8) : bs (txt a l none []) ++ { data := #[58] } ++ bs (txt x k none []) = bs (txt a l (some x) k) := by
  rw [show ({ data := #[58] } : ByteArray) = bs [58] from rfl]
  unfold txt
  simp [bs_append]

set_option maxHeartbeats 2000000 in
set_option maxRecDepth 100000 in
theorem law1 (a : Nat) (ha : a < 256) (a1 a2 p : Option Addr) (n1 c1 n2 c2 : Nat) (l k : List UInt8) (m : Option Nat) (w : World)
    (h1 : ArgS w a1 n1 c1 l) (h2 : ArgS w a2 n2 c2 k) (hp : PtV w p m) (ht : Tab w) :
    Calls Tryd.prog 3 #[.int .u8 a, .slice a1 n1 c1, .pointer p, .slice a2 n2 c2] w fun e w' => e = .returned (.bool true) ∧ Below w.heap.size w w' := by
  have H1 := hide h1
  have H2 := hide h2
  have HP := hide hp
  have HT := hide ht
  have hm1 : n1 ≤ maxLen := h1.2.1
  have hm2 : n2 ≤ maxLen := h2.2.1
  have hz := zz5_ok (.int .u8 a) (.pointer p) a1 a2 n1 c1 n2 c2 hm1 hm2 w
  unfold maxLen at hm1 hm2
  clear h1 h2 hp ht
  by_cases hbig : n1 + n2 ≤ 1048576
  · rw [decide_eq_true hbig] at hz
    have HZ := hide hz
    clear hz
    go_enter Tryd.func3, Tryd.ntmps3
    go_upto_if 33 with (go_at_call 5; refine HZ.out.mono ?_; rintro e w ⟨rfl, rfl⟩)
    go_cut [1, 9] (fun v1 v9 wx => ∃ b c, v1 = .slice b n1 c ∧ Hid (SlV wx b l) ∧ Hid (Below w.heap.size w wx))
    case first =>
      rcases H1.out.2.2 with ⟨rfl, rfl, rfl⟩ | ⟨x, rfl, hx⟩
      · have hl0 := H1.out.1
        go_wp2_with fail
        go_meet
        case rel => exact ⟨none, 0, rfl, slv_nil _ _ _ hl0, Below.refl _ _⟩
      · have hmk := run_mk n1 (by omega)
        have hcp := run_cp (cap := c1) H1.out.1 w 3 hx
        clear hx
        go_wp2_with fail
        go_meet
        case rel => exact ⟨_, n1, rfl, slv_new _ _, (Below.refl _ w).alloc (Nat.le_refl _) _⟩
    case rest =>
      obtain ⟨b1, d1, rfl, hs1, hb1⟩ := hcut
      have h2w := hide (H2.out.below hb1.out)
      go_upto_if 42 with fail
      go_cut [3, 10] (fun v3 v10 wx => ∃ b c, v3 = .slice b n2 c ∧ Hid (Inv w wx b1 l b k))
      case first =>
        rcases h2w.out.2.2 with ⟨rfl, rfl, rfl⟩ | ⟨x, rfl, hx⟩
        · have hl0 := h2w.out.1
          go_wp2_with fail
          go_meet
          case rel => exact ⟨none, 0, rfl, hb1.out, hs1.out, slv_nil _ _ _ hl0⟩
        · have hmk := run_mk n2 (by omega)
          have hcp := run_cp (cap := c2) h2w.out.1 wc 3 hx
          clear hx
          go_wp2_with fail
          go_meet
          case rel => exact ⟨_, n2, rfl, hb1.out.alloc hb1.out.size _, hs1.out.below ((Below.refl _ wc).alloc (Nat.le_refl _) _) (Nat.le_refl _), slv_new _ _⟩
      case rest =>
        obtain ⟨b2, d2, rfl, hi0⟩ := hcut
        rename_i w0
        have L1 := hide H1.out.1
        have L2 := hide H2.out.1
        obtain ⟨T, hT⟩ : ∃ T, T = bs (txt a l none []) := ⟨_, rfl⟩
        have hTs : T.size ≤ 2097160 := by rw [hT]; exact txt_small _ _ _ _ (by rw [L1.out]; omega)
        have HTT := hide hT
        clear hT
        rcases HP.out with ⟨rfl, rfl⟩ | ⟨pa, x, rfl, rfl, hx, hpb, hpc⟩
        · go_wp2_with fail
          refine (head_any ha L1 HTT (by omega) HT hi0).mono ?_
          rintro e w1 ⟨rfl, hb1⟩
          have hi1 := hide (hi0.out.step hb1)
          clear hb1
          by_cases hn0 : 0 < n1
          · have E1 := e_pos (a := a) L1 hn0 HTT
            have s1 := dec_small a
            have s2 := enc_small l (by rw [L1.out]; omega)
            go_wp2_with fail
            refine (decimalByte_ok a ha w1).mono ?_
            rintro e w2 ⟨rfl, hb2⟩
            have hi2 := hide (hi1.out.step hb2)
            clear hb2
            go_wp2_with fail
            refine (lowerHex_any L1 hn0 (by omega) hi2).mono ?_
            rintro e w3 ⟨rfl, hb3⟩
            have hi3 := hide (hi2.out.step hb3)
            clear hb3
            go_wp2_with fail
            refine (full_none ha L1 L2 HTT (by omega) (by omega) HT hi3).mono ?_
            rintro e w4 ⟨rfl, hb4⟩
            have hi4 := hide (hi3.out.step hb4)
            clear hb4
            go_wp2_with fail
            go_ret
            exact ⟨rfl, hi4.out.1⟩
          · have E1 := e_neg (a := a) L1 hn0 HTT
            go_wp2_with fail
            have hd : Calls Tryd.prog 7 #[.int .u8 a] w1 fun e w' => e = .returned (.string T) ∧ Below w1.heap.size w1 w' := by rw [← E1]; exact decimalByte_ok a ha w1
            refine hd.mono ?_
            rintro e w2 ⟨rfl, hb2⟩
            have hi2 := hide (hi1.out.step hb2)
            clear hb2 hd E1
            go_wp2_with fail
            refine (full_none ha L1 L2 HTT (by omega) (by omega) HT hi2).mono ?_
            rintro e w3 ⟨rfl, hb3⟩
            have hi3 := hide (hi2.out.step hb3)
            clear hb3
            go_wp2_with fail
            go_ret
            exact ⟨rfl, hi3.out.1⟩
        · have HPC := hide hpc
          have HPP : Hid (PtV w (some pa) (some x)) := HP.out
          clear hpc HP
          obtain ⟨U, hU⟩ : ∃ U, U = bs (txt x k none []) := ⟨_, rfl⟩
          have hUs : U.size ≤ 2097160 := by rw [hU]; exact txt_small _ _ _ _ (by rw [L2.out]; omega)
          obtain ⟨F, hF⟩ : ∃ F, F = bs (txt a l (some x) k) := ⟨_, rfl⟩
          have E2 : T ++ { data := #[58] } ++ U = F := by rw [hF, HTT.out, hU]; exact e_full a x l k
          have HFF := hide hF
          have HUU := hide hU
          clear hF hU
          go_wp2_with fail
          refine (head_any ha L1 HTT (by omega) HT hi0).mono ?_
          rintro e w1 ⟨rfl, hb1⟩
          have hi1 := hide (hi0.out.step hb1)
          clear hb1
          by_cases hn0 : 0 < n1
          · have E1 := e_pos (a := a) L1 hn0 HTT
            have s1 := dec_small a
            have s2 := enc_small l (by rw [L1.out]; omega)
            go_wp2_with fail
            refine (decimalByte_ok a ha w1).mono ?_
            rintro e w2 ⟨rfl, hb2⟩
            have hi2 := hide (hi1.out.step hb2)
            clear hb2
            go_wp2_with fail
            refine (lowerHex_any L1 hn0 (by omega) hi2).mono ?_
            rintro e w3 ⟨rfl, hb3⟩
            have hi3 := hide (hi2.out.step hb3)
            clear hb3
            go_wp2_with fail
            refine (full_some ha hx L1 L2 HFF (by omega) (by omega) HT HPP hi3).mono ?_
            rintro e w4 ⟨rfl, hb4⟩
            have hi4 := hide (hi3.out.step hb4)
            clear hb4
            have hpw : w4.cell? pa = some (.int .u8 x) := (hi4.out.1.cell hpb).trans HPC.out
            go_wp2_with fail
            refine (tail_any hx L2 HUU (by omega) HT hi4).mono ?_
            rintro e w5 ⟨rfl, hb5⟩
            have hi5 := hide (hi4.out.step hb5)
            clear hb5
            go_wp2_with fail
            go_ret
            exact ⟨rfl, hi5.out.1⟩
          · have E1 := e_neg (a := a) L1 hn0 HTT
            go_wp2_with fail
            have hd : Calls Tryd.prog 7 #[.int .u8 a] w1 fun e w' => e = .returned (.string T) ∧ Below w1.heap.size w1 w' := by rw [← E1]; exact decimalByte_ok a ha w1
            refine hd.mono ?_
            rintro e w2 ⟨rfl, hb2⟩
            have hi2 := hide (hi1.out.step hb2)
            clear hb2 hd E1
            go_wp2_with fail
            refine (full_some ha hx L1 L2 HFF (by omega) (by omega) HT HPP hi2).mono ?_
            rintro e w3 ⟨rfl, hb3⟩
            have hi3 := hide (hi2.out.step hb3)
            clear hb3
            have hpw : w3.cell? pa = some (.int .u8 x) := (hi3.out.1.cell hpb).trans HPC.out
            go_wp2_with fail
            refine (tail_any hx L2 HUU (by omega) HT hi3).mono ?_
            rintro e w4 ⟨rfl, hb4⟩
            have hi4 := hide (hi3.out.step hb4)
            clear hb4
            go_wp2_with fail
            go_ret
            exact ⟨rfl, hi4.out.1⟩
  · rw [decide_eq_false hbig] at hz
    have HZ := hide hz
    clear hz
    go_enter Tryd.func3, Tryd.ntmps3
    go_wp2_with (go_at_call 5; refine HZ.out.mono ?_; rintro e w ⟨rfl, rfl⟩)
    go_ret
    exact ⟨rfl, Below.refl _ _⟩
end Go.Proofs.Qxb6627951aDoor
