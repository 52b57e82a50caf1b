import Derived.Test.Qxb6627951aDoorLeaf
import Derived.Lib.SmallJoins
namespace Go.Proofs.Qxb6627951aDoor
open Go.RowKit

/-- the name of the table of powers, as the rows give it -/
abbrev powName : String := Rows.fnSNSSAIStringSplitsAtMappingRow.named.headD default
/-- the table that strconv reads -/
def Tab (w : World) : Prop := Lib.TabIs Tryd.prog w powName .u64 Lib.pow10Tab
theorem gPow : Tryd.prog.globalNamed powName = some 0 := by kernel_rfl
/-- a slice of bytes, as the walks read it -/
def SlV (w : World) (ad : Option Addr) (l : List UInt8) : Prop := 0 < l.length → ∃ b, ad = some ⟨b, 0, none⟩ ∧ b < w.heap.size ∧ Cells w b 0 l
def PtV (w : World) (p : Option Addr) (m : Option Nat) : Prop := (p = none ∧ m = none) ∨ ∃ a x, p = some a ∧ m = some x ∧ x < 256 ∧ a.block < w.heap.size ∧ w.cell? a = some (.int .u8 x)
theorem SlV.below {w w' : World} {B : Nat} {ad : Option Addr} {l : List UInt8} (h : SlV w ad l) (hb : Below B w w') (hB : w.heap.size ≤ B) : SlV w' ad l := fun hl => by
  obtain ⟨b, h1, h2, h3⟩ := h hl
  exact ⟨b, h1, Nat.lt_of_lt_of_le h2 hb.size, h3.below hb (by omega)⟩
theorem PtV.below {w w' : World} {B : Nat} {p : Option Addr} {m : Option Nat} (h : PtV w p m) (hb : Below B w w') (hB : w.heap.size ≤ B) : PtV w' p m := by
  rcases h with h | ⟨a, x, h1, h2, h3, h4, h5⟩
  · exact .inl h
  · exact .inr ⟨a, x, h1, h2, h3, Nat.lt_of_lt_of_le h4 hb.size, (hb.cell (by omega)).trans h5⟩
theorem Tab.below {w w' : World} {B : Nat} (h : Tab w) (hb : Below B w w') (hB : w.heap.size ≤ B) : Tab w' := Joins.tab_stays gPow h hb hB

theorem itoa_ok (a : Nat) (ha : a < 256) (w : World) (ht : Tab w) : Calls Tryd.prog 12 #[.int .i64 a] w fun e w' => e = .returned (str (dec a)) ∧ Below w.heap.size w w' := by
  refine (Any.strconv_Itoa Tryd.laysItoa (a : Int) (by omega) (by omega) w ht).mono ?_
  rintro e w' ⟨rfl, k, os, rfl⟩
  exact ⟨by rw [itoa_dec a ha]; rfl, rfl, rfl, rfl, by simp, fun k hk => Sort.heap_grow_old _ _ hk⟩
theorem hex_ok (ad : Option Addr) (l : List UInt8) (cs : Nat) (w : World) (h : SlV w ad l) (h0 : 0 < l.length) (hn : l.length ≤ 1048576) :
    Calls Tryd.prog 13 #[.slice ad l.length cs] w fun e w' => e = .returned (str (Lib.Hx.encode l)) ∧ Below w.heap.size w w' := by
  obtain ⟨b, rfl, hb, hc⟩ := h h0
  exact Any.hex_EncodeToString_bytes Tryd.laysHex b 0 cs l w hc hb (by omega)

theorem bs_append (a b : List UInt8) : bs a ++ bs b = bs (a ++ b) := by
  apply ByteArray.ext
  simp [bs]
theorem bs_size (a : List UInt8) : (bs a).size = a.length := by simp [bs, ByteArray.size]
def Box (w1 : World) (g : Nat) (v0 v1 v2 v3 : Value) : Prop := w1.heap[g]? = some (.cells #[v0, v1, v2, v3] 27 (0, 0))
theorem Box.c1 {w1 : World} {g : Nat} {v0 v1 v2 v3 : Value} (h : Box w1 g v0 v1 v2 v3) : w1.cell? ⟨g, 1, none⟩ = some v1 := by unfold World.cell?; rw [h]; rfl
theorem Box.c2 {w1 : World} {g : Nat} {v0 v1 v2 v3 : Value} (h : Box w1 g v0 v1 v2 v3) : w1.cell? ⟨g, 2, none⟩ = some v2 := by unfold World.cell?; rw [h]; rfl
theorem Box.c3 {w1 : World} {g : Nat} {v0 v1 v2 v3 : Value} (h : Box w1 g v0 v1 v2 v3) : w1.cell? ⟨g, 3, none⟩ = some v3 := by unfold World.cell?; rw [h]; rfl
theorem Box.lt {w1 : World} {g : Nat} {v0 v1 v2 v3 : Value} (h : Box w1 g v0 v1 v2 v3) : g < w1.heap.size := (Array.getElem?_eq_some_iff.1 h).1
theorem Box.below {w1 w2 : World} {g : Nat} {v0 v1 v2 v3 : Value} (h : Box w1 g v0 v1 v2 v3) (hb : Below w1.heap.size w1 w2) : Box w2 g v0 v1 v2 v3 := (hb.block g h.lt).trans h
def St (w w1 : World) (g : Nat) (v0 v1 v2 v3 : Value) : Prop := w.heap.size = g ∧ Below g w w1 ∧ Box w1 g v0 v1 v2 v3
theorem St.step {w w1 w2 : World} {g : Nat} {v0 v1 v2 v3 : Value} (h : St w w1 g v0 v1 v2 v3) (hb : Below w1.heap.size w1 w2) : St w w2 g v0 v1 v2 v3 :=
  ⟨h.1, h.2.1.trans (hb.mono (Nat.le_of_lt h.2.2.lt)), h.2.2.below hb⟩

theorem dec_small (a : Nat) : (bs (dec a)).size ≤ 3 := by
  rw [bs_size, dec_length]; unfold decLen; split
  · omega
  · split <;> omega
theorem enc_small (l : List UInt8) (h : l.length ≤ 1048576) : (bs (Lib.Hx.encode l)).size ≤ 2097152 := by
  rw [bs_size, Lib.Hx.encode_length]; omega
theorem part_pos {a n : Nat} {l : List UInt8} (hn : Hid (n = l.length)) (h : 0 < n) : part a l = dec a ++ ([45] ++ Lib.Hx.encode l) := by
  have := hn.out
  unfold part; rw [if_neg (by omega)]; rfl
theorem part_neg {a n : Nat} {l : List UInt8} (hn : Hid (n = l.length)) (h : ¬ 0 < n) : part a l = dec a := by
  have := hn.out
  unfold part; rw [if_pos (by omega)]; simp
theorem t_pos {a n : Nat} {l k : List UInt8} (hn : Hid (n = l.length)) (h : 0 < n) : Value.string (bs (dec a) ++ (bs [45] ++ bs (Lib.Hx.encode l))) = str (txt a l none k) := by
  unfold txt; rw [part_pos hn h]; simp [bs_append]
theorem t_neg {a n : Nat} {l k : List UInt8} (hn : Hid (n = l.length)) (h : ¬ 0 < n) : Value.string (bs (dec a)) = str (txt a l none k) := by
  unfold txt; rw [part_neg hn h]; simp
theorem t_pos_pos {a n x q : Nat} {l k : List UInt8} (hn : Hid (n = l.length)) (h : 0 < n) (hq : Hid (q = k.length)) (h' : 0 < q) :
    Value.string (bs (dec a) ++ (bs [45] ++ bs (Lib.Hx.encode l)) ++ (bs [58] ++ bs (dec x)) ++ (bs [45] ++ bs (Lib.Hx.encode k))) = str (txt a l (some x) k) := by
  unfold txt; simp only [part_pos hn h, part_pos hq h', bs_append]; simp
theorem t_pos_neg {a n x q : Nat} {l k : List UInt8} (hn : Hid (n = l.length)) (h : 0 < n) (hq : Hid (q = k.length)) (h' : ¬ 0 < q) :
    Value.string (bs (dec a) ++ (bs [45] ++ bs (Lib.Hx.encode l)) ++ (bs [58] ++ bs (dec x))) = str (txt a l (some x) k) := by
  unfold txt; simp only [part_pos hn h, part_neg hq h', bs_append]; simp
theorem t_neg_pos {a n x q : Nat} {l k : List UInt8} (hn : Hid (n = l.length)) (h : ¬ 0 < n) (hq : Hid (q = k.length)) (h' : 0 < q) :
    Value.string (bs (dec a) ++ (bs [58] ++ bs (dec x)) ++ (bs [45] ++ bs (Lib.Hx.encode k))) = str (txt a l (some x) k) := by
  unfold txt; simp only [part_neg hn h, part_pos hq h', bs_append]; simp
theorem t_neg_neg {a n x q : Nat} {l k : List UInt8} (hn : Hid (n = l.length)) (h : ¬ 0 < n) (hq : Hid (q = k.length)) (h' : ¬ 0 < q) :
    Value.string (bs (dec a) ++ (bs [58] ++ bs (dec x))) = str (txt a l (some x) k) := by
  unfold txt; simp only [part_neg hn h, part_neg hq h', bs_append]; simp

set_option maxHeartbeats 1000000 in
set_option maxRecDepth 100000 in
theorem string_ok (a : Nat) (ha : a < 256) (al : Option Addr) (l : List UInt8) (cl : Nat) (p : Option Addr) (m : Option Nat) (ak : Option Addr) (k : List UInt8) (ck : Nat) (w : World)
    (hl : SlV w al l) (hp : PtV w p m) (hk : SlV w ak k) (hln : l.length ≤ 1048576) (hkn : k.length ≤ 1048576) (ht : Tab w) :
    Calls Tryd.prog 6 #[.agg #[.int .u8 a, .slice al l.length cl, .pointer p, .slice ak k.length ck]] w fun e w' => e = .returned (str (txt a l m k)) ∧ Below w.heap.size w w' := by
  have HL := hide hl
  have HP := hide hp
  have HK := hide hk
  have HT := hide ht
  clear hl hp hk ht
  have s1 := dec_small a
  have s2 := enc_small l hln
  have s3 := enc_small k hkn
  rcases HP.out with ⟨rfl, rfl⟩ | ⟨pa, x, rfl, rfl, hx, hpb, hpc⟩
  · go_enter Tryd.func6, Tryd.ntmps6
    go_wp2_with fail
    obtain ⟨n, hn⟩ : ∃ n, n = l.length := ⟨_, rfl⟩
    obtain ⟨q, hq⟩ : ∃ q, q = k.length := ⟨_, rfl⟩
    obtain ⟨w0, hw0⟩ : ∃ w0, w0 = w.alloc (.cells #[.int .u8 a, .slice al l.length cl, .pointer none, .slice ak k.length ck] 27) := ⟨_, rfl⟩
    obtain ⟨g, hg⟩ : ∃ g, w.heap.size = g := ⟨_, rfl⟩
    have HS0 : Hid (St w w0 g (.int .u8 a) (.slice al n cl) (.pointer none) (.slice ak q ck)) :=
      ⟨hg, by rw [hw0, ← hg]; exact (Below.refl _ w).alloc (Nat.le_refl _) _, by rw [hw0, ← hg, hn, hq]; exact alloc_new _ _⟩
    rw [← hw0, hg, ← hn, ← hq]
    rw [← hn] at hln
    rw [← hq] at hkn
    have HN := hide hn
    have HQ := hide hq
    have HG := hide hg
    clear hg hw0 hn hq
    refine (itoa_ok a ha w0 (HT.out.below HS0.out.2.1 (Nat.le_of_eq HG.out))).mono ?_
    rintro e w1 ⟨rfl, hb1⟩
    have HS1 := hide (HS0.out.step hb1)
    have d1 := HS1.out.2.2.c1
    have d2 := HS1.out.2.2.c2
    have d3 := HS1.out.2.2.c3
    clear hb1
    by_cases hn0 : 0 < n
    · go_wp2_with fail
      have hx2 := hex_ok al l cl w1 (HL.out.below HS1.out.2.1 (Nat.le_of_eq HG.out)) (by rw [← HN.out]; exact hn0) (by rw [← HN.out]; exact hln)
      rw [← HN.out] at hx2
      refine hx2.mono ?_
      rintro e w2 ⟨rfl, hb2⟩
      clear d1 d2 d3 hx2
      have HS2 := hide (HS1.out.step hb2)
      have d1 := HS2.out.2.2.c1
      have d2 := HS2.out.2.2.c2
      have d3 := HS2.out.2.2.c3
      clear hb2
      go_wp2_with fail
      go_ret
      exact ⟨congrArg Ending.returned (t_pos HN hn0), by rw [HG.out]; exact HS2.out.2.1⟩
    · go_wp2_with fail
      go_ret
      exact ⟨congrArg Ending.returned (t_neg HN hn0), by rw [HG.out]; exact HS1.out.2.1⟩
  · have HPC := hide hpc
    clear hpc
    have s4 := dec_small x
    go_enter Tryd.func6, Tryd.ntmps6
    go_wp2_with fail
    obtain ⟨n, hn⟩ : ∃ n, n = l.length := ⟨_, rfl⟩
    obtain ⟨q, hq⟩ : ∃ q, q = k.length := ⟨_, rfl⟩
    obtain ⟨w0, hw0⟩ : ∃ w0, w0 = w.alloc (.cells #[.int .u8 a, .slice al l.length cl, .pointer (some pa), .slice ak k.length ck] 27) := ⟨_, rfl⟩
    obtain ⟨g, hg⟩ : ∃ g, w.heap.size = g := ⟨_, rfl⟩
    have HS0 : Hid (St w w0 g (.int .u8 a) (.slice al n cl) (.pointer (some pa)) (.slice ak q ck)) :=
      ⟨hg, by rw [hw0, ← hg]; exact (Below.refl _ w).alloc (Nat.le_refl _) _, by rw [hw0, ← hg, hn, hq]; exact alloc_new _ _⟩
    rw [← hw0, hg, ← hn, ← hq]
    rw [← hn] at hln
    rw [← hq] at hkn
    have HN := hide hn
    have HQ := hide hq
    have HG := hide hg
    clear hg hw0 hn hq
    refine (itoa_ok a ha w0 (HT.out.below HS0.out.2.1 (Nat.le_of_eq HG.out))).mono ?_
    rintro e w1 ⟨rfl, hb1⟩
    have HS1 := hide (HS0.out.step hb1)
    have d1 := HS1.out.2.2.c1
    have d2 := HS1.out.2.2.c2
    have d3 := HS1.out.2.2.c3
    clear hb1
    by_cases hn0 : 0 < n
    · go_wp2_with fail
      have hx2 := hex_ok al l cl w1 (HL.out.below HS1.out.2.1 (Nat.le_of_eq HG.out)) (by rw [← HN.out]; exact hn0) (by rw [← HN.out]; exact hln)
      rw [← HN.out] at hx2
      refine hx2.mono ?_
      rintro e w2 ⟨rfl, hb2⟩
      clear d1 d2 d3 hx2
      have HS2 := hide (HS1.out.step hb2)
      have d1 := HS2.out.2.2.c1
      have d2 := HS2.out.2.2.c2
      have d3 := HS2.out.2.2.c3
      clear hb2
      have hpw : w2.cell? pa = some (.int .u8 x) := (HS2.out.2.1.cell (by rw [← HG.out]; exact hpb)).trans HPC.out
      go_wp2_with fail
      refine (itoa_ok x hx w2 (HT.out.below HS2.out.2.1 (Nat.le_of_eq HG.out))).mono ?_
      rintro e w3 ⟨rfl, hb3⟩
      clear d1 d2 d3 hpw
      have HS3 := hide (HS2.out.step hb3)
      have d1 := HS3.out.2.2.c1
      have d2 := HS3.out.2.2.c2
      have d3 := HS3.out.2.2.c3
      clear hb3
      by_cases hq0 : 0 < q
      · go_wp2_with fail
        have hx4 := hex_ok ak k ck w3 (HK.out.below HS3.out.2.1 (Nat.le_of_eq HG.out)) (by rw [← HQ.out]; exact hq0) (by rw [← HQ.out]; exact hkn)
        rw [← HQ.out] at hx4
        refine hx4.mono ?_
        rintro e w4 ⟨rfl, hb4⟩
        clear d1 d2 d3 hx4
        have HS4 := hide (HS3.out.step hb4)
        have d1 := HS4.out.2.2.c1
        have d2 := HS4.out.2.2.c2
        have d3 := HS4.out.2.2.c3
        clear hb4
        go_wp2_with fail
        go_ret
        exact ⟨congrArg Ending.returned (t_pos_pos HN hn0 HQ hq0), by rw [HG.out]; exact HS4.out.2.1⟩
      · go_wp2_with fail
        go_ret
        exact ⟨congrArg Ending.returned (t_pos_neg HN hn0 HQ hq0), by rw [HG.out]; exact HS3.out.2.1⟩
    · have hpw : w1.cell? pa = some (.int .u8 x) := (HS1.out.2.1.cell (by rw [← HG.out]; exact hpb)).trans HPC.out
      go_wp2_with fail
      refine (itoa_ok x hx w1 (HT.out.below HS1.out.2.1 (Nat.le_of_eq HG.out))).mono ?_
      rintro e w2 ⟨rfl, hb2⟩
      clear d1 d2 d3 hpw
      have HS2 := hide (HS1.out.step hb2)
      have d1 := HS2.out.2.2.c1
      have d2 := HS2.out.2.2.c2
      have d3 := HS2.out.2.2.c3
      clear hb2
      by_cases hq0 : 0 < q
      · go_wp2_with fail
        have hx3 := hex_ok ak k ck w2 (HK.out.below HS2.out.2.1 (Nat.le_of_eq HG.out)) (by rw [← HQ.out]; exact hq0) (by rw [← HQ.out]; exact hkn)
        rw [← HQ.out] at hx3
        refine hx3.mono ?_
        rintro e w3 ⟨rfl, hb3⟩
        clear d1 d2 d3 hx3
        have HS3 := hide (HS2.out.step hb3)
        have d1 := HS3.out.2.2.c1
        have d2 := HS3.out.2.2.c2
        have d3 := HS3.out.2.2.c3
        clear hb3
        go_wp2_with fail
        go_ret
        exact ⟨congrArg Ending.returned (t_neg_pos HN hn0 HQ hq0), by rw [HG.out]; exact HS3.out.2.1⟩
      · go_wp2_with fail
        go_ret
        exact ⟨congrArg Ending.returned (t_neg_neg HN hn0 HQ hq0), by rw [HG.out]; exact HS2.out.2.1⟩
end Go.Proofs.Qxb6627951aDoor
