import Derived.Test.Qxb6627951aDoorRows
import Derived.Test.Qxb6627951aDoorPlain
import Derived.Test.Qxb6627951aDoorShelf
import Derived.WalkKit
import Derived.WalkSpells
import Derived.WalkLawsBesides
import Derived.Deep.QuietTactic
import Derived.Deep.AppendLies
import Derived.BigQuiet
import Derived.OwnWalk
import Derived.Laws.BytesArg
import Derived.Laws.CopyRow
import Derived.Sort.Grow
import Derived.Below
namespace Go.Proofs.Qxb6627951aDoor
open Go.RowKit

theorem hide {p : Prop} (h : p) : Hid p := h
def bs (l : List UInt8) : ByteArray := ⟨l.toArray⟩
abbrev str (l : List UInt8) : Value := .string (bs l)

theorem alloc_new (w : World) (o : Obj) : (w.alloc o).heap[w.heap.size]? = some o := by
  show (w.heap.push o)[w.heap.size]? = _
  simp
theorem cell_new (w : World) (c : Array Value) (T : TypeId) (o : Nat) : (w.alloc (.cells c T)).cell? ⟨w.heap.size, o, none⟩ = c[o]? := by
  unfold World.cell?
  rw [alloc_new]
  rfl
theorem conv1 (w : World) (a : Int) : (convert 22 9 (.slice (some ⟨w.heap.size, 0, none⟩) 1 1)).run Tryd.prog (w.alloc (.cells #[.int .u8 a] 5)) = .ok (.string (strOfNums [a])) (w.alloc (.cells #[.int .u8 a] 5)) :=
  run_convert_bytes_arg (P := Tryd.prog) _ 22 5 Tryd.underlying22 Tryd.underlying5 _ 0 1 1 [a] rfl (fun i hi => by
    have : i = 0 := by omega
    subst this; rw [cell_new]; rfl) 9 Tryd.underlying9
theorem conv2 (w : World) (a b : Int) : (convert 22 9 (.slice (some ⟨w.heap.size, 0, none⟩) 2 2)).run Tryd.prog (w.alloc (.cells #[.int .u8 a, .int .u8 b] 5)) = .ok (.string (strOfNums [a, b])) (w.alloc (.cells #[.int .u8 a, .int .u8 b] 5)) :=
  run_convert_bytes_arg (P := Tryd.prog) _ 22 5 Tryd.underlying22 Tryd.underlying5 _ 0 2 2 [a, b] rfl (fun i hi => by
    have : i = 0 ∨ i = 1 := by omega
    rcases this with rfl | rfl <;> (rw [cell_new]; rfl)) 9 Tryd.underlying9
theorem conv3 (w : World) (a b c : Int) : (convert 22 9 (.slice (some ⟨w.heap.size, 0, none⟩) 3 3)).run Tryd.prog (w.alloc (.cells #[.int .u8 a, .int .u8 b, .int .u8 c] 5)) = .ok (.string (strOfNums [a, b, c])) (w.alloc (.cells #[.int .u8 a, .int .u8 b, .int .u8 c] 5)) :=
  run_convert_bytes_arg (P := Tryd.prog) _ 22 5 Tryd.underlying22 Tryd.underlying5 _ 0 3 3 [a, b, c] rfl (fun i hi => by
    have : i = 0 ∨ i = 1 ∨ i = 2 := by omega
    rcases this with rfl | rfl | rfl <;> (rw [cell_new]; rfl)) 9 Tryd.underlying9

theorem dec3 (b : Nat) (h : 100 ≤ b) : str (dec b) = .string (strOfNums [48 + (b : Int) / 100, 48 + (b : Int) / 10 % 10, 48 + (b : Int) % 10]) := by
  unfold str bs dec strOfNums
  rw [if_pos h]
  simp only [List.map_cons, List.map_nil]
  rw [show (48 + (b : Int) / 100).toNat = 48 + b / 100 by omega, show (48 + (b : Int) / 10 % 10).toNat = 48 + b / 10 % 10 by omega, show (48 + (b : Int) % 10).toNat = 48 + b % 10 by omega]
theorem dec2 (b : Nat) (h : b < 100) (h' : 10 ≤ b) : str (dec b) = .string (strOfNums [48 + (b : Int) / 10, 48 + (b : Int) % 10]) := by
  unfold str bs dec strOfNums
  rw [if_neg (by omega), if_pos h']
  simp only [List.map_cons, List.map_nil]
  rw [show (48 + (b : Int) / 10).toNat = 48 + b / 10 by omega, show (48 + (b : Int) % 10).toNat = 48 + b % 10 by omega]
theorem dec1 (b : Nat) (h' : b < 10) : str (dec b) = .string (strOfNums [48 + (b : Int)]) := by
  unfold str bs dec strOfNums
  rw [if_neg (by omega), if_neg (by omega)]
  simp only [List.map_cons, List.map_nil]
  rw [show (48 + (b : Int)).toNat = 48 + b by omega]

set_option maxHeartbeats 1000000 in
set_option maxRecDepth 100000 in
theorem decimalByte_ok (b : Nat) (hb : b < 256) (w : World) :
    Calls Tryd.prog 7 #[.int .u8 b] w fun e w' => e = .returned (str (dec b)) ∧ Below w.heap.size w w' := by
  have c1 := conv1; have c2 := conv2; have c3 := conv3
  go_enter Tryd.func7, Tryd.ntmps7
  go_wp2_with fail
  · go_ret
    exact ⟨congrArg Ending.returned (dec3 b (by omega)).symm, (Below.refl _ w).alloc (Nat.le_refl _) _⟩
  · go_ret
    exact ⟨congrArg Ending.returned (dec2 b (by omega) (by omega)).symm, (Below.refl _ w).alloc (Nat.le_refl _) _⟩
  · go_ret
    exact ⟨congrArg Ending.returned (dec1 b (by omega)).symm, (Below.refl _ w).alloc (Nat.le_refl _) _⟩

def byteV (b : UInt8) : Value := .int .u8 b.toNat
theorem dig (d : Nat) (h : d < Lib.Hx.tab.size) : Value.int .u8 ((Lib.Hx.tab[d]'h).toNat : Int) = byteV (Lib.Hx.digit d) := by
  unfold byteV Lib.Hx.digit
  rw [Lib.Pa.at_eq Lib.Hx.tab d h]
  rfl
theorem news1 {w : World} {v u0 : Value} (hv : v = u0) : ∀ j u, [u0][j]? = some u → (w.alloc (.cells #[v] 5)).cell? ((⟨w.heap.size, 0, none⟩ : Addr).add j) = some u := by
  subst hv
  intro j u h
  have h1 : j < 1 := (List.getElem?_eq_some_iff.1 h).1
  have : j = 0 := by omega
  subst this
  simp at h
  subst h
  exact cell_new w #[v] 5 0
theorem encode_append (a b : List UInt8) : Lib.Hx.encode (a ++ b) = Lib.Hx.encode a ++ Lib.Hx.encode b := by simp [Lib.Hx.encode]
theorem own_cells {w : World} {B g m cap : Nat} {xs : List UInt8} (h : w.ownsRow B 5 1 (.slice (some ⟨g, 0, none⟩) m cap) m (xs.map byteV)) : ∀ i (hi : i < xs.length), w.cell? ⟨g, i, none⟩ = some (byteV (xs[i]'hi)) := by
  obtain ⟨hl, ⟨h0, _⟩ | ⟨g', cap', cur, hv, hb, hh, h1, h2, h3, h4⟩⟩ := h
  · cases h0
  · simp only [Value.slice.injEq, Option.some.injEq, Addr.mk.injEq] at hv
    obtain ⟨⟨rfl, _⟩, _, rfl⟩ := hv
    intro i hi
    have h5 : (cur.toList.take (m * 1))[i]? = (xs.map byteV)[i]? := by rw [h4]
    rw [List.length_map] at hl
    rw [List.getElem?_take, if_pos (by omega), List.getElem?_map, List.getElem?_eq_getElem hi, Option.map_some, Array.getElem?_toList] at h5
    unfold World.cell?
    rw [hh]
    exact h5
theorem own_conv {w : World} {B g m cap : Nat} {xs : List UInt8} (h : w.ownsRow B 5 1 (.slice (some ⟨g, 0, none⟩) m cap) m (xs.map byteV)) : (convert 22 9 (.slice (some ⟨g, 0, none⟩) m cap)).run Tryd.prog w = .ok (str xs) w := by
  have hm : xs.length = m := by have := h.1; rw [List.length_map] at this; omega
  subst hm
  have := run_convert_bytes_arg (P := Tryd.prog) w 22 5 Tryd.underlying22 Tryd.underlying5 g 0 xs.length cap (xs.map fun b => (b.toNat : Int)) (by simp) (fun i hi => by
    rw [Nat.zero_add, own_cells h i hi]
    simp [byteV, hi]) 9 Tryd.underlying9
  rw [this]
  unfold str bs strOfNums
  congr 3
  rw [List.map_map]
  congr 1
  conv => rhs; rw [← List.map_id xs]
  apply List.map_congr_left
  intro b _
  simp
theorem info5 : (Tryd.prog.info? 5).map (fun i => (i.zero, i.size, i.bytes)) = some (some (.int .u8 0), 1, 1) := by kernel_rfl
def Cells (w : World) (b o : Nat) (l : List UInt8) : Prop := ∀ i (h : i < l.length), w.cell? ⟨b, o + i, none⟩ = some (byteV (l[i]'h))
theorem Cells.below {B : Nat} {w w' : World} {b o : Nat} {l : List UInt8} (h : Cells w b o l) (hb : Below B w w') (hg : b < B) : Cells w' b o l := fun i hi => (hb.cell (p := ⟨b, o + i, none⟩) hg).trans (h i hi)

set_option maxHeartbeats 1000000 in
set_option maxRecDepth 100000 in
theorem lowerHex_ok (l : List UInt8) (bs os cs : Nat) (w : World) (hbs : bs < w.heap.size) (hn : l.length ≤ 1048576) (hc : Cells w bs os l) :
    Calls Tryd.prog 8 #[.slice (some ⟨bs, os, none⟩) l.length cs] w fun e w' => e = .returned (str (Lib.Hx.encode l)) ∧ Below w.heap.size w w' := by
  obtain ⟨i0, hi0, hz0, hz1, hz2⟩ := info_parts info5
  obtain ⟨n, hln⟩ : ∃ n, n = l.length := ⟨_, rfl⟩
  rw [← hln] at hn ⊢
  have HL := hide hln
  have HC := hide hc
  clear hln hc
  have hwr : IntKind.i64.wrap (2 * (n : Int)) = ((2 * n : Nat) : Int) := by rw [IntKind.wrap_i64]; omega
  go_enter Tryd.func8, Tryd.ntmps8
  go_wp2_with (at_make; refine wpList_make_own _ rfl _ _ 22 rfl w.heap.size 5 i0 (.int .u8 0) 1 Tryd.underlying22 hi0 hz0 hz1 _ _ _ (2 * n) rfl rfl (by omega) ?b2 ?b3 (Nat.le_refl _) ?_)
  case b2 => rw [hz2]; omega
  case b3 => unfold maxLen; omega
  intro w0 hown0 hgrow0
  have HW := hide hwr
  clear hwr
  go_wp2_with fail
  have hgr0 : Below w.heap.size w w0 := (Below.refl _ w).grown hgrow0 (Nat.le_refl _) (fun j hj => by cases hj)
  go_loopw [3, 4] (fun out vi wr => ∃ k g cap : Nat, k ≤ n ∧ vi = .int .i64 k ∧ out = .slice (some ⟨g, 0, none⟩) (2 * k) cap ∧ Hid (wr.ownsRow w.heap.size 5 1 (.slice (some ⟨g, 0, none⟩) (2 * k) cap) (2 * k) ((Lib.Hx.encode (l.take k)).map byteV)) ∧ w.heap.size ≤ wr.heap.size ∧ Hid (Below w.heap.size w wr)) (fun _ vi _ => n - (intOf vi).toNat)
  case atStart => exact ⟨0, w.heap.size, 2 * n, Nat.zero_le _, rfl, rfl, hown0, hgrow0.size, hgr0⟩
  case round =>
    obtain ⟨k, g, cap, hk, rfl, rfl, hown, hsz, hbel⟩ := hrel
    by_cases hkn : k < n
    · have hkl : k < l.length := by rw [← HL.out]; exact hkn
      obtain ⟨x, hx⟩ : ∃ x, x = (l[k]'hkl).toNat := ⟨_, rfl⟩
      have hx1 : x < 256 := by rw [hx]; exact (l[k]'hkl).toNat_lt
      have hcx : wr.cell? ⟨bs, os + k, none⟩ = some (.int .u8 x) := by rw [hx]; exact (HC.out.below hbel.out hbs) k hkl
      have HX := hide hx
      clear hx
      go_wp2_with (first
        | (at_builtin; refine wpList_append_lies _ rfl (.tmp 15) (.tmp 22) 22 rfl w.heap.size 5 i0 (.int .u8 0) 1 1 Tryd.underlying22 hi0 hz0 hz1 hz2 rfl (by omega) _ (2 * k) _ rfl (hown.out.alloc _) ⟨wr.heap.size, 0, none⟩ 1 1 [byteV (Lib.Hx.digit (x / 16))] rfl rfl (news1 (dig (x / 16) _)) (by intro u hu; simp only [List.mem_cons, List.not_mem_nil, or_false] at hu; subst hu; rfl) (by omega) (by unfold maxLen; omega) (by omega) (by simp; omega) _ rfl ?_
           intro g3 cap3 w3 hr3 hg3 hor3 hlt3
           have hbel3 : Hid (Below w.heap.size w w3) := (hbel.out.alloc hsz _).grown hg3 (by simp; omega) (fun j hj => by have := (hown.out.lt _ hj).1; omega)
           have hcx3 : w3.cell? ⟨bs, os + k, none⟩ = some (.int .u8 x) := by rw [HX.out]; exact (HC.out.below hbel3.out hbs) k hkl
           have hsz3 : w.heap.size ≤ w3.heap.size := by have := hg3.size; simp at this; omega
           have hr3' := hide hr3
           clear hr3 hor3)
        | (at_builtin; refine wpList_append_lies _ rfl (.tmp 24) (.tmp 31) 22 rfl w.heap.size 5 i0 (.int .u8 0) 1 1 Tryd.underlying22 hi0 hz0 hz1 hz2 rfl (by omega) _ (2 * k + 1) _ rfl (hr3'.out.alloc _) ⟨w3.heap.size, 0, none⟩ 1 1 [byteV (Lib.Hx.digit (x % 16))] rfl rfl (news1 (dig (x % 16) _)) (by intro u hu; simp only [List.mem_cons, List.not_mem_nil, or_false] at hu; subst hu; rfl) (by omega) (by unfold maxLen; omega) (by omega) (by simp; omega) _ rfl ?_
           intro g4 cap4 w4 hr4 hg4 hor4 hlt4))
      have hbel4 : Below w.heap.size w w4 := (hbel3.out.alloc hsz3 _).grown hg4 (by simp; omega) (fun j hj => by have := (hr3'.out.lt _ hj).1; omega)
      have hsz4 : w.heap.size ≤ w4.heap.size := by have := hg4.size; simp at this; omega
      have hr4' : w4.ownsRow w.heap.size 5 1 (.slice (some ⟨g4, 0, none⟩) (2 * (k + 1)) cap4) (2 * (k + 1)) ((Lib.Hx.encode (l.take (k + 1))).map byteV) := by
        rw [List.take_succ_eq_append_getElem hkl, encode_append, List.map_append]
        rw [show 2 * (k + 1) = 2 * k + 1 + 1 by omega]
        have e1 : Lib.Hx.encode [l[k]'hkl] = [Lib.Hx.digit (x / 16), Lib.Hx.digit (x % 16)] := by rw [HX.out]; rfl
        rw [e1]
        simpa using hr4
      exact ⟨⟨k + 1, g4, cap4, by omega, by go_num, by rw [show 2 * (k + 1) = 2 * k + 1 + 1 by omega], hr4', hsz4, hbel4⟩, by simp [intOf]; omega⟩
    · have hkn' : k = n := by omega
      subst hkn'
      have hcv : (convert 22 9 (.slice (some ⟨g, 0, none⟩) (2 * k) cap)).run Tryd.prog wr = .ok (str (Lib.Hx.encode l)) wr := by
        have := own_conv hown.out
        rwa [show l.take k = l by rw [HL.out, List.take_length]] at this
      go_wp2_with fail
      go_ret
      exact ⟨rfl, hbel.out⟩

end Go.Proofs.Qxb6627951aDoor
