import Derived.Test.Qxb6627916aPrem
import Derived.Maps.RangeWalk
import Derived.Maps.OwnSet
import Derived.Maps.Ext
import Derived.Deep.RegionHeld3
import Derived.Deep.AppendLies
namespace Go.Proofs.Qxb6627916a
open Go.RowKit Go.Sort

set_option maxRecDepth 20000 in
set_option maxHeartbeats 1000000 in
theorem newEngine_any (w : World) : Calls Try.prog 18 #[] w fun e w' => e = .returned (.pointer (some ⟨w.heap.size + 1, 0, none⟩)) ∧
    w' = (w.alloc (.map #[] 0)).alloc (.cells #[.int .i32 0, .int .u32 0, .int .u32 0, .int .u32 0, .int .i32 0, .int .i32 0, .pointer none, .map (some w.heap.size), .int .u64 0] 58) := by
  have hmm := @run_makeMap Try.prog
  go_enter Try.func18, Try.ntmps18
  go_wp2
  go_ret
  exact ⟨rfl, rfl⟩

/-- an element of the map is what it is -/
def RV (v : Value) : Option (DataW Value × List MemPlace) := some (.held v, [])
def keyZ (x : ZB) : Lit := .string x.1.data.toList
theorem law9 : Maps.Keyed Try.prog 9 := Maps.string_keyed Try.underlying9
theorem keyZ_of (x : ZB) (h : x.1.size ≤ maxLen) : keyOf Try.prog 9 (.string x.1) = some (keyZ x) := WideMaps.keyOf_string_mk Try.underlying9 h
theorem info65 : (Try.prog.info? 65).map (fun i => (i.zero, i.size, i.bytes)) = some (some (.agg #[.string ByteArray.empty, .string ByteArray.empty, .string ByteArray.empty, .string ByteArray.empty, .map none, .map none]), 6, 80) := by kernel_rfl
theorem info33 : (Try.prog.info? 33).map (fun i => (i.zero, i.size, i.bytes)) = some (some (.agg #[.string ByteArray.empty, .string ByteArray.empty, .string ByteArray.empty, .string ByteArray.empty]), 4, 64) := by kernel_rfl
/-- a holding's cells -/
def encH (x : ZB) : List Value := [.string x.1, .string x.2.1, .string x.2.2.1, .string x.2.2.2, .map none, .map none]

theorem add_frame {w w1 w2 : World} {A B : Obj} {row : Option Nat} {mb : Nat} (hg : ((w.alloc A).alloc B).drew.grownBy w1 row) (hg2 : w1.grownBy w2 (some mb)) :
    w2.os = w.os ∧ w2.tape = w.tape ∧ w2.output = w.output ∧ w.heap.size ≤ w2.heap.size ∧ ∀ k, k < w.heap.size → k ≠ mb → row ≠ some k → w2.heap[k]? = w.heap[k]? := by
  have s1 := hg.size
  have s2 := hg2.size
  have e : ((w.alloc A).alloc B).drew.heap.size = w.heap.size + 2 := by
    show ((w.alloc A).alloc B).heap.size = _
    simp
  rw [e] at s1
  refine ⟨hg2.os.trans hg.os, hg2.tape.trans hg.tape, hg2.output.trans hg.output, by omega, fun k hk hm hr => ?_⟩
  rw [hg2.block k (by omega) (fun h => hm (by simpa using h)), hg.block k (by omega) (fun h => hr h.symm)]
  show ((w.alloc A).alloc B).heap[k]? = _
  rw [Below.heap_alloc _ _ _ (by simp; omega), Below.heap_alloc _ _ _ hk]

set_option maxRecDepth 100000 in
set_option maxHeartbeats 3200000 in
/-- 'e.holdings[b.Principal] = append(e.holdings[b.Principal], holding{binding: b})' -/
theorem addHolding_any (eb mb base : Nat) (x : ZB) (n m : Nat) (D : DataW Value) (v : Value) (xs : List Value) (w : World) (hx : okZ x)
    (hc : w.cell? ⟨eb, 7, none⟩ = some (.map (some mb))) (hown : w.ownsMap Try.prog 9 RV mb n D) (hn : n < maxLen)
    (hat : D.atKey (keyZ x) (.held (.slice none 0 0)) = .held v) (hrow : w.ownsRow base 65 6 v m xs) (hbase : base ≤ w.heap.size) (hm : m + 1 ≤ 8192)
    (hne1 : v.ownBlock ≠ some eb) (hne2 : v.ownBlock ≠ some mb) (hne3 : eb ≠ mb) :
    Calls Try.prog 15 #[.pointer (some ⟨eb, 0, none⟩), aggZ x] w fun e w' => e = .returned (.tuple #[]) ∧ ∃ g cap, 
      w'.ownsMap Try.prog 9 RV mb (n + 1) (D.put (keyZ x) (.held (.slice (some ⟨g, 0, none⟩) (m + 1) cap))) ∧
      w'.ownsRow base 65 6 (.slice (some ⟨g, 0, none⟩) (m + 1) cap) (m + 1) (xs ++ encH x) ∧ (v.ownBlock = some g ∨ w.heap.size < g) ∧ g < w'.heap.size ∧
      w'.os = w.os ∧ w'.tape = w.tape ∧ w'.output = w.output ∧ w.heap.size ≤ w'.heap.size ∧ ∀ k, k < w.heap.size → k ≠ mb → v.ownBlock ≠ some k → w'.heap[k]? = w.heap[k]? := by
  obtain ⟨i0, hi0, hz0, hz1, hz2⟩ := info_parts info65
  have le := World.block_lt_of_cell? w _ hc
  have lm := hown.lt
  have hlook : ∀ W : World, W.ownsMap Try.prog 9 RV mb n D → (Instr.lookup 55 (.map (some mb)) (.string x.1) false).run Try.prog W = .ok v W := fun W hW => by
    obtain ⟨u, ps, hrun, hu⟩ := hW.lookup law9 Try.underlying55 (Try.zeroValue59 W) (show RV (.slice none 0 0) = some (.held (.slice none 0 0), []) from rfl) (keyZ_of x hx.1)
    rw [hat] at hu
    simp [RV] at hu
    rw [hu.1] at hrun
    exact hrun
  have HL := hide hlook
  have HX := hide hx
  obtain ⟨p, r, pm, s⟩ := x
  clear hlook hx
  simp only [aggZ]
  have hbox : (w.alloc (.cells #[.string p, .string r, .string pm, .string s] 33)).ownsMap Try.prog 9 RV mb n D := hown.alloc _
  have hc' : (w.alloc (.cells #[.string p, .string r, .string pm, .string s] 33)).cell? ⟨eb, 7, none⟩ = some (.map (some mb)) := cell_alloc hc
  have HNB := hide (show (((w.alloc (.cells #[.string p, .string r, .string pm, .string s] 33)).alloc (.cells #[.string p, .string r, .string pm, .string s, .map none, .map none] 65)).drew).heap[w.heap.size + 1]? = some (.cells #[.string p, .string r, .string pm, .string s, .map none, .map none] 65 (0, 0)) by
    have := heap_new (w.alloc (.cells #[.string p, .string r, .string pm, .string s] 33)) (.cells #[.string p, .string r, .string pm, .string s, .map none, .map none] 65)
    rw [show ∀ W : World, W.drew.heap = W.heap from fun _ => rfl]
    rw [show (w.alloc (.cells #[.string p, .string r, .string pm, .string s] 33)).heap.size = w.heap.size + 1 by simp] at this
    exact this)
  have hne4 : some w.heap.size ≠ v.ownBlock := fun e => by
    have := (hrow.lt _ e.symm).2
    omega
  have hne5 : some eb ≠ some mb := fun e => hne3 (by simpa using e)
  have hne6 : some w.heap.size ≠ some mb := fun e => by simp at e; omega
  have hl1 := HL.out _ hbox.drew
  have hl2 := HL.out _ (hbox.alloc (.cells #[.string p, .string r, .string pm, .string s, .map none, .map none] 65)).drew
  simp only at hl1 hl2
  go_enter Try.func15, Try.ntmps15
  go_wp2_with fail
  go_region_held3 (fun w' => w'.cell? ⟨eb, 7, none⟩ = some (.map (some mb)) ∧ w'.cell? ⟨w.heap.size, 0, none⟩ = some (.string p) ∧ w'.cell? ⟨w.heap.size, 1, none⟩ = some (.string r) ∧ w'.cell? ⟨w.heap.size, 2, none⟩ = some (.string pm) ∧ w'.cell? ⟨w.heap.size, 3, none⟩ = some (.string s))
    (first
      | (go_split_ands
         refine ⟨?_, ?_, ?_, ?_, ?_⟩
         · (rw [hgrow2.cell_far _ (by have := hgrow.size; simp at this; show eb < _; omega) hne5]; assumption)
         · (rw [hgrow2.cell_far _ (by have := hgrow.size; simp at this; show w.heap.size < _; omega) hne6]; assumption)
         · (rw [hgrow2.cell_far _ (by have := hgrow.size; simp at this; show w.heap.size < _; omega) hne6]; assumption)
         · (rw [hgrow2.cell_far _ (by have := hgrow.size; simp at this; show w.heap.size < _; omega) hne6]; assumption)
         · (rw [hgrow2.cell_far _ (by have := hgrow.size; simp at this; show w.heap.size < _; omega) hne6]; assumption))
      | (go_split_ands
         refine ⟨?_, ?_, ?_, ?_, ?_⟩
         · (rw [hgrow.cell_far _ (by simp; omega) (Ne.symm hne1)]; assumption)
         · (rw [hgrow.cell_far _ (by simp; omega) hne4]; assumption)
         · (rw [hgrow.cell_far _ (by simp; omega) hne4]; assumption)
         · (rw [hgrow.cell_far _ (by simp; omega) hne4]; assumption)
         · (rw [hgrow.cell_far _ (by simp; omega) hne4]; assumption))
      | go_keep)
    ((refine step_append_lies _ (by rfl) _ _ _ (by rfl) base 65 i0 _ 6 80 Try.underlying59 hi0 hz0 hz1 hz2 rfl (by omega) v m xs (by rfl) (((hrow.alloc _).alloc _).drew)
        ⟨w.heap.size + 1, 0, none⟩ 1 1 (encH (p, r, pm, s)) (by rfl) (by rfl) (World.news_of_block (cs := #[.string p, .string r, .string pm, .string s, .map none, .map none]) (t := 65) (fr := (0, 0)) HNB.out) (by simp [encH, Value.oneCell'])
        (by omega) (by unfold maxLen; omega) (by omega) (by simp; omega) (w.heap.size + 2) (by simp) ?_; intro g cap w1 hown1 hgrow hat1 hlt1; have hM1 : w1.ownsMap Try.prog 9 RV mb n D := (hbox.alloc _).drew.kept hgrow (Ne.symm hne2); obtain ⟨w2, hrun2, hown2, hgrow2⟩ := hM1.update law9 Try.underlying55 hn (keyZ_of (p, r, pm, s) HX.out.1) (show RV (.slice (some ⟨g, 0, none⟩) (m + 1) cap) = some (.held (.slice (some ⟨g, 0, none⟩) (m + 1) cap), []) from rfl)))
  all_goals
    go_end0
    refine ⟨rfl, g, cap, hown2, hown1.kept hgrow2 (.inr ?_), ?_, ?_, ?_⟩
    · show some g ≠ some mb
      rcases hat1 with h | h
      · rw [← h]; exact hne2
      · intro e; simp at e; omega
    · rcases hat1 with h | h
      · exact .inl h
      · exact .inr (by omega)
    · have := hgrow2.size; omega
    · exact add_frame hgrow hgrow2
end Go.Proofs.Qxb6627916a
