import Derived.Test.Qxb6627916aSize
import Derived.Test.Qxb6627916aLeaf2
import Derived.Laws.CopyRow
namespace Go.Proofs.Qxb6627916a
open Go.RowKit Go.Sort

def enc4 (x : ZB) : List Value := [.string x.1, .string x.2.1, .string x.2.2.1, .string x.2.2.2]
def flatZ (l : List ZB) : List Value := l.flatMap enc4
theorem flatZ_cons (x : ZB) (l : List ZB) : flatZ (x :: l) = enc4 x ++ flatZ l := rfl
theorem flatZ_append (l m : List ZB) : flatZ (l ++ m) = flatZ l ++ flatZ m := by simp [flatZ]
theorem enc4_length (x : ZB) : (enc4 x).length = 4 := rfl
theorem flatZ_length : ∀ l : List ZB, (flatZ l).length = l.length * 4
  | [] => rfl
  | x :: l => by rw [flatZ_cons, List.length_append, flatZ_length l, enc4_length, List.length_cons]; omega
theorem flatZ_one : ∀ (l : List ZB), ∀ v ∈ flatZ l, v.oneCell' = true := by
  intro l v hv
  simp only [flatZ, List.mem_flatMap] at hv
  obtain ⟨x, _, hx⟩ := hv
  simp only [enc4, List.mem_cons, List.not_mem_nil, or_false] at hx
  rcases hx with rfl | rfl | rfl | rfl <;> rfl
theorem flatZ_get : ∀ (l : List ZB) (i c : Nat) (hi : i < l.length) (_hc : c < 4), (flatZ l)[i * 4 + c]? = (enc4 l[i])[c]?
  | [], i, c, hi, _ => by simp at hi
  | x :: l, 0, c, _, hc => by
    rw [flatZ_cons, List.getElem?_append_left (by rw [enc4_length]; omega)]
    simp
  | x :: l, i + 1, c, hi, hc => by
    rw [flatZ_cons, List.getElem?_append_right (by rw [enc4_length]; omega), enc4_length, show (i + 1) * 4 + c - 4 = i * 4 + c by omega]
    simpa using flatZ_get l i c (by simpa using hi) hc
theorem set4 {a b c d : Value} (L : List Value) (n : Nat) (v : Value) : (a :: b :: c :: d :: L).set (n + 4) v = a :: b :: c :: d :: L.set n v := rfl
theorem flatZ_set : ∀ (l : List ZB) (i : Nat) (x : ZB), i < l.length →
    flatZ (l.set i x) = ((((flatZ l).set (i * 4) (.string x.1)).set (i * 4 + 1) (.string x.2.1)).set (i * 4 + 2) (.string x.2.2.1)).set (i * 4 + 3) (.string x.2.2.2)
  | [], i, x, hi => by simp at hi
  | y :: l, 0, x, _ => by simp [flatZ_cons, enc4]
  | y :: l, i + 1, x, hi => by
    have ih := flatZ_set l i x (by simpa using hi)
    rw [List.set_cons_succ, flatZ_cons, ih, flatZ_cons]
    rw [show (i + 1) * 4 = i * 4 + 4 by omega, show i * 4 + 4 + 1 = (i * 4 + 1) + 4 by omega, show i * 4 + 4 + 2 = (i * 4 + 2) + 4 by omega, show i * 4 + 4 + 3 = (i * 4 + 3) + 4 by omega]
    simp only [enc4, List.cons_append, List.nil_append, set4]

/-- block g is the row l, no more -/
def RowIs (w : World) (g : Nat) (T : TypeId) (l : List ZB) : Prop := w.heap[g]? = some (.cells (flatZ l).toArray T (0, 0))
theorem RowIs.rowZ {w : World} {g : Nat} {T : TypeId} {l : List ZB} (h : RowIs w g T l) : RowZ w g 0 l := fun i hi => by
  unfold RowIs at h
  refine ⟨?_, ?_, ?_, ?_⟩ <;> simp only [World.cell?, h, Nat.zero_add, Option.isSome_none, Bool.false_eq_true, if_false, List.getElem?_toArray]
  · exact flatZ_get l i 0 hi (by omega)
  · exact flatZ_get l i 1 hi (by omega)
  · exact flatZ_get l i 2 hi (by omega)
  · exact flatZ_get l i 3 hi (by omega)
theorem RowIs.frozen {w : World} {g : Nat} {T : TypeId} {l : List ZB} (h : RowIs w g T l) (o : Nat) : w.frozen? ⟨g, o, none⟩ = false := by
  unfold RowIs at h
  simp [World.frozen?, h]
theorem RowIs.lt {w : World} {g : Nat} {T : TypeId} {l : List ZB} (h : RowIs w g T l) : g < w.heap.size := (Array.getElem?_eq_some_iff.1 h).1
theorem RowIs.below {B : Nat} {w w' : World} {g : Nat} {T : TypeId} {l : List ZB} (h : RowIs w g T l) (hb : Below B w w') (hg : g < B) : RowIs w' g T l := (hb.block g hg).trans h
theorem cells_set {w : World} {g : Nat} {cur : Array Value} {T : TypeId} (h : w.heap[g]? = some (.cells cur T (0, 0))) (o : Nat) (v : Value) : (w.setCell ⟨g, o, none⟩ v).heap[g]? = some (.cells (cur.setIfInBounds o v) T (0, 0)) := by
  rw [setCell_eq_setRow w g o cur T (0, 0) v h]
  exact setRow_heap w g cur _ T _ h
/-- element i written -/
theorem RowIs.set {w : World} {g : Nat} {T : TypeId} {l : List ZB} (h : RowIs w g T l) {i : Nat} (hi : i < l.length) (x : ZB) :
    RowIs ((((w.setCell ⟨g, 0 + i * 4, none⟩ (.string x.1)).setCell ⟨g, 0 + i * 4 + 1, none⟩ (.string x.2.1)).setCell ⟨g, 0 + i * 4 + 2, none⟩ (.string x.2.2.1)).setCell ⟨g, 0 + i * 4 + 3, none⟩ (.string x.2.2.2)) g T (l.set i x) := by
  unfold RowIs at *
  have e := flatZ_set l i x hi
  have := cells_set (cells_set (cells_set (cells_set h (0 + i * 4) (.string x.1)) (0 + i * 4 + 1) (.string x.2.1)) (0 + i * 4 + 2) (.string x.2.2.1)) (0 + i * 4 + 3) (.string x.2.2.2)
  rw [this, e]
  simp [Nat.zero_add]

section
variable {P : Program}
theorem run_copy_k (w : World) (k : Nat) (dT sT ty elem : TypeId) (g o dLen dCap : Nat) (a : Addr) (sLen sCap : Nat) (cur : Array Value) (t : TypeId) (cs : List Value)
    (hu : P.underlying dT = some (.slice elem)) (hs : (P.info? elem).map (·.size) = some k)
    (hg : w.heap[g]? = some (.cells cur t (0, 0))) (hn : cs.length = Nat.min sLen dLen * k)
    (hsrc : ∀ j v, cs[j]? = some v → w.cell? (a.add j) = some v) (hfit : o + cs.length ≤ cur.size) (h1 : ∀ v ∈ cs, v.oneCell' = true) :
    (Builtin.copy_ #[dT, sT] ty #[.slice (some ⟨g, o, none⟩) dLen dCap, .slice (some a) sLen sCap]).run P w =
      .ok (goInt (Nat.min sLen dLen)) (w.setRow g (cur.toList.take o ++ cs ++ cur.toList.drop (o + cs.length)).toArray) := by
  have hl := run_loadCells_list (P := P) w a cs hsrc
  have hst := run_storeCells_at P g o t cs 0 cur w hg (by simpa using hfit) h1
  cases hq : P.info? elem with
  | none => simp [hq] at hs
  | some i =>
    have hi : i.size = k := by simpa [hq] using hs
    simp [Builtin.copy_, run_underlying hu, Builtin.lenOf, Builtin.firstCells, sizeOf, typeInfo, hq, hi, ← hn, hl, hst]

theorem wpList_copy_k {w : World} {ops : Array Oper} {rest : List Oper} {o : Oper} {a : Act} {Q : Exit → Act → World → Prop} (hgd : o.guard = none) (d s : Operand) (dT sT : TypeId)
    (ho : o.op = .call { callee := .builtin .copy, args := #[d, s], argTypes := #[dT, sT] }) (elem : TypeId) (hu : P.underlying dT = some (.slice elem)) (k : Nat) (hsz : (P.info? elem).map (·.size) = some k)
    (g off dLen dCap : Nat) (ad : Addr) (sLen sCap : Nat) (hd : a.eval d = .slice (some ⟨g, off, none⟩) dLen dCap) (hs : a.eval s = .slice (some ad) sLen sCap)
    (cur : Array Value) (t : TypeId) (hg : w.heap[g]? = some (.cells cur t (0, 0))) (cs : List Value) (hn : cs.length = Nat.min sLen dLen * k)
    (hsrc : ∀ j v, cs[j]? = some v → w.cell? (ad.add j) = some v) (hfit : off + cs.length ≤ cur.size) (h1 : ∀ v ∈ cs, v.oneCell' = true)
    (h : wpList P ops Q rest (a.put o.dst (goInt (Nat.min sLen dLen))) (w.setRow g (cur.toList.take off ++ cs ++ cur.toList.drop (off + cs.length)).toArray)) : wpList P ops Q (o :: rest) a w := by
  refine wpList_plain hgd fun K hK => ?_
  have hrun := run_copy_k (P := P) w k dT sT o.type elem g off dLen dCap ad sLen sCap cur t cs hu hsz hg hn hsrc hfit h1
  unfold Oper.wp
  simp only [List.append_assoc] at hrun h
  simp [execOp, ho, resolve, invoke, builtin, hd, hs, hrun, Result.andThen]
  exact hK _ _ h
end

/-- the empty binding -/
def nilZ : ZB := (ByteArray.empty, ByteArray.empty, ByteArray.empty, ByteArray.empty)
theorem made_flat (n : Nat) : madeCells (Value.agg #[.string ByteArray.empty, .string ByteArray.empty, .string ByteArray.empty, .string ByteArray.empty]).cells (n * 4) = (flatZ (List.replicate n nilZ)).toArray := by
  apply Array.ext_getElem?
  intro j
  by_cases hj : j < n * 4
  · have h1 : (flatZ (List.replicate n nilZ))[j]? = (enc4 nilZ)[j % 4]? := by
      have := flatZ_get (List.replicate n nilZ) (j / 4) (j % 4) (by rw [List.length_replicate]; omega) (by omega)
      rw [show j / 4 * 4 + j % 4 = j by omega] at this
      simpa using this
    rw [show (flatZ (List.replicate n nilZ)).toArray[j]? = (flatZ (List.replicate n nilZ))[j]? from List.getElem?_toArray, h1]
    have h4 : j % 4 = 0 ∨ j % 4 = 1 ∨ j % 4 = 2 ∨ j % 4 = 3 := by omega
    simp only [madeCells, Value.cells, Array.getElem?_map, List.size_toArray, List.length_cons, List.length_nil]
    rw [Array.getElem?_range]
    simp only [hj, if_true, Option.map_some]
    rcases h4 with h | h | h | h <;> simp [h, enc4, nilZ]
  · rw [Array.getElem?_eq_none (by rw [size_madeCells]; omega), Array.getElem?_eq_none (by rw [List.size_toArray, flatZ_length, List.length_replicate]; omega)]

theorem info35 : (Try.prog.info? 35).map (·.size) = some 4 := by kernel_rfl
theorem zero35 : (Try.prog.info? 35).map (fun i => (i.zero, i.size, i.bytes)) = some (some (.agg #[.string ByteArray.empty, .string ByteArray.empty, .string ByteArray.empty, .string ByteArray.empty]), 4, 64) := by kernel_rfl
/-- 'make([]ZB, n)' -/
theorem run_make35 (w : World) (n : Nat) (hn : n ≤ 4096) :
    (Instr.makeSlice 22 (.int .i64 n) (.int .i64 n)).run Try.prog w = .ok (.slice (some ⟨w.heap.size, 0, none⟩) n n) (w.alloc (.cells (flatZ (List.replicate n nilZ)).toArray 35)) := by
  have hz := zero35
  cases hi : Try.prog.info? 35 with
  | none => rw [hi] at hz; cases hz
  | some i =>
    rw [hi] at hz
    simp only [Option.map_some, Option.some.injEq, Prod.mk.injEq] at hz
    obtain ⟨h1, h2, h3⟩ := hz
    have := run_make (P := Try.prog) w 22 35 i _ Try.underlying22 hi h1 .i64 .i64 n n (by omega) (by omega) (by rw [h3]; omega) (by omega)
    rw [Int.toNat_natCast, h2, made_flat] at this
    exact this
end Go.Proofs.Qxb6627916a
