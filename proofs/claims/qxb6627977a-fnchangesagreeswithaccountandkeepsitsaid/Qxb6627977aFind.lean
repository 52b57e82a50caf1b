import Derived.Test.Qxb6627977aKeys
import Derived.Laws.ResultCell
namespace Go.Proofs.Qxb6627977a
open Go.RowKit Go.Sort

theorem Gr.of_heap {w v : World} (h : Gr w v) (H : Array Obj) (hs : w.heap.size ≤ H.size) (hb : ∀ k, k < w.heap.size → H[k]? = w.heap[k]?) : Gr w { v with heap := H } := by
  obtain ⟨q, os, rfl⟩ := h
  refine ⟨q, H.extract w.heap.size H.size, ?_⟩
  have e : H = w.heap ++ H.extract w.heap.size H.size := by
    apply Array.ext_getElem?
    intro i
    by_cases hi : i < w.heap.size
    · rw [Array.getElem?_append_left hi, hb i hi]
    · rw [Array.getElem?_append_right (by omega), Array.getElem?_extract]
      by_cases hj : i < H.size
      · rw [if_pos (by omega), show w.heap.size + (i - w.heap.size) = i by omega]
      · rw [if_neg (by omega), Array.getElem?_eq_none (by omega)]
  show ({ grow (w.drewN q) os with heap := H } : World) = { w.drewN q with heap := w.heap ++ H.extract w.heap.size H.size }
  rw [← e]
  rfl
theorem Gr.size {w v : World} (h : Gr w v) : w.heap.size ≤ v.heap.size := h.below.size
theorem Gr.setRow {w v : World} (h : Gr w v) {g : Nat} (hg : w.heap.size ≤ g) (cs : Array Value) : Gr w (v.setRow g cs) := by
  refine h.of_heap _ (by rw [Array.size_modify]; exact h.size) fun k hk => ?_
  rw [Array.getElem?_modify, if_neg (by omega), h.below.block k hk]

/-- a slice of records, as the walks read it -/
def RowA (w : World) (g o : Nat) (l : List AR) : Prop := ∀ i (h : i < l.length), w.rangeAt g (o + i * 35) (rc (l[i]'h))
def SlA (w : World) (ad : Option Addr) (l : List AR) : Prop := 0 < l.length → ∃ g o, ad = some ⟨g, o, none⟩ ∧ g < w.heap.size ∧ RowA w g o l
def KOk (l : List AR) : Prop := ∀ x ∈ l, x.1.length = 32
theorem rangeAt_below {B : Nat} {w w' : World} {g o : Nat} {cs : List Value} (h : w.rangeAt g o cs) (hb : Below B w w') (hg : g < B) : w'.rangeAt g o cs := fun j v hv => (hb.cell (p := ⟨g, o + j, none⟩) hg).trans (h j v hv)
theorem SlA.below {B : Nat} {w w' : World} {ad : Option Addr} {l : List AR} (h : SlA w ad l) (hb : Below B w w') (hB : w.heap.size ≤ B) : SlA w' ad l := fun h0 => by
  obtain ⟨g, o, h1, h2, h3⟩ := h h0
  exact ⟨g, o, h1, Nat.lt_of_lt_of_le h2 hb.size, fun i hi => rangeAt_below (h3 i hi) hb (by omega)⟩
theorem rc_key {w : World} {g o : Nat} {x : AR} (h : w.rangeAt g o (rc x)) : w.rangeAt g o (kc x.1) := fun j v hv => h j v (by
  unfold rc
  rw [List.getElem?_append_left (List.getElem?_eq_some_iff.1 hv).1]
  exact hv)
theorem kc_length (k : Key) : (kc k).length = k.length := by simp [kc]
theorem rc_length {x : AR} (h : x.1.length = 32) : (rc x).length = 35 := by simp [rc, kc, acc, h]
theorem load31 {W : World} {g o : Nat} {k : Key} (hk : k.length = 32) (h : W.rangeAt g o (kc k)) : (Instr.loadAt 31 (.pointer (some ⟨g, o, none⟩))).run Try.prog W = .ok (.agg (keyA k)) W :=
  run_loadAt_mid W g o 31 (kc k) (.array 32 5) h Try.underlying31 rfl (by rw [kc_length, hk]; kernel_rfl)
theorem var31 {W : World} {g o : Nat} {k : Key} (hk : k.length = 32) (h : W.rangeAt g o (kc k)) : (loadVar 31 ⟨g, o, none⟩).run Try.prog W = .ok (.agg (keyA k)) W :=
  run_loadVar_mid W g o 31 (kc k) (.array 32 5) h Try.underlying31 rfl (by rw [kc_length, hk]; kernel_rfl)
theorem cells31 {W : World} {g o : Nat} {k : Key} (hk : k.length = 32) (h : W.rangeAt g o (kc k)) : (loadCellsFrom ⟨g, o, none⟩ 0 32 #[]).run Try.prog W = .ok (keyA k) W := by
  have := run_loadCells_list (P := Try.prog) W ⟨g, o, none⟩ (kc k) (fun j v hv => by rw [Addr.add_mid]; exact h j v hv)
  rw [kc_length, hk] at this
  exact this
theorem under39 : ∃ fs, Try.prog.underlying 39 = some (.struct fs) := ⟨_, Try.underlying39⟩
theorem load39 {W : World} {g o : Nat} {x : AR} (hk : x.1.length = 32) (h : W.rangeAt g o (rc x)) : (Instr.loadAt 39 (.pointer (some ⟨g, o, none⟩))).run Try.prog W = .ok (.agg (recA x)) W :=
  run_loadAt_mid W g o 39 (rc x) _ h Try.underlying39 rfl (by rw [rc_length hk]; kernel_rfl)

def zeroR : AR := (List.replicate 32 0, zeroAc)
theorem recA_zero : (#[Value.int .u8 0, Value.int .u8 0, Value.int .u8 0, Value.int .u8 0, Value.int .u8 0, Value.int .u8 0, Value.int .u8 0, Value.int .u8 0, Value.int .u8 0, Value.int .u8 0, Value.int .u8 0, Value.int .u8 0, Value.int .u8 0, Value.int .u8 0, Value.int .u8 0, Value.int .u8 0, Value.int .u8 0, Value.int .u8 0, Value.int .u8 0, Value.int .u8 0, Value.int .u8 0, Value.int .u8 0, Value.int .u8 0, Value.int .u8 0, Value.int .u8 0, Value.int .u8 0, Value.int .u8 0, Value.int .u8 0, Value.int .u8 0, Value.int .u8 0, Value.int .u8 0, Value.int .u8 0, Value.int .u64 0, Value.int .u64 0, Value.int .u64 0] : Array Value) = recA zeroR := by kernel_rfl
theorem recA_zero_agg : Value.agg #[Value.int .u8 0, Value.int .u8 0, Value.int .u8 0, Value.int .u8 0, Value.int .u8 0, Value.int .u8 0, Value.int .u8 0, Value.int .u8 0, Value.int .u8 0, Value.int .u8 0, Value.int .u8 0, Value.int .u8 0, Value.int .u8 0, Value.int .u8 0, Value.int .u8 0, Value.int .u8 0, Value.int .u8 0, Value.int .u8 0, Value.int .u8 0, Value.int .u8 0, Value.int .u8 0, Value.int .u8 0, Value.int .u8 0, Value.int .u8 0, Value.int .u8 0, Value.int .u8 0, Value.int .u8 0, Value.int .u8 0, Value.int .u8 0, Value.int .u8 0, Value.int .u8 0, Value.int .u8 0, Value.int .u64 0, Value.int .u64 0, Value.int .u64 0] = .agg (recA zeroR) := by rw [recA_zero]
def tup (r : Option AR) : Value := match r with | some x => .tuple #[.agg (recA x), .bool true] | none => .tuple #[.agg (recA zeroR), .bool false]
theorem tup_some (x : AR) : tup (some x) = .tuple #[.agg (recA x), .bool true] := rfl
theorem tup_none : tup none = .tuple #[.agg (recA zeroR), .bool false] := rfl
theorem range_new (w : World) (cs : List Value) (T : TypeId) : (w.alloc (.cells cs.toArray T)).rangeAt w.heap.size 0 cs := fun j v hv => by
  rw [cell_new, Nat.zero_add]
  simpa using hv
theorem range_alloc {w : World} {g o : Nat} {cs : List Value} (h : w.rangeAt g o cs) (ob : Obj) : (w.alloc ob).rangeAt g o cs := fun j v hv => cell_alloc (h j v hv) ob
/-- the whole block of a record is written -/
theorem store39 {W : World} {g : Nat} {c : Array Value} {x : AR} (hx : x.1.length = 32) (hg : W.heap[g]? = some (.cells c 39 (0, 0))) (hc : c.size = 35) :
    (Instr.storeAt 39 (.pointer (some ⟨g, 0, none⟩)) (.agg (recA x))).run Try.prog W = .ok () (W.setRow g (recA x)) := by
  have hs : (recA x).size = 35 := by unfold recA; rw [List.size_toArray, rc_length hx]
  simp only [Instr.storeAt, Instr.sureAddr, Sem.run_bind, Sem.run_pure, Result.andThen]
  exact run_storeVar_row W g 39 39 c (recA x) hg (by rw [hs]; kernel_rfl) (by rw [hs, hc]) (by
    simp only [recA, rc, kc, acc, List.all_toArray, List.all_append, List.all_map, List.all_cons, List.all_nil]
    simp [byteV, Value.oneCell'])

section
variable {P : Program}
/-- a load of many cells, at a step of a quiet walk -/
theorem quiet_load_mid {ops : Array Oper} {C : World → Prop} {Q : Act → Prop} {rest : List Oper} {op : Oper} {a : Act} (hw : Region.wanted op (yielded ops a.tmps) = true) (ty : TypeId) (x : Operand) (ho : op.op = .load ty x)
    (b o : Nat) (hx : a.eval x = .pointer (some ⟨b, o, none⟩)) (cs : List Value) (d : TypeDesc) (hC : ∀ w, C w → w.rangeAt b o cs)
    (hu : P.underlying ty = some d) (hd : d.isRow = true) (hi : (P.info? ty).map (·.size) = some cs.length)
    (h : wpQuiet P ops C Q rest (a.put op.dst (.agg cs.toArray))) : wpQuiet P ops C Q (op :: rest) a := by
  unfold wpQuiet
  rw [if_pos hw]
  refine ⟨.agg cs.toArray, fun w hw' => ?_, h⟩
  unfold Oper.quietAt execOp
  simp only [ho, hx, Instr.loadAt, Instr.sureAddr, Sem.run_bind, Sem.run_pure, Result.andThen_ok, run_loadVar_mid w b o ty cs d (hC w hw') hu hd hi]
  exact ⟨rfl, rfl⟩
theorem results_cell_tmp_row {fn : Func} {p u : Tmp} {ty : TypeId} (h : fn.results = #[.cell p ty, .tmp u]) (tmps : Array Value) (w : World) (g : Nat) (t : TypeId) (cs : Array Value) (fr : Nat × Nat) (d : TypeDesc)
    (hp : tmps.getD p undef = .pointer (some ⟨g, 0, none⟩)) (hg : w.heap[g]? = some (.cells cs t fr))
    (hu : P.underlying ty = some d) (hd : (match d with | .struct _ | .array _ _ => true | _ => false) = true) (hi : (P.info? ty).map (·.size) = some cs.size) :
    (results fn tmps).run P w = .ok (.tuple #[.agg cs, tmps.getD u undef]) w := by
  rw [results_cell_tmp h, hp]
  simp only [asAddr, Sem.run_pure, Result.andThen_ok, run_loadVar_row w g t ty cs fr d hg hu hd hi]
end
theorem size_recA {x : AR} (h : x.1.length = 32) : (recA x).size = 35 := by unfold recA; rw [List.size_toArray, rc_length h]
theorem one_recA (x : AR) : (recA x).all (·.oneCell') = true := by
  simp only [recA, rc, kc, acc, List.all_toArray, List.all_append, List.all_map, List.all_cons, List.all_nil]
  simp [byteV, Value.oneCell']
theorem info39 : (Try.prog.info? 39).map (·.size) = some 35 := by kernel_rfl
theorem info31 : (Try.prog.info? 31).map (·.size) = some 32 := by kernel_rfl

/-- what stands in the rounds of a search -/
def Cx (w wr : World) (g1 : Nat) (ad : Option Addr) (l : List AR) (k : Key) : Prop := g1 = w.heap.size ∧ Gr w wr ∧ wr.rangeAt g1 0 (kc k) ∧ SlA wr ad l ∧ wr.heap[g1 + 1]? = some (.cells (recA zeroR) 39 (0, 0))
theorem Cx.drewN {w wr : World} {g1 : Nat} {ad : Option Addr} {l : List AR} {k : Key} (h : Cx w wr g1 ad l k) (m : Nat) : Cx w (wr.drewN m) g1 ad l k := ⟨h.1, h.2.1.drewN m, h.2.2.1, h.2.2.2.1, h.2.2.2.2⟩

set_option maxHeartbeats 1000000 in
set_option maxRecDepth 100000 in
theorem overFind_any (ad : Option Addr) (l : List AR) (cap : Nat) (k : Key) (w : World) (hk : k.length = 32) (hl : KOk l) (hs : SlA w ad l) (hn : l.length ≤ 1048576) :
    Calls Try.prog 18 #[.slice ad l.length cap, .agg (keyA k)] w fun e w' => e = .returned (tup (find l k)) ∧ ∃ q os, w' = grow (w.drewN q) os := by
  obtain ⟨A, hA⟩ : ∃ A, A = keyA k := ⟨_, rfl⟩
  obtain ⟨n, hnl⟩ : ∃ n, n = l.length := ⟨_, rfl⟩
  obtain ⟨T, hT⟩ : ∃ T, T = tup (find l k) := ⟨_, rfl⟩
  rw [← hA, ← hnl, ← hT]
  rw [← hnl] at hn
  have HA := hide hA
  have HN := hide hnl
  have HT := hide hT
  have HS := hide hs
  have HL := hide hl
  have HK := hide hk
  clear hA hnl hs hl hk hT
  go_enter Try.func18, Try.ntmps18
  go_wp2_with fail
  rw [recA_zero]
  obtain ⟨W, hW⟩ : ∃ W, W = (w.alloc (.cells A 31)).alloc (.cells (recA zeroR) 39) := ⟨_, rfl⟩
  rw [← hW]
  obtain ⟨g1, hg1⟩ : ∃ g1, g1 = w.heap.size := ⟨_, rfl⟩
  rw [← hg1]
  have hcx : Hid (Cx w W g1 ad l k) := by
    show Cx w W g1 ad l k
    have hgr : Gr w W := by rw [hW]; exact ((Gr.refl w).alloc _).alloc _
    refine ⟨hg1, hgr, ?_, HS.out.below hgr.below (Nat.le_refl _), ?_⟩
    · rw [hW, HA.out, hg1]
      exact range_alloc (range_new w (kc k) 31) _
    · have := heap_alloc_last (w.alloc (.cells A 31)) (.cells (recA zeroR) 39)
      rw [show (w.alloc (.cells A 31)).heap.size = w.heap.size + 1 by simp] at this
      rw [hW, hg1, this]
  clear hW hg1
  go_loopw [6] (fun vi wr => ∃ i : Nat, i ≤ n ∧ vi = .int .i64 i ∧ Hid (∀ j (hj : j < l.length), j < i → (l[j]'hj).1 ≠ k) ∧ Hid (Cx w wr g1 ad l k)) (fun vi _ => n - (intOf vi).toNat)
  case atStart => exact ⟨0, Nat.zero_le _, rfl, fun j _ h => absurd h (Nat.not_lt_zero _), hcx.out⟩
  case round =>
    clear hcx
    obtain ⟨i, hi, rfl, htk, hcx⟩ := hrel
    by_cases hin : i < n
    · have hil : i < l.length := by rw [← HN.out]; exact hin
      obtain ⟨g, o, had, hgs, hrow⟩ := hcx.out.2.2.2.1 (by omega)
      subst had
      have hxk : Hid ((l[i]'hil).1.length = 32) := HL.out _ (List.getElem_mem hil)
      have hr1 : Hid (∀ m, (wr.drewN m).rangeAt g (o + i * 35) (rc (l[i]'hil))) := fun m => hrow i hil
      have hr0 : Hid (∀ m, (wr.drewN m).rangeAt g1 0 (kc k)) := fun m => hcx.out.2.2.1
      have heq : ∀ W', (Op.equalIn 10000 31 (.agg (kc (l[i]'hil).1).toArray) (.agg (kc k).toArray)).run Try.prog W' = .ok (decide ((l[i]'hil).1 = k)) W' := fun W' => run_keyEq _ _ hxk.out HK.out W'
      clear hrow
      by_cases hkk : (l[i]'hil).1 = k
      · rw [decide_eq_true hkk] at heq
        have hTT : Hid (T = .tuple #[.agg (recA (l[i]'hil)), .bool true]) := by
          show T = _
          rw [HT.out, ← tup_some]
          congr 1
          unfold find
          rw [List.find?_eq_some_iff_getElem]
          exact ⟨by simp [hkk], i, hil, rfl, fun j hj => by simpa using htk.out j (by omega) hj⟩
        clear hkk
        go_wp2_with fail
        refine wp_region_quiet_lit (by kernel_rfl) (by kernel_rfl) ?_
        repeat (first
          | (refine quiet_load_mid (by rfl) 31 _ rfl g (o + i * 35) rfl (kc (l[i]'hil).1) (.array 32 5) (by rintro _ ⟨m, rfl⟩; exact rc_key (hr1.out m)) Try.underlying31 rfl (by rw [kc_length, hxk.out]; exact info31) ?_)
          | (refine quiet_load_mid (by rfl) 31 _ rfl g1 0 rfl (kc k) (.array 32 5) (by rintro _ ⟨m, rfl⟩; exact hr0.out m) Try.underlying31 rfl (by rw [kc_length, HK.out]; exact info31) ?_)
          | quiet_step (fail))
        refine wpQuiet_nil ?_
        intro _ hw'
        obtain ⟨nq, hw''⟩ := hw'
        subst hw''
        go_wp2_with (first
          | (refine wpList_load_mid rfl 39 (.tmp 22) rfl g (o + i * 35) rfl (rc (l[i]'hil)) _ (hr1.out nq) Try.underlying39 rfl (by rw [rc_length hxk.out]; exact info39) ?_)
          | (refine wpList_store_row rfl 39 (.tmp 4) (.tmp 23) rfl (g1 + 1) (recA (l[i]'hil)) rfl rfl 39 (recA zeroR) hcx.out.2.2.2.2 (by rw [size_recA hxk.out]; exact info39) (by rw [size_recA hxk.out]; kernel_rfl) (one_recA _) ?_))
        (try simp only [Exit.inBlock, Exit.then])
        refine bodyPost_ret (results_cell_tmp_row rfl _ _ (g1 + 1) 39 (recA (l[i]'hil)) (0, 0) _ rfl (setRow_heap (wr.drewN nq) _ _ _ _ _ hcx.out.2.2.2.2) Try.underlying39 rfl (by rw [size_recA hxk.out]; exact info39)) rfl ?_
        exact ⟨by rw [hTT.out]; rfl, (hcx.out.2.1.drewN nq).setRow (by rw [hcx.out.1]; omega) _⟩
      · rw [decide_eq_false hkk] at heq
        have HKK := hide hkk
        clear hkk
        go_wp2_with fail
        refine wp_region_quiet_lit (by kernel_rfl) (by kernel_rfl) ?_
        repeat (first
          | (refine quiet_load_mid (by rfl) 31 _ rfl g (o + i * 35) rfl (kc (l[i]'hil).1) (.array 32 5) (by rintro _ ⟨m, rfl⟩; exact rc_key (hr1.out m)) Try.underlying31 rfl (by rw [kc_length, hxk.out]; exact info31) ?_)
          | (refine quiet_load_mid (by rfl) 31 _ rfl g1 0 rfl (kc k) (.array 32 5) (by rintro _ ⟨m, rfl⟩; exact hr0.out m) Try.underlying31 rfl (by rw [kc_length, HK.out]; exact info31) ?_)
          | quiet_step (fail))
        refine wpQuiet_nil ?_
        intro _ hw'
        obtain ⟨nq, hw''⟩ := hw'
        subst hw''
        go_wp2_with fail
        exact ⟨⟨i + 1, by omega, by go_num, fun j hj h => if e : j < i then htk.out j hj e else by
          have : j = i := by omega
          subst this
          exact HKK.out, hcx.out.drewN _⟩, by simp [intOf]; omega⟩
    · have hTT : Hid (T = .tuple #[.agg (recA zeroR), .bool false]) := by
        show T = _
        rw [HT.out, ← tup_none]
        congr 1
        exact find_none fun j hj => htk.out j hj (by have := HN.out; omega)
      clear htk
      go_wp2_with (first
        | (refine wpList_store_row rfl 39 (.tmp 4) (.tmp 24) rfl (g1 + 1) (recA zeroR) rfl recA_zero_agg 39 (recA zeroR) hcx.out.2.2.2.2 (by exact info39) rfl (one_recA _) ?_))
      (try simp only [Exit.inBlock, Exit.then])
      refine bodyPost_ret (results_cell_tmp_row rfl _ _ (g1 + 1) 39 (recA zeroR) (0, 0) _ rfl (setRow_heap wr _ _ _ _ _ hcx.out.2.2.2.2) Try.underlying39 rfl (by exact info39)) rfl ?_
      exact ⟨by rw [hTT.out]; rfl, hcx.out.2.1.setRow (by rw [hcx.out.1]; omega) _⟩
end Go.Proofs.Qxb6627977a
