import Derived.Test.Qxb6627916aGen
namespace Go.Proofs.Qxb6627916a
open Go.RowKit Go.Sort

theorem rowZ_src {w : World} {b off : Nat} {l : List ZB} (h : RowZ w b off l) : ∀ j v, (flatZ l)[j]? = some v → w.cell? ((⟨b, off, none⟩ : Addr).add j) = some v := by
  intro j v hv
  have hj : j < l.length * 4 := by
    have := (List.getElem?_eq_some_iff.1 hv).1
    rwa [flatZ_length] at this
  have hadd : (⟨b, off, none⟩ : Addr).add j = ⟨b, off + j, none⟩ := by unfold Addr.add; split <;> simp_all
  rw [hadd]
  have hg := flatZ_get l (j / 4) (j % 4) (by omega) (by omega)
  rw [show j / 4 * 4 + j % 4 = j by omega, hv] at hg
  obtain ⟨h0, h1, h2, h3⟩ := h (j / 4) (by omega)
  have h4 : j % 4 = 0 ∨ j % 4 = 1 ∨ j % 4 = 2 ∨ j % 4 = 3 := by omega
  rcases h4 with e | e | e | e
  · rw [e] at hg
    rw [show off + j = off + j / 4 * 4 by omega, h0, hg]; rfl
  · rw [e] at hg
    rw [show off + j = off + j / 4 * 4 + 1 by omega, h1, hg]; rfl
  · rw [e] at hg
    rw [show off + j = off + j / 4 * 4 + 2 by omega, h2, hg]; rfl
  · rw [e] at hg
    rw [show off + j = off + j / 4 * 4 + 3 by omega, h3, hg]; rfl
theorem RowZ.alloc {w : World} {b off : Nat} {l : List ZB} (h : RowZ w b off l) (o : Obj) : RowZ (w.alloc o) b off l := fun i hi => by
  obtain ⟨h0, h1, h2, h3⟩ := h i hi
  exact ⟨cell_alloc h0, cell_alloc h1, cell_alloc h2, cell_alloc h3⟩
theorem setRow_alloc (w : World) (c c' : Array Value) (T : TypeId) : (w.alloc (.cells c T)).setRow w.heap.size c' = w.alloc (.cells c' T) := by
  simp only [World.setRow, World.alloc]
  congr 1
  apply Array.ext_getElem?
  intro k
  simp only [Array.getElem?_modify, Array.getElem?_push]
  by_cases hk : k = w.heap.size
  · subst hk; simp
  · have : ¬ w.heap.size = k := fun e => hk e.symm
    simp [hk, this]

theorem heap_new (w : World) (o : Obj) : (w.alloc o).heap[w.heap.size]? = some o := by
  show (w.heap.push o)[w.heap.size]? = _
  simp
/-- 'copy(out, xs)' into a row just made, as long as xs -/
theorem run_copy_made (w : World) (b off n cap : Nat) (l : List ZB) (hn : n = l.length) (hr : RowZ w b off l) :
    (Builtin.copy_ #[22, 22] 3 #[.slice (some ⟨w.heap.size, 0, none⟩) n n, .slice (some ⟨b, off, none⟩) n cap]).run Try.prog (w.alloc (.cells (flatZ (List.replicate n nilZ)).toArray 35)) =
      .ok (.int .i64 n) (w.alloc (.cells (flatZ l).toArray 35)) := by
  have h := run_copy_k (P := Try.prog) (w.alloc (.cells (flatZ (List.replicate n nilZ)).toArray 35)) 4 22 22 3 35 w.heap.size 0 n n ⟨b, off, none⟩ n cap (flatZ (List.replicate n nilZ)).toArray 35 (flatZ l) Try.underlying22 info35
    (heap_new w _) (by rw [flatZ_length, ← hn]; simp) (rowZ_src (hr.alloc _)) (by simp [flatZ_length, hn]) (flatZ_one l)
  rw [h, setRow_alloc]
  have e : (flatZ (List.replicate n nilZ)).toArray.toList.drop (0 + (flatZ l).length) = [] := by
    apply List.drop_eq_nil_of_le
    simp [flatZ_length, hn]
  rw [e]
  simp [goInt]

set_option maxRecDepth 20000 in
set_option maxHeartbeats 1000000 in
theorem clone_any (b off n cap : Nat) (l : List ZB) (w : World) (hn : n = l.length) (hr : RowZ w b off l) (hl : n ≤ 4096) :
    Calls Try.prog 7 #[.slice (some ⟨b, off, none⟩) n cap] w fun e w' => e = .returned (.slice (some ⟨w.heap.size, 0, none⟩) n n) ∧ w' = w.alloc (.cells (flatZ l).toArray 35) := by
  have hmk := fun W => run_make35 W n hl
  have hcp := run_copy_made w b off n cap l hn hr
  have hnil := fun w a l c => Lib.run_eql_slice_nil (P := Try.prog) w 22 35 a l c 0 0 Try.underlying22
  clear hr hn
  go_enter Try.func7, Try.ntmps7
  go_wp2
  go_ret
  exact ⟨rfl, rfl⟩
end Go.Proofs.Qxb6627916a
