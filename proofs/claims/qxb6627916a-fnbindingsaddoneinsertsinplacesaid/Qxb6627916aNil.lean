import Derived.Test.Qxb6627916aBld
namespace Go.Proofs.Qxb6627916a
open Go.RowKit Go.Sort

set_option maxRecDepth 20000 in
set_option maxHeartbeats 1000000 in
theorem bytes_nil (p : Option Addr) (cap : Nat) (w : World) : Calls Try.prog 5 #[.slice p 0 cap] w fun e w' => IsB e ∧ w' = w := by
  go_enter Try.func5, Try.ntmps5
  go_wp2
  refine wp_loop_rounds 1 ?_
  rw [rounds_succ]
  go_wp2
  go_ret; exact ⟨isB _, rfl⟩

set_option maxRecDepth 20000 in
set_option maxHeartbeats 1000000 in
theorem sizeOK_nil (p : Option Addr) (cap : Nat) (w : World) : Calls Try.prog 6 #[.slice p 0 cap] w fun e w' => IsB e ∧ ∃ m, w' = w.drewN m := by
  go_enter Try.func6, Try.ntmps6
  go_wp2
  refine wp_loop_rounds 1 ?_
  rw [rounds_succ]
  go_wp2
  go_ret; exact ⟨isB _, 0, rfl⟩

set_option maxRecDepth 20000 in
set_option maxHeartbeats 1000000 in
theorem clone_nil (w : World) : Calls Try.prog 7 #[.slice none 0 0] w fun e w' => e = .returned (.slice none 0 0) ∧ w' = w := by
  have hnil := fun w a l c => Lib.run_eql_slice_nil (P := Try.prog) w 22 35 a l c 0 0 Try.underlying22
  go_enter Try.func7, Try.ntmps7
  go_wp2
  go_ret
  exact ⟨rfl, rfl⟩

/-- a slice of no element whose address is whatever it is -/
theorem clone_empty (a : Addr) (cap : Nat) (w : World) : Calls Try.prog 7 #[.slice (some a) 0 cap] w fun e w' => e = .returned (.slice (some ⟨w.heap.size, 0, none⟩) 0 0) ∧ w' = w.alloc (.cells (flatZ []).toArray 35) := by
  have hmk : ∀ W, (Instr.makeSlice 22 (.int .i64 0) (.int .i64 0)).run Try.prog W = .ok (.slice (some ⟨W.heap.size, 0, none⟩) 0 0) (W.alloc (.cells #[] 35)) := fun W => run_make35 W 0 (by omega)
  have hcp : (Builtin.copy_ #[22, 22] 3 #[.slice (some ⟨w.heap.size, 0, none⟩) 0 0, .slice (some a) 0 cap]).run Try.prog (w.alloc (.cells #[] 35)) = .ok (.int .i64 0) (w.alloc (.cells #[] 35)) := by
    have h := run_copy_k (P := Try.prog) (w.alloc (.cells #[] 35)) 4 22 22 3 35 w.heap.size 0 0 0 a 0 cap #[] 35 [] Try.underlying22 info35 (heap_new w _) (by simp) (by simp) (by simp) (by simp)
    rw [h, setRow_alloc]
    rfl
  have hnil := fun w a l c => Lib.run_eql_slice_nil (P := Try.prog) w 22 35 a l c 0 0 Try.underlying22
  go_enter Try.func7, Try.ntmps7
  go_wp2
  go_ret
  exact ⟨rfl, rfl⟩

set_option maxRecDepth 20000 in
set_option maxHeartbeats 1000000 in
theorem build_nil (w : World) : Calls Try.prog 9 #[.slice none 0 0] w fun e w' => ∃ D, e = .returned (.pointer (some ⟨w.heap.size + 1, 0, none⟩)) ∧ Eng w' w.heap.size (w.heap.size + 1) w.heap.size [] D ∧ Below w.heap.size w w' := by
  go_enter Try.func9, Try.ntmps9
  go_wp2_with fail
  refine (newEngine_any _).mono ?_
  rintro e w1 ⟨rfl, rfl⟩
  go_wp2_with fail
  refine wp_loop_rounds 1 ?_
  rw [rounds_succ]
  go_wp2_with fail
  go_ret
  exact ⟨_, rfl, eng_new w, (below_alloc w _).alloc (by simp) _⟩
end Go.Proofs.Qxb6627916a
