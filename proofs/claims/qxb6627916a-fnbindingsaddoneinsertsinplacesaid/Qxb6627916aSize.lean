import Derived.Test.Qxb6627916aLeaf
namespace Go.Proofs.Qxb6627916a
open Go.RowKit

/-- element i of the row that begins at (b, off) is the binding x -/
def AtZ (w : World) (b off i : Nat) (x : ZB) : Prop :=
  w.cell? ⟨b, off + i * 4, none⟩ = some (.string x.1) ∧ w.cell? ⟨b, off + i * 4 + 1, none⟩ = some (.string x.2.1) ∧
  w.cell? ⟨b, off + i * 4 + 2, none⟩ = some (.string x.2.2.1) ∧ w.cell? ⟨b, off + i * 4 + 3, none⟩ = some (.string x.2.2.2)
def RowZ (w : World) (b off : Nat) (l : List ZB) : Prop := ∀ i (h : i < l.length), AtZ w b off i l[i]
/-- it has returned some bool -/
def IsB (e : Ending) : Prop := ∃ r, e = .returned (.bool r)
theorem isB (r : Bool) : IsB (.returned (.bool r)) := ⟨r, rfl⟩

set_option maxRecDepth 20000 in
set_option maxHeartbeats 1000000 in
theorem bytes_any (b off n cap : Nat) (l : List ZB) (w : World) (hn : n ≤ l.length) (hr : RowZ w b off l) (hl : n ≤ maxLen) :
    Calls Try.prog 5 #[.slice (some ⟨b, off, none⟩) n cap] w fun e w' => IsB e ∧ w' = w := by
  unfold maxLen at hl
  go_enter Try.func5, Try.ntmps5
  go_wp2
  · go_ret; exact ⟨isB _, rfl⟩
  go_loop [3, 4] (fun z i => ∃ (k : Nat) (q : Int), k ≤ n ∧ i = .int .i64 k ∧ z = .int .i64 q) (fun _ i => n - (intOf i).toNat)
  case atStart => exact ⟨0, _, Nat.zero_le _, rfl, rfl⟩
  case round =>
    obtain ⟨k, q, hk, rfl, rfl⟩ := hrel
    by_cases hlt : k < n
    · obtain ⟨h0, h1, h2, h3⟩ := hr k (by omega)
      clear hr
      go_wp2
      iterate 8
        · go_ret; exact ⟨isB _, rfl⟩
      go_round
      case rel => exact ⟨k + 1, _, by omega, by go_num, rfl⟩
      case measure => simp [intOf]; omega
    · go_wp2
      go_ret; exact ⟨isB _, rfl⟩

set_option maxRecDepth 20000 in
set_option maxHeartbeats 1000000 in
theorem sizeOK_any (b off n cap : Nat) (l : List ZB) (w : World) (hn : n ≤ l.length) (hr : RowZ w b off l) (hl : n ≤ maxLen) :
    Calls Try.prog 6 #[.slice (some ⟨b, off, none⟩) n cap] w fun e w' => IsB e ∧ ∃ m, w' = w.drewN m := by
  unfold maxLen at hl
  go_enter Try.func6, Try.ntmps6
  go_wp2
  go_loopw [3, 4] (fun z i wr => ∃ (k : Nat) (q : Int) (m : Nat), k ≤ n ∧ i = .int .i64 k ∧ z = .int .i64 q ∧ wr = w.drewN m) (fun _ i _ => n - (intOf i).toNat)
  case atStart => exact ⟨0, _, 0, Nat.zero_le _, rfl, rfl, rfl⟩
  case round =>
    obtain ⟨k, q, m, hk, rfl, rfl, rfl⟩ := hrel
    by_cases hlt : k < n
    · obtain ⟨h0, h1, h2, h3⟩ := hr k (by omega)
      clear hr
      go_wp2
      · go_ret; exact ⟨isB _, _, rfl⟩
      · go_quiet (fail)
        go_wp2
        · go_ret; exact ⟨isB _, _, by first | rfl | (simp only [World.drewN_drewN]; rfl)⟩
        · go_roundw
          case rel => exact ⟨k + 1, _, _, by omega, by go_num, rfl, by first | rfl | (simp only [World.drewN_drewN]; rfl)⟩
          case measure => simp [intOf]; omega
      · go_ret; exact ⟨isB _, _, rfl⟩
      · go_ret; exact ⟨isB _, _, rfl⟩
      · go_ret; exact ⟨isB _, _, rfl⟩
    · go_wp2
      go_ret; exact ⟨isB _, _, rfl⟩

theorem cell_alloc {w : World} {a : Addr} {v : Value} {o : Obj} (h : w.cell? a = some v) : (w.alloc o).cell? a = some v := by
  have hlt : a.block < w.heap.size := by
    unfold World.cell? at h
    by_cases hb : a.block < w.heap.size
    · exact hb
    · rw [Array.getElem?_eq_none (by omega)] at h; cases h
  rw [World.cell?_alloc_lt _ _ _ hlt, h]

set_option maxRecDepth 20000 in
set_option maxHeartbeats 1000000 in
theorem bytes2_any (b off n cap : Nat) (l : List ZB) (x : ZB) (w : World) (hn : n ≤ l.length) (hr : RowZ w b off l) (hl : n ≤ maxLen) :
    Calls Try.prog 12 #[.slice (some ⟨b, off, none⟩) n cap, .agg #[.string x.1, .string x.2.1, .string x.2.2.1, .string x.2.2.2]] w fun e w' => IsB e ∧ w' = w.alloc (.cells #[.string x.1, .string x.2.1, .string x.2.2.1, .string x.2.2.2] 35) := by
  unfold maxLen at hl
  obtain ⟨xp, xr, xm, xs⟩ := x
  go_enter Try.func12, Try.ntmps12
  go_wp2
  · go_ret; exact ⟨isB _, rfl⟩
  have hr' : RowZ (w.alloc (.cells #[.string xp, .string xr, .string xm, .string xs] 35)) b off l := fun i hi => by
    obtain ⟨h0, h1, h2, h3⟩ := hr i hi
    exact ⟨cell_alloc h0, cell_alloc h1, cell_alloc h2, cell_alloc h3⟩
  clear hr
  go_loop [5, 6] (fun z i => ∃ (k : Nat) (q : Int), k ≤ n ∧ i = .int .i64 k ∧ z = .int .i64 q) (fun _ i => n - (intOf i).toNat)
  case atStart => exact ⟨0, _, Nat.zero_le _, rfl, rfl⟩
  case round =>
    obtain ⟨k, q, hk, rfl, rfl⟩ := hrel
    by_cases hlt : k < n
    · obtain ⟨h0, h1, h2, h3⟩ := hr' k (by omega)
      clear hr'
      go_wp2
      iterate 8
        · go_ret; exact ⟨isB _, rfl⟩
      go_round
      case rel => exact ⟨k + 1, _, by omega, by go_num, rfl⟩
      case measure => simp [intOf]; omega
    · clear hr'
      go_wp2
      all_goals (go_ret; exact ⟨isB _, rfl⟩)
end Go.Proofs.Qxb6627916a
