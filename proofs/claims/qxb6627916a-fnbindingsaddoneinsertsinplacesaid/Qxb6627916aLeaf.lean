import Derived.Test.Qxb6627916aRows
import Derived.Test.Qxb6627916aPlain
import Derived.WalkKit
import Derived.WalkSpells
import Derived.WalkLawsBesides
import Derived.Deep.QuietTactic
import Derived.BigQuiet
namespace Go.Proofs.Qxb6627916a
open Go.RowKit

theorem hide {p : Prop} (h : p) : Hid p := h
theorem ret_int {k : IntKind} {a b : Int} (h : a = b) : Ending.returned (.int k a) = .returned (.int k b) := by rw [h]

set_option maxHeartbeats 400000 in
theorem strCmp_any (a b : ByteArray) (w : World) (ha : a.size ≤ maxLen) (hb : b.size ≤ maxLen) :
    Calls Try.prog 23 #[.string a, .string b] w fun e w' => e = .returned (.int .i64 (Lib.compareBytes a.data.toList b.data.toList)) ∧ ∃ n, w' = w.drewN n := by
  unfold maxLen at ha hb
  have sa : a.data.toList.length = a.size := by simp
  have sb : b.data.toList.length = b.size := by simp
  have SA := hide sa
  have SB := hide sb
  clear sa sb
  by_cases hlen : b.size < a.size
  all_goals
    go_enter Try.func23, Try.ntmps23
    go_wp2
    go_loopw [6] (fun i wr => ∃ k q : Nat, k ≤ a.size ∧ k ≤ b.size ∧ i = .int .i64 k ∧ a.data.toList.take k = b.data.toList.take k ∧ wr = w.drewN q) (fun i _ => a.size - (intOf i).toNat)
    case atStart => exact ⟨0, 0, Nat.zero_le _, Nat.zero_le _, rfl, rfl, rfl⟩
    case round =>
      obtain ⟨k, q, hka, hkb, rfl, htk, rfl⟩ := hrel
      have HT := hide htk
      clear htk
      by_cases hlt : k < a.size ∧ k < b.size
      · obtain ⟨h1, h2⟩ := hlt
        by_cases c1 : (a[k].toNat : Int) < (b[k].toNat : Int)
        · go_wp2
          go_quiet (fail)
          go_wp2
          go_ret
          exact ⟨ret_int (cbB_lt h1 h2 HT.out c1).symm, q + nq, by rw [World.drewN_drewN]⟩
        · by_cases c2 : (b[k].toNat : Int) < (a[k].toNat : Int)
          · have C1 := hide c1
            clear c1
            have c1 : b[k].toNat ≤ a[k].toNat := by have := C1.out; omega
            go_wp2
            go_quiet (fail)
            go_wp2
            go_quiet (fail)
            go_wp2
            go_ret
            exact ⟨ret_int (cbB_gt h1 h2 HT.out c2).symm, _, by first | rfl | (simp only [World.drewN_drewN]; rfl)⟩
          · have HS := hide (takeB_succ h1 h2 HT.out c1 c2)
            have C1 := hide c1
            have C2 := hide c2
            clear c1 c2
            have c1 : b[k].toNat ≤ a[k].toNat := by have := C1.out; omega
            have c2 : a[k].toNat ≤ b[k].toNat := by have := C2.out; omega
            go_wp2
            go_quiet (fail)
            go_wp2
            go_quiet (fail)
            go_wp2
            go_roundw
            case rel => exact ⟨k + 1, _, by omega, by omega, by go_num, HS.out, by first | rfl | (simp only [World.drewN_drewN]; rfl)⟩
            case measure => simp [intOf]; omega
      · have HE := hide (cbB_end hka hkb hlt HT.out)
        clear HT
        go_wp2
        all_goals
          go_ret
          exact ⟨ret_int (by rw [HE.out]; first | rw [if_pos (by omega)] | rw [if_neg (by omega), if_pos (by omega)] | rw [if_neg (by omega), if_neg (by omega)]), _, rfl⟩
end Go.Proofs.Qxb6627916a
