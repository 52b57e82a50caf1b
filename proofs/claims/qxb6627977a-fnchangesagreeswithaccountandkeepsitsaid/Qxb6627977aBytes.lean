import Derived.Test.Qxb6627977aLeaf
namespace Go.Proofs.Qxb6627977a
open Go.RowKit Go.Sort

def IsB (e : Ending) : Prop := ∃ r, e = .returned (.bool r)
theorem isB (r : Bool) : IsB (.returned (.bool r)) := ⟨r, rfl⟩

set_option maxHeartbeats 2000000 in
set_option maxRecDepth 100000 in
theorem bytes3_any (a1 a2 a3 : Option Addr) (n1 c1 n2 c2 n3 c3 : Nat) (h1 : n1 ≤ maxLen) (h2 : n2 ≤ maxLen) (h3 : n3 ≤ maxLen) (w : World) :
    Calls Try.prog 5 #[.slice a1 n1 c1, .slice a2 n2 c2, .slice a3 n3 c3] w fun e w' => IsB e ∧ w' = w := by
  unfold maxLen at h1 h2 h3
  by_cases hb1 : n1 ≤ 1048576
  · go_enter Try.func5, Try.ntmps5
    go_wp2_with fail
    go_loopw [7, 8] (fun vs vi wr => ∃ s i : Nat, s ≤ 1048576 ∧ i ≤ n1 ∧ vs = .int .i64 s ∧ vi = .int .i64 i ∧ wr = w) (fun _ vi _ => n1 - (intOf vi).toNat)
    case atStart => exact ⟨n1, 0, hb1, Nat.zero_le _, rfl, rfl, rfl⟩
    case round =>
      obtain ⟨s, i, hs, hi, rfl, rfl, hwr⟩ := hrel
      obtain rfl : w = wr := hwr.symm
      by_cases hin : i < n1
      · obtain ⟨t, ht⟩ : ∃ t, t = s + 32 := ⟨_, rfl⟩
        have hsum : (s : Int) + 32 = (t : Int) := by omega
        have htb : t ≤ 1048608 := by omega
        have HT := hide ht
        clear ht
        by_cases hs2 : t ≤ 1048576
        · go_wp2_with fail
          exact ⟨⟨t, i + 1, hs2, by omega, rfl, by go_num, by first | rfl | trivial⟩, by simp [intOf]; omega⟩
        · go_wp2_with fail
          go_ret
          exact ⟨isB _, rfl⟩
      · by_cases hb2 : n2 ≤ 1048576
        · obtain ⟨t2, ht⟩ : ∃ t, t = s + n2 := ⟨_, rfl⟩
          have hsum : (s : Int) + (n2 : Int) = (t2 : Int) := by omega
          have htb : t2 ≤ 2097152 := by omega
          have HT := hide ht
          clear ht
          by_cases hs2 : t2 ≤ 1048576
          · go_wp2_with fail
            go_loopw [7, 9] (fun vs vi wr => ∃ s i : Nat, s ≤ 1048576 ∧ i ≤ n2 ∧ vs = .int .i64 s ∧ vi = .int .i64 i ∧ wr = w) (fun _ vi _ => n2 - (intOf vi).toNat)
            case atStart => exact ⟨t2, 0, hs2, Nat.zero_le _, rfl, rfl, rfl⟩
            case round =>
              obtain ⟨s, i, hs, hi, rfl, rfl, hwr⟩ := hrel
              obtain rfl : w = wr := hwr.symm
              by_cases hin : i < n2
              · obtain ⟨t, ht⟩ : ∃ t, t = s + 32 := ⟨_, rfl⟩
                have hsum : (s : Int) + 32 = (t : Int) := by omega
                have htb : t ≤ 1048608 := by omega
                have HT := hide ht
                clear ht
                by_cases hs2 : t ≤ 1048576
                · go_wp2_with fail
                  exact ⟨⟨t, i + 1, hs2, by omega, rfl, by go_num, by first | rfl | trivial⟩, by simp [intOf]; omega⟩
                · go_wp2_with fail
                  go_ret
                  exact ⟨isB _, rfl⟩
              · by_cases hb3 : n3 ≤ 1048576
                · obtain ⟨t3, ht⟩ : ∃ t, t = s + n3 := ⟨_, rfl⟩
                  have hsum : (s : Int) + (n3 : Int) = (t3 : Int) := by omega
                  have htb : t3 ≤ 2097152 := by omega
                  have HT := hide ht
                  clear ht
                  by_cases hs3 : t3 ≤ 1048576
                  · go_wp2_with fail
                    go_loopw [7, 10] (fun vs vi wr => ∃ s i : Nat, s ≤ 1048576 ∧ i ≤ n3 ∧ vs = .int .i64 s ∧ vi = .int .i64 i ∧ wr = w) (fun _ vi _ => n3 - (intOf vi).toNat)
                    case atStart => exact ⟨t3, 0, hs3, Nat.zero_le _, rfl, rfl, rfl⟩
                    case round =>
                      obtain ⟨s, i, hs, hi, rfl, rfl, hwr⟩ := hrel
                      obtain rfl : w = wr := hwr.symm
                      by_cases hin : i < n3
                      · obtain ⟨t, ht⟩ : ∃ t, t = s + 32 := ⟨_, rfl⟩
                        have hsum : (s : Int) + 32 = (t : Int) := by omega
                        have htb : t ≤ 1048608 := by omega
                        have HT := hide ht
                        clear ht
                        by_cases hs2 : t ≤ 1048576
                        · go_wp2_with fail
                          exact ⟨⟨t, i + 1, hs2, by omega, rfl, by go_num, by first | rfl | trivial⟩, by simp [intOf]; omega⟩
                        · go_wp2_with fail
                          go_ret
                          exact ⟨isB _, rfl⟩
                      · go_wp2_with fail
                        go_ret
                        exact ⟨isB _, rfl⟩
                  · go_wp2_with fail
                    go_ret
                    exact ⟨isB _, rfl⟩
                · go_wp2_with fail
                  go_ret
                  exact ⟨isB _, rfl⟩
          · go_wp2_with fail
            go_ret
            exact ⟨isB _, rfl⟩
        · go_wp2_with fail
          go_ret
          exact ⟨isB _, rfl⟩
  · go_enter Try.func5, Try.ntmps5
    go_wp2_with fail
    go_ret
    exact ⟨isB _, rfl⟩

set_option maxHeartbeats 2000000 in
set_option maxRecDepth 100000 in
theorem bytes4_any (a1 a2 a3 a4 : Option Addr) (n1 c1 n2 c2 n3 c3 n4 c4 : Nat) (h1 : n1 ≤ maxLen) (h2 : n2 ≤ maxLen) (h3 : n3 ≤ maxLen) (h4 : n4 ≤ maxLen) (w : World) :
    Calls Try.prog 11 #[.slice a1 n1 c1, .slice a2 n2 c2, .slice a3 n3 c3, .slice a4 n4 c4] w fun e w' => IsB e ∧ w' = w := by
  unfold maxLen at h1 h2 h3 h4
  by_cases hb1 : n1 ≤ 1048576
  · go_enter Try.func11, Try.ntmps11
    go_wp2_with fail
    go_loopw [9, 10] (fun vs vi wr => ∃ s i : Nat, s ≤ 1048576 ∧ i ≤ n1 ∧ vs = .int .i64 s ∧ vi = .int .i64 i ∧ wr = w) (fun _ vi _ => n1 - (intOf vi).toNat)
    case atStart => exact ⟨n1, 0, hb1, Nat.zero_le _, rfl, rfl, rfl⟩
    case round =>
      obtain ⟨s, i, hs, hi, rfl, rfl, hwr⟩ := hrel
      obtain rfl : w = wr := hwr.symm
      by_cases hin : i < n1
      · obtain ⟨t, ht⟩ : ∃ t, t = s + 32 := ⟨_, rfl⟩
        have hsum : (s : Int) + 32 = (t : Int) := by omega
        have htb : t ≤ 1048608 := by omega
        have HT := hide ht
        clear ht
        by_cases hs2 : t ≤ 1048576
        · go_wp2_with fail
          exact ⟨⟨t, i + 1, hs2, by omega, rfl, by go_num, by first | rfl | trivial⟩, by simp [intOf]; omega⟩
        · go_wp2_with fail
          go_ret
          exact ⟨isB _, rfl⟩
      · by_cases hb2 : n2 ≤ 1048576
        · obtain ⟨t2, ht⟩ : ∃ t, t = s + n2 := ⟨_, rfl⟩
          have hsum : (s : Int) + (n2 : Int) = (t2 : Int) := by omega
          have htb : t2 ≤ 2097152 := by omega
          have HT := hide ht
          clear ht
          by_cases hs2 : t2 ≤ 1048576
          · go_wp2_with fail
            go_loopw [9, 11] (fun vs vi wr => ∃ s i : Nat, s ≤ 1048576 ∧ i ≤ n2 ∧ vs = .int .i64 s ∧ vi = .int .i64 i ∧ wr = w) (fun _ vi _ => n2 - (intOf vi).toNat)
            case atStart => exact ⟨t2, 0, hs2, Nat.zero_le _, rfl, rfl, rfl⟩
            case round =>
              obtain ⟨s, i, hs, hi, rfl, rfl, hwr⟩ := hrel
              obtain rfl : w = wr := hwr.symm
              by_cases hin : i < n2
              · obtain ⟨t, ht⟩ : ∃ t, t = s + 32 := ⟨_, rfl⟩
                have hsum : (s : Int) + 32 = (t : Int) := by omega
                have htb : t ≤ 1048608 := by omega
                have HT := hide ht
                clear ht
                by_cases hs2 : t ≤ 1048576
                · go_wp2_with fail
                  exact ⟨⟨t, i + 1, hs2, by omega, rfl, by go_num, by first | rfl | trivial⟩, by simp [intOf]; omega⟩
                · go_wp2_with fail
                  go_ret
                  exact ⟨isB _, rfl⟩
              · by_cases hb3 : n3 ≤ 1048576
                · obtain ⟨t3, ht⟩ : ∃ t, t = s + n3 := ⟨_, rfl⟩
                  have hsum : (s : Int) + (n3 : Int) = (t3 : Int) := by omega
                  have htb : t3 ≤ 2097152 := by omega
                  have HT := hide ht
                  clear ht
                  by_cases hs3 : t3 ≤ 1048576
                  · go_wp2_with fail
                    go_loopw [9, 12] (fun vs vi wr => ∃ s i : Nat, s ≤ 1048576 ∧ i ≤ n3 ∧ vs = .int .i64 s ∧ vi = .int .i64 i ∧ wr = w) (fun _ vi _ => n3 - (intOf vi).toNat)
                    case atStart => exact ⟨t3, 0, hs3, Nat.zero_le _, rfl, rfl, rfl⟩
                    case round =>
                      obtain ⟨s, i, hs, hi, rfl, rfl, hwr⟩ := hrel
                      obtain rfl : w = wr := hwr.symm
                      by_cases hin : i < n3
                      · obtain ⟨t, ht⟩ : ∃ t, t = s + 32 := ⟨_, rfl⟩
                        have hsum : (s : Int) + 32 = (t : Int) := by omega
                        have htb : t ≤ 1048608 := by omega
                        have HT := hide ht
                        clear ht
                        by_cases hs2 : t ≤ 1048576
                        · go_wp2_with fail
                          exact ⟨⟨t, i + 1, hs2, by omega, rfl, by go_num, by first | rfl | trivial⟩, by simp [intOf]; omega⟩
                        · go_wp2_with fail
                          go_ret
                          exact ⟨isB _, rfl⟩
                      · by_cases hb4 : n4 ≤ 1048576
                        · obtain ⟨t4, ht⟩ : ∃ t, t = s + n4 := ⟨_, rfl⟩
                          have hsum : (s : Int) + (n4 : Int) = (t4 : Int) := by omega
                          have htb : t4 ≤ 2097152 := by omega
                          have HT := hide ht
                          clear ht
                          by_cases hs4 : t4 ≤ 1048576
                          · go_wp2_with fail
                            go_loopw [9, 13] (fun vs vi wr => ∃ s i : Nat, s ≤ 1048576 ∧ i ≤ n4 ∧ vs = .int .i64 s ∧ vi = .int .i64 i ∧ wr = w) (fun _ vi _ => n4 - (intOf vi).toNat)
                            case atStart => exact ⟨t4, 0, hs4, Nat.zero_le _, rfl, rfl, rfl⟩
                            case round =>
                              obtain ⟨s, i, hs, hi, rfl, rfl, hwr⟩ := hrel
                              obtain rfl : w = wr := hwr.symm
                              by_cases hin : i < n4
                              · obtain ⟨t, ht⟩ : ∃ t, t = s + 32 := ⟨_, rfl⟩
                                have hsum : (s : Int) + 32 = (t : Int) := by omega
                                have htb : t ≤ 1048608 := by omega
                                have HT := hide ht
                                clear ht
                                by_cases hs2 : t ≤ 1048576
                                · go_wp2_with fail
                                  exact ⟨⟨t, i + 1, hs2, by omega, rfl, by go_num, by first | rfl | trivial⟩, by simp [intOf]; omega⟩
                                · go_wp2_with fail
                                  go_ret
                                  exact ⟨isB _, rfl⟩
                              · go_wp2_with fail
                                go_ret
                                exact ⟨isB _, rfl⟩
                          · go_wp2_with fail
                            go_ret
                            exact ⟨isB _, rfl⟩
                        · go_wp2_with fail
                          go_ret
                          exact ⟨isB _, rfl⟩
                  · go_wp2_with fail
                    go_ret
                    exact ⟨isB _, rfl⟩
                · go_wp2_with fail
                  go_ret
                  exact ⟨isB _, rfl⟩
          · go_wp2_with fail
            go_ret
            exact ⟨isB _, rfl⟩
        · go_wp2_with fail
          go_ret
          exact ⟨isB _, rfl⟩
  · go_enter Try.func11, Try.ntmps11
    go_wp2_with fail
    go_ret
    exact ⟨isB _, rfl⟩
end Go.Proofs.Qxb6627977a
