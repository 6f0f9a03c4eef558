/-
  The laws' guards on bytes.
-/
import Derived.Test.Qxb6615626aLst
namespace Go.Proofs.Qxb6615626a
open Go.RowKit
set_option linter.unusedVariables false

set_option maxHeartbeats 1000000 in
theorem zzBytes9 (p0 : Sl) (s0 : List Sl) (p1 : Sl) (s1 : List Sl) (p2 : Sl) (p3 : Value) (p4 : Value) (w : World) (h0 : Lst w p0 s0) (hm0 : ∀ t ∈ s0, t.n ≤ maxLen) (hn0 : p0.n ≤ maxLen) (h1 : Lst w p1 s1) (hm1 : ∀ t ∈ s1, t.n ≤ maxLen) (hn1 : p1.n ≤ maxLen) (hn2 : p2.n ≤ maxLen) : Calls Try.prog 9 #[p0.v, p1.v, p2.v, p3, p4] w (BoolPost w) := by
  obtain ⟨a0, n0, c0⟩ := p0
  have H0 := hide h0; have HM0 := hide hm0; clear h0 hm0
  unfold maxLen at hn0; simp only at hn0
  obtain ⟨a1, n1, c1⟩ := p1
  have H1 := hide h1; have HM1 := hide hm1; clear h1 hm1
  unfold maxLen at hn1; simp only at hn1
  obtain ⟨a2, n2, c2⟩ := p2
  unfold maxLen at hn2; simp only at hn2
  change Calls Try.prog 9 #[.slice a0 n0 c0, .slice a1 n1 c1, .slice a2 n2 c2, p3, p4] w (BoolPost w)
  by_cases c0 : 1048576 < n0
  · skip
    go_enter Try.func9, Try.ntmps9
    go_wp2_with fail
    go_ret
    exact ⟨rfl, _, rfl⟩
  · skip
    go_enter Try.func9, Try.ntmps9
    go_wp2_with fail
    go_loopw [11, 12] (fun x i wr => ∃ k z : Nat, k ≤ n0 ∧ i = .int .i64 k ∧ x = .int .i64 z ∧ z ≤ 1048576 ∧ w = wr) (fun _ i _ => n0 - (intOf i).toNat)
    case atStart => exact ⟨0, n0, Nat.zero_le _, rfl, by first | rfl | go_num, by omega, rfl⟩
    case round =>
      obtain ⟨k0, z0, hk0, rfl, rfl, hz0, rfl⟩ := hrel
      by_cases hl0 : k0 < n0
      · obtain ⟨b, o, t, rfl, hc, ht⟩ := (unhide H0).at hl0
        have htm : t.n ≤ 9223372036854775807 := by have := (unhide HM0) t (List.mem_of_getElem? ht); unfold maxLen at this; exact this
        obtain ⟨ta, tn, tc⟩ := t
        clear ht
        simp only at htm hc
        by_cases e1 : 1048576 < tn
        · go_wp2_with fail
          go_ret
          exact ⟨rfl, _, rfl⟩
        · by_cases e2 : 1048576 < z0 + tn
          · go_wp2_with fail
            go_ret
            exact ⟨rfl, _, rfl⟩
          · go_wp2_with fail
            go_roundw
            case rel => exact ⟨k0 + 1, z0 + tn, by omega, by go_num, by go_num, by omega, by first | rfl | trivial⟩
            case measure => simp [intOf]; omega
      · skip
        by_cases c1 : 1048576 < n1
        · skip
          go_wp2_with fail
          go_ret
          exact ⟨rfl, _, rfl⟩
        · skip
          by_cases d1 : 1048576 < z0 + n1
          · skip
            go_wp2_with fail
            go_ret
            exact ⟨rfl, _, rfl⟩
          · skip
            go_wp2_with fail
            go_loopw [11, 13] (fun x i wr => ∃ k z : Nat, k ≤ n1 ∧ i = .int .i64 k ∧ x = .int .i64 z ∧ z ≤ 1048576 ∧ w = wr) (fun _ i _ => n1 - (intOf i).toNat)
            case atStart => exact ⟨0, z0 + n1, Nat.zero_le _, rfl, by first | rfl | go_num, by omega, rfl⟩
            case round =>
              obtain ⟨k1, z1, hk1, rfl, rfl, hz1, rfl⟩ := hrel
              by_cases hl1 : k1 < n1
              · obtain ⟨b, o, t, rfl, hc, ht⟩ := (unhide H1).at hl1
                have htm : t.n ≤ 9223372036854775807 := by have := (unhide HM1) t (List.mem_of_getElem? ht); unfold maxLen at this; exact this
                obtain ⟨ta, tn, tc⟩ := t
                clear ht
                simp only at htm hc
                by_cases e1 : 1048576 < tn
                · go_wp2_with fail
                  go_ret
                  exact ⟨rfl, _, rfl⟩
                · by_cases e2 : 1048576 < z1 + tn
                  · go_wp2_with fail
                    go_ret
                    exact ⟨rfl, _, rfl⟩
                  · go_wp2_with fail
                    go_roundw
                    case rel => exact ⟨k1 + 1, z1 + tn, by omega, by go_num, by go_num, by omega, by first | rfl | trivial⟩
                    case measure => simp [intOf]; omega
              · skip
                by_cases c2 : 1048576 < n2
                · skip
                  go_wp2_with fail
                  go_ret
                  exact ⟨rfl, _, rfl⟩
                · skip
                  by_cases d2 : 1048576 < z1 + n2
                  · skip
                    go_wp2_with fail
                    go_ret
                    exact ⟨rfl, _, rfl⟩
                  · skip
                    go_wp2_with fail
                    go_ret
                    exact ⟨rfl, _, rfl⟩

set_option maxHeartbeats 1000000 in
theorem zzBytes17 (p0 : Sl) (s0 : List Sl) (p1 : Sl) (s1 : List Sl) (p2 : Sl) (p3 : Value) (p4 : Sl) (w : World) (h0 : Lst w p0 s0) (hm0 : ∀ t ∈ s0, t.n ≤ maxLen) (hn0 : p0.n ≤ maxLen) (h1 : Lst w p1 s1) (hm1 : ∀ t ∈ s1, t.n ≤ maxLen) (hn1 : p1.n ≤ maxLen) (hn2 : p2.n ≤ maxLen) (hn4 : p4.n ≤ maxLen) : Calls Try.prog 17 #[p0.v, p1.v, p2.v, p3, p4.v] w (BoolPost w) := by
  obtain ⟨a0, n0, c0⟩ := p0
  have H0 := hide h0; have HM0 := hide hm0; clear h0 hm0
  unfold maxLen at hn0; simp only at hn0
  obtain ⟨a1, n1, c1⟩ := p1
  have H1 := hide h1; have HM1 := hide hm1; clear h1 hm1
  unfold maxLen at hn1; simp only at hn1
  obtain ⟨a2, n2, c2⟩ := p2
  unfold maxLen at hn2; simp only at hn2
  obtain ⟨a4, n4, c4⟩ := p4
  unfold maxLen at hn4; simp only at hn4
  change Calls Try.prog 17 #[.slice a0 n0 c0, .slice a1 n1 c1, .slice a2 n2 c2, p3, .slice a4 n4 c4] w (BoolPost w)
  by_cases c0 : 1048576 < n0
  · skip
    go_enter Try.func17, Try.ntmps17
    go_wp2_with fail
    go_ret
    exact ⟨rfl, _, rfl⟩
  · skip
    go_enter Try.func17, Try.ntmps17
    go_wp2_with fail
    go_loopw [11, 12] (fun x i wr => ∃ k z : Nat, k ≤ n0 ∧ i = .int .i64 k ∧ x = .int .i64 z ∧ z ≤ 1048576 ∧ w = wr) (fun _ i _ => n0 - (intOf i).toNat)
    case atStart => exact ⟨0, n0, Nat.zero_le _, rfl, by first | rfl | go_num, by omega, rfl⟩
    case round =>
      obtain ⟨k0, z0, hk0, rfl, rfl, hz0, rfl⟩ := hrel
      by_cases hl0 : k0 < n0
      · obtain ⟨b, o, t, rfl, hc, ht⟩ := (unhide H0).at hl0
        have htm : t.n ≤ 9223372036854775807 := by have := (unhide HM0) t (List.mem_of_getElem? ht); unfold maxLen at this; exact this
        obtain ⟨ta, tn, tc⟩ := t
        clear ht
        simp only at htm hc
        by_cases e1 : 1048576 < tn
        · go_wp2_with fail
          go_ret
          exact ⟨rfl, _, rfl⟩
        · by_cases e2 : 1048576 < z0 + tn
          · go_wp2_with fail
            go_ret
            exact ⟨rfl, _, rfl⟩
          · go_wp2_with fail
            go_roundw
            case rel => exact ⟨k0 + 1, z0 + tn, by omega, by go_num, by go_num, by omega, by first | rfl | trivial⟩
            case measure => simp [intOf]; omega
      · skip
        by_cases c1 : 1048576 < n1
        · skip
          go_wp2_with fail
          go_ret
          exact ⟨rfl, _, rfl⟩
        · skip
          by_cases d1 : 1048576 < z0 + n1
          · skip
            go_wp2_with fail
            go_ret
            exact ⟨rfl, _, rfl⟩
          · skip
            go_wp2_with fail
            go_loopw [11, 13] (fun x i wr => ∃ k z : Nat, k ≤ n1 ∧ i = .int .i64 k ∧ x = .int .i64 z ∧ z ≤ 1048576 ∧ w = wr) (fun _ i _ => n1 - (intOf i).toNat)
            case atStart => exact ⟨0, z0 + n1, Nat.zero_le _, rfl, by first | rfl | go_num, by omega, rfl⟩
            case round =>
              obtain ⟨k1, z1, hk1, rfl, rfl, hz1, rfl⟩ := hrel
              by_cases hl1 : k1 < n1
              · obtain ⟨b, o, t, rfl, hc, ht⟩ := (unhide H1).at hl1
                have htm : t.n ≤ 9223372036854775807 := by have := (unhide HM1) t (List.mem_of_getElem? ht); unfold maxLen at this; exact this
                obtain ⟨ta, tn, tc⟩ := t
                clear ht
                simp only at htm hc
                by_cases e1 : 1048576 < tn
                · go_wp2_with fail
                  go_ret
                  exact ⟨rfl, _, rfl⟩
                · by_cases e2 : 1048576 < z1 + tn
                  · go_wp2_with fail
                    go_ret
                    exact ⟨rfl, _, rfl⟩
                  · go_wp2_with fail
                    go_roundw
                    case rel => exact ⟨k1 + 1, z1 + tn, by omega, by go_num, by go_num, by omega, by first | rfl | trivial⟩
                    case measure => simp [intOf]; omega
              · skip
                by_cases c2 : 1048576 < n2
                · skip
                  go_wp2_with fail
                  go_ret
                  exact ⟨rfl, _, rfl⟩
                · skip
                  by_cases d2 : 1048576 < z1 + n2
                  · skip
                    go_wp2_with fail
                    go_ret
                    exact ⟨rfl, _, rfl⟩
                  · skip
                    by_cases c4 : 1048576 < n4
                    · skip
                      go_wp2_with fail
                      go_ret
                      exact ⟨rfl, _, rfl⟩
                    · skip
                      by_cases d4 : 1048576 < (z1 + n2) + n4
                      · skip
                        go_wp2_with fail
                        go_ret
                        exact ⟨rfl, _, rfl⟩
                      · skip
                        go_wp2_with fail
                        go_ret
                        exact ⟨rfl, _, rfl⟩
end Go.Proofs.Qxb6615626a
