/-
  The laws' guards on bytes.
-/
import Derived.Test.Qxb6615626aLst
namespace Go.Proofs.Qxb6615626a
open Go.RowKit
set_option linter.unusedVariables false

set_option maxHeartbeats 1000000 in
theorem zzBytes18 (p0 : Sl) (s0 : List Sl) (p1 : Sl) (s1 : List Sl) (p2 : Sl) (w : World) (h0 : Lst w p0 s0) (hm0 : ∀ t ∈ s0, t.n ≤ maxLen) (hn0 : p0.n ≤ maxLen) (h1 : Lst w p1 s1) (hm1 : ∀ t ∈ s1, t.n ≤ maxLen) (hn1 : p1.n ≤ maxLen) (hn2 : p2.n ≤ maxLen) : Calls Try.prog 18 #[p0.v, p1.v, p2.v] w (BoolPost w) := by
  obtain ⟨a0, n0, c0⟩ := p0
  have H0 := hide h0; have HM0 := hide hm0; clear h0 hm0
  unfold maxLen at hn0; simp only at hn0
  obtain ⟨a1, n1, c1⟩ := p1
  have H1 := hide h1; have HM1 := hide hm1; clear h1 hm1
  unfold maxLen at hn1; simp only at hn1
  obtain ⟨a2, n2, c2⟩ := p2
  unfold maxLen at hn2; simp only at hn2
  change Calls Try.prog 18 #[.slice a0 n0 c0, .slice a1 n1 c1, .slice a2 n2 c2] w (BoolPost w)
  by_cases c0 : 1048576 < n0
  · skip
    go_enter Try.func18, Try.ntmps18
    go_wp2_with fail
    go_ret
    exact ⟨rfl, _, rfl⟩
  · skip
    go_enter Try.func18, Try.ntmps18
    go_wp2_with fail
    go_loopw [7, 8] (fun x i wr => ∃ k z : Nat, k ≤ n0 ∧ i = .int .i64 k ∧ x = .int .i64 z ∧ z ≤ 1048576 ∧ w = wr) (fun _ i _ => n0 - (intOf i).toNat)
    case atStart => exact ⟨0, n0, Nat.zero_le _, rfl, by first | rfl | go_num, by omega, rfl⟩
    case round =>
      obtain ⟨k0, z0, hk0, rfl, rfl, hz0, rfl⟩ := hrel
      by_cases hl0 : k0 < n0
      · obtain ⟨b, o, t, rfl, hc, ht⟩ := (unhide H0).at hl0
        have htm : t.n ≤ 9223372036854775807 := by have := (unhide HM0) t (List.mem_of_getElem? ht); unfold maxLen at this; exact this
        obtain ⟨ta, tn, tc⟩ := t
        clear ht
        simp only at htm hc
        by_cases e1 : 1048576 < tn
        · go_wp2_with fail
          go_ret
          exact ⟨rfl, _, rfl⟩
        · by_cases e2 : 1048576 < z0 + tn
          · go_wp2_with fail
            go_ret
            exact ⟨rfl, _, rfl⟩
          · go_wp2_with fail
            go_roundw
            case rel => exact ⟨k0 + 1, z0 + tn, by omega, by go_num, by go_num, by omega, by first | rfl | trivial⟩
            case measure => simp [intOf]; omega
      · skip
        by_cases c1 : 1048576 < n1
        · skip
          go_wp2_with fail
          go_ret
          exact ⟨rfl, _, rfl⟩
        · skip
          by_cases d1 : 1048576 < z0 + n1
          · skip
            go_wp2_with fail
            go_ret
            exact ⟨rfl, _, rfl⟩
          · skip
            go_wp2_with fail
            go_loopw [7, 9] (fun x i wr => ∃ k z : Nat, k ≤ n1 ∧ i = .int .i64 k ∧ x = .int .i64 z ∧ z ≤ 1048576 ∧ w = wr) (fun _ i _ => n1 - (intOf i).toNat)
            case atStart => exact ⟨0, z0 + n1, Nat.zero_le _, rfl, by first | rfl | go_num, by omega, rfl⟩
            case round =>
              obtain ⟨k1, z1, hk1, rfl, rfl, hz1, rfl⟩ := hrel
              by_cases hl1 : k1 < n1
              · obtain ⟨b, o, t, rfl, hc, ht⟩ := (unhide H1).at hl1
                have htm : t.n ≤ 9223372036854775807 := by have := (unhide HM1) t (List.mem_of_getElem? ht); unfold maxLen at this; exact this
                obtain ⟨ta, tn, tc⟩ := t
                clear ht
                simp only at htm hc
                by_cases e1 : 1048576 < tn
                · go_wp2_with fail
                  go_ret
                  exact ⟨rfl, _, rfl⟩
                · by_cases e2 : 1048576 < z1 + tn
                  · go_wp2_with fail
                    go_ret
                    exact ⟨rfl, _, rfl⟩
                  · go_wp2_with fail
                    go_roundw
                    case rel => exact ⟨k1 + 1, z1 + tn, by omega, by go_num, by go_num, by omega, by first | rfl | trivial⟩
                    case measure => simp [intOf]; omega
              · skip
                by_cases c2 : 1048576 < n2
                · skip
                  go_wp2_with fail
                  go_ret
                  exact ⟨rfl, _, rfl⟩
                · skip
                  by_cases d2 : 1048576 < z1 + n2
                  · skip
                    go_wp2_with fail
                    go_ret
                    exact ⟨rfl, _, rfl⟩
                  · skip
                    go_wp2_with fail
                    go_ret
                    exact ⟨rfl, _, rfl⟩

set_option maxHeartbeats 1000000 in
theorem zzBytes26 (p0 : Sl) (s0 : List Sl) (p1 : Sl) (s1 : List Sl) (p2 : Sl) (w : World) (h0 : Lst w p0 s0) (hm0 : ∀ t ∈ s0, t.n ≤ maxLen) (hn0 : p0.n ≤ maxLen) (h1 : Lst w p1 s1) (hm1 : ∀ t ∈ s1, t.n ≤ maxLen) (hn1 : p1.n ≤ maxLen) (hn2 : p2.n ≤ maxLen) : Calls Try.prog 26 #[p0.v, p1.v, p2.v] w (BoolPost w) := by
  obtain ⟨a0, n0, c0⟩ := p0
  have H0 := hide h0; have HM0 := hide hm0; clear h0 hm0
  unfold maxLen at hn0; simp only at hn0
  obtain ⟨a1, n1, c1⟩ := p1
  have H1 := hide h1; have HM1 := hide hm1; clear h1 hm1
  unfold maxLen at hn1; simp only at hn1
  obtain ⟨a2, n2, c2⟩ := p2
  unfold maxLen at hn2; simp only at hn2
  change Calls Try.prog 26 #[.slice a0 n0 c0, .slice a1 n1 c1, .slice a2 n2 c2] w (BoolPost w)
  by_cases c0 : 1048576 < n0
  · skip
    go_enter Try.func26, Try.ntmps26
    go_wp2_with fail
    go_ret
    exact ⟨rfl, _, rfl⟩
  · skip
    go_enter Try.func26, Try.ntmps26
    go_wp2_with fail
    go_loopw [7, 8] (fun x i wr => ∃ k z : Nat, k ≤ n0 ∧ i = .int .i64 k ∧ x = .int .i64 z ∧ z ≤ 1048576 ∧ w = wr) (fun _ i _ => n0 - (intOf i).toNat)
    case atStart => exact ⟨0, n0, Nat.zero_le _, rfl, by first | rfl | go_num, by omega, rfl⟩
    case round =>
      obtain ⟨k0, z0, hk0, rfl, rfl, hz0, rfl⟩ := hrel
      by_cases hl0 : k0 < n0
      · obtain ⟨b, o, t, rfl, hc, ht⟩ := (unhide H0).at hl0
        have htm : t.n ≤ 9223372036854775807 := by have := (unhide HM0) t (List.mem_of_getElem? ht); unfold maxLen at this; exact this
        obtain ⟨ta, tn, tc⟩ := t
        clear ht
        simp only at htm hc
        by_cases e1 : 1048576 < tn
        · go_wp2_with fail
          go_ret
          exact ⟨rfl, _, rfl⟩
        · by_cases e2 : 1048576 < z0 + tn
          · go_wp2_with fail
            go_ret
            exact ⟨rfl, _, rfl⟩
          · go_wp2_with fail
            go_roundw
            case rel => exact ⟨k0 + 1, z0 + tn, by omega, by go_num, by go_num, by omega, by first | rfl | trivial⟩
            case measure => simp [intOf]; omega
      · skip
        by_cases c1 : 1048576 < n1
        · skip
          go_wp2_with fail
          go_ret
          exact ⟨rfl, _, rfl⟩
        · skip
          by_cases d1 : 1048576 < z0 + n1
          · skip
            go_wp2_with fail
            go_ret
            exact ⟨rfl, _, rfl⟩
          · skip
            go_wp2_with fail
            go_loopw [7, 9] (fun x i wr => ∃ k z : Nat, k ≤ n1 ∧ i = .int .i64 k ∧ x = .int .i64 z ∧ z ≤ 1048576 ∧ w = wr) (fun _ i _ => n1 - (intOf i).toNat)
            case atStart => exact ⟨0, z0 + n1, Nat.zero_le _, rfl, by first | rfl | go_num, by omega, rfl⟩
            case round =>
              obtain ⟨k1, z1, hk1, rfl, rfl, hz1, rfl⟩ := hrel
              by_cases hl1 : k1 < n1
              · obtain ⟨b, o, t, rfl, hc, ht⟩ := (unhide H1).at hl1
                have htm : t.n ≤ 9223372036854775807 := by have := (unhide HM1) t (List.mem_of_getElem? ht); unfold maxLen at this; exact this
                obtain ⟨ta, tn, tc⟩ := t
                clear ht
                simp only at htm hc
                by_cases e1 : 1048576 < tn
                · go_wp2_with fail
                  go_ret
                  exact ⟨rfl, _, rfl⟩
                · by_cases e2 : 1048576 < z1 + tn
                  · go_wp2_with fail
                    go_ret
                    exact ⟨rfl, _, rfl⟩
                  · go_wp2_with fail
                    go_roundw
                    case rel => exact ⟨k1 + 1, z1 + tn, by omega, by go_num, by go_num, by omega, by first | rfl | trivial⟩
                    case measure => simp [intOf]; omega
              · skip
                by_cases c2 : 1048576 < n2
                · skip
                  go_wp2_with fail
                  go_ret
                  exact ⟨rfl, _, rfl⟩
                · skip
                  by_cases d2 : 1048576 < z1 + n2
                  · skip
                    go_wp2_with fail
                    go_ret
                    exact ⟨rfl, _, rfl⟩
                  · skip
                    go_wp2_with fail
                    go_ret
                    exact ⟨rfl, _, rfl⟩

set_option maxHeartbeats 1000000 in
theorem zzBytes29 (p0 : Sl) (s0 : List Sl) (p1 : Sl) (s1 : List Sl) (p2 : Sl) (s2 : List Sl) (p3 : Sl) (s3 : List Sl) (p4 : Sl) (w : World) (h0 : Lst w p0 s0) (hm0 : ∀ t ∈ s0, t.n ≤ maxLen) (hn0 : p0.n ≤ maxLen) (h1 : Lst w p1 s1) (hm1 : ∀ t ∈ s1, t.n ≤ maxLen) (hn1 : p1.n ≤ maxLen) (h2 : Lst w p2 s2) (hm2 : ∀ t ∈ s2, t.n ≤ maxLen) (hn2 : p2.n ≤ maxLen) (h3 : Lst w p3 s3) (hm3 : ∀ t ∈ s3, t.n ≤ maxLen) (hn3 : p3.n ≤ maxLen) (hn4 : p4.n ≤ maxLen) : Calls Try.prog 29 #[p0.v, p1.v, p2.v, p3.v, p4.v] w (BoolPost w) := by
  obtain ⟨a0, n0, c0⟩ := p0
  have H0 := hide h0; have HM0 := hide hm0; clear h0 hm0
  unfold maxLen at hn0; simp only at hn0
  obtain ⟨a1, n1, c1⟩ := p1
  have H1 := hide h1; have HM1 := hide hm1; clear h1 hm1
  unfold maxLen at hn1; simp only at hn1
  obtain ⟨a2, n2, c2⟩ := p2
  have H2 := hide h2; have HM2 := hide hm2; clear h2 hm2
  unfold maxLen at hn2; simp only at hn2
  obtain ⟨a3, n3, c3⟩ := p3
  have H3 := hide h3; have HM3 := hide hm3; clear h3 hm3
  unfold maxLen at hn3; simp only at hn3
  obtain ⟨a4, n4, c4⟩ := p4
  unfold maxLen at hn4; simp only at hn4
  change Calls Try.prog 29 #[.slice a0 n0 c0, .slice a1 n1 c1, .slice a2 n2 c2, .slice a3 n3 c3, .slice a4 n4 c4] w (BoolPost w)
  by_cases c0 : 1048576 < n0
  · skip
    go_enter Try.func29, Try.ntmps29
    go_wp2_with fail
    go_ret
    exact ⟨rfl, _, rfl⟩
  · skip
    go_enter Try.func29, Try.ntmps29
    go_wp2_with fail
    go_loopw [11, 12] (fun x i wr => ∃ k z : Nat, k ≤ n0 ∧ i = .int .i64 k ∧ x = .int .i64 z ∧ z ≤ 1048576 ∧ w = wr) (fun _ i _ => n0 - (intOf i).toNat)
    case atStart => exact ⟨0, n0, Nat.zero_le _, rfl, by first | rfl | go_num, by omega, rfl⟩
    case round =>
      obtain ⟨k0, z0, hk0, rfl, rfl, hz0, rfl⟩ := hrel
      by_cases hl0 : k0 < n0
      · obtain ⟨b, o, t, rfl, hc, ht⟩ := (unhide H0).at hl0
        have htm : t.n ≤ 9223372036854775807 := by have := (unhide HM0) t (List.mem_of_getElem? ht); unfold maxLen at this; exact this
        obtain ⟨ta, tn, tc⟩ := t
        clear ht
        simp only at htm hc
        by_cases e1 : 1048576 < tn
        · go_wp2_with fail
          go_ret
          exact ⟨rfl, _, rfl⟩
        · by_cases e2 : 1048576 < z0 + tn
          · go_wp2_with fail
            go_ret
            exact ⟨rfl, _, rfl⟩
          · go_wp2_with fail
            go_roundw
            case rel => exact ⟨k0 + 1, z0 + tn, by omega, by go_num, by go_num, by omega, by first | rfl | trivial⟩
            case measure => simp [intOf]; omega
      · skip
        by_cases c1 : 1048576 < n1
        · skip
          go_wp2_with fail
          go_ret
          exact ⟨rfl, _, rfl⟩
        · skip
          by_cases d1 : 1048576 < z0 + n1
          · skip
            go_wp2_with fail
            go_ret
            exact ⟨rfl, _, rfl⟩
          · skip
            go_wp2_with fail
            go_loopw [11, 13] (fun x i wr => ∃ k z : Nat, k ≤ n1 ∧ i = .int .i64 k ∧ x = .int .i64 z ∧ z ≤ 1048576 ∧ w = wr) (fun _ i _ => n1 - (intOf i).toNat)
            case atStart => exact ⟨0, z0 + n1, Nat.zero_le _, rfl, by first | rfl | go_num, by omega, rfl⟩
            case round =>
              obtain ⟨k1, z1, hk1, rfl, rfl, hz1, rfl⟩ := hrel
              by_cases hl1 : k1 < n1
              · obtain ⟨b, o, t, rfl, hc, ht⟩ := (unhide H1).at hl1
                have htm : t.n ≤ 9223372036854775807 := by have := (unhide HM1) t (List.mem_of_getElem? ht); unfold maxLen at this; exact this
                obtain ⟨ta, tn, tc⟩ := t
                clear ht
                simp only at htm hc
                by_cases e1 : 1048576 < tn
                · go_wp2_with fail
                  go_ret
                  exact ⟨rfl, _, rfl⟩
                · by_cases e2 : 1048576 < z1 + tn
                  · go_wp2_with fail
                    go_ret
                    exact ⟨rfl, _, rfl⟩
                  · go_wp2_with fail
                    go_roundw
                    case rel => exact ⟨k1 + 1, z1 + tn, by omega, by go_num, by go_num, by omega, by first | rfl | trivial⟩
                    case measure => simp [intOf]; omega
              · skip
                by_cases c2 : 1048576 < n2
                · skip
                  go_wp2_with fail
                  go_ret
                  exact ⟨rfl, _, rfl⟩
                · skip
                  by_cases d2 : 1048576 < z1 + n2
                  · skip
                    go_wp2_with fail
                    go_ret
                    exact ⟨rfl, _, rfl⟩
                  · skip
                    go_wp2_with fail
                    go_loopw [11, 14] (fun x i wr => ∃ k z : Nat, k ≤ n2 ∧ i = .int .i64 k ∧ x = .int .i64 z ∧ z ≤ 1048576 ∧ w = wr) (fun _ i _ => n2 - (intOf i).toNat)
                    case atStart => exact ⟨0, z1 + n2, Nat.zero_le _, rfl, by first | rfl | go_num, by omega, rfl⟩
                    case round =>
                      obtain ⟨k2, z2, hk2, rfl, rfl, hz2, rfl⟩ := hrel
                      by_cases hl2 : k2 < n2
                      · obtain ⟨b, o, t, rfl, hc, ht⟩ := (unhide H2).at hl2
                        have htm : t.n ≤ 9223372036854775807 := by have := (unhide HM2) t (List.mem_of_getElem? ht); unfold maxLen at this; exact this
                        obtain ⟨ta, tn, tc⟩ := t
                        clear ht
                        simp only at htm hc
                        by_cases e1 : 1048576 < tn
                        · go_wp2_with fail
                          go_ret
                          exact ⟨rfl, _, rfl⟩
                        · by_cases e2 : 1048576 < z2 + tn
                          · go_wp2_with fail
                            go_ret
                            exact ⟨rfl, _, rfl⟩
                          · go_wp2_with fail
                            go_roundw
                            case rel => exact ⟨k2 + 1, z2 + tn, by omega, by go_num, by go_num, by omega, by first | rfl | trivial⟩
                            case measure => simp [intOf]; omega
                      · skip
                        by_cases c3 : 1048576 < n3
                        · skip
                          go_wp2_with fail
                          go_ret
                          exact ⟨rfl, _, rfl⟩
                        · skip
                          by_cases d3 : 1048576 < z2 + n3
                          · skip
                            go_wp2_with fail
                            go_ret
                            exact ⟨rfl, _, rfl⟩
                          · skip
                            go_wp2_with fail
                            go_loopw [11, 15] (fun x i wr => ∃ k z : Nat, k ≤ n3 ∧ i = .int .i64 k ∧ x = .int .i64 z ∧ z ≤ 1048576 ∧ w = wr) (fun _ i _ => n3 - (intOf i).toNat)
                            case atStart => exact ⟨0, z2 + n3, Nat.zero_le _, rfl, by first | rfl | go_num, by omega, rfl⟩
                            case round =>
                              obtain ⟨k3, z3, hk3, rfl, rfl, hz3, rfl⟩ := hrel
                              by_cases hl3 : k3 < n3
                              · obtain ⟨b, o, t, rfl, hc, ht⟩ := (unhide H3).at hl3
                                have htm : t.n ≤ 9223372036854775807 := by have := (unhide HM3) t (List.mem_of_getElem? ht); unfold maxLen at this; exact this
                                obtain ⟨ta, tn, tc⟩ := t
                                clear ht
                                simp only at htm hc
                                by_cases e1 : 1048576 < tn
                                · go_wp2_with fail
                                  go_ret
                                  exact ⟨rfl, _, rfl⟩
                                · by_cases e2 : 1048576 < z3 + tn
                                  · go_wp2_with fail
                                    go_ret
                                    exact ⟨rfl, _, rfl⟩
                                  · go_wp2_with fail
                                    go_roundw
                                    case rel => exact ⟨k3 + 1, z3 + tn, by omega, by go_num, by go_num, by omega, by first | rfl | trivial⟩
                                    case measure => simp [intOf]; omega
                              · skip
                                by_cases c4 : 1048576 < n4
                                · skip
                                  go_wp2_with fail
                                  go_ret
                                  exact ⟨rfl, _, rfl⟩
                                · skip
                                  by_cases d4 : 1048576 < z3 + n4
                                  · skip
                                    go_wp2_with fail
                                    go_ret
                                    exact ⟨rfl, _, rfl⟩
                                  · skip
                                    go_wp2_with fail
                                    go_ret
                                    exact ⟨rfl, _, rfl⟩

set_option maxHeartbeats 1000000 in
theorem zzBytes35 (p0 : Sl) (s0 : List Sl) (p1 : Sl) (s1 : List Sl) (p2 : Sl) (s2 : List Sl) (p3 : Sl) (s3 : List Sl) (p4 : Sl) (w : World) (h0 : Lst w p0 s0) (hm0 : ∀ t ∈ s0, t.n ≤ maxLen) (hn0 : p0.n ≤ maxLen) (h1 : Lst w p1 s1) (hm1 : ∀ t ∈ s1, t.n ≤ maxLen) (hn1 : p1.n ≤ maxLen) (h2 : Lst w p2 s2) (hm2 : ∀ t ∈ s2, t.n ≤ maxLen) (hn2 : p2.n ≤ maxLen) (h3 : Lst w p3 s3) (hm3 : ∀ t ∈ s3, t.n ≤ maxLen) (hn3 : p3.n ≤ maxLen) (hn4 : p4.n ≤ maxLen) : Calls Try.prog 35 #[p0.v, p1.v, p2.v, p3.v, p4.v] w (BoolPost w) := by
  obtain ⟨a0, n0, c0⟩ := p0
  have H0 := hide h0; have HM0 := hide hm0; clear h0 hm0
  unfold maxLen at hn0; simp only at hn0
  obtain ⟨a1, n1, c1⟩ := p1
  have H1 := hide h1; have HM1 := hide hm1; clear h1 hm1
  unfold maxLen at hn1; simp only at hn1
  obtain ⟨a2, n2, c2⟩ := p2
  have H2 := hide h2; have HM2 := hide hm2; clear h2 hm2
  unfold maxLen at hn2; simp only at hn2
  obtain ⟨a3, n3, c3⟩ := p3
  have H3 := hide h3; have HM3 := hide hm3; clear h3 hm3
  unfold maxLen at hn3; simp only at hn3
  obtain ⟨a4, n4, c4⟩ := p4
  unfold maxLen at hn4; simp only at hn4
  change Calls Try.prog 35 #[.slice a0 n0 c0, .slice a1 n1 c1, .slice a2 n2 c2, .slice a3 n3 c3, .slice a4 n4 c4] w (BoolPost w)
  by_cases c0 : 1048576 < n0
  · skip
    go_enter Try.func35, Try.ntmps35
    go_wp2_with fail
    go_ret
    exact ⟨rfl, _, rfl⟩
  · skip
    go_enter Try.func35, Try.ntmps35
    go_wp2_with fail
    go_loopw [11, 12] (fun x i wr => ∃ k z : Nat, k ≤ n0 ∧ i = .int .i64 k ∧ x = .int .i64 z ∧ z ≤ 1048576 ∧ w = wr) (fun _ i _ => n0 - (intOf i).toNat)
    case atStart => exact ⟨0, n0, Nat.zero_le _, rfl, by first | rfl | go_num, by omega, rfl⟩
    case round =>
      obtain ⟨k0, z0, hk0, rfl, rfl, hz0, rfl⟩ := hrel
      by_cases hl0 : k0 < n0
      · obtain ⟨b, o, t, rfl, hc, ht⟩ := (unhide H0).at hl0
        have htm : t.n ≤ 9223372036854775807 := by have := (unhide HM0) t (List.mem_of_getElem? ht); unfold maxLen at this; exact this
        obtain ⟨ta, tn, tc⟩ := t
        clear ht
        simp only at htm hc
        by_cases e1 : 1048576 < tn
        · go_wp2_with fail
          go_ret
          exact ⟨rfl, _, rfl⟩
        · by_cases e2 : 1048576 < z0 + tn
          · go_wp2_with fail
            go_ret
            exact ⟨rfl, _, rfl⟩
          · go_wp2_with fail
            go_roundw
            case rel => exact ⟨k0 + 1, z0 + tn, by omega, by go_num, by go_num, by omega, by first | rfl | trivial⟩
            case measure => simp [intOf]; omega
      · skip
        by_cases c1 : 1048576 < n1
        · skip
          go_wp2_with fail
          go_ret
          exact ⟨rfl, _, rfl⟩
        · skip
          by_cases d1 : 1048576 < z0 + n1
          · skip
            go_wp2_with fail
            go_ret
            exact ⟨rfl, _, rfl⟩
          · skip
            go_wp2_with fail
            go_loopw [11, 13] (fun x i wr => ∃ k z : Nat, k ≤ n1 ∧ i = .int .i64 k ∧ x = .int .i64 z ∧ z ≤ 1048576 ∧ w = wr) (fun _ i _ => n1 - (intOf i).toNat)
            case atStart => exact ⟨0, z0 + n1, Nat.zero_le _, rfl, by first | rfl | go_num, by omega, rfl⟩
            case round =>
              obtain ⟨k1, z1, hk1, rfl, rfl, hz1, rfl⟩ := hrel
              by_cases hl1 : k1 < n1
              · obtain ⟨b, o, t, rfl, hc, ht⟩ := (unhide H1).at hl1
                have htm : t.n ≤ 9223372036854775807 := by have := (unhide HM1) t (List.mem_of_getElem? ht); unfold maxLen at this; exact this
                obtain ⟨ta, tn, tc⟩ := t
                clear ht
                simp only at htm hc
                by_cases e1 : 1048576 < tn
                · go_wp2_with fail
                  go_ret
                  exact ⟨rfl, _, rfl⟩
                · by_cases e2 : 1048576 < z1 + tn
                  · go_wp2_with fail
                    go_ret
                    exact ⟨rfl, _, rfl⟩
                  · go_wp2_with fail
                    go_roundw
                    case rel => exact ⟨k1 + 1, z1 + tn, by omega, by go_num, by go_num, by omega, by first | rfl | trivial⟩
                    case measure => simp [intOf]; omega
              · skip
                by_cases c2 : 1048576 < n2
                · skip
                  go_wp2_with fail
                  go_ret
                  exact ⟨rfl, _, rfl⟩
                · skip
                  by_cases d2 : 1048576 < z1 + n2
                  · skip
                    go_wp2_with fail
                    go_ret
                    exact ⟨rfl, _, rfl⟩
                  · skip
                    go_wp2_with fail
                    go_loopw [11, 14] (fun x i wr => ∃ k z : Nat, k ≤ n2 ∧ i = .int .i64 k ∧ x = .int .i64 z ∧ z ≤ 1048576 ∧ w = wr) (fun _ i _ => n2 - (intOf i).toNat)
                    case atStart => exact ⟨0, z1 + n2, Nat.zero_le _, rfl, by first | rfl | go_num, by omega, rfl⟩
                    case round =>
                      obtain ⟨k2, z2, hk2, rfl, rfl, hz2, rfl⟩ := hrel
                      by_cases hl2 : k2 < n2
                      · obtain ⟨b, o, t, rfl, hc, ht⟩ := (unhide H2).at hl2
                        have htm : t.n ≤ 9223372036854775807 := by have := (unhide HM2) t (List.mem_of_getElem? ht); unfold maxLen at this; exact this
                        obtain ⟨ta, tn, tc⟩ := t
                        clear ht
                        simp only at htm hc
                        by_cases e1 : 1048576 < tn
                        · go_wp2_with fail
                          go_ret
                          exact ⟨rfl, _, rfl⟩
                        · by_cases e2 : 1048576 < z2 + tn
                          · go_wp2_with fail
                            go_ret
                            exact ⟨rfl, _, rfl⟩
                          · go_wp2_with fail
                            go_roundw
                            case rel => exact ⟨k2 + 1, z2 + tn, by omega, by go_num, by go_num, by omega, by first | rfl | trivial⟩
                            case measure => simp [intOf]; omega
                      · skip
                        by_cases c3 : 1048576 < n3
                        · skip
                          go_wp2_with fail
                          go_ret
                          exact ⟨rfl, _, rfl⟩
                        · skip
                          by_cases d3 : 1048576 < z2 + n3
                          · skip
                            go_wp2_with fail
                            go_ret
                            exact ⟨rfl, _, rfl⟩
                          · skip
                            go_wp2_with fail
                            go_loopw [11, 15] (fun x i wr => ∃ k z : Nat, k ≤ n3 ∧ i = .int .i64 k ∧ x = .int .i64 z ∧ z ≤ 1048576 ∧ w = wr) (fun _ i _ => n3 - (intOf i).toNat)
                            case atStart => exact ⟨0, z2 + n3, Nat.zero_le _, rfl, by first | rfl | go_num, by omega, rfl⟩
                            case round =>
                              obtain ⟨k3, z3, hk3, rfl, rfl, hz3, rfl⟩ := hrel
                              by_cases hl3 : k3 < n3
                              · obtain ⟨b, o, t, rfl, hc, ht⟩ := (unhide H3).at hl3
                                have htm : t.n ≤ 9223372036854775807 := by have := (unhide HM3) t (List.mem_of_getElem? ht); unfold maxLen at this; exact this
                                obtain ⟨ta, tn, tc⟩ := t
                                clear ht
                                simp only at htm hc
                                by_cases e1 : 1048576 < tn
                                · go_wp2_with fail
                                  go_ret
                                  exact ⟨rfl, _, rfl⟩
                                · by_cases e2 : 1048576 < z3 + tn
                                  · go_wp2_with fail
                                    go_ret
                                    exact ⟨rfl, _, rfl⟩
                                  · go_wp2_with fail
                                    go_roundw
                                    case rel => exact ⟨k3 + 1, z3 + tn, by omega, by go_num, by go_num, by omega, by first | rfl | trivial⟩
                                    case measure => simp [intOf]; omega
                              · skip
                                by_cases c4 : 1048576 < n4
                                · skip
                                  go_wp2_with fail
                                  go_ret
                                  exact ⟨rfl, _, rfl⟩
                                · skip
                                  by_cases d4 : 1048576 < z3 + n4
                                  · skip
                                    go_wp2_with fail
                                    go_ret
                                    exact ⟨rfl, _, rfl⟩
                                  · skip
                                    go_wp2_with fail
                                    go_ret
                                    exact ⟨rfl, _, rfl⟩
end Go.Proofs.Qxb6615626a
