/-
  zzWrites.
-/
import Derived.Test.Qxb6615626aMk3
namespace Go.Proofs.Qxb6615626a.BV
open Go.RowKit
set_option linter.unusedVariables false

def WritesPost (f : Sl → List UInt8) (K : Sl → Prop) (kvs : List (Sl × Option Addr)) (w : World) (e : Ending) (w' : World) : Prop :=
  ∃ (wb : Nat) (Tw : Tr), e = .returned (.pointer (some ⟨wb, 0, none⟩)) ∧ WOK f K w.heap.size w'.heap.size w' wb Tw ∧ Tw.es = insAll f [] kvs ∧ Fr (fun _ => False) w w'

set_option maxRecDepth 20000 in
set_option maxHeartbeats 4000000 in
theorem zzWrites_any (f : Sl → List UInt8) (K : Sl → Prop) (k v : Sl) (ks : List Sl) (vs : List (Option Addr)) (lk : List (List UInt8)) (w : World) (h1 : LstB w k ks lk) (h2 : VL w v (vs.map Value.pointer)) (hn : v.n = k.n) (hn1 : k.n ≤ 4096) (hpw : ∀ x ∈ vs, PW w x) (hk : KOK f K w.heap.size w) (hm : ∀ s, K s → s.n ≤ maxLen) (hK : ∀ t ∈ ks, K t) :
    Calls Try.prog 31 #[k.v, v.v] w (WritesPost f K (ks.zip vs) w) := by
  have HT := hide (zzTree_any f K k v ks vs false w h1.lst h2 hn hn1 hk hm hK)
  obtain ⟨ka, kn, kc⟩ := k
  obtain ⟨va, vn, vc⟩ := v
  simp only at hn hn1
  subst hn
  simp only [Sl.v] at HT ⊢
  have e1 : ks.length = vn := h1.lst.1
  have H1 := hide h1; have H2 := hide h2; have HP := hide hpw; have E1 := hide e1; have HM := hide hm; have HKE := hide hK
  clear h1 h2 hpw hk hm hK e1
  by_cases hk0 : vn = 0
  · subst hk0
    have hks : ks = [] := List.length_eq_zero_iff.1 (unhide E1)
    have HKS := hide hks
    clear hks
    go_enter Try.func31, Try.ntmps31
    go_wp2_with fail
    refine (newWrites_any none 0 0 w).mono ?_
    rintro e W1 ⟨rfl, hw1, hF1⟩
    have HW1 := hide hw1; have HF1 := hide hF1
    clear hw1 hF1
    go_wp2_with fail
    go_ret
    exact ⟨w.heap.size, ⟨[], none, []⟩, rfl, ⟨.inl ⟨unhide HW1, rfl⟩, ⟨Nat.le_refl _, (unhide HW1).lt⟩, Nat.le_refl _⟩, by rw [unhide HKS]; rfl, unhide HF1⟩
  · have hkb : ((vn : Int) == 0) = false := by rw [beq_eq_false_iff_ne]; omega
    clear hk0
    go_enter Try.func31, Try.ntmps31
    go_wp2_with fail
    refine (unhide HT).mono ?_
    rintro e W1 ⟨eb, T, rfl, x1, x2, x3⟩
    have HLB := hide (zzLast_any ⟨ka, vn, kc⟩ ks lk W1 ((unhide H1).frame x3) (by show vn ≤ _; omega))
    have HX := hide (⟨x1, x2, x3⟩ : Ok f K w.heap.size W1 eb T ∧ T.es = insAll f [] (ordOf ks vs false) ∧ Fr (fun _ => False) w W1)
    clear x1 x2 x3 HT
    go_wp2_with fail
    refine (unhide HLB).mono ?_
    rintro e W2 ⟨la, rfl, y1, y2⟩
    have F02 : Fr (fun _ => False) w W2 := (unhide HX).2.2.trans y2 (fun _ _ e => e)
    have HY := hide (⟨(unhide HX).1.fr y2 (fun _ _ e => e), y1, (unhide H1).lst.frame F02, (unhide H2).frame F02, F02⟩ : Ok f K w.heap.size W2 eb T ∧ VL W2 ⟨some la, vn, vn⟩ ((lastB lk).map Value.bool) ∧ Lst W2 ⟨ka, vn, kc⟩ ks ∧ VL W2 ⟨va, vn, vc⟩ (vs.map Value.pointer) ∧ Fr (fun _ => False) w W2)
    have HP2 := hide (fun x hx => ((unhide HP) x hx).frame F02)
    have HES := hide (unhide HX).2.1
    clear y1 y2 F02 HX HLB HP H1 H2
    go_wp2_with fail
    go_loopw [7, 8, 9] (fun v7 v8 v9 wr => ∃ (j : Nat) (a b : Int), j ≤ vn ∧ v9 = .int .i64 j ∧ v7 = .int .i64 a ∧ v8 = .int .i64 b ∧ W2 = wr) (fun _ _ v _ => vn - (intOf v).toNat)
    case atStart => exact ⟨0, 0, 0, Nat.zero_le _, rfl, rfl, rfl, rfl⟩
    case round =>
      obtain ⟨j, a, b, hj, rfl, rfl, rfl, hwr⟩ := hrel
      subst hwr
      by_cases hlt : j < vn
      · obtain ⟨b1, o1, u, q1, hc1, g1⟩ := (unhide HY).2.1.at hlt
        cases q1
        rw [List.getElem?_map] at g1
        obtain ⟨bj, hbj, rfl⟩ := Option.map_eq_some_iff.1 g1
        obtain ⟨b2, o2, y, rfl, hc2, k2⟩ := (unhide HY).2.2.1.at hlt
        obtain ⟨b3, o3, u3, rfl, hc3, k3⟩ := (unhide HY).2.2.2.1.at hlt
        rw [List.getElem?_map] at k3
        obtain ⟨x, hx, rfl⟩ := Option.map_eq_some_iff.1 k3
        have hxm := List.mem_of_getElem? hx
        have hpx := (unhide HP2) x hxm
        have hyn : y.n ≤ 9223372036854775807 := (unhide HM) y ((unhide HKE) y (List.mem_of_getElem? k2))
        clear g1 hbj k2 k3 hx hxm
        cases bj with
        | false =>
          go_wp2_with fail
          go_roundw
          case rel => exact ⟨j + 1, a, b, by omega, by go_num, rfl, rfl, by first | rfl | trivial⟩
          case measure => simp [intOf]; omega
        | true =>
          cases x with
          | none =>
            go_wp2_with fail
            go_roundw
            case rel => exact ⟨j + 1, _, _, by omega, by go_num, rfl, rfl, by first | rfl | trivial⟩
            case measure => simp [intOf]; omega
          | some ad =>
            obtain ⟨b4, t, rfl, hc4⟩ := hpx ad rfl
            go_wp2_with fail
            go_roundw
            case rel => exact ⟨j + 1, _, _, by omega, by go_num, rfl, rfl, by first | rfl | trivial⟩
            case measure => simp [intOf]; omega
      · go_wp2_with fail
        refine (newWrites_any (some ⟨eb, 0, none⟩) a b W2).mono ?_
        rintro e W3 ⟨rfl, hw3, hF3⟩
        have HW3 := hide hw3; have HF3 := hide hF3
        clear hw3 hF3
        go_wp2_with fail
        go_ret
        have F02 := (unhide HY).2.2.2.2
        have hO := (unhide HY).1
        refine ⟨W2.heap.size, T, rfl, ⟨.inr ⟨eb, unhide HW3, hO.fr (unhide HF3) (fun _ _ e => e), fun k hk => Nat.lt_of_lt_of_le (hO.own_lt k hk) (unhide HF3).size⟩, ⟨F02.size, (unhide HW3).lt⟩, Nat.le_refl _⟩, ?_, F02.trans (unhide HF3) (fun _ _ e => e)⟩
        rw [unhide HES]; rfl
end Go.Proofs.Qxb6615626a.BV
