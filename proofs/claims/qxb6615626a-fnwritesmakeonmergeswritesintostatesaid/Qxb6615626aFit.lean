/-
  zzMakeOnFit, zzIn.
-/
import Derived.Test.Qxb6615626aVers
namespace Go.Proofs.Qxb6615626a
open Go.RowKit
set_option linter.unusedVariables false

def MFitPost (bkn bvn kn vn dn : Nat) (bks bvs ks vs : List Sl) (w : World) (e : Ending) (w' : World) : Prop :=
  w' = w ∧ ∃ b : Bool, e = .returned (.bool b) ∧ (b = true → bkn ≤ 1024 ∧ bvn = bkn ∧ kn ≤ 1024 ∧ vn = kn ∧ dn = kn ∧ (∀ t ∈ bks, t.n ≤ 1048576) ∧ (∀ t ∈ bvs, t.n ≤ 1048576) ∧ (∀ t ∈ ks, t.n ≤ 1048576) ∧ ∀ t ∈ vs, t.n ≤ 1048576)

set_option maxRecDepth 20000 in
set_option maxHeartbeats 4000000 in
theorem zzMakeOnFit_any (bk bv k v d : Sl) (bks bvs ks vs : List Sl) (w : World) (g1 : Lst w bk bks) (g2 : Lst w bv bvs) (h1 : Lst w k ks) (h2 : Lst w v vs) (gm1 : ∀ t ∈ bks, t.n ≤ maxLen) (gm2 : ∀ t ∈ bvs, t.n ≤ maxLen) (hm1 : ∀ t ∈ ks, t.n ≤ maxLen) (hm2 : ∀ t ∈ vs, t.n ≤ maxLen)
    (gn1 : bk.n ≤ maxLen) (gn2 : bv.n ≤ maxLen) (hn1 : k.n ≤ maxLen) (hn2 : v.n ≤ maxLen) (hn3 : d.n ≤ maxLen) :
    Calls Try.prog 30 #[bk.v, bv.v, k.v, v.v, d.v] w (MFitPost bk.n bv.n k.n v.n d.n bks bvs ks vs w) := by
  have GT1 := hide (fun l (hl : l ≤ 1048576) => zzTake_any bk bks l w g1 hl gm1 gn1)
  have GT2 := hide (fun l (hl : l ≤ 1048576) => zzTake_any bv bvs l w g2 hl gm2 gn2)
  have HT1 := hide (fun l (hl : l ≤ 1048576) => zzTake_any k ks l w h1 hl hm1 hn1)
  have HT2 := hide (fun l (hl : l ≤ 1048576) => zzTake_any v vs l w h2 hl hm2 hn2)
  clear h1 h2 hm1 hm2 g1 g2 gm1 gm2
  obtain ⟨pa, pn, pc⟩ := bk
  obtain ⟨qa, qn, qc⟩ := bv
  obtain ⟨ka, kn, kc⟩ := k
  obtain ⟨va, vn, vc⟩ := v
  obtain ⟨da, dn, dc⟩ := d
  change Calls Try.prog 30 #[.slice pa pn pc, .slice qa qn qc, .slice ka kn kc, .slice va vn vc, .slice da dn dc] w (MFitPost pn qn kn vn dn bks bvs ks vs w)
  unfold maxLen at hn1 hn2 hn3 gn1 gn2
  simp only at hn1 hn2 hn3 gn1 gn2
  have no : Hid (MFitPost pn qn kn vn dn bks bvs ks vs w (.returned (.bool false)) w) := hide ⟨rfl, false, rfl, fun h => by cases h⟩
  by_cases a1 : 1024 < pn
  · go_enter Try.func30, Try.ntmps30
    go_wp2_with fail
    go_ret
    exact unhide no
  by_cases a2 : qn = pn
  case neg =>
    have c3 : ((qn : Int) != (pn : Int)) = true := by rw [bne_iff_ne]; omega
    clear a2
    go_enter Try.func30, Try.ntmps30
    go_wp2_with fail
    go_ret
    exact unhide no
  subst a2
  by_cases c1 : 1024 < kn
  · go_enter Try.func30, Try.ntmps30
    go_wp2_with fail
    go_ret
    exact unhide no
  by_cases c2 : vn = kn
  case neg =>
    have c3 : ((vn : Int) != (kn : Int)) = true := by rw [bne_iff_ne]; omega
    clear c2
    go_enter Try.func30, Try.ntmps30
    go_wp2_with fail
    go_ret
    exact unhide no
  subst c2
  by_cases c3 : dn = vn
  case neg =>
    have c4 : ((dn : Int) != (vn : Int)) = true := by rw [bne_iff_ne]; omega
    clear c3
    go_enter Try.func30, Try.ntmps30
    go_wp2_with fail
    go_ret
    exact unhide no
  subst c3
  go_enter Try.func30, Try.ntmps30
  go_wp2_with fail
  refine ((unhide GT1) 1048576 (Nat.le_refl _)).mono ?_
  rintro e w1 ⟨hw1, r1, b, rfl, hb⟩
  rw [hw1]; clear hw1 w1
  cases b with
  | true =>
    go_wp2_with fail
    go_ret
    exact unhide no
  | false =>
  have hr1 := (hb rfl).1
  have B1 := hide (hb rfl)
  clear hb
  go_wp2_with fail
  refine ((unhide GT2) r1 hr1).mono ?_
  rintro e w1 ⟨hw1, r2, b, rfl, hb⟩
  rw [hw1]; clear hw1 w1
  cases b with
  | true =>
    go_wp2_with fail
    go_ret
    exact unhide no
  | false =>
  have hr2 : r2 ≤ 1048576 := by have := (hb rfl).1; omega
  have B2 := hide (hb rfl)
  clear hb
  go_wp2_with fail
  refine ((unhide HT1) r2 hr2).mono ?_
  rintro e w1 ⟨hw1, r3, b, rfl, hb⟩
  rw [hw1]; clear hw1 w1
  cases b with
  | true =>
    go_wp2_with fail
    go_ret
    exact unhide no
  | false =>
  have hr3 : r3 ≤ 1048576 := by have := (hb rfl).1; omega
  have B3 := hide (hb rfl)
  clear hb
  go_wp2_with fail
  refine ((unhide HT2) r3 hr3).mono ?_
  rintro e w1 ⟨hw1, r4, b, rfl, hb⟩
  rw [hw1]; clear hw1 w1
  cases b with
  | true =>
    go_wp2_with fail
    go_ret
    exact unhide no
  | false =>
  have B4 := hide (hb rfl)
  clear hb
  go_wp2_with fail
  go_ret
  have a1 := unhide B1; have a2 := unhide B2; have a3 := unhide B3; have a4 := unhide B4
  exact ⟨rfl, _, rfl, fun _ => ⟨by omega, rfl, by omega, rfl, rfl, a1.2.2, fun t ht => by have := a2.2.2 t ht; omega, fun t ht => by have := a3.2.2 t ht; omega, fun t ht => by have := a4.2.2 t ht; omega⟩⟩

def InPost (l : List UInt8) (lk : List (List UInt8)) (w : World) (e : Ending) (w' : World) : Prop := e = .returned (.bool (lk.any (· == l))) ∧ ∃ m, w' = w.drewN m

set_option maxRecDepth 20000 in
set_option maxHeartbeats 2000000 in
theorem zzIn_any (s k : Sl) (l : List UInt8) (ks : List Sl) (lk : List (List UInt8)) (w : World) (hs : BytW w s l) (hsn : s.n ≤ maxLen) (h : LstW w k ks lk) (hn : k.n ≤ 1048576) :
    Calls Try.prog 54 #[s.v, k.v] w (InPost l lk w) := by
  obtain ⟨ka, n, kc⟩ := k
  change Calls Try.prog 54 #[.slice s.a s.n s.c, .slice ka n kc] w (InPost l lk w)
  simp only at hn
  have hlk : lk.length = n := h.n_eq
  have H := hide h; have HLK := hide hlk; have HS := hide hs; have HSN := hide hsn
  clear h hlk hs hsn
  go_enter Try.func54, Try.ntmps54
  go_wp2_with fail
  go_loopw [5] (fun i wr => ∃ j m : Nat, j ≤ n ∧ i = .int .i64 j ∧ Hid ((lk.take j).any (· == l) = false) ∧ Hid (wr = w.drewN m)) (fun i _ => n - (intOf i).toNat)
  case atStart => exact ⟨0, 0, Nat.zero_le _, rfl, hide (by simp), hide rfl⟩
  case round =>
    obtain ⟨j, m, hj, rfl, HP, HW⟩ := hrel
    by_cases hlt : j < n
    · obtain ⟨b, o, t, lt, rfl, hc, ht, hl, hb, hm⟩ := (unhide H).at hlt
      have q1 : wr.cell? ⟨b, o + j, none⟩ = some (.slice t.a t.n t.c) := by rw [unhide HW]; exact hc
      obtain ⟨c, hcc⟩ : ∃ c, c = Pl.cmp lt l := ⟨_, rfl⟩
      have HA := hide (show CmpIs wr t s (Pl.cmp lt l) from by rw [unhide HW]; exact cmpW w t s lt l hb (unhide HS) hm (unhide HSN))
      rw [← hcc] at HA
      have hst : (lk.take (j + 1)).any (· == l) = decide (c = 0) := by
        obtain ⟨p1, p2⟩ := List.getElem?_eq_some_iff.1 hl
        rw [List.take_succ_eq_append_getElem p1, List.any_append, unhide HP, p2, hcc, Bool.false_or]
        simp only [List.any_cons, List.any_nil, Bool.or_false]
        rw [Bool.eq_iff_iff, beq_iff_eq, decide_eq_true_iff]
        exact (Pl.cmp_zero_iff _ _).symm
      have HST := hide hst
      clear hc ht hl hb hm hcc hst
      by_cases hz : c = 0
      · subst hz
        go_wp2_with (go_at_call 16; refine (unhide HA _ rfl).mono ?_; rintro e w2 ⟨rfl, m2, hw2⟩)
        go_ret
        refine ⟨ret_bool ?_, m + m2, by rw [unhide HW, World.drewN_drewN]⟩
        have h1 := unhide HST
        simp only [decide_true] at h1
        obtain ⟨x, hx, hx2⟩ := List.any_eq_true.1 h1
        exact (List.any_eq_true.2 ⟨x, List.mem_of_mem_take hx, hx2⟩).symm
      · have hzb : (c == 0) = false := by rw [beq_eq_false_iff_ne]; exact hz
        have HZ := hide hz
        clear hz
        go_wp2_with (go_at_call 16; refine (unhide HA _ rfl).mono ?_; rintro e w2 ⟨rfl, m2, hw2⟩)
        go_roundw
        case rel => exact ⟨j + 1, m + m2, by omega, by go_num, hide (by rw [unhide HST]; exact decide_eq_false (unhide HZ)), hide (by rw [unhide HW, World.drewN_drewN])⟩
        case measure => simp [intOf]; omega
    · go_wp2_with fail
      go_ret
      refine ⟨ret_bool ?_, m, unhide HW⟩
      have h1 := unhide HP
      rw [List.take_of_length_le (by rw [unhide HLK]; omega)] at h1
      exact h1.symm
end Go.Proofs.Qxb6615626a
