/-
  [][]byte values that are read: zzTake, zzRangesFit, zzRangesOK, zzBytes..
-/
import Derived.Test.Qxb6615626aZz
namespace Go.Proofs.Qxb6615626a
open Go.RowKit
set_option linter.unusedVariables false

/-- in w the [][]byte value s has the elements ss -/
def Lst (w : World) (s : Sl) (ss : List Sl) : Prop :=
  ss.length = s.n ∧ (s.a = none → s.n = 0) ∧ ∀ a, s.a = some a → ∀ i (h : i < ss.length), a.spot = none ∧ w.cell? ⟨a.block, a.off + i, none⟩ = some ss[i].v

theorem Lst.at {w : World} {a : Option Addr} {n c : Nat} {ss : List Sl} (h : Lst w ⟨a, n, c⟩ ss) {k : Nat} (hk : k < n) :
    ∃ (b o : Nat) (t : Sl), a = some ⟨b, o, none⟩ ∧ w.cell? ⟨b, o + k, none⟩ = some (.slice t.a t.n t.c) ∧ ss[k]? = some t := by
  have hkl : k < ss.length := by have := h.1; simp at this; omega
  cases a with
  | none => have := h.2.1 rfl; simp at this; omega
  | some a =>
    obtain ⟨b, o, p⟩ := a
    obtain ⟨hp, hc⟩ := h.2.2 _ rfl k hkl
    simp only at hp
    subst hp
    exact ⟨b, o, ss[k], rfl, hc, List.getElem?_eq_getElem hkl⟩

def TakePost (n : Nat) (ss : List Sl) (l : Nat) (w : World) (e : Ending) (w' : World) : Prop :=
  w' = w ∧ ∃ (r : Nat) (b : Bool), e = .returned (.tuple #[.int .i64 r, .bool b]) ∧ (b = false → r ≤ l ∧ n ≤ l ∧ ∀ t ∈ ss, t.n ≤ l)

theorem i8 {l n : Nat} (h : ¬ (l : Int) / 8 < (n : Int)) : 8 * n ≤ l := by omega

set_option maxHeartbeats 1000000 in
theorem zzTake_any (s : Sl) (ss : List Sl) (l : Nat) (w : World) (h : Lst w s ss) (hl : l ≤ 1048576) (hm : ∀ t ∈ ss, t.n ≤ maxLen) (hn : s.n ≤ maxLen) :
    Calls Try.prog 39 #[.int .i64 l, s.v] w (TakePost s.n ss l w) := by
  obtain ⟨a, n, c⟩ := s
  change Calls Try.prog 39 #[.int .i64 l, .slice a n c] w (TakePost n ss l w)
  have H := hide h; have HM := hide hm
  unfold maxLen at hn
  simp only at hn
  clear h hm
  by_cases hov : (l : Int) / 8 < (n : Int)
  · go_enter Try.func39, Try.ntmps39
    go_wp2_with fail
    go_ret2
    exact ⟨rfl, 0, true, rfl, fun h => by cases h⟩
  · have H8 := hide (i8 hov)
    have HL := hide hl
    have hl2 : (l : Int) ≤ 9223372036854775807 := by omega
    go_enter Try.func39, Try.ntmps39
    go_wp2_with fail
    go_loopw [0, 6] (fun x i wr => ∃ k r : Nat, k ≤ n ∧ i = .int .i64 k ∧ x = .int .i64 r ∧ r ≤ l ∧ Hid (∀ j (hj : j < ss.length), j < k → ss[j].n ≤ l) ∧ wr = w) (fun _ i _ => n - (intOf i).toNat)
    case atStart => exact ⟨0, l - 8 * n, Nat.zero_le _, rfl, by have := unhide H8; go_num, by omega, hide (fun j _ hj => by omega), rfl⟩
    case round =>
      obtain ⟨k, r, hk, rfl, rfl, hr, HJ, rfl⟩ := hrel
      by_cases hlt : k < n
      · obtain ⟨b, o, t, rfl, hc, ht⟩ := (unhide H).at hlt
        have htm : t.n ≤ 9223372036854775807 := by have := (unhide HM) t (List.mem_of_getElem? ht); unfold maxLen at this; exact this
        obtain ⟨ta, tn, tc⟩ := t
        have HT := hide ht
        have hr3 : (r : Int) ≤ 1048576 := by have := unhide HL; omega
        have HR := hide hr
        clear ht hov hl hl2 hr
        simp only at htm hc
        by_cases hr2 : r < tn
        · go_wp2_with fail
          go_ret2
          exact ⟨rfl, 0, true, rfl, fun h => by cases h⟩
        · go_wp2_with fail
          go_roundw
          case rel =>
            refine ⟨k + 1, r - tn, by omega, by go_num, by go_num, by have := unhide HR; omega, hide (fun j hj hjk => ?_), by first | rfl | trivial⟩
            by_cases e : j < k
            · exact (unhide HJ) j hj e
            · have e : j = k := by omega
              subst e
              have := unhide HT
              rw [List.getElem?_eq_getElem hj] at this
              rw [Option.some.inj this]
              show tn ≤ l
              have := unhide HR; omega
          case measure => simp [intOf]; omega
      · go_wp2_with fail
        go_ret2
        refine ⟨rfl, r, false, rfl, fun _ => ⟨hr, by have := unhide H8; omega, fun t ht => ?_⟩⟩
        obtain ⟨j, hj, rfl⟩ := List.mem_iff_getElem.1 ht
        exact (unhide HJ) j hj (by have := (unhide H).1; simp at this; omega)

def BoolPost (w : World) (e : Ending) (w' : World) : Prop := w' = w ∧ ∃ b : Bool, e = .returned (.bool b)

def FitPost (sn en tn pn : Nat) (ss es : List Sl) (w : World) (e : Ending) (w' : World) : Prop :=
  w' = w ∧ ∃ b : Bool, e = .returned (.bool b) ∧ (b = true → sn ≤ 1024 ∧ en = sn ∧ tn ≤ 1048576 ∧ pn ≤ 1048576 ∧ (∀ t ∈ ss, t.n ≤ 1048576) ∧ ∀ t ∈ es, t.n ≤ 1048576)

set_option maxHeartbeats 1000000 in
theorem zzRangesFit_any (s e t p : Sl) (ss es : List Sl) (w : World) (h1 : Lst w s ss) (h2 : Lst w e es) (hm1 : ∀ t ∈ ss, t.n ≤ maxLen) (hm2 : ∀ t ∈ es, t.n ≤ maxLen) (hn1 : s.n ≤ maxLen) (hn2 : e.n ≤ maxLen) (hn3 : t.n ≤ maxLen) (hn4 : p.n ≤ maxLen) :
    Calls Try.prog 10 #[s.v, e.v, t.v, p.v] w (FitPost s.n e.n t.n p.n ss es w) := by
  have HT1 := hide (fun l (hl : l ≤ 1048576) => zzTake_any s ss l w h1 hl hm1 hn1)
  have HT2 := hide (fun l (hl : l ≤ 1048576) => zzTake_any e es l w h2 hl hm2 hn2)
  clear h1 h2 hm1 hm2
  obtain ⟨sa, sn, sc⟩ := s
  obtain ⟨ea, en, ec⟩ := e
  obtain ⟨ta, tn, tc⟩ := t
  obtain ⟨pa, pn, pc⟩ := p
  change Calls Try.prog 10 #[.slice sa sn sc, .slice ea en ec, .slice ta tn tc, .slice pa pn pc] w (FitPost sn en tn pn ss es w)
  unfold maxLen at hn1 hn2 hn3 hn4
  simp only at hn1 hn2 hn3 hn4
  by_cases c1 : 1024 < sn
  · go_enter Try.func10, Try.ntmps10
    go_wp2_with fail
    go_ret
    exact ⟨rfl, false, rfl, fun h => by cases h⟩
  · by_cases c2 : en = sn
    · subst c2
      go_enter Try.func10, Try.ntmps10
      go_wp2_with fail
      refine ((unhide HT1) 1048576 (Nat.le_refl _)).mono ?_
      rintro e w1 ⟨hw1, r, b, rfl, hb⟩
      rw [hw1]; clear hw1 w1
      cases b with
      | true =>
        go_wp2_with fail
        go_ret
        exact ⟨rfl, false, rfl, fun h => by cases h⟩
      | false =>
        have hr := (hb rfl).1
        have HB := hide (hb rfl)
        clear hb
        go_wp2_with fail
        refine ((unhide HT2) r hr).mono ?_
        rintro e w1 ⟨hw1, r2, b2, rfl, hb2⟩
        rw [hw1]; clear hw1 w1
        cases b2 with
        | true =>
          go_wp2_with fail
          go_ret
          exact ⟨rfl, false, rfl, fun h => by cases h⟩
        | false =>
          have hr2 := (hb2 rfl).1
          have HB2 := hide (hb2 rfl)
          clear hb2
          by_cases c3 : r2 < tn
          · go_wp2_with fail
            go_ret
            exact ⟨rfl, false, rfl, fun h => by cases h⟩
          · have hd : decide ((pn : Int) ≤ (r2 : Int) - (tn : Int)) = decide (pn + tn ≤ r2) := by congr 1; apply propext; omega
            go_wp2_with fail
            go_ret
            refine ⟨rfl, decide (pn + tn ≤ r2), ?_, fun h => ?_⟩
            · first | exact ret_bool hd | rfl
            · simp at h
              have a1 := unhide HB; have a2 := unhide HB2
              exact ⟨by omega, rfl, by omega, by omega, a1.2.2, fun t ht => by have := a2.2.2 t ht; omega⟩
    · have c3 : ((en : Int) != (sn : Int)) = true := by rw [bne_iff_ne]; omega
      clear c2
      go_enter Try.func10, Try.ntmps10
      go_wp2_with fail
      go_ret
      exact ⟨rfl, false, rfl, fun h => by cases h⟩
end Go.Proofs.Qxb6615626a
