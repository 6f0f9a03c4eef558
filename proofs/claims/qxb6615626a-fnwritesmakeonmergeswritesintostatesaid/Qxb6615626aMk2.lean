/-
  MakeOn; ZZMakeOnCount.
-/
import Derived.Test.Qxb6615626aMk
import Derived.Deep.LoopGhost
namespace Go.Proofs.Qxb6615626a.BV
open Go.RowKit
set_option linter.unusedVariables false

theorem und1 : Try.prog.underlying 1 = some (.func #[] #[] false) := by kernel_rfl
theorem neq_nilfunc (w : World) : (binOp .neq 1 .nilFunc .nilFunc).run Try.prog w = .ok (.bool false) w := by
  have h : ∀ d : Nat, (Op.equalIn (d + 1) 1 .nilFunc .nilFunc).run Try.prog w = .ok true w := fun d => by
    simp [Op.equalIn, run_underlying und1]
  simp only [binOp]
  simp [Op.equal, Op.maxDepth, h 9999]
theorem neq_func (w : World) (a : Fn) (b c : Array Value) : (binOp .neq 1 (.func a b c) .nilFunc).run Try.prog w = .ok (.bool true) w := by
  have h : ∀ d : Nat, (Op.equalIn (d + 1) 1 (.func a b c) .nilFunc).run Try.prog w = .ok false w := fun d => by
    simp [Op.equalIn, run_underlying und1]
  simp only [binOp]
  simp [Op.equal, Op.maxDepth, h 9999]

def MkPost (f : Sl → List UInt8) (K : Sl → Prop) (B eb : Nat) (Te Tw : Tr) (st : Option Nat) (w : World) (e : Ending) (w' : World) : Prop :=
  e = .returned (.tuple #[]) ∧ ∃ Te', Ok f K B w' eb Te' ∧ Te'.es = mkAll f Te.es Tw.es ∧ Fr (fun k => Te.own eb k ∨ st = some k) w w' ∧ (∀ k, Te'.own eb k → Te.own eb k ∨ w.heap.size ≤ k) ∧ (∀ sb, st = some sb → w'.heap[sb]? = some (.cells #[.int .i64 Tw.es.length] 3 (0, 0)) ∧ ¬ Te'.own eb sb)

set_option maxHeartbeats 1000000 in
theorem clo55 (sb q : Nat) (w : World) (h : w.heap[sb]? = some (.cells #[.int .i64 q] 3 (0, 0))) (hq : q ≤ 100000) :
    Calls Try.prog 55 #[.pointer (some ⟨sb, 0, none⟩)] w fun e w' => e = .returned (.tuple #[]) ∧ Fr (fun k => k = sb) w w' ∧ w'.heap[sb]? = some (.cells #[.int .i64 ((q + 1 : Nat) : Int)] 3 (0, 0)) := by
  have c0 := (var_cell h).1; have f0 := (var_cell h).2
  have H := hide h
  clear h
  go_enter Try.func55, Try.ntmps55
  go_wp2_with fail
  go_end0
  refine ⟨rfl, (Fr.refl _ w).setCell ⟨sb, 0, none⟩ _ (fun _ => rfl), ?_⟩
  have := var_set (unhide H) (.int .i64 ((q : Int) + 1))
  rw [show (((q + 1 : Nat) : Int)) = (q : Int) + 1 from by omega]
  exact this

set_option maxRecDepth 20000 in
set_option maxHeartbeats 4000000 in
theorem makeOn_nil (f : Sl → List UInt8) (K : Sl → Prop) (B eb wb : Nat) (Te Tw : Tr) (w : World) (hall : Calls Try.prog 48 #[.pointer (some ⟨wb, 0, none⟩)] w (CurNew w Tw)) (hE : Ok f K B w eb Te) (hk : KOK f K B w) (hm : ∀ s, K s → s.n ≤ maxLen)
    (hr : Rd w Tw) (hKW : ∀ e ∈ Tw.es, K e.1) (hdis : ∀ k, Te.own eb k → ¬ Tw.blk k ∧ (none : Option Nat) ≠ some k) (hsep : ∀ k, (none : Option Nat) = some k → ¬ Tw.blk k ∧ B ≤ k ∧ k < w.heap.size) (hcnt : ∀ c : Nat, (none : Option Nat) = some c → w.heap[c]? = some (.cells #[.int .i64 0] 3 (0, 0)))
    (hn : Te.es.length + Tw.es.length ≤ 7000) :
    Calls Try.prog 32 #[.pointer (some ⟨wb, 0, none⟩), .pointer (some ⟨eb, 0, none⟩), .nilFunc] w (MkPost f K B eb Te Tw none w) := by
  have hq1 := neq_nilfunc; have hq2 := neq_func
  have HALL := hide hall; have HM := hide hm; have HKW := hide hKW
  have HST := hide (fun (cb g : Nat) (w1 : World) => MJ.start (cb := cb) (g := g) (w1 := w1) hE hk hr hdis hsep hcnt)
  clear hall hE hk hm hr hKW hdis hsep hcnt
  go_enter Try.func32, Try.ntmps32
  go_wp2_with fail
  refine (unhide HALL).mono ?_
  rintro e W1 ⟨cb, g0, rfl, hcb, hg0, hF1, hC1⟩
  obtain ⟨g, HJ1⟩ : ∃ g, Hid (MJ f K B w eb Te Tw cb g none W1 Te 0 0) := by
    rcases hC1.glt with hc | hg
    · exact ⟨cb, hide ((unhide HST) cb cb W1 hcb hcb hF1 hc hC1.lt)⟩
    · exact ⟨g0, hide ((unhide HST) cb g0 W1 hcb hg0 hF1 hC1 hg)⟩
  clear hC1 hF1 hcb hg0 HST HALL
  go_wp2_with fail
  go_loopg [7] Tw.es.length (fun gk v7 wr => ∃ (p : Nat) (T : Tr), gk + p = Tw.es.length ∧ Hid (MJ f K B w eb Te Tw cb g none wr T p 0))
  case atStart => exact ⟨0, Te, rfl, HJ1⟩
  case round =>
    obtain ⟨p, T, hgp, HJ⟩ := hrel
    have HV := hide (valid_at (unhide HJ).cur)
    by_cases hlt : p < Tw.es.length
    · rw [decide_eq_true hlt] at HV
      go_wp2_with fail
      refine (unhide HV).mono ?_
      rintro e w2 ⟨rfl, m2, hw2⟩
      have HJ2 := hide ((unhide HJ).keep (w' := w2) (by rw [hw2]; exact (Fr.refl _ wr).drewN m2))
      clear hw2 HJ HV

      have HVA := hide (value_at (unhide HJ2).cur (unhide HJ2).rd hlt)
      obtain ⟨s, hs⟩ : ∃ s, s = Tw.es[p].1 := ⟨_, rfl⟩
      cases hx : Tw.es[p].2 with
      | none =>
        rw [hx] at HVA
        have HX := hide hx; have HS := hide hs
        clear hx hs
        go_wp2_with fail
        refine (unhide HVA).mono ?_
        rintro e w3 ⟨rfl, hF3⟩
        have HJ3 := hide ((unhide HJ2).keep hF3)
        have HKY := hide (key_at (unhide HJ3).cur (unhide HJ3).rd hlt)
        rw [← unhide HS] at HKY
        clear hF3 HJ2 HVA
        go_wp2_with fail
        refine (unhide HKY).mono ?_
        rintro e w4 ⟨rfl, hF4⟩
        have HJ4 := hide ((unhide HJ3).keep hF4)
        have hKs : K s := by rw [unhide HS]; exact (unhide HKW) _ (List.getElem_mem hlt)
        have hlen : T.es.length ≤ 7000 := by rw [(unhide HJ4).es]; have := length_mkAll (f := f) (Tw.es.take p) Te.es; rw [List.length_take] at this; omega
        have HDL := hide (Delete_any f K B eb T s w4 (unhide HJ4).ok (unhide HJ4).kok (unhide HM) hlen hKs)
        clear hF4 HJ3 HKY hKs hlen
        go_wp2_with fail
        refine (unhide HDL).mono ?_
        intro e w5 hp5
        rw [unhide HS] at hp5
        obtain ⟨⟨b, rfl⟩, T5, h5⟩ := (unhide HJ4).del hlt (unhide HX) hp5
        have HJ5 := hide h5
        have HNX := hide (next_at h5.cur h5.rd h5.ap hlt)
        clear h5 hp5 HJ4 HDL
        go_wp2_with fail
        refine (unhide HNX).mono ?_
        rintro e w6 ⟨rfl, hF6, hC6⟩
        have HJ6 := hide ((unhide HJ5).next hF6 hC6)
        clear hF6 hC6 HJ5 HNX
        go_wp2_with fail
        go_roundg (gk - 1)
        case measure => omega
        case rel => exact ⟨p + 1, T5, by omega, HJ6⟩
      | some x =>
        rw [hx] at HVA
        have HX := hide hx; have HS := hide hs
        clear hx hs
        go_wp2_with fail
        refine (unhide HVA).mono ?_
        rintro e w3 ⟨rfl, hF3⟩
        have HJ3 := hide ((unhide HJ2).keep hF3)
        have HKY := hide (key_at (unhide HJ3).cur (unhide HJ3).rd hlt)
        rw [← unhide HS] at HKY
        clear hF3 HJ2 HVA
        go_wp2_with fail
        refine (unhide HKY).mono ?_
        rintro e w4 ⟨rfl, hF4⟩
        have HJ4 := hide ((unhide HJ3).keep hF4)
        have hKs : K s := by rw [unhide HS]; exact (unhide HKW) _ (List.getElem_mem hlt)
        have hlen : T.es.length ≤ 7000 := by rw [(unhide HJ4).es]; have := length_mkAll (f := f) (Tw.es.take p) Te.es; rw [List.length_take] at this; omega
        have HDL := hide (set_any f K B eb s (some x) w4 T (unhide HJ4).ok (unhide HJ4).kok (unhide HM) hKs hlen)
        clear hF4 HJ3 HKY hKs hlen
        go_wp2_with fail
        refine (unhide HDL).mono ?_
        intro e w5 hp5
        rw [unhide HS] at hp5
        obtain ⟨⟨v1, v2, rfl⟩, T5, h5⟩ := (unhide HJ4).set hlt (unhide HX) hp5
        have HJ5 := hide h5
        have HNX := hide (next_at h5.cur h5.rd h5.ap hlt)
        clear h5 hp5 HJ4 HDL
        go_wp2_with fail
        refine (unhide HNX).mono ?_
        rintro e w6 ⟨rfl, hF6, hC6⟩
        have HJ6 := hide ((unhide HJ5).next hF6 hC6)
        clear hF6 hC6 HJ5 HNX
        go_wp2_with fail
        go_roundg (gk - 1)
        case measure => omega
        case rel => exact ⟨p + 1, T5, by omega, HJ6⟩
    · rw [decide_eq_false hlt] at HV
      have hpn : p = Tw.es.length := by omega
      have HPN := hide hpn
      clear hpn hgp
      go_wp2_with fail
      refine (unhide HV).mono ?_
      rintro e w2 ⟨rfl, m2, hw2⟩
      have HJ2 := hide ((unhide HJ).keep (w' := w2) (by rw [hw2]; exact (Fr.refl _ wr).drewN m2))
      clear hw2 HJ HV
      go_wp2_with fail
      go_end0
      have J := unhide HJ2
      have hes := J.es
      rw [unhide HPN, List.take_of_length_le (Nat.le_refl _)] at hes
      exact ⟨rfl, T, J.ok, hes, J.fr, J.own, fun sb hs => (nomatch hs)⟩

set_option maxRecDepth 20000 in
set_option maxHeartbeats 4000000 in
theorem makeOn_cnt (f : Sl → List UInt8) (K : Sl → Prop) (B eb wb sb : Nat) (Te Tw : Tr) (w : World) (hall : Calls Try.prog 48 #[.pointer (some ⟨wb, 0, none⟩)] w (CurNew w Tw)) (hE : Ok f K B w eb Te) (hk : KOK f K B w) (hm : ∀ s, K s → s.n ≤ maxLen)
    (hr : Rd w Tw) (hKW : ∀ e ∈ Tw.es, K e.1) (hdis : ∀ k, Te.own eb k → ¬ Tw.blk k ∧ (some sb) ≠ some k) (hsep : ∀ k, (some sb) = some k → ¬ Tw.blk k ∧ B ≤ k ∧ k < w.heap.size) (hcnt : ∀ c : Nat, (some sb) = some c → w.heap[c]? = some (.cells #[.int .i64 0] 3 (0, 0)))
    (hn : Te.es.length + Tw.es.length ≤ 7000) :
    Calls Try.prog 32 #[.pointer (some ⟨wb, 0, none⟩), .pointer (some ⟨eb, 0, none⟩), .func (.func 55) #[] #[.pointer (some ⟨sb, 0, none⟩)]] w (MkPost f K B eb Te Tw (some sb) w) := by
  have hq1 := neq_nilfunc; have hq2 := neq_func
  have HALL := hide hall; have HM := hide hm; have HKW := hide hKW
  have HST := hide (fun (cb g : Nat) (w1 : World) => MJ.start (cb := cb) (g := g) (w1 := w1) hE hk hr hdis hsep hcnt)
  clear hall hE hk hm hr hKW hdis hsep hcnt
  go_enter Try.func32, Try.ntmps32
  go_wp2_with fail
  refine (unhide HALL).mono ?_
  rintro e W1 ⟨cb, g0, rfl, hcb, hg0, hF1, hC1⟩
  obtain ⟨g, HJ1⟩ : ∃ g, Hid (MJ f K B w eb Te Tw cb g (some sb) W1 Te 0 0) := by
    rcases hC1.glt with hc | hg
    · exact ⟨cb, hide ((unhide HST) cb cb W1 hcb hcb hF1 hc hC1.lt)⟩
    · exact ⟨g0, hide ((unhide HST) cb g0 W1 hcb hg0 hF1 hC1 hg)⟩
  clear hC1 hF1 hcb hg0 HST HALL
  go_wp2_with fail
  go_loopg [7] Tw.es.length (fun gk v7 wr => ∃ (p : Nat) (T : Tr), gk + p = Tw.es.length ∧ Hid (MJ f K B w eb Te Tw cb g (some sb) wr T p p))
  case atStart => exact ⟨0, Te, rfl, HJ1⟩
  case round =>
    obtain ⟨p, T, hgp, HJ⟩ := hrel
    have HV := hide (valid_at (unhide HJ).cur)
    by_cases hlt : p < Tw.es.length
    · rw [decide_eq_true hlt] at HV
      go_wp2_with fail
      refine (unhide HV).mono ?_
      rintro e w2 ⟨rfl, m2, hw2⟩
      have HJ2 := hide ((unhide HJ).keep (w' := w2) (by rw [hw2]; exact (Fr.refl _ wr).drewN m2))
      clear hw2 HJ HV
      have HCL := hide (clo55 sb p w2 ((unhide HJ2).cnt sb rfl) (by omega))
      go_wp2_with fail
      refine (unhide HCL).mono ?_
      rintro e w3 ⟨rfl, hF3, hC3⟩
      have HJ3 := hide ((unhide HJ2).bump rfl hF3 hC3)
      clear hF3 hC3 HJ2 HCL
      have HJ2 := HJ3
      clear HJ3
      have HVA := hide (value_at (unhide HJ2).cur (unhide HJ2).rd hlt)
      obtain ⟨s, hs⟩ : ∃ s, s = Tw.es[p].1 := ⟨_, rfl⟩
      cases hx : Tw.es[p].2 with
      | none =>
        rw [hx] at HVA
        have HX := hide hx; have HS := hide hs
        clear hx hs
        go_wp2_with fail
        refine (unhide HVA).mono ?_
        rintro e w3 ⟨rfl, hF3⟩
        have HJ3 := hide ((unhide HJ2).keep hF3)
        have HKY := hide (key_at (unhide HJ3).cur (unhide HJ3).rd hlt)
        rw [← unhide HS] at HKY
        clear hF3 HJ2 HVA
        go_wp2_with fail
        refine (unhide HKY).mono ?_
        rintro e w4 ⟨rfl, hF4⟩
        have HJ4 := hide ((unhide HJ3).keep hF4)
        have hKs : K s := by rw [unhide HS]; exact (unhide HKW) _ (List.getElem_mem hlt)
        have hlen : T.es.length ≤ 7000 := by rw [(unhide HJ4).es]; have := length_mkAll (f := f) (Tw.es.take p) Te.es; rw [List.length_take] at this; omega
        have HDL := hide (Delete_any f K B eb T s w4 (unhide HJ4).ok (unhide HJ4).kok (unhide HM) hlen hKs)
        clear hF4 HJ3 HKY hKs hlen
        go_wp2_with fail
        refine (unhide HDL).mono ?_
        intro e w5 hp5
        rw [unhide HS] at hp5
        obtain ⟨⟨b, rfl⟩, T5, h5⟩ := (unhide HJ4).del hlt (unhide HX) hp5
        have HJ5 := hide h5
        have HNX := hide (next_at h5.cur h5.rd h5.ap hlt)
        clear h5 hp5 HJ4 HDL
        go_wp2_with fail
        refine (unhide HNX).mono ?_
        rintro e w6 ⟨rfl, hF6, hC6⟩
        have HJ6 := hide ((unhide HJ5).next hF6 hC6)
        clear hF6 hC6 HJ5 HNX
        go_wp2_with fail
        go_roundg (gk - 1)
        case measure => omega
        case rel => exact ⟨p + 1, T5, by omega, HJ6⟩
      | some x =>
        rw [hx] at HVA
        have HX := hide hx; have HS := hide hs
        clear hx hs
        go_wp2_with fail
        refine (unhide HVA).mono ?_
        rintro e w3 ⟨rfl, hF3⟩
        have HJ3 := hide ((unhide HJ2).keep hF3)
        have HKY := hide (key_at (unhide HJ3).cur (unhide HJ3).rd hlt)
        rw [← unhide HS] at HKY
        clear hF3 HJ2 HVA
        go_wp2_with fail
        refine (unhide HKY).mono ?_
        rintro e w4 ⟨rfl, hF4⟩
        have HJ4 := hide ((unhide HJ3).keep hF4)
        have hKs : K s := by rw [unhide HS]; exact (unhide HKW) _ (List.getElem_mem hlt)
        have hlen : T.es.length ≤ 7000 := by rw [(unhide HJ4).es]; have := length_mkAll (f := f) (Tw.es.take p) Te.es; rw [List.length_take] at this; omega
        have HDL := hide (set_any f K B eb s (some x) w4 T (unhide HJ4).ok (unhide HJ4).kok (unhide HM) hKs hlen)
        clear hF4 HJ3 HKY hKs hlen
        go_wp2_with fail
        refine (unhide HDL).mono ?_
        intro e w5 hp5
        rw [unhide HS] at hp5
        obtain ⟨⟨v1, v2, rfl⟩, T5, h5⟩ := (unhide HJ4).set hlt (unhide HX) hp5
        have HJ5 := hide h5
        have HNX := hide (next_at h5.cur h5.rd h5.ap hlt)
        clear h5 hp5 HJ4 HDL
        go_wp2_with fail
        refine (unhide HNX).mono ?_
        rintro e w6 ⟨rfl, hF6, hC6⟩
        have HJ6 := hide ((unhide HJ5).next hF6 hC6)
        clear hF6 hC6 HJ5 HNX
        go_wp2_with fail
        go_roundg (gk - 1)
        case measure => omega
        case rel => exact ⟨p + 1, T5, by omega, HJ6⟩
    · rw [decide_eq_false hlt] at HV
      have hpn : p = Tw.es.length := by omega
      have HPN := hide hpn
      clear hpn hgp
      go_wp2_with fail
      refine (unhide HV).mono ?_
      rintro e w2 ⟨rfl, m2, hw2⟩
      have HJ2 := hide ((unhide HJ).keep (w' := w2) (by rw [hw2]; exact (Fr.refl _ wr).drewN m2))
      clear hw2 HJ HV
      go_wp2_with fail
      go_end0
      have J := unhide HJ2
      have hes := J.es
      rw [unhide HPN, List.take_of_length_le (Nat.le_refl _)] at hes
      exact ⟨rfl, T, J.ok, hes, J.fr, J.own, fun sb hs => ⟨by cases hs; rw [← unhide HPN]; exact J.cnt sb rfl, fun ho => (J.dis sb ho).2.2.2 hs⟩⟩

end Go.Proofs.Qxb6615626a.BV
