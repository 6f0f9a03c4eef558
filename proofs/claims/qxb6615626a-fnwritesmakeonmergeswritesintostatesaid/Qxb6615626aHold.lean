/-
  zzHolds.
-/
import Derived.Test.Qxb6615626aMst
namespace Go.Proofs.Qxb6615626a.BV
open Go.RowKit
set_option linter.unusedVariables false

structure SH (f : Sl → List UInt8) (K : Sl → Prop) (B eb : Nat) (T : Tr) (k : Sl) (oks : List Sl) (p : Sl) (ovs : List (Option Addr)) (w0 wr : World) : Prop where
  ok : Ok f K B wr eb T
  kok : KOK f K B wr
  kl : Lst wr k oks
  vl : VL wr p (ovs.map Value.pointer)
  fr : Fr (fun _ => False) w0 wr

theorem SH.keep {f : Sl → List UInt8} {K : Sl → Prop} {B eb : Nat} {T : Tr} {k : Sl} {oks : List Sl} {p : Sl} {ovs : List (Option Addr)} {w0 wr w' : World} (h : SH f K B eb T k oks p ovs w0 wr) (hf : Fr (fun _ => False) wr w') : SH f K B eb T k oks p ovs w0 w' :=
  ⟨h.ok.fr hf (fun _ _ e => e), h.kok.fr hf (fun _ _ e => e), h.kl.frame hf, h.vl.frame hf, h.fr.trans hf (fun _ _ e => e)⟩

set_option maxRecDepth 20000 in
set_option maxHeartbeats 4000000 in
theorem zzHolds_any (w1 : World) (K : Sl → Prop) (B eb n : Nat) (T : Tr) (k v : Sl) (oks : List Sl) (ovs : List (Option Addr)) (w : World) (h : Ok (rdf w1) K B w eb T) (hk : KOK (rdf w1) K B w) (hm : ∀ s, K s → s.n ≤ maxLen) (hn : T.es.length = n) (hnn : n ≤ 7000) (hkn : k.n = n) (hvn : v.n = n) (kl : Lst w k oks) (vl : VL w v (ovs.map Value.pointer))
    (hat : ∀ (i : Nat) (s : Sl) (x : Option Addr), T.es[i]? = some (s, x) → ∃ o, oks[i]? = some o ∧ rdf w1 o = rdf w1 s ∧ K o ∧ ovs[i]? = some x) :
    Calls Try.prog 34 #[.pointer (some ⟨eb, 0, none⟩), k.v, v.v] w (YesPost w) := by
  obtain ⟨ka, kn, kc⟩ := k
  obtain ⟨va, vn, vc⟩ := v
  simp only at hkn hvn
  subst hkn
  subst hvn
  simp only [Sl.v]
  have HE1 := hide (efirst_nth (rdf w1) K B eb T w h hk (by omega) (rdf_nil w1))
  have HJ0 := hide (show SH (rdf w1) K B eb T ⟨ka, vn, kc⟩ oks ⟨va, vn, vc⟩ ovs w w from ⟨h, hk, kl, vl, Fr.refl _ w⟩)
  have HN := hide hn; have HM := hide hm; have HAT := hide hat
  clear h hk hm hn kl vl hat
  go_enter Try.func34, Try.ntmps34
  go_wp2_with fail
  refine (unhide HE1).mono ?_
  rintro e W1 ⟨s1, x1, rfl, t1, t2⟩
  have HJ1 := hide ((unhide HJ0).keep t2)
  have HS1 := hide t1
  rw [unhide HN]
  clear t1 t2 HJ0 HE1
  go_wp2_with fail
  go_loopw [7, 8, 9, 10] (fun v7 v8 v9 v10 wr => ∃ (i : Nat) (s : Sl) (x : Option Addr) (b : Bool), i ≤ vn ∧ v10 = .int .i64 i ∧ v7 = .slice s.a s.n s.c ∧ v8 = .pointer x ∧ v9 = .bool b ∧ Hid (b = decide (i < vn)) ∧ Hid (i < vn → T.es[i]? = some (s, x)) ∧ Hid (SH (rdf w1) K B eb T ⟨ka, vn, kc⟩ oks ⟨va, vn, vc⟩ ovs w wr)) (fun _ _ _ v _ => vn - (intOf v).toNat)
  case atStart => exact ⟨0, s1, x1, decide (0 < vn), Nat.zero_le _, rfl, rfl, rfl, rfl, hide rfl, hide (fun h => (unhide HS1) (by rw [unhide HN]; exact h)), HJ1⟩
  case round =>
    obtain ⟨i, s, x, b, hi, rfl, rfl, rfl, rfl, HBD, HSX, HJ⟩ := hrel
    by_cases hin : i < vn
    · have hb : b = true := by rw [unhide HBD]; exact decide_eq_true hin
      subst hb
      have p1 := (unhide HSX) hin
      obtain ⟨o, q1, q2, q3, q4⟩ := (unhide HAT) i s x p1
      obtain ⟨b1, o1, y, rfl, hc1, k1⟩ := (unhide HJ).kl.at hin
      obtain ⟨b2, o2, u, rfl, hc2, k2⟩ := (unhide HJ).vl.at hin
      have hyo : y = o := by rw [q1] at k1; exact (Option.some.inj k1).symm
      subst hyo
      have hux : u = .pointer x := by rw [List.getElem?_map, q4] at k2; exact (Option.some.inj k2).symm
      subst hux
      have K1 : K s := Ok.keys (unhide HJ).ok (s, x) (List.mem_of_getElem? p1)
      have HA := hide (Good.cmp (w1 := w1) (W := wr) (x := s) (y := y) ⟨((unhide HJ).kok s K1).1, (unhide HM) s K1⟩ ⟨((unhide HJ).kok y q3).1, (unhide HM) y q3⟩)
      rw [q2, Pl.cmp_self] at HA
      have hneq := neq_same x
      have HP1 := hide p1
      clear p1 q1 q2 q3 q4 k1 k2 K1
      go_wp2_with (go_at_call 16; refine (unhide HA _ rfl).mono ?_; rintro e w2 ⟨rfl, m2, hw2⟩)
      have HJ4 := hide ((unhide HJ).keep (w' := wr.drewN m2) ((Fr.refl _ wr).drewN m2))
      have HE1 := hide (eafter_nth (rdf w1) K B eb T (wr.drewN m2) (unhide HJ4).ok (unhide HJ4).kok (by rw [unhide HN]; omega) i s x (unhide HP1))
      refine (unhide HE1).mono ?_
      rintro e W16 ⟨s3, x3, rfl, t1, t2⟩
      have HJ5 := hide ((unhide HJ4).keep t2)
      have HS3 := hide t1
      rw [unhide HN]
      clear t1 t2 HJ4 HE1 HJ
      go_wp2_with fail
      go_roundw
      case rel => exact ⟨i + 1, s3, x3, decide (i + 1 < vn), by omega, by go_num, rfl, rfl, rfl, hide rfl, hide (fun h => (unhide HS3) (by rw [unhide HN]; exact h)), HJ5⟩
      case measure => simp [intOf]; omega
    · have hb : b = false := by rw [unhide HBD]; exact decide_eq_false hin
      subst hb
      go_wp2_with fail
      go_ret
      exact ⟨rfl, (unhide HJ).fr⟩
end Go.Proofs.Qxb6615626a.BV
