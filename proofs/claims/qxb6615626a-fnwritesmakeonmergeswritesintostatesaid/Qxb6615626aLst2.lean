/-
  zzLast, and where its slice lies.
-/
import Derived.Test.Qxb6615626aVers
namespace Go.Proofs.Qxb6615626a
open Go.RowKit
set_option linter.unusedVariables false

def LastPost2 (n : Nat) (lk : List (List UInt8)) (w : World) (e : Ending) (w' : World) : Prop :=
  e = .returned (.slice (some ⟨w.heap.size, 0, none⟩) n n) ∧ VL w' ⟨some ⟨w.heap.size, 0, none⟩, n, n⟩ ((lastB lk).map Value.bool) ∧ Fr (fun _ => False) w w' ∧ w.heap.size < w'.heap.size

theorem VL.one {F : Nat → Prop} {w w' : World} {b n c : Nat} {xs : List Value} (h : VL w ⟨some ⟨b, 0, none⟩, n, c⟩ xs) (hf : Fr F w w') (hn : ¬ F b) : VL w' ⟨some ⟨b, 0, none⟩, n, c⟩ xs :=
  ⟨h.1, h.2.1, fun a ha i hi => by
    have := h.2.2 a ha i hi
    cases ha
    exact ⟨this.1, (hf.cell (p := ⟨b, 0 + i, none⟩) (World.block_lt_of_cell? w _ this.2) hn).trans this.2⟩⟩

set_option maxRecDepth 20000 in
set_option maxHeartbeats 4000000 in
theorem zzLast2_any (k : Sl) (ks : List Sl) (lk : List (List UInt8)) (w : World) (h : LstB w k ks lk) (hn : k.n ≤ 1048576) :
    Calls Try.prog 22 #[k.v] w (LastPost2 k.n lk w) := by
  obtain ⟨ka, n, kc⟩ := k
  change Calls Try.prog 22 #[.slice ka n kc] w (LastPost2 n lk w)
  simp only at hn
  have hlk : lk.length = n := h.n_eq
  obtain ⟨i0, hin, hz0, hz1, hz2⟩ := info_parts info4
  have hmk := run_make (P := Try.prog) w 35 4 i0 (.bool false) Try.underlying35 hin hz0 .i64 .i64 (n : Int) (n : Int) (by omega) (by omega) (by rw [hz2]; omega) (by omega)
  have e1 : ((n : Int)).toNat = n := by omega
  rw [e1, hz1, Nat.mul_one, show Value.cells (.bool false) = #[.bool false] from rfl] at hmk
  clear e1 hin hz0 hz1 hz2
  have hR0 : Row (w.alloc (.cells (madeCells #[.bool false] n) 4)) w.heap.size 4 1 n n (bpart [] n) :=
    Row.new w _ 4 1 n n _ (by rw [length_bpart _ _ (Nat.zero_le _)]; simp) (Nat.le_refl _) (by unfold maxLen; omega) (by rw [size_madeCells]; simp) (by rw [toList_madeCells_one]; unfold bpart; simp)
  have HR0 := hide hR0; have H := hide h.weak; have HLK := hide hlk
  clear hR0 h hlk
  generalize madeCells #[.bool false] n = made at *
  go_enter Try.func22, Try.ntmps22
  go_wp2_with fail
  go_loopw [4] (fun i wr => ∃ k : Nat, k ≤ n ∧ i = .int .i64 k ∧ Hid (Row wr w.heap.size 4 1 n n (bpart ((lastB lk).take k) n) ∧ Fr (fun _ => False) w wr)) (fun i _ => n - (intOf i).toNat)
  case atStart => exact ⟨0, Nat.zero_le _, rfl, hide ⟨unhide HR0, (Fr.refl _ w).alloc _⟩⟩
  case round =>
    obtain ⟨k, hk, rfl, HR⟩ := hrel
    have hbl : Hid (((lastB lk).take k).length = k) := hide (by rw [List.length_take, length_lastB, unhide HLK]; omega)
    by_cases hlt : k < n
    · obtain ⟨b, o, t, lt, rfl, hc, ht, hlt', hbt, hmt⟩ := (unhide H).at hlt
      obtain ⟨b0, hb0⟩ := bpart_at ((lastB lk).take k) n (by rw [unhide hbl]; exact hlt)
      rw [unhide hbl] at hb0
      have x2 : wr.cell? ⟨w.heap.size, k, none⟩ = some (.bool b0) := (unhide HR).1.cell? hb0
      have x3 := (unhide HR).1.frozen k
      have HC := hide hc; have HLT := hide hlt'; have HBT := hide hbt; have HMT := hide hmt
      clear hc ht hlt' hbt hmt hb0
      go_wp2_with fail
      obtain ⟨W1, hW1⟩ : ∃ W, W = wr.setCell ⟨w.heap.size, k, none⟩ (.bool true) := ⟨_, rfl⟩
      rw [← hW1]
      have R1 : Row W1 w.heap.size 4 1 n n (bpart ((lastB lk).take k ++ [true]) n) := by
        rw [hW1]
        have := (unhide HR).1.setCell (j := k) (by rw [length_bpart _ _ (by rw [unhide hbl]; omega)]; exact hlt) (.bool true)
        have e := bpart_set ((lastB lk).take k) n (by rw [unhide hbl]; exact hlt) true
        rw [unhide hbl] at e
        rw [e] at this
        exact this
      have F1 : Fr (fun _ => False) w W1 := by rw [hW1]; exact (unhide HR).2.setCell ⟨w.heap.size, k, none⟩ _ (fun h => by simp at h)
      have HR1 := hide (⟨R1, F1⟩ : Row W1 w.heap.size 4 1 n n (bpart ((lastB lk).take k ++ [true]) n) ∧ Fr (fun _ => False) w W1)
      clear hW1 R1 F1 x2 x3
      go_loopw [5] (fun i2 wr2 => ∃ (j : Nat) (bb : Bool), k + 1 ≤ j ∧ j ≤ n ∧ i2 = .int .i64 j ∧ Hid (bb = !((lk.drop (k + 1)).take (j - (k + 1))).any (· == lt)) ∧ Hid (Row wr2 w.heap.size 4 1 n n (bpart ((lastB lk).take k ++ [bb]) n) ∧ Fr (fun _ => False) w wr2)) (fun i2 _ => n - (intOf i2).toNat)
      case atStart => exact ⟨k + 1, true, Nat.le_refl _, hlt, by first | rfl | go_num, hide (by simp), HR1⟩
      case round =>
        obtain ⟨j, bb, hj0, hj, rfl, HBB, HR2⟩ := hrel
        by_cases hjl : j < n
        · obtain ⟨t2, lt2, f1, f2, f3, f4, f5⟩ := (unhide H).at' hjl
          have q1 : wr.cell? ⟨b, o + j, none⟩ = some (.slice t2.a t2.n t2.c) := ((unhide HR2).2.cell (p := ⟨b, o + j, none⟩) (World.block_lt_of_cell? w _ f1) (fun e => e)).trans f1
          have q2 : wr.cell? ⟨b, o + k, none⟩ = some (.slice t.a t.n t.c) := ((unhide HR2).2.cell (p := ⟨b, o + k, none⟩) (World.block_lt_of_cell? w _ (unhide HC)) (fun e => e)).trans (unhide HC)
          have hat := bpart_at2 ((lastB lk).take k) n (by rw [unhide hbl]; exact hlt) bb
          rw [unhide hbl] at hat
          have q3 : wr.cell? ⟨w.heap.size, k, none⟩ = some (.bool bb) := (unhide HR2).1.cell? hat
          have q4 := (unhide HR2).1.frozen k
          obtain ⟨c, hc⟩ : ∃ c, c = Pl.cmp lt2 lt := ⟨_, rfl⟩
          have HA := hide (cmpW wr t2 t lt2 lt (f4.frame (unhide HR2).2) ((unhide HBT).frame (unhide HR2).2) f5 (unhide HMT)).drew
          rw [← hc] at HA
          have hstep : ((lk.drop (k + 1)).take (j + 1 - (k + 1))).any (· == lt) = (((lk.drop (k + 1)).take (j - (k + 1))).any (· == lt) || decide (c = 0)) := by
            have hd : (lk.drop (k + 1))[j - (k + 1)]? = some lt2 := by rw [List.getElem?_drop, ← f3]; congr 1; omega
            obtain ⟨h1, h2⟩ := List.getElem?_eq_some_iff.1 hd
            rw [show j + 1 - (k + 1) = (j - (k + 1)) + 1 from by omega, List.take_succ_eq_append_getElem h1, List.any_append, h2]
            congr 1
            simp only [List.any_cons, List.any_nil, Bool.or_false]
            rw [hc, Bool.eq_iff_iff, beq_iff_eq, decide_eq_true_iff]
            exact (Pl.cmp_zero_iff _ _).symm
          have HSTEP := hide hstep
          clear f1 f2 f3 f4 f5 hat hc hstep
          by_cases hz : c = 0
          · subst hz
            go_wp2_with fail
            go_quiet ((go_at_call 16; with_reducible exact Calls.quiet_of (unhide HA _)))
            go_wp2_with fail
            go_roundw
            case rel =>
              refine ⟨j + 1, false, by omega, by omega, by go_num, hide (by rw [unhide HSTEP]; simp), hide ⟨?_, ((unhide HR2).2.setCell ⟨w.heap.size, k, none⟩ _ (fun h => by simp at h)).drewN _⟩⟩
              have := (unhide HR2).1.setCell (j := k) (by rw [length_bpart _ _ (by simp [unhide hbl]; omega)]; exact hlt) (.bool false)
              have e := bpart_again ((lastB lk).take k) n (by rw [unhide hbl]; exact hlt) bb false
              rw [unhide hbl] at e
              rw [e] at this
              exact this
            case measure => simp [intOf]; omega
          · have hzb : (c == 0) = false := by rw [beq_eq_false_iff_ne]; exact hz
            have HZ := hide hz
            clear hz
            go_wp2_with fail
            go_quiet ((go_at_call 16; with_reducible exact Calls.quiet_of (unhide HA _)))
            go_wp2_with fail
            go_roundw
            case rel => exact ⟨j + 1, bb, by omega, by omega, by go_num, hide (by rw [unhide HSTEP, decide_eq_false (unhide HZ), Bool.or_false]; exact unhide HBB), hide ⟨(unhide HR2).1, (unhide HR2).2.drewN _⟩⟩
            case measure => simp [intOf]; omega
        · go_wp2_with fail
          go_roundw
          case rel =>
            refine ⟨k + 1, by omega, by go_num, hide ⟨?_, (unhide HR2).2⟩⟩
            have hj2 : j = n := by omega
            have e : (lastB lk).take (k + 1) = (lastB lk).take k ++ [bb] := by
              obtain ⟨h1, h2⟩ := List.getElem?_eq_some_iff.1 (unhide HLT)
              have h3 := lastB_at lk k h1
              obtain ⟨h4, h5⟩ := List.getElem?_eq_some_iff.1 h3
              rw [List.take_succ_eq_append_getElem h4, h5, h2, unhide HBB, hj2]
              congr 3
              rw [List.take_of_length_le (by rw [List.length_drop, unhide HLK]; omega)]
            rw [e]
            exact (unhide HR2).1
          case measure => simp [intOf]; omega
    · go_wp2_with fail
      go_ret
      have hkn : k = n := by omega
      have hr := (unhide HR).1
      have he : (lastB lk).take k = lastB lk := List.take_of_length_le (by rw [length_lastB, unhide HLK]; omega)
      rw [he, bpart_all _ n (by rw [length_lastB, unhide HLK])] at hr
      exact ⟨rfl, VL.row hr, (unhide HR).2, hr.lt⟩

end Go.Proofs.Qxb6615626a
