/-
  insertAt, clone, withRoom at each element type of this program.
-/
import Derived.Test.Qxb6615626aRow
import Derived.RegionTactic
import Derived.Deep.QuietTactic
import Derived.BigQuiet
namespace Go.Proofs.Qxb6615626a
open Go.RowKit
set_option linter.unusedVariables false

set_option maxHeartbeats 1000000 in
theorem insertAt93 (g cap i : Nat) (xs : List Value) (x : Sl) (w : World) (hn : xs.length ≤ 100000) (hi : i ≤ xs.length)
    (hrow : Row w g 23 1 xs.length cap xs) (h1 : One xs) :
    Calls Try.prog 93 #[.slice (some ⟨g, 0, none⟩) xs.length cap, .int .i64 i, (.slice x.a x.n x.c)] w fun e w' => ∃ g' cap', e = .returned (.slice (some ⟨g', 0, none⟩) (xs.length + 1) cap') ∧
      Row w' g' 23 1 (xs.length + 1) cap' (xs.take i ++ (.slice x.a x.n x.c) :: xs.drop i) ∧ Fr (· = g) w w' ∧ (g' = g ∨ w.heap.size ≤ g') := by
  obtain ⟨i0, hin, hz0, hz1, hz2⟩ := info_parts info23
  have HR := hide hrow
  clear hrow
  go_enter Try.func93, Try.ntmps93
  go_wp2_with (at_builtin; refine wpList_append_row rfl _ _ 22 rfl 23 i0 (.slice none 0 0) 1 24 Try.underlying22 hin hz0 hz1 hz2 rfl (by decide) g xs.length cap xs rfl ((unhide HR).alloc _) ⟨w.heap.size, 0, none⟩ 1 1 [(.slice none 0 0)] rfl rfl (one_new _ _ _) (fun x hx => by simp at hx; subst hx; rfl) (by unfold maxLen; omega) (by omega) ?_; intro g' cap' w1 hrow1 hfr hg')
  have hcl : xs.length + 1 ≤ cap' := by obtain ⟨_, _, _, h, _⟩ := hrow1; exact h
  have hcm : cap' ≤ maxLen := by obtain ⟨_, _, _, _, h, _⟩ := hrow1; exact h
  unfold maxLen at hcm
  have HR1 := hide hrow1; have HF := hide hfr; have HG := hide hg'
  clear hrow1 hfr hg'
  by_cases hin : i < xs.length
  · obtain ⟨cur2, hcp, hrow2⟩ := shift_row (P := Try.prog) (unhide HR1).drew Try.underlying22 (by kernel_rfl) h1 i hin
    have HR2 := hide hrow2
    clear hrow2
    have hcell : (w1.drew.setRow g' cur2).cell? ⟨g', i, none⟩ = some xs[i] := (unhide HR2).cell? (by simp [Nat.le_of_lt hin])
    have hfz : (w1.drew.setRow g' cur2).frozen? ⟨g', i, none⟩ = false := (unhide HR2).frozen i
    go_region
    go_wp2
    go_ret
    refine ⟨g', cap', rfl, ?_, ?_, ?_⟩
    · have := (unhide HR2).setCell (j := i) (by simp; omega) (.slice x.a x.n x.c)
      rw [set_mid _ _ _ _ _ (by simp; omega)] at this
      exact this
    · exact ((((Fr.refl _ w).alloc _).trans (unhide HF) (fun k _ e => e)).drew.setRow g' cur2 (fun h => (unhide HG).resolve_right (by simp; omega))).setCell ⟨g', i, none⟩ _ (fun h => (unhide HG).resolve_right (by simp at h ⊢; omega))
    · exact (unhide HG).imp id (fun h => by simp at h; omega)
  · have hiz : i = xs.length := by omega
    subst hiz
    have hcp : ∀ d s c1 c2 n ty, (Builtin.copy_ #[22, 22] ty #[.slice d 0 c1, .slice s n c2]).run Try.prog w1.drew = .ok (goInt 0) w1.drew := fun d s c1 c2 n ty => by
      have := run_copy_none (P := Try.prog) w1.drew 22 22 ty 23 d s 0 c1 n c2 Try.underlying22 (by kernel_rfl) (Nat.min_eq_right (Nat.zero_le _))
      exact this
    have hcell : w1.cell? ⟨g', xs.length, none⟩ = some (.slice none 0 0) := (unhide HR1).cell? (by simp)
    have hfz : w1.frozen? ⟨g', xs.length, none⟩ = false := (unhide HR1).frozen _
    clear hi hin
    by_cases hcc : xs.length + 1 < cap'
    · go_region
      go_wp2
      go_ret
      refine ⟨g', _, rfl, ?_, ?_, ?_⟩
      · have := (unhide HR1).setCell (j := xs.length) (by simp) (.slice x.a x.n x.c)
        rw [set_mid _ _ _ _ _ rfl] at this
        rw [List.take_length, List.drop_length]
        exact this
      · exact ((((Fr.refl _ w).alloc _).trans (unhide HF) (fun k _ e => e))).drew.setCell ⟨g', xs.length, none⟩ _ (fun h => (unhide HG).resolve_right (by simp at h ⊢; omega))
      · exact (unhide HG).imp id (fun h => by simp at h; omega)
    · have hc2 : cap' = xs.length + 1 := by omega
      subst hc2
      clear hcc hcl
      go_region
      go_wp2
      go_ret
      refine ⟨g', _, rfl, ?_, ?_, ?_⟩
      · have := (unhide HR1).setCell (j := xs.length) (by simp) (.slice x.a x.n x.c)
        rw [set_mid _ _ _ _ _ rfl] at this
        rw [List.take_length, List.drop_length]
        exact this
      · exact ((((Fr.refl _ w).alloc _).trans (unhide HF) (fun k _ e => e))).drew.setCell ⟨g', xs.length, none⟩ _ (fun h => (unhide HG).resolve_right (by simp at h ⊢; omega))
      · exact (unhide HG).imp id (fun h => by simp at h; omega)

theorem insert93 (g cap i n : Nat) (xs : List Value) (x : Sl) (w : World) (hxn : xs.length = n) (hn : n ≤ 100000) (hi : i ≤ n)
    (hrow : Row w g 23 1 n cap xs) (h1 : One xs) :
    Calls Try.prog 93 #[.slice (some ⟨g, 0, none⟩) n cap, .int .i64 i, (.slice x.a x.n x.c)] w fun e w' => ∃ g' cap', e = .returned (.slice (some ⟨g', 0, none⟩) (n + 1) cap') ∧
      Row w' g' 23 1 (n + 1) cap' (xs.take i ++ (.slice x.a x.n x.c) :: xs.drop i) ∧ Fr (· = g) w w' ∧ (g' = g ∨ w.heap.size ≤ g') := by
  subst hxn
  exact insertAt93 g cap i xs x w hn hi hrow h1

set_option maxHeartbeats 1000000 in
theorem clone86 (g o c n : Nat) (ys : List Value) (w : World) (hyn : ys.length = n) (hn : n ≤ 100000)
    (hsrc : ∀ j (h : j < ys.length), w.cell? ⟨g, o + j, none⟩ = some ys[j]) (h1 : One ys) :
    Calls Try.prog 86 #[.slice (some ⟨g, o, none⟩) n c] w fun e w' => e = .returned (.slice (some ⟨w.heap.size, 0, none⟩) n (n + 1)) ∧
      w' = w.alloc (.cells (rowOf ys (n + 1) (.slice none 0 0)) 23) := by
  subst hyn
  obtain ⟨i0, hin, hz0, hz1, hz2⟩ := info_parts info23
  have hnil := fun w => Lib.run_eql_slice_nil (P := Try.prog) w 22 23 (some ⟨g, o, none⟩) ys.length c 0 0 Try.underlying22
  have hmk := run_make (P := Try.prog) w 22 23 i0 (.slice none 0 0) Try.underlying22 hin hz0 .i64 .i64 (ys.length : Int) ((ys.length : Int) + 1) (by omega) (by omega) (by rw [hz2]; omega) (by omega)
  have e1 : ((ys.length : Int)).toNat = ys.length := by omega
  have e2 : ((ys.length : Int) + 1).toNat = ys.length + 1 := by omega
  rw [e1, e2, hz1, Nat.mul_one, show Value.cells (.slice none 0 0) = #[(.slice none 0 0)] from rfl] at hmk
  clear e1 e2 hin hz0 hz1 hz2
  have hcp := fill_row (P := Try.prog) (t := 22) (e := 23) w (ys.length + 1) (.slice none 0 0) ys g o c hsrc h1 Try.underlying22 (by kernel_rfl) (by omega)
  clear hsrc
  generalize madeCells #[(.slice none 0 0)] (ys.length + 1) = made at *
  generalize rowOf ys (ys.length + 1) (.slice none 0 0) = cur2 at *
  go_enter Try.func86, Try.ntmps86
  go_wp2
  go_ret
  exact ⟨rfl, rfl⟩

set_option maxHeartbeats 1000000 in
theorem withRoom95 (g o c n : Nat) (r : Nat) (ys : List Value) (w : World) (hyn : ys.length = n) (hn : n ≤ 100000) (hr : r ≤ 100000) (hyr : n + 1 ≤ r)
    (hsrc : ∀ j (h : j < ys.length), w.cell? ⟨g, o + j, none⟩ = some ys[j]) (h1 : One ys) :
    Calls Try.prog 95 #[.slice (some ⟨g, o, none⟩) n c, .int .i64 r] w fun e w' => e = .returned (.slice (some ⟨w.heap.size, 0, none⟩) n r) ∧
      w' = w.alloc (.cells (rowOf ys r (.slice none 0 0)) 23) := by
  subst hyn
  obtain ⟨i0, hin, hz0, hz1, hz2⟩ := info_parts info23
  have hmk := run_make (P := Try.prog) w 22 23 i0 (.slice none 0 0) Try.underlying22 hin hz0 .i64 .i64 (ys.length : Int) (r : Int) (by omega) (by omega) (by rw [hz2]; omega) (by omega)
  have e1 : ((ys.length : Int)).toNat = ys.length := by omega
  have e2 : (r : Int).toNat = r := by omega
  rw [e1, e2, hz1, Nat.mul_one, show Value.cells (.slice none 0 0) = #[(.slice none 0 0)] from rfl] at hmk
  clear e1 e2 hin hz0 hz1 hz2
  have hcp := fill_row (P := Try.prog) (t := 22) (e := 23) w r (.slice none 0 0) ys g o c hsrc h1 Try.underlying22 (by kernel_rfl) (by omega)
  clear hsrc
  generalize madeCells #[(.slice none 0 0)] r = made at *
  generalize rowOf ys r (.slice none 0 0) = cur2 at *
  go_enter Try.func95, Try.ntmps95
  go_wp2
  go_ret
  exact ⟨rfl, rfl⟩

set_option maxHeartbeats 1000000 in
theorem insertAt94 (g cap i : Nat) (xs : List Value) (x : Option Addr) (w : World) (hn : xs.length ≤ 100000) (hi : i ≤ xs.length)
    (hrow : Row w g 63 1 xs.length cap xs) (h1 : One xs) :
    Calls Try.prog 94 #[.slice (some ⟨g, 0, none⟩) xs.length cap, .int .i64 i, (.pointer x)] w fun e w' => ∃ g' cap', e = .returned (.slice (some ⟨g', 0, none⟩) (xs.length + 1) cap') ∧
      Row w' g' 63 1 (xs.length + 1) cap' (xs.take i ++ (.pointer x) :: xs.drop i) ∧ Fr (· = g) w w' ∧ (g' = g ∨ w.heap.size ≤ g') := by
  obtain ⟨i0, hin, hz0, hz1, hz2⟩ := info_parts info63
  have HR := hide hrow
  clear hrow
  go_enter Try.func94, Try.ntmps94
  go_wp2_with (at_builtin; refine wpList_append_row rfl _ _ 104 rfl 63 i0 (.pointer none) 1 8 Try.underlying104 hin hz0 hz1 hz2 rfl (by decide) g xs.length cap xs rfl ((unhide HR).alloc _) ⟨w.heap.size, 0, none⟩ 1 1 [(.pointer none)] rfl rfl (one_new _ _ _) (fun x hx => by simp at hx; subst hx; rfl) (by unfold maxLen; omega) (by omega) ?_; intro g' cap' w1 hrow1 hfr hg')
  have hcl : xs.length + 1 ≤ cap' := by obtain ⟨_, _, _, h, _⟩ := hrow1; exact h
  have hcm : cap' ≤ maxLen := by obtain ⟨_, _, _, _, h, _⟩ := hrow1; exact h
  unfold maxLen at hcm
  have HR1 := hide hrow1; have HF := hide hfr; have HG := hide hg'
  clear hrow1 hfr hg'
  by_cases hin : i < xs.length
  · obtain ⟨cur2, hcp, hrow2⟩ := shift_row (P := Try.prog) (unhide HR1).drew Try.underlying104 (by kernel_rfl) h1 i hin
    have HR2 := hide hrow2
    clear hrow2
    have hcell : (w1.drew.setRow g' cur2).cell? ⟨g', i, none⟩ = some xs[i] := (unhide HR2).cell? (by simp [Nat.le_of_lt hin])
    have hfz : (w1.drew.setRow g' cur2).frozen? ⟨g', i, none⟩ = false := (unhide HR2).frozen i
    go_region
    go_wp2
    go_ret
    refine ⟨g', cap', rfl, ?_, ?_, ?_⟩
    · have := (unhide HR2).setCell (j := i) (by simp; omega) (.pointer x)
      rw [set_mid _ _ _ _ _ (by simp; omega)] at this
      exact this
    · exact ((((Fr.refl _ w).alloc _).trans (unhide HF) (fun k _ e => e)).drew.setRow g' cur2 (fun h => (unhide HG).resolve_right (by simp; omega))).setCell ⟨g', i, none⟩ _ (fun h => (unhide HG).resolve_right (by simp at h ⊢; omega))
    · exact (unhide HG).imp id (fun h => by simp at h; omega)
  · have hiz : i = xs.length := by omega
    subst hiz
    have hcp : ∀ d s c1 c2 n ty, (Builtin.copy_ #[104, 104] ty #[.slice d 0 c1, .slice s n c2]).run Try.prog w1.drew = .ok (goInt 0) w1.drew := fun d s c1 c2 n ty => by
      have := run_copy_none (P := Try.prog) w1.drew 104 104 ty 63 d s 0 c1 n c2 Try.underlying104 (by kernel_rfl) (Nat.min_eq_right (Nat.zero_le _))
      exact this
    have hcell : w1.cell? ⟨g', xs.length, none⟩ = some (.pointer none) := (unhide HR1).cell? (by simp)
    have hfz : w1.frozen? ⟨g', xs.length, none⟩ = false := (unhide HR1).frozen _
    clear hi hin
    by_cases hcc : xs.length + 1 < cap'
    · go_region
      go_wp2
      go_ret
      refine ⟨g', _, rfl, ?_, ?_, ?_⟩
      · have := (unhide HR1).setCell (j := xs.length) (by simp) (.pointer x)
        rw [set_mid _ _ _ _ _ rfl] at this
        rw [List.take_length, List.drop_length]
        exact this
      · exact ((((Fr.refl _ w).alloc _).trans (unhide HF) (fun k _ e => e))).drew.setCell ⟨g', xs.length, none⟩ _ (fun h => (unhide HG).resolve_right (by simp at h ⊢; omega))
      · exact (unhide HG).imp id (fun h => by simp at h; omega)
    · have hc2 : cap' = xs.length + 1 := by omega
      subst hc2
      clear hcc hcl
      go_region
      go_wp2
      go_ret
      refine ⟨g', _, rfl, ?_, ?_, ?_⟩
      · have := (unhide HR1).setCell (j := xs.length) (by simp) (.pointer x)
        rw [set_mid _ _ _ _ _ rfl] at this
        rw [List.take_length, List.drop_length]
        exact this
      · exact ((((Fr.refl _ w).alloc _).trans (unhide HF) (fun k _ e => e))).drew.setCell ⟨g', xs.length, none⟩ _ (fun h => (unhide HG).resolve_right (by simp at h ⊢; omega))
      · exact (unhide HG).imp id (fun h => by simp at h; omega)

theorem insert94 (g cap i n : Nat) (xs : List Value) (x : Option Addr) (w : World) (hxn : xs.length = n) (hn : n ≤ 100000) (hi : i ≤ n)
    (hrow : Row w g 63 1 n cap xs) (h1 : One xs) :
    Calls Try.prog 94 #[.slice (some ⟨g, 0, none⟩) n cap, .int .i64 i, (.pointer x)] w fun e w' => ∃ g' cap', e = .returned (.slice (some ⟨g', 0, none⟩) (n + 1) cap') ∧
      Row w' g' 63 1 (n + 1) cap' (xs.take i ++ (.pointer x) :: xs.drop i) ∧ Fr (· = g) w w' ∧ (g' = g ∨ w.heap.size ≤ g') := by
  subst hxn
  exact insertAt94 g cap i xs x w hn hi hrow h1

set_option maxHeartbeats 1000000 in
theorem clone87 (g o c n : Nat) (ys : List Value) (w : World) (hyn : ys.length = n) (hn : n ≤ 100000)
    (hsrc : ∀ j (h : j < ys.length), w.cell? ⟨g, o + j, none⟩ = some ys[j]) (h1 : One ys) :
    Calls Try.prog 87 #[.slice (some ⟨g, o, none⟩) n c] w fun e w' => e = .returned (.slice (some ⟨w.heap.size, 0, none⟩) n (n + 1)) ∧
      w' = w.alloc (.cells (rowOf ys (n + 1) (.pointer none)) 63) := by
  subst hyn
  obtain ⟨i0, hin, hz0, hz1, hz2⟩ := info_parts info63
  have hnil := fun w => Lib.run_eql_slice_nil (P := Try.prog) w 104 63 (some ⟨g, o, none⟩) ys.length c 0 0 Try.underlying104
  have hmk := run_make (P := Try.prog) w 104 63 i0 (.pointer none) Try.underlying104 hin hz0 .i64 .i64 (ys.length : Int) ((ys.length : Int) + 1) (by omega) (by omega) (by rw [hz2]; omega) (by omega)
  have e1 : ((ys.length : Int)).toNat = ys.length := by omega
  have e2 : ((ys.length : Int) + 1).toNat = ys.length + 1 := by omega
  rw [e1, e2, hz1, Nat.mul_one, show Value.cells (.pointer none) = #[(.pointer none)] from rfl] at hmk
  clear e1 e2 hin hz0 hz1 hz2
  have hcp := fill_row (P := Try.prog) (t := 104) (e := 63) w (ys.length + 1) (.pointer none) ys g o c hsrc h1 Try.underlying104 (by kernel_rfl) (by omega)
  clear hsrc
  generalize madeCells #[(.pointer none)] (ys.length + 1) = made at *
  generalize rowOf ys (ys.length + 1) (.pointer none) = cur2 at *
  go_enter Try.func87, Try.ntmps87
  go_wp2
  go_ret
  exact ⟨rfl, rfl⟩

set_option maxHeartbeats 1000000 in
theorem withRoom96 (g o c n : Nat) (r : Nat) (ys : List Value) (w : World) (hyn : ys.length = n) (hn : n ≤ 100000) (hr : r ≤ 100000) (hyr : n + 1 ≤ r)
    (hsrc : ∀ j (h : j < ys.length), w.cell? ⟨g, o + j, none⟩ = some ys[j]) (h1 : One ys) :
    Calls Try.prog 96 #[.slice (some ⟨g, o, none⟩) n c, .int .i64 r] w fun e w' => e = .returned (.slice (some ⟨w.heap.size, 0, none⟩) n r) ∧
      w' = w.alloc (.cells (rowOf ys r (.pointer none)) 63) := by
  subst hyn
  obtain ⟨i0, hin, hz0, hz1, hz2⟩ := info_parts info63
  have hmk := run_make (P := Try.prog) w 104 63 i0 (.pointer none) Try.underlying104 hin hz0 .i64 .i64 (ys.length : Int) (r : Int) (by omega) (by omega) (by rw [hz2]; omega) (by omega)
  have e1 : ((ys.length : Int)).toNat = ys.length := by omega
  have e2 : (r : Int).toNat = r := by omega
  rw [e1, e2, hz1, Nat.mul_one, show Value.cells (.pointer none) = #[(.pointer none)] from rfl] at hmk
  clear e1 e2 hin hz0 hz1 hz2
  have hcp := fill_row (P := Try.prog) (t := 104) (e := 63) w r (.pointer none) ys g o c hsrc h1 Try.underlying104 (by kernel_rfl) (by omega)
  clear hsrc
  generalize madeCells #[(.pointer none)] r = made at *
  generalize rowOf ys r (.pointer none) = cur2 at *
  go_enter Try.func96, Try.ntmps96
  go_wp2
  go_ret
  exact ⟨rfl, rfl⟩

set_option maxHeartbeats 1000000 in
theorem insertAt118 (g cap i : Nat) (xs : List Value) (x : Option Addr) (w : World) (hn : xs.length ≤ 100000) (hi : i ≤ xs.length)
    (hrow : Row w g 48 1 xs.length cap xs) (h1 : One xs) :
    Calls Try.prog 118 #[.slice (some ⟨g, 0, none⟩) xs.length cap, .int .i64 i, (.pointer x)] w fun e w' => ∃ g' cap', e = .returned (.slice (some ⟨g', 0, none⟩) (xs.length + 1) cap') ∧
      Row w' g' 48 1 (xs.length + 1) cap' (xs.take i ++ (.pointer x) :: xs.drop i) ∧ Fr (· = g) w w' ∧ (g' = g ∨ w.heap.size ≤ g') := by
  obtain ⟨i0, hin, hz0, hz1, hz2⟩ := info_parts info48
  have HR := hide hrow
  clear hrow
  go_enter Try.func118, Try.ntmps118
  go_wp2_with (at_builtin; refine wpList_append_row rfl _ _ 38 rfl 48 i0 (.pointer none) 1 8 Try.underlying38 hin hz0 hz1 hz2 rfl (by decide) g xs.length cap xs rfl ((unhide HR).alloc _) ⟨w.heap.size, 0, none⟩ 1 1 [(.pointer none)] rfl rfl (one_new _ _ _) (fun x hx => by simp at hx; subst hx; rfl) (by unfold maxLen; omega) (by omega) ?_; intro g' cap' w1 hrow1 hfr hg')
  have hcl : xs.length + 1 ≤ cap' := by obtain ⟨_, _, _, h, _⟩ := hrow1; exact h
  have hcm : cap' ≤ maxLen := by obtain ⟨_, _, _, _, h, _⟩ := hrow1; exact h
  unfold maxLen at hcm
  have HR1 := hide hrow1; have HF := hide hfr; have HG := hide hg'
  clear hrow1 hfr hg'
  by_cases hin : i < xs.length
  · obtain ⟨cur2, hcp, hrow2⟩ := shift_row (P := Try.prog) (unhide HR1).drew Try.underlying38 (by kernel_rfl) h1 i hin
    have HR2 := hide hrow2
    clear hrow2
    have hcell : (w1.drew.setRow g' cur2).cell? ⟨g', i, none⟩ = some xs[i] := (unhide HR2).cell? (by simp [Nat.le_of_lt hin])
    have hfz : (w1.drew.setRow g' cur2).frozen? ⟨g', i, none⟩ = false := (unhide HR2).frozen i
    go_region
    go_wp2
    go_ret
    refine ⟨g', cap', rfl, ?_, ?_, ?_⟩
    · have := (unhide HR2).setCell (j := i) (by simp; omega) (.pointer x)
      rw [set_mid _ _ _ _ _ (by simp; omega)] at this
      exact this
    · exact ((((Fr.refl _ w).alloc _).trans (unhide HF) (fun k _ e => e)).drew.setRow g' cur2 (fun h => (unhide HG).resolve_right (by simp; omega))).setCell ⟨g', i, none⟩ _ (fun h => (unhide HG).resolve_right (by simp at h ⊢; omega))
    · exact (unhide HG).imp id (fun h => by simp at h; omega)
  · have hiz : i = xs.length := by omega
    subst hiz
    have hcp : ∀ d s c1 c2 n ty, (Builtin.copy_ #[38, 38] ty #[.slice d 0 c1, .slice s n c2]).run Try.prog w1.drew = .ok (goInt 0) w1.drew := fun d s c1 c2 n ty => by
      have := run_copy_none (P := Try.prog) w1.drew 38 38 ty 48 d s 0 c1 n c2 Try.underlying38 (by kernel_rfl) (Nat.min_eq_right (Nat.zero_le _))
      exact this
    have hcell : w1.cell? ⟨g', xs.length, none⟩ = some (.pointer none) := (unhide HR1).cell? (by simp)
    have hfz : w1.frozen? ⟨g', xs.length, none⟩ = false := (unhide HR1).frozen _
    clear hi hin
    by_cases hcc : xs.length + 1 < cap'
    · go_region
      go_wp2
      go_ret
      refine ⟨g', _, rfl, ?_, ?_, ?_⟩
      · have := (unhide HR1).setCell (j := xs.length) (by simp) (.pointer x)
        rw [set_mid _ _ _ _ _ rfl] at this
        rw [List.take_length, List.drop_length]
        exact this
      · exact ((((Fr.refl _ w).alloc _).trans (unhide HF) (fun k _ e => e))).drew.setCell ⟨g', xs.length, none⟩ _ (fun h => (unhide HG).resolve_right (by simp at h ⊢; omega))
      · exact (unhide HG).imp id (fun h => by simp at h; omega)
    · have hc2 : cap' = xs.length + 1 := by omega
      subst hc2
      clear hcc hcl
      go_region
      go_wp2
      go_ret
      refine ⟨g', _, rfl, ?_, ?_, ?_⟩
      · have := (unhide HR1).setCell (j := xs.length) (by simp) (.pointer x)
        rw [set_mid _ _ _ _ _ rfl] at this
        rw [List.take_length, List.drop_length]
        exact this
      · exact ((((Fr.refl _ w).alloc _).trans (unhide HF) (fun k _ e => e))).drew.setCell ⟨g', xs.length, none⟩ _ (fun h => (unhide HG).resolve_right (by simp at h ⊢; omega))
      · exact (unhide HG).imp id (fun h => by simp at h; omega)

theorem insert118 (g cap i n : Nat) (xs : List Value) (x : Option Addr) (w : World) (hxn : xs.length = n) (hn : n ≤ 100000) (hi : i ≤ n)
    (hrow : Row w g 48 1 n cap xs) (h1 : One xs) :
    Calls Try.prog 118 #[.slice (some ⟨g, 0, none⟩) n cap, .int .i64 i, (.pointer x)] w fun e w' => ∃ g' cap', e = .returned (.slice (some ⟨g', 0, none⟩) (n + 1) cap') ∧
      Row w' g' 48 1 (n + 1) cap' (xs.take i ++ (.pointer x) :: xs.drop i) ∧ Fr (· = g) w w' ∧ (g' = g ∨ w.heap.size ≤ g') := by
  subst hxn
  exact insertAt118 g cap i xs x w hn hi hrow h1

set_option maxHeartbeats 1000000 in
theorem clone102 (g o c n : Nat) (ys : List Value) (w : World) (hyn : ys.length = n) (hn : n ≤ 100000)
    (hsrc : ∀ j (h : j < ys.length), w.cell? ⟨g, o + j, none⟩ = some ys[j]) (h1 : One ys) :
    Calls Try.prog 102 #[.slice (some ⟨g, o, none⟩) n c] w fun e w' => e = .returned (.slice (some ⟨w.heap.size, 0, none⟩) n (n + 1)) ∧
      w' = w.alloc (.cells (rowOf ys (n + 1) (.pointer none)) 48) := by
  subst hyn
  obtain ⟨i0, hin, hz0, hz1, hz2⟩ := info_parts info48
  have hnil := fun w => Lib.run_eql_slice_nil (P := Try.prog) w 38 48 (some ⟨g, o, none⟩) ys.length c 0 0 Try.underlying38
  have hmk := run_make (P := Try.prog) w 38 48 i0 (.pointer none) Try.underlying38 hin hz0 .i64 .i64 (ys.length : Int) ((ys.length : Int) + 1) (by omega) (by omega) (by rw [hz2]; omega) (by omega)
  have e1 : ((ys.length : Int)).toNat = ys.length := by omega
  have e2 : ((ys.length : Int) + 1).toNat = ys.length + 1 := by omega
  rw [e1, e2, hz1, Nat.mul_one, show Value.cells (.pointer none) = #[(.pointer none)] from rfl] at hmk
  clear e1 e2 hin hz0 hz1 hz2
  have hcp := fill_row (P := Try.prog) (t := 38) (e := 48) w (ys.length + 1) (.pointer none) ys g o c hsrc h1 Try.underlying38 (by kernel_rfl) (by omega)
  clear hsrc
  generalize madeCells #[(.pointer none)] (ys.length + 1) = made at *
  generalize rowOf ys (ys.length + 1) (.pointer none) = cur2 at *
  go_enter Try.func102, Try.ntmps102
  go_wp2
  go_ret
  exact ⟨rfl, rfl⟩

set_option maxHeartbeats 1000000 in
theorem withRoom109 (g o c n : Nat) (r : Nat) (ys : List Value) (w : World) (hyn : ys.length = n) (hn : n ≤ 100000) (hr : r ≤ 100000) (hyr : n + 1 ≤ r)
    (hsrc : ∀ j (h : j < ys.length), w.cell? ⟨g, o + j, none⟩ = some ys[j]) (h1 : One ys) :
    Calls Try.prog 109 #[.slice (some ⟨g, o, none⟩) n c, .int .i64 r] w fun e w' => e = .returned (.slice (some ⟨w.heap.size, 0, none⟩) n r) ∧
      w' = w.alloc (.cells (rowOf ys r (.pointer none)) 48) := by
  subst hyn
  obtain ⟨i0, hin, hz0, hz1, hz2⟩ := info_parts info48
  have hmk := run_make (P := Try.prog) w 38 48 i0 (.pointer none) Try.underlying38 hin hz0 .i64 .i64 (ys.length : Int) (r : Int) (by omega) (by omega) (by rw [hz2]; omega) (by omega)
  have e1 : ((ys.length : Int)).toNat = ys.length := by omega
  have e2 : (r : Int).toNat = r := by omega
  rw [e1, e2, hz1, Nat.mul_one, show Value.cells (.pointer none) = #[(.pointer none)] from rfl] at hmk
  clear e1 e2 hin hz0 hz1 hz2
  have hcp := fill_row (P := Try.prog) (t := 38) (e := 48) w r (.pointer none) ys g o c hsrc h1 Try.underlying38 (by kernel_rfl) (by omega)
  clear hsrc
  generalize madeCells #[(.pointer none)] r = made at *
  generalize rowOf ys r (.pointer none) = cur2 at *
  go_enter Try.func109, Try.ntmps109
  go_wp2
  go_ret
  exact ⟨rfl, rfl⟩

set_option maxHeartbeats 1000000 in
theorem insertAt108 (g cap i : Nat) (xs : List Value) (x : Option Addr) (w : World) (hn : xs.length ≤ 100000) (hi : i ≤ xs.length)
    (hrow : Row w g 78 1 xs.length cap xs) (h1 : One xs) :
    Calls Try.prog 108 #[.slice (some ⟨g, 0, none⟩) xs.length cap, .int .i64 i, (.pointer x)] w fun e w' => ∃ g' cap', e = .returned (.slice (some ⟨g', 0, none⟩) (xs.length + 1) cap') ∧
      Row w' g' 78 1 (xs.length + 1) cap' (xs.take i ++ (.pointer x) :: xs.drop i) ∧ Fr (· = g) w w' ∧ (g' = g ∨ w.heap.size ≤ g') := by
  obtain ⟨i0, hin, hz0, hz1, hz2⟩ := info_parts info78
  have HR := hide hrow
  clear hrow
  go_enter Try.func108, Try.ntmps108
  go_wp2_with (at_builtin; refine wpList_append_row rfl _ _ 117 rfl 78 i0 (.pointer none) 1 8 Try.underlying117 hin hz0 hz1 hz2 rfl (by decide) g xs.length cap xs rfl ((unhide HR).alloc _) ⟨w.heap.size, 0, none⟩ 1 1 [(.pointer none)] rfl rfl (one_new _ _ _) (fun x hx => by simp at hx; subst hx; rfl) (by unfold maxLen; omega) (by omega) ?_; intro g' cap' w1 hrow1 hfr hg')
  have hcl : xs.length + 1 ≤ cap' := by obtain ⟨_, _, _, h, _⟩ := hrow1; exact h
  have hcm : cap' ≤ maxLen := by obtain ⟨_, _, _, _, h, _⟩ := hrow1; exact h
  unfold maxLen at hcm
  have HR1 := hide hrow1; have HF := hide hfr; have HG := hide hg'
  clear hrow1 hfr hg'
  by_cases hin : i < xs.length
  · obtain ⟨cur2, hcp, hrow2⟩ := shift_row (P := Try.prog) (unhide HR1).drew Try.underlying117 (by kernel_rfl) h1 i hin
    have HR2 := hide hrow2
    clear hrow2
    have hcell : (w1.drew.setRow g' cur2).cell? ⟨g', i, none⟩ = some xs[i] := (unhide HR2).cell? (by simp [Nat.le_of_lt hin])
    have hfz : (w1.drew.setRow g' cur2).frozen? ⟨g', i, none⟩ = false := (unhide HR2).frozen i
    go_region
    go_wp2
    go_ret
    refine ⟨g', cap', rfl, ?_, ?_, ?_⟩
    · have := (unhide HR2).setCell (j := i) (by simp; omega) (.pointer x)
      rw [set_mid _ _ _ _ _ (by simp; omega)] at this
      exact this
    · exact ((((Fr.refl _ w).alloc _).trans (unhide HF) (fun k _ e => e)).drew.setRow g' cur2 (fun h => (unhide HG).resolve_right (by simp; omega))).setCell ⟨g', i, none⟩ _ (fun h => (unhide HG).resolve_right (by simp at h ⊢; omega))
    · exact (unhide HG).imp id (fun h => by simp at h; omega)
  · have hiz : i = xs.length := by omega
    subst hiz
    have hcp : ∀ d s c1 c2 n ty, (Builtin.copy_ #[117, 117] ty #[.slice d 0 c1, .slice s n c2]).run Try.prog w1.drew = .ok (goInt 0) w1.drew := fun d s c1 c2 n ty => by
      have := run_copy_none (P := Try.prog) w1.drew 117 117 ty 78 d s 0 c1 n c2 Try.underlying117 (by kernel_rfl) (Nat.min_eq_right (Nat.zero_le _))
      exact this
    have hcell : w1.cell? ⟨g', xs.length, none⟩ = some (.pointer none) := (unhide HR1).cell? (by simp)
    have hfz : w1.frozen? ⟨g', xs.length, none⟩ = false := (unhide HR1).frozen _
    clear hi hin
    by_cases hcc : xs.length + 1 < cap'
    · go_region
      go_wp2
      go_ret
      refine ⟨g', _, rfl, ?_, ?_, ?_⟩
      · have := (unhide HR1).setCell (j := xs.length) (by simp) (.pointer x)
        rw [set_mid _ _ _ _ _ rfl] at this
        rw [List.take_length, List.drop_length]
        exact this
      · exact ((((Fr.refl _ w).alloc _).trans (unhide HF) (fun k _ e => e))).drew.setCell ⟨g', xs.length, none⟩ _ (fun h => (unhide HG).resolve_right (by simp at h ⊢; omega))
      · exact (unhide HG).imp id (fun h => by simp at h; omega)
    · have hc2 : cap' = xs.length + 1 := by omega
      subst hc2
      clear hcc hcl
      go_region
      go_wp2
      go_ret
      refine ⟨g', _, rfl, ?_, ?_, ?_⟩
      · have := (unhide HR1).setCell (j := xs.length) (by simp) (.pointer x)
        rw [set_mid _ _ _ _ _ rfl] at this
        rw [List.take_length, List.drop_length]
        exact this
      · exact ((((Fr.refl _ w).alloc _).trans (unhide HF) (fun k _ e => e))).drew.setCell ⟨g', xs.length, none⟩ _ (fun h => (unhide HG).resolve_right (by simp at h ⊢; omega))
      · exact (unhide HG).imp id (fun h => by simp at h; omega)

theorem insert108 (g cap i n : Nat) (xs : List Value) (x : Option Addr) (w : World) (hxn : xs.length = n) (hn : n ≤ 100000) (hi : i ≤ n)
    (hrow : Row w g 78 1 n cap xs) (h1 : One xs) :
    Calls Try.prog 108 #[.slice (some ⟨g, 0, none⟩) n cap, .int .i64 i, (.pointer x)] w fun e w' => ∃ g' cap', e = .returned (.slice (some ⟨g', 0, none⟩) (n + 1) cap') ∧
      Row w' g' 78 1 (n + 1) cap' (xs.take i ++ (.pointer x) :: xs.drop i) ∧ Fr (· = g) w w' ∧ (g' = g ∨ w.heap.size ≤ g') := by
  subst hxn
  exact insertAt108 g cap i xs x w hn hi hrow h1

set_option maxHeartbeats 1000000 in
theorem clone103 (g o c n : Nat) (ys : List Value) (w : World) (hyn : ys.length = n) (hn : n ≤ 100000)
    (hsrc : ∀ j (h : j < ys.length), w.cell? ⟨g, o + j, none⟩ = some ys[j]) (h1 : One ys) :
    Calls Try.prog 103 #[.slice (some ⟨g, o, none⟩) n c] w fun e w' => e = .returned (.slice (some ⟨w.heap.size, 0, none⟩) n (n + 1)) ∧
      w' = w.alloc (.cells (rowOf ys (n + 1) (.pointer none)) 78) := by
  subst hyn
  obtain ⟨i0, hin, hz0, hz1, hz2⟩ := info_parts info78
  have hnil := fun w => Lib.run_eql_slice_nil (P := Try.prog) w 117 78 (some ⟨g, o, none⟩) ys.length c 0 0 Try.underlying117
  have hmk := run_make (P := Try.prog) w 117 78 i0 (.pointer none) Try.underlying117 hin hz0 .i64 .i64 (ys.length : Int) ((ys.length : Int) + 1) (by omega) (by omega) (by rw [hz2]; omega) (by omega)
  have e1 : ((ys.length : Int)).toNat = ys.length := by omega
  have e2 : ((ys.length : Int) + 1).toNat = ys.length + 1 := by omega
  rw [e1, e2, hz1, Nat.mul_one, show Value.cells (.pointer none) = #[(.pointer none)] from rfl] at hmk
  clear e1 e2 hin hz0 hz1 hz2
  have hcp := fill_row (P := Try.prog) (t := 117) (e := 78) w (ys.length + 1) (.pointer none) ys g o c hsrc h1 Try.underlying117 (by kernel_rfl) (by omega)
  clear hsrc
  generalize madeCells #[(.pointer none)] (ys.length + 1) = made at *
  generalize rowOf ys (ys.length + 1) (.pointer none) = cur2 at *
  go_enter Try.func103, Try.ntmps103
  go_wp2
  go_ret
  exact ⟨rfl, rfl⟩

set_option maxHeartbeats 1000000 in
theorem withRoom110 (g o c n : Nat) (r : Nat) (ys : List Value) (w : World) (hyn : ys.length = n) (hn : n ≤ 100000) (hr : r ≤ 100000) (hyr : n + 1 ≤ r)
    (hsrc : ∀ j (h : j < ys.length), w.cell? ⟨g, o + j, none⟩ = some ys[j]) (h1 : One ys) :
    Calls Try.prog 110 #[.slice (some ⟨g, o, none⟩) n c, .int .i64 r] w fun e w' => e = .returned (.slice (some ⟨w.heap.size, 0, none⟩) n r) ∧
      w' = w.alloc (.cells (rowOf ys r (.pointer none)) 78) := by
  subst hyn
  obtain ⟨i0, hin, hz0, hz1, hz2⟩ := info_parts info78
  have hmk := run_make (P := Try.prog) w 117 78 i0 (.pointer none) Try.underlying117 hin hz0 .i64 .i64 (ys.length : Int) (r : Int) (by omega) (by omega) (by rw [hz2]; omega) (by omega)
  have e1 : ((ys.length : Int)).toNat = ys.length := by omega
  have e2 : (r : Int).toNat = r := by omega
  rw [e1, e2, hz1, Nat.mul_one, show Value.cells (.pointer none) = #[(.pointer none)] from rfl] at hmk
  clear e1 e2 hin hz0 hz1 hz2
  have hcp := fill_row (P := Try.prog) (t := 117) (e := 78) w r (.pointer none) ys g o c hsrc h1 Try.underlying117 (by kernel_rfl) (by omega)
  clear hsrc
  generalize madeCells #[(.pointer none)] r = made at *
  generalize rowOf ys r (.pointer none) = cur2 at *
  go_enter Try.func110, Try.ntmps110
  go_wp2
  go_ret
  exact ⟨rfl, rfl⟩

end Go.Proofs.Qxb6615626a
