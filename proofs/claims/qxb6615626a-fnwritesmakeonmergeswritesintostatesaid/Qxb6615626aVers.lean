/-
  zzWritesFit, zzVersions, zzLast, zzAscending.
-/
import Derived.Test.Qxb6615626aZz3
namespace Go.Proofs.Qxb6615626a
open Go.RowKit
set_option linter.unusedVariables false

/-- in w the slice s has the one-cell elements xs -/
def VL (w : World) (s : Sl) (xs : List Value) : Prop :=
  xs.length = s.n ∧ (s.a = none → s.n = 0) ∧ ∀ a, s.a = some a → ∀ i (h : i < xs.length), a.spot = none ∧ w.cell? ⟨a.block, a.off + i, none⟩ = some xs[i]

theorem VL.at {w : World} {a : Option Addr} {n c : Nat} {xs : List Value} (h : VL w ⟨a, n, c⟩ xs) {k : Nat} (hk : k < n) :
    ∃ (b o : Nat) (v : Value), a = some ⟨b, o, none⟩ ∧ w.cell? ⟨b, o + k, none⟩ = some v ∧ xs[k]? = some v := by
  have hkl : k < xs.length := by have := h.1; simp at this; omega
  cases a with
  | none => have := h.2.1 rfl; simp at this; omega
  | some a =>
    obtain ⟨b, o, p⟩ := a
    obtain ⟨hp, hc⟩ := h.2.2 _ rfl k hkl
    simp only at hp
    subst hp
    exact ⟨b, o, xs[k], rfl, hc, List.getElem?_eq_getElem hkl⟩

theorem VL.frame {w w' : World} {s : Sl} {xs : List Value} (h : VL w s xs) (hf : Fr (fun _ => False) w w') : VL w' s xs :=
  ⟨h.1, h.2.1, fun a ha i hi => ⟨(h.2.2 a ha i hi).1, (hf.cell (p := ⟨a.block, a.off + i, none⟩) (World.block_lt_of_cell? w _ (h.2.2 a ha i hi).2) (fun e => e)).trans (h.2.2 a ha i hi).2⟩⟩

theorem VL.row {w : World} {g : Nat} {e : TypeId} {n cap c : Nat} {xs : List Value} (h : Row w g e 1 n cap xs) : VL w ⟨some ⟨g, 0, none⟩, n, c⟩ xs := by
  refine ⟨by have := h.1; simpa using this, fun e => (nomatch e), fun a ha i hi => ?_⟩
  cases ha
  refine ⟨rfl, ?_⟩
  rw [Nat.zero_add]
  exact h.cell hi

def WFitPost (kn vn dn most : Nat) (ks vs : List Sl) (w : World) (e : Ending) (w' : World) : Prop :=
  w' = w ∧ ∃ b : Bool, e = .returned (.bool b) ∧ (b = true → kn ≤ most ∧ vn = kn ∧ dn = kn ∧ (∀ t ∈ ks, t.n ≤ 1048576) ∧ ∀ t ∈ vs, t.n ≤ 1048576)

set_option maxHeartbeats 1000000 in
theorem zzWritesFit_any (k v d : Sl) (ks vs : List Sl) (most : Nat) (w : World) (h1 : Lst w k ks) (h2 : Lst w v vs) (hm1 : ∀ t ∈ ks, t.n ≤ maxLen) (hm2 : ∀ t ∈ vs, t.n ≤ maxLen) (hn1 : k.n ≤ maxLen) (hn2 : v.n ≤ maxLen) (hn3 : d.n ≤ maxLen) (hmost : most ≤ 4096) :
    Calls Try.prog 19 #[k.v, v.v, d.v, .int .i64 most] w (WFitPost k.n v.n d.n most ks vs w) := by
  have HT1 := hide (fun l (hl : l ≤ 1048576) => zzTake_any k ks l w h1 hl hm1 hn1)
  have HT2 := hide (fun l (hl : l ≤ 1048576) => zzTake_any v vs l w h2 hl hm2 hn2)
  clear h1 h2 hm1 hm2
  obtain ⟨ka, kn, kc⟩ := k
  obtain ⟨va, vn, vc⟩ := v
  obtain ⟨da, dn, dc⟩ := d
  change Calls Try.prog 19 #[.slice ka kn kc, .slice va vn vc, .slice da dn dc, .int .i64 most] w (WFitPost kn vn dn most ks vs w)
  unfold maxLen at hn1 hn2 hn3
  simp only at hn1 hn2 hn3
  by_cases c1 : most < kn
  · go_enter Try.func19, Try.ntmps19
    go_wp2_with fail
    go_ret
    exact ⟨rfl, false, rfl, fun h => by cases h⟩
  · by_cases c2 : vn = kn
    · subst c2
      by_cases c3 : dn = vn
      · subst c3
        go_enter Try.func19, Try.ntmps19
        go_wp2_with fail
        refine ((unhide HT1) 1048576 (Nat.le_refl _)).mono ?_
        rintro e w1 ⟨hw1, r, b, rfl, hb⟩
        rw [hw1]; clear hw1 w1
        cases b with
        | true =>
          go_wp2_with fail
          go_ret
          exact ⟨rfl, false, rfl, fun h => by cases h⟩
        | false =>
          have hr := (hb rfl).1
          have HB := hide (hb rfl)
          clear hb
          go_wp2_with fail
          refine ((unhide HT2) r hr).mono ?_
          rintro e w1 ⟨hw1, r2, b2, rfl, hb2⟩
          rw [hw1]; clear hw1 w1
          cases b2 with
          | true =>
            go_wp2_with fail
            go_ret
            exact ⟨rfl, false, rfl, fun h => by cases h⟩
          | false =>
            have HB2 := hide (hb2 rfl)
            clear hb2
            go_wp2_with fail
            go_ret
            have a1 := unhide HB; have a2 := unhide HB2
            exact ⟨rfl, _, rfl, fun _ => ⟨by omega, rfl, rfl, a1.2.2, fun t ht => by have := a2.2.2 t ht; omega⟩⟩
      · have c4 : ((dn : Int) != (vn : Int)) = true := by rw [bne_iff_ne]; omega
        clear c3
        go_enter Try.func19, Try.ntmps19
        go_wp2_with fail
        go_ret
        exact ⟨rfl, false, rfl, fun h => by cases h⟩
    · have c3 : ((vn : Int) != (kn : Int)) = true := by rw [bne_iff_ne]; omega
      clear c2
      go_enter Try.func19, Try.ntmps19
      go_wp2_with fail
      go_ret
      exact ⟨rfl, false, rfl, fun h => by cases h⟩

/-- pointers, then nil ones -/
def vpart (vs : List (Option Addr)) (n : Nat) : List Value := vs.map Value.pointer ++ List.replicate (n - vs.length) (.pointer none)
theorem length_vpart (vs : List (Option Addr)) (n : Nat) (h : vs.length ≤ n) : (vpart vs n).length = n := by unfold vpart; simp; omega
theorem vpart_at (vs : List (Option Addr)) (n : Nat) (h : vs.length < n) : (vpart vs n)[vs.length]? = some (.pointer none) := by
  unfold vpart
  rw [List.getElem?_append_right (by simp), List.length_map, Nat.sub_self, List.getElem?_replicate, if_pos (by omega)]
theorem vpart_split (vs : List (Option Addr)) (n : Nat) (h : vs.length < n) : vpart vs n = vs.map Value.pointer ++ (.pointer none) :: List.replicate (n - (vs.length + 1)) (.pointer none) := by
  unfold vpart
  rw [show n - vs.length = (n - (vs.length + 1)) + 1 from by omega, List.replicate_succ]
theorem vpart_succ (vs : List (Option Addr)) (n : Nat) (h : vs.length < n) (x : Option Addr) : (vpart vs n).set vs.length (.pointer x) = vpart (vs ++ [x]) n := by
  rw [vpart_split vs n h, set_mid _ _ _ _ _ (by simp)]
  unfold vpart
  simp
theorem vpart_none (vs : List (Option Addr)) (n : Nat) (h : vs.length < n) : vpart (vs ++ [none]) n = vpart vs n := by
  rw [vpart_split vs n h]
  unfold vpart
  simp
theorem vpart_all (vs : List (Option Addr)) (n : Nat) (h : vs.length = n) : vpart vs n = vs.map Value.pointer := by unfold vpart; rw [h]; simp

def VersPost (n : Nat) (w : World) (e : Ending) (w' : World) : Prop :=
  ∃ (a : Addr) (vs : List (Option Addr)), e = .returned (.slice (some a) n n) ∧ vs.length = n ∧ VL w' ⟨some a, n, n⟩ (vs.map Value.pointer) ∧ Fr (fun _ => False) w w'

set_option maxHeartbeats 2000000 in
theorem zzVersions_any (v d : Sl) (ss : List Sl) (bs : List Bool) (w : World) (h1 : Lst w v ss) (h2 : VL w d (bs.map Value.bool)) (hn : v.n ≤ 1048576) (hd : d.n ≤ maxLen) :
    Calls Try.prog 20 #[v.v, d.v] w (VersPost v.n w) := by
  obtain ⟨va, n, vc⟩ := v
  obtain ⟨da, dn, dc⟩ := d
  change Calls Try.prog 20 #[.slice va n vc, .slice da dn dc] w (VersPost n w)
  simp only at hn
  unfold maxLen at hd
  simp only at hd
  obtain ⟨i0, hin, hz0, hz1, hz2⟩ := info_parts info48
  have hmk := run_make (P := Try.prog) w 38 48 i0 (.pointer none) Try.underlying38 hin hz0 .i64 .i64 (n : Int) (n : Int) (by omega) (by omega) (by rw [hz2]; omega) (by omega)
  have e1 : ((n : Int)).toNat = n := by omega
  rw [e1, hz1, Nat.mul_one, show Value.cells (.pointer none) = #[.pointer none] from rfl] at hmk
  clear e1 hin hz0 hz1 hz2
  have hR0 : Row (w.alloc (.cells (madeCells #[.pointer none] n) 48)) w.heap.size 48 1 n n (vpart [] n) :=
    Row.new w _ 48 1 n n _ (by rw [length_vpart _ _ (Nat.zero_le _)]; simp) (Nat.le_refl _) (by unfold maxLen; omega) (by rw [size_madeCells]; simp) (by rw [toList_madeCells_one]; unfold vpart; simp)
  have HR0 := hide hR0; have H1 := hide h1; have H2 := hide h2
  clear hR0 h1 h2
  generalize madeCells #[.pointer none] n = made at *
  go_enter Try.func20, Try.ntmps20
  go_wp2_with fail
  go_loopw [6] (fun i wr => ∃ (k : Nat) (vs : List (Option Addr)), k ≤ n ∧ i = .int .i64 k ∧ Hid (vs.length = k) ∧ Hid (Row wr w.heap.size 48 1 n n (vpart vs n) ∧ Fr (fun _ => False) w wr)) (fun i _ => n - (intOf i).toNat)
  case atStart => exact ⟨0, [], Nat.zero_le _, rfl, hide rfl, hide ⟨unhide HR0, (Fr.refl _ w).alloc _⟩⟩
  case round =>
    obtain ⟨k, vs, hk, rfl, HL, HR⟩ := hrel
    by_cases hlt : k < n
    · obtain ⟨b, o, t, rfl, hc, ht⟩ := (unhide H1).at hlt
      have hct : wr.cell? ⟨b, o + k, none⟩ = some (.slice t.a t.n t.c) := ((unhide HR).2.cell (p := ⟨b, o + k, none⟩) (World.block_lt_of_cell? w _ hc) (fun e => e)).trans hc
      have x2 : wr.cell? ⟨w.heap.size, k, none⟩ = some (.pointer none) := (unhide HR).1.cell? (by rw [← unhide HL]; exact vpart_at vs n (by have := unhide HL; omega))
      have x3 := (unhide HR).1.frozen k
      have hgl := (unhide HR).1.lt
      clear hc ht
      have hset : Hid (∃ vs', vs'.length = k + 1 ∧ Row ((wr.setCell ⟨w.heap.size, k, none⟩ (.pointer (some ⟨wr.heap.size, 0, none⟩))).alloc (.cells #[.slice t.a t.n t.c] 77)) w.heap.size 48 1 n n (vpart vs' n) ∧ Fr (fun _ => False) w ((wr.setCell ⟨w.heap.size, k, none⟩ (.pointer (some ⟨wr.heap.size, 0, none⟩))).alloc (.cells #[.slice t.a t.n t.c] 77))) := hide (by
        refine ⟨vs ++ [some ⟨wr.heap.size, 0, none⟩], by simp [unhide HL], ?_, ((unhide HR).2.setCell ⟨w.heap.size, k, none⟩ _ (fun h => by simp at h)).alloc _⟩
        have := (unhide HR).1.setCell (j := k) (by rw [length_vpart _ _ (by have := unhide HL; omega)]; exact hlt) (.pointer (some ⟨wr.heap.size, 0, none⟩))
        rw [← unhide HL, vpart_succ vs n (by have := unhide HL; omega), unhide HL] at this
        exact this.alloc _)
      by_cases hkd : k < dn
      · obtain ⟨b2, o2, u, rfl, hc2, hu⟩ := (unhide H2).at hkd
        obtain ⟨bb, hbb, rfl⟩ : ∃ bb, bs[k]? = some bb ∧ Value.bool bb = u := by
          rw [List.getElem?_map] at hu
          obtain ⟨bb, h1, h2⟩ := Option.map_eq_some_iff.1 hu
          exact ⟨bb, h1, h2⟩
        have hcu : wr.cell? ⟨b2, o2 + k, none⟩ = some (.bool bb) := ((unhide HR).2.cell (p := ⟨b2, o2 + k, none⟩) (World.block_lt_of_cell? w _ hc2) (fun e => e)).trans hc2
        clear hc2 hu hbb
        cases bb with
        | true =>
          go_wp2_with fail
          go_roundw
          case rel => exact ⟨k + 1, vs ++ [none], by omega, by go_num, hide (by simp [unhide HL]), hide ⟨by rw [vpart_none vs n (by have := unhide HL; omega)]; exact (unhide HR).1, (unhide HR).2⟩⟩
          case measure => simp [intOf]; omega
        | false =>
          go_wp2_with fail
          go_roundw
          case rel =>
            obtain ⟨vs', l1, l2, l3⟩ := unhide hset
            exact ⟨k + 1, vs', by omega, by go_num, hide l1, hide ⟨l2, l3⟩⟩
          case measure => simp [intOf]; omega
      · go_wp2_with fail
        go_roundw
        case rel =>
          obtain ⟨vs', l1, l2, l3⟩ := unhide hset
          exact ⟨k + 1, vs', by omega, by go_num, hide l1, hide ⟨l2, l3⟩⟩
        case measure => simp [intOf]; omega
    · go_wp2_with fail
      go_ret
      have hkn : k = n := by omega
      have hvl : vs.length = n := by rw [unhide HL]; exact hkn
      have hr := (unhide HR).1
      rw [vpart_all vs n hvl] at hr
      exact ⟨_, vs, rfl, hvl, VL.row hr, (unhide HR).2⟩

/-- which writes no later write of the same key follows -/
def lastB : List (List UInt8) → List Bool
  | [] => []
  | x :: xs => (!xs.any (· == x)) :: lastB xs
theorem length_lastB : ∀ l : List (List UInt8), (lastB l).length = l.length
  | [] => rfl
  | x :: xs => by simp [lastB, length_lastB xs]
theorem lastB_at : ∀ (l : List (List UInt8)) (i : Nat) (h : i < l.length), (lastB l)[i]? = some (!(l.drop (i + 1)).any (· == l[i]))
  | [], i, h => by simp at h
  | x :: xs, 0, h => by simp [lastB]
  | x :: xs, i + 1, h => by
    have := lastB_at xs i (by simpa using h)
    simp [lastB, this]

/-- bools, one in the making, then false ones -/
def bpart (bs : List Bool) (n : Nat) : List Value := bs.map Value.bool ++ List.replicate (n - bs.length) (.bool false)
theorem length_bpart (bs : List Bool) (n : Nat) (h : bs.length ≤ n) : (bpart bs n).length = n := by unfold bpart; simp; omega
theorem bpart_split (bs : List Bool) (n : Nat) (h : bs.length < n) : bpart bs n = bs.map Value.bool ++ (.bool false) :: List.replicate (n - (bs.length + 1)) (.bool false) := by
  unfold bpart
  rw [show n - bs.length = (n - (bs.length + 1)) + 1 from by omega, List.replicate_succ]
theorem bpart_set (bs : List Bool) (n : Nat) (h : bs.length < n) (x : Bool) : (bpart bs n).set bs.length (.bool x) = bpart (bs ++ [x]) n := by
  rw [bpart_split bs n h, set_mid _ _ _ _ _ (by simp)]
  unfold bpart
  simp
theorem bpart_again (bs : List Bool) (n : Nat) (h : bs.length < n) (x y : Bool) : (bpart (bs ++ [x]) n).set bs.length (.bool y) = bpart (bs ++ [y]) n := by
  unfold bpart
  rw [List.map_append, List.map_append, List.append_assoc, List.append_assoc]
  show (bs.map Value.bool ++ (Value.bool x :: _)).set bs.length (.bool y) = bs.map Value.bool ++ (Value.bool y :: _)
  rw [set_mid _ _ _ _ _ (by simp)]
  simp
theorem bpart_at (bs : List Bool) (n : Nat) (h : bs.length < n) : ∃ b, (bpart bs n)[bs.length]? = some (.bool b) := ⟨false, by rw [bpart_split bs n h, List.getElem?_append_right (by simp)]; simp⟩
theorem bpart_at2 (bs : List Bool) (n : Nat) (h : bs.length < n) (x : Bool) : (bpart (bs ++ [x]) n)[bs.length]? = some (.bool x) := by
  unfold bpart
  rw [List.map_append, List.append_assoc, List.getElem?_append_right (by simp)]
  simp
theorem bpart_all (bs : List Bool) (n : Nat) (h : bs.length = n) : bpart bs n = bs.map Value.bool := by unfold bpart; rw [h]; simp

def LastPost (n : Nat) (lk : List (List UInt8)) (w : World) (e : Ending) (w' : World) : Prop :=
  ∃ a : Addr, e = .returned (.slice (some a) n n) ∧ VL w' ⟨some a, n, n⟩ ((lastB lk).map Value.bool) ∧ Fr (fun _ => False) w w'

set_option maxRecDepth 20000 in
set_option maxHeartbeats 4000000 in
theorem zzLast_any (k : Sl) (ks : List Sl) (lk : List (List UInt8)) (w : World) (h : LstB w k ks lk) (hn : k.n ≤ 1048576) :
    Calls Try.prog 22 #[k.v] w (LastPost k.n lk w) := by
  obtain ⟨ka, n, kc⟩ := k
  change Calls Try.prog 22 #[.slice ka n kc] w (LastPost n lk w)
  simp only at hn
  have hlk : lk.length = n := h.n_eq
  obtain ⟨i0, hin, hz0, hz1, hz2⟩ := info_parts info4
  have hmk := run_make (P := Try.prog) w 35 4 i0 (.bool false) Try.underlying35 hin hz0 .i64 .i64 (n : Int) (n : Int) (by omega) (by omega) (by rw [hz2]; omega) (by omega)
  have e1 : ((n : Int)).toNat = n := by omega
  rw [e1, hz1, Nat.mul_one, show Value.cells (.bool false) = #[.bool false] from rfl] at hmk
  clear e1 hin hz0 hz1 hz2
  have hR0 : Row (w.alloc (.cells (madeCells #[.bool false] n) 4)) w.heap.size 4 1 n n (bpart [] n) :=
    Row.new w _ 4 1 n n _ (by rw [length_bpart _ _ (Nat.zero_le _)]; simp) (Nat.le_refl _) (by unfold maxLen; omega) (by rw [size_madeCells]; simp) (by rw [toList_madeCells_one]; unfold bpart; simp)
  have HR0 := hide hR0; have H := hide h.weak; have HLK := hide hlk
  clear hR0 h hlk
  generalize madeCells #[.bool false] n = made at *
  go_enter Try.func22, Try.ntmps22
  go_wp2_with fail
  go_loopw [4] (fun i wr => ∃ k : Nat, k ≤ n ∧ i = .int .i64 k ∧ Hid (Row wr w.heap.size 4 1 n n (bpart ((lastB lk).take k) n) ∧ Fr (fun _ => False) w wr)) (fun i _ => n - (intOf i).toNat)
  case atStart => exact ⟨0, Nat.zero_le _, rfl, hide ⟨unhide HR0, (Fr.refl _ w).alloc _⟩⟩
  case round =>
    obtain ⟨k, hk, rfl, HR⟩ := hrel
    have hbl : Hid (((lastB lk).take k).length = k) := hide (by rw [List.length_take, length_lastB, unhide HLK]; omega)
    by_cases hlt : k < n
    · obtain ⟨b, o, t, lt, rfl, hc, ht, hlt', hbt, hmt⟩ := (unhide H).at hlt
      obtain ⟨b0, hb0⟩ := bpart_at ((lastB lk).take k) n (by rw [unhide hbl]; exact hlt)
      rw [unhide hbl] at hb0
      have x2 : wr.cell? ⟨w.heap.size, k, none⟩ = some (.bool b0) := (unhide HR).1.cell? hb0
      have x3 := (unhide HR).1.frozen k
      have HC := hide hc; have HLT := hide hlt'; have HBT := hide hbt; have HMT := hide hmt
      clear hc ht hlt' hbt hmt hb0
      go_wp2_with fail
      obtain ⟨W1, hW1⟩ : ∃ W, W = wr.setCell ⟨w.heap.size, k, none⟩ (.bool true) := ⟨_, rfl⟩
      rw [← hW1]
      have R1 : Row W1 w.heap.size 4 1 n n (bpart ((lastB lk).take k ++ [true]) n) := by
        rw [hW1]
        have := (unhide HR).1.setCell (j := k) (by rw [length_bpart _ _ (by rw [unhide hbl]; omega)]; exact hlt) (.bool true)
        have e := bpart_set ((lastB lk).take k) n (by rw [unhide hbl]; exact hlt) true
        rw [unhide hbl] at e
        rw [e] at this
        exact this
      have F1 : Fr (fun _ => False) w W1 := by rw [hW1]; exact (unhide HR).2.setCell ⟨w.heap.size, k, none⟩ _ (fun h => by simp at h)
      have HR1 := hide (⟨R1, F1⟩ : Row W1 w.heap.size 4 1 n n (bpart ((lastB lk).take k ++ [true]) n) ∧ Fr (fun _ => False) w W1)
      clear hW1 R1 F1 x2 x3
      go_loopw [5] (fun i2 wr2 => ∃ (j : Nat) (bb : Bool), k + 1 ≤ j ∧ j ≤ n ∧ i2 = .int .i64 j ∧ Hid (bb = !((lk.drop (k + 1)).take (j - (k + 1))).any (· == lt)) ∧ Hid (Row wr2 w.heap.size 4 1 n n (bpart ((lastB lk).take k ++ [bb]) n) ∧ Fr (fun _ => False) w wr2)) (fun i2 _ => n - (intOf i2).toNat)
      case atStart => exact ⟨k + 1, true, Nat.le_refl _, hlt, by first | rfl | go_num, hide (by simp), HR1⟩
      case round =>
        obtain ⟨j, bb, hj0, hj, rfl, HBB, HR2⟩ := hrel
        by_cases hjl : j < n
        · obtain ⟨t2, lt2, f1, f2, f3, f4, f5⟩ := (unhide H).at' hjl
          have q1 : wr.cell? ⟨b, o + j, none⟩ = some (.slice t2.a t2.n t2.c) := ((unhide HR2).2.cell (p := ⟨b, o + j, none⟩) (World.block_lt_of_cell? w _ f1) (fun e => e)).trans f1
          have q2 : wr.cell? ⟨b, o + k, none⟩ = some (.slice t.a t.n t.c) := ((unhide HR2).2.cell (p := ⟨b, o + k, none⟩) (World.block_lt_of_cell? w _ (unhide HC)) (fun e => e)).trans (unhide HC)
          have hat := bpart_at2 ((lastB lk).take k) n (by rw [unhide hbl]; exact hlt) bb
          rw [unhide hbl] at hat
          have q3 : wr.cell? ⟨w.heap.size, k, none⟩ = some (.bool bb) := (unhide HR2).1.cell? hat
          have q4 := (unhide HR2).1.frozen k
          obtain ⟨c, hc⟩ : ∃ c, c = Pl.cmp lt2 lt := ⟨_, rfl⟩
          have HA := hide (cmpW wr t2 t lt2 lt (f4.frame (unhide HR2).2) ((unhide HBT).frame (unhide HR2).2) f5 (unhide HMT)).drew
          rw [← hc] at HA
          have hstep : ((lk.drop (k + 1)).take (j + 1 - (k + 1))).any (· == lt) = (((lk.drop (k + 1)).take (j - (k + 1))).any (· == lt) || decide (c = 0)) := by
            have hd : (lk.drop (k + 1))[j - (k + 1)]? = some lt2 := by rw [List.getElem?_drop, ← f3]; congr 1; omega
            obtain ⟨h1, h2⟩ := List.getElem?_eq_some_iff.1 hd
            rw [show j + 1 - (k + 1) = (j - (k + 1)) + 1 from by omega, List.take_succ_eq_append_getElem h1, List.any_append, h2]
            congr 1
            simp only [List.any_cons, List.any_nil, Bool.or_false]
            rw [hc, Bool.eq_iff_iff, beq_iff_eq, decide_eq_true_iff]
            exact (Pl.cmp_zero_iff _ _).symm
          have HSTEP := hide hstep
          clear f1 f2 f3 f4 f5 hat hc hstep
          by_cases hz : c = 0
          · subst hz
            go_wp2_with fail
            go_quiet ((go_at_call 16; with_reducible exact Calls.quiet_of (unhide HA _)))
            go_wp2_with fail
            go_roundw
            case rel =>
              refine ⟨j + 1, false, by omega, by omega, by go_num, hide (by rw [unhide HSTEP]; simp), hide ⟨?_, ((unhide HR2).2.setCell ⟨w.heap.size, k, none⟩ _ (fun h => by simp at h)).drewN _⟩⟩
              have := (unhide HR2).1.setCell (j := k) (by rw [length_bpart _ _ (by simp [unhide hbl]; omega)]; exact hlt) (.bool false)
              have e := bpart_again ((lastB lk).take k) n (by rw [unhide hbl]; exact hlt) bb false
              rw [unhide hbl] at e
              rw [e] at this
              exact this
            case measure => simp [intOf]; omega
          · have hzb : (c == 0) = false := by rw [beq_eq_false_iff_ne]; exact hz
            have HZ := hide hz
            clear hz
            go_wp2_with fail
            go_quiet ((go_at_call 16; with_reducible exact Calls.quiet_of (unhide HA _)))
            go_wp2_with fail
            go_roundw
            case rel => exact ⟨j + 1, bb, by omega, by omega, by go_num, hide (by rw [unhide HSTEP, decide_eq_false (unhide HZ), Bool.or_false]; exact unhide HBB), hide ⟨(unhide HR2).1, (unhide HR2).2.drewN _⟩⟩
            case measure => simp [intOf]; omega
        · go_wp2_with fail
          go_roundw
          case rel =>
            refine ⟨k + 1, by omega, by go_num, hide ⟨?_, (unhide HR2).2⟩⟩
            have hj2 : j = n := by omega
            have e : (lastB lk).take (k + 1) = (lastB lk).take k ++ [bb] := by
              obtain ⟨h1, h2⟩ := List.getElem?_eq_some_iff.1 (unhide HLT)
              have h3 := lastB_at lk k h1
              obtain ⟨h4, h5⟩ := List.getElem?_eq_some_iff.1 h3
              rw [List.take_succ_eq_append_getElem h4, h5, h2, unhide HBB, hj2]
              congr 3
              rw [List.take_of_length_le (by rw [List.length_drop, unhide HLK]; omega)]
            rw [e]
            exact (unhide HR2).1
          case measure => simp [intOf]; omega
    · go_wp2_with fail
      go_ret
      have hkn : k = n := by omega
      have hr := (unhide HR).1
      have he : (lastB lk).take k = lastB lk := List.take_of_length_le (by rw [length_lastB, unhide HLK]; omega)
      rw [he, bpart_all _ n (by rw [length_lastB, unhide HLK])] at hr
      exact ⟨_, rfl, VL.row hr, (unhide HR).2⟩

def AscPost (lk : List (List UInt8)) (w : World) (e : Ending) (w' : World) : Prop :=
  (∃ m, w' = w.drewN m) ∧ ∃ b : Bool, e = .returned (.bool b) ∧ (b = true → ∀ i (h : i + 1 < lk.length), Pl.lt lk[i] lk[i + 1])

set_option maxRecDepth 20000 in
set_option maxHeartbeats 2000000 in
theorem zzAscending_any (k : Sl) (ks : List Sl) (lk : List (List UInt8)) (w : World) (h : LstW w k ks lk) (hn : k.n ≤ 1048576) :
    Calls Try.prog 27 #[k.v] w (AscPost lk w) := by
  obtain ⟨ka, n, kc⟩ := k
  change Calls Try.prog 27 #[.slice ka n kc] w (AscPost lk w)
  simp only at hn
  have hlk : lk.length = n := h.n_eq
  have H := hide h; have HLK := hide hlk
  clear h hlk
  go_enter Try.func27, Try.ntmps27
  go_wp2_with fail
  go_loopw [3] (fun i wr => ∃ j m : Nat, 1 ≤ j ∧ i = .int .i64 j ∧ j ≤ n + 1 ∧ Hid (∀ i (h : i + 1 < lk.length), i + 1 < j → Pl.lt lk[i] lk[i + 1]) ∧ Hid (wr = w.drewN m)) (fun i _ => n + 1 - (intOf i).toNat)
  case atStart => exact ⟨1, 0, Nat.le_refl _, rfl, by omega, hide (fun i h h2 => by omega), hide rfl⟩
  case round =>
    obtain ⟨j, m, hj0, rfl, hjn, HP, HW⟩ := hrel
    by_cases hlt : j < n
    · obtain ⟨i, hi⟩ : ∃ i : Nat, i + 1 = j := ⟨j - 1, by omega⟩
      have hij : (j : Int) - 1 = (i : Int) := by omega
      obtain ⟨b, o, t, lt, rfl, hc, ht, hl, hb, hm⟩ := (unhide H).at hlt
      obtain ⟨t2, lt2, f1, f2, f3, f4, f5⟩ := (unhide H).at' (show i < n by omega)
      have q1 : wr.cell? ⟨b, o + j, none⟩ = some (.slice t.a t.n t.c) := by rw [unhide HW]; exact hc
      have q2 : wr.cell? ⟨b, o + i, none⟩ = some (.slice t2.a t2.n t2.c) := by rw [unhide HW]; exact f1
      obtain ⟨c, hcc⟩ : ∃ c, c = Pl.cmp lt2 lt := ⟨_, rfl⟩
      have HA := hide (show CmpIs wr t2 t (Pl.cmp lt2 lt) from by rw [unhide HW]; exact cmpW w t2 t lt2 lt f4 hb f5 hm).drew
      rw [← hcc] at HA
      have HNX := hide (show c < 0 → ∀ i (h : i + 1 < lk.length), i + 1 < j + 1 → Pl.lt lk[i] lk[i + 1] from fun hneg i' h h2 => by
        by_cases e : i' + 1 < j
        · exact (unhide HP) i' h e
        · have e2 : i' = i := by omega
          subst e2
          have e3 : lk[i' + 1] = lt := by
            have := hl
            rw [← hi, List.getElem?_eq_getElem h] at this
            exact Option.some.inj this
          have e4 : lk[i'] = lt2 := by
            rw [List.getElem?_eq_getElem (by omega)] at f3
            exact Option.some.inj f3
          rw [e3, e4]
          unfold Pl.lt
          omega)
      have hin : i < n := by omega
      clear hc ht hl hb hm f1 f2 f3 f4 f5 hcc hi
      by_cases hz : 0 ≤ c
      · go_wp2_with fail
        go_quiet ((go_at_call 16; with_reducible exact Calls.quiet_of (unhide HA _)))
        go_wp2_with fail
        go_ret
        exact ⟨⟨_, by rw [unhide HW, World.drewN_drewN]⟩, false, rfl, fun h => by cases h⟩
      · have HZ := hide (show c < 0 by omega)
        go_wp2_with fail
        go_quiet ((go_at_call 16; with_reducible exact Calls.quiet_of (unhide HA _)))
        go_wp2_with fail
        go_roundw
        case rel => exact ⟨j + 1, _, by omega, by go_num, by omega, hide ((unhide HNX) (unhide HZ)), hide (by rw [unhide HW, World.drewN_drewN])⟩
        case measure => simp [intOf]; omega
    · go_wp2_with fail
      go_ret
      exact ⟨⟨_, unhide HW⟩, true, rfl, fun _ i h => (unhide HP) i h (by have := unhide HLK; omega)⟩
end Go.Proofs.Qxb6615626a
