/-
  zzVersions, and what its pointers lead to.
-/
import Derived.Test.Qxb6615626aVers
import Derived.Test.Qxb6615626aAcc
namespace Go.Proofs.Qxb6615626a
open Go.RowKit
set_option linter.unusedVariables false

/-- a pointer to a Version, or nil; not into the block g -/
def PV (w : World) (g : Nat) (x : Option Addr) : Prop := ∀ a, x = some a → ∃ (b : Nat) (t : Sl), a = ⟨b, 0, none⟩ ∧ b ≠ g ∧ w.cell? ⟨b, 0, none⟩ = some (.slice t.a t.n t.c)
def PW (w : World) (x : Option Addr) : Prop := ∀ a, x = some a → ∃ (b : Nat) (t : Sl), a = ⟨b, 0, none⟩ ∧ w.cell? ⟨b, 0, none⟩ = some (.slice t.a t.n t.c)
theorem PV.weak {w : World} {g : Nat} {x : Option Addr} (h : PV w g x) : PW w x := fun a ha => by
  obtain ⟨b, t, h1, _, h2⟩ := h a ha; exact ⟨b, t, h1, h2⟩
theorem PV.frame {F : Nat → Prop} {w w' : World} {g : Nat} {x : Option Addr} (h : PV w g x) (hf : Fr F w w') (hn : ∀ k, F k → k = g) : PV w' g x := fun a ha => by
  obtain ⟨b, t, h1, h2, h3⟩ := h a ha
  exact ⟨b, t, h1, h2, (hf.cell (p := ⟨b, 0, none⟩) (World.block_lt_of_cell? w _ h3) (fun e => h2 (hn _ e))).trans h3⟩
theorem PW.frame {w w' : World} {x : Option Addr} (h : PW w x) (hf : Fr (fun _ => False) w w') : PW w' x := fun a ha => by
  obtain ⟨b, t, h1, h3⟩ := h a ha
  exact ⟨b, t, h1, (hf.cell (p := ⟨b, 0, none⟩) (World.block_lt_of_cell? w _ h3) (fun e => e)).trans h3⟩

theorem PV.snoc {w : World} {g : Nat} {vs : List (Option Addr)} (h : ∀ x ∈ vs, PV w g x) : ∀ x ∈ vs ++ [none], PV w g x := fun x hx => by
  rcases List.mem_append.1 hx with e | e
  · exact h x e
  · have : x = none := by simpa using e
    subst this
    exact fun a ha => nomatch ha

def VersPost2 (n : Nat) (w : World) (e : Ending) (w' : World) : Prop :=
  ∃ (a : Addr) (vs : List (Option Addr)), e = .returned (.slice (some a) n n) ∧ vs.length = n ∧ VL w' ⟨some a, n, n⟩ (vs.map Value.pointer) ∧ Fr (fun _ => False) w w' ∧ ∀ x ∈ vs, PW w' x

set_option maxHeartbeats 2000000 in
theorem zzVersions2_any (v d : Sl) (ss : List Sl) (bs : List Bool) (w : World) (h1 : Lst w v ss) (h2 : VL w d (bs.map Value.bool)) (hn : v.n ≤ 1048576) (hd : d.n ≤ maxLen) :
    Calls Try.prog 20 #[v.v, d.v] w (VersPost2 v.n w) := by
  obtain ⟨va, n, vc⟩ := v
  obtain ⟨da, dn, dc⟩ := d
  change Calls Try.prog 20 #[.slice va n vc, .slice da dn dc] w (VersPost2 n w)
  simp only at hn
  unfold maxLen at hd
  simp only at hd
  obtain ⟨i0, hin, hz0, hz1, hz2⟩ := info_parts info48
  have hmk := run_make (P := Try.prog) w 38 48 i0 (.pointer none) Try.underlying38 hin hz0 .i64 .i64 (n : Int) (n : Int) (by omega) (by omega) (by rw [hz2]; omega) (by omega)
  have e1 : ((n : Int)).toNat = n := by omega
  rw [e1, hz1, Nat.mul_one, show Value.cells (.pointer none) = #[.pointer none] from rfl] at hmk
  clear e1 hin hz0 hz1 hz2
  have hR0 : Row (w.alloc (.cells (madeCells #[.pointer none] n) 48)) w.heap.size 48 1 n n (vpart [] n) :=
    Row.new w _ 48 1 n n _ (by rw [length_vpart _ _ (Nat.zero_le _)]; simp) (Nat.le_refl _) (by unfold maxLen; omega) (by rw [size_madeCells]; simp) (by rw [toList_madeCells_one]; unfold vpart; simp)
  have HR0 := hide hR0; have H1 := hide h1; have H2 := hide h2
  clear hR0 h1 h2
  generalize madeCells #[.pointer none] n = made at *
  go_enter Try.func20, Try.ntmps20
  go_wp2_with fail
  go_loopw [6] (fun i wr => ∃ (k : Nat) (vs : List (Option Addr)), k ≤ n ∧ i = .int .i64 k ∧ Hid (vs.length = k) ∧ Hid (Row wr w.heap.size 48 1 n n (vpart vs n) ∧ Fr (fun _ => False) w wr) ∧ Hid (∀ x ∈ vs, PV wr w.heap.size x)) (fun i _ => n - (intOf i).toNat)
  case atStart => exact ⟨0, [], Nat.zero_le _, rfl, hide rfl, hide ⟨unhide HR0, (Fr.refl _ w).alloc _⟩, hide (fun x hx => by simp at hx)⟩
  case round =>
    obtain ⟨k, vs, hk, rfl, HL, HR, HP⟩ := hrel
    by_cases hlt : k < n
    · obtain ⟨b, o, t, rfl, hc, ht⟩ := (unhide H1).at hlt
      have hct : wr.cell? ⟨b, o + k, none⟩ = some (.slice t.a t.n t.c) := ((unhide HR).2.cell (p := ⟨b, o + k, none⟩) (World.block_lt_of_cell? w _ hc) (fun e => e)).trans hc
      have x2 : wr.cell? ⟨w.heap.size, k, none⟩ = some (.pointer none) := (unhide HR).1.cell? (by rw [← unhide HL]; exact vpart_at vs n (by have := unhide HL; omega))
      have x3 := (unhide HR).1.frozen k
      have hgl := (unhide HR).1.lt
      clear hc ht
      have hset : Hid (∃ vs', vs'.length = k + 1 ∧ Row ((wr.setCell ⟨w.heap.size, k, none⟩ (.pointer (some ⟨wr.heap.size, 0, none⟩))).alloc (.cells #[.slice t.a t.n t.c] 77)) w.heap.size 48 1 n n (vpart vs' n) ∧ Fr (fun _ => False) w ((wr.setCell ⟨w.heap.size, k, none⟩ (.pointer (some ⟨wr.heap.size, 0, none⟩))).alloc (.cells #[.slice t.a t.n t.c] 77)) ∧ ∀ x ∈ vs', PV ((wr.setCell ⟨w.heap.size, k, none⟩ (.pointer (some ⟨wr.heap.size, 0, none⟩))).alloc (.cells #[.slice t.a t.n t.c] 77)) w.heap.size x) := hide (by
        refine ⟨vs ++ [some ⟨wr.heap.size, 0, none⟩], by simp [unhide HL], ?_, ((unhide HR).2.setCell ⟨w.heap.size, k, none⟩ _ (fun h => by simp at h)).alloc _, fun x hx => ?_⟩
        rotate_left
        · rcases List.mem_append.1 hx with e | e
          · exact ((unhide HP) x e).frame (F := fun j => j = w.heap.size) (((Fr.refl (fun j => j = w.heap.size) wr).setCell ⟨w.heap.size, k, none⟩ _ (fun _ => rfl)).alloc _) (fun _ e => e)
          · have : x = some ⟨wr.heap.size, 0, none⟩ := by simpa using e
            subst this
            intro a ha
            cases ha
            refine ⟨wr.heap.size, t, rfl, by omega, ?_⟩
            have h1 := heap_alloc_new (wr.setCell ⟨w.heap.size, k, none⟩ (.pointer (some ⟨wr.heap.size, 0, none⟩))) (.cells #[.slice t.a t.n t.c] 77)
            have h2 : (wr.setCell ⟨w.heap.size, k, none⟩ (.pointer (some ⟨wr.heap.size, 0, none⟩))).heap.size = wr.heap.size := by simp [World.setCell]
            rw [h2] at h1
            exact (var_cell h1).1
        have := (unhide HR).1.setCell (j := k) (by rw [length_vpart _ _ (by have := unhide HL; omega)]; exact hlt) (.pointer (some ⟨wr.heap.size, 0, none⟩))
        rw [← unhide HL, vpart_succ vs n (by have := unhide HL; omega), unhide HL] at this
        exact this.alloc _)
      by_cases hkd : k < dn
      · obtain ⟨b2, o2, u, rfl, hc2, hu⟩ := (unhide H2).at hkd
        obtain ⟨bb, hbb, rfl⟩ : ∃ bb, bs[k]? = some bb ∧ Value.bool bb = u := by
          rw [List.getElem?_map] at hu
          obtain ⟨bb, h1, h2⟩ := Option.map_eq_some_iff.1 hu
          exact ⟨bb, h1, h2⟩
        have hcu : wr.cell? ⟨b2, o2 + k, none⟩ = some (.bool bb) := ((unhide HR).2.cell (p := ⟨b2, o2 + k, none⟩) (World.block_lt_of_cell? w _ hc2) (fun e => e)).trans hc2
        clear hc2 hu hbb
        cases bb with
        | true =>
          go_wp2_with fail
          go_roundw
          case rel => exact ⟨k + 1, vs ++ [none], by omega, by go_num, hide (by simp [unhide HL]), hide ⟨by rw [vpart_none vs n (by have := unhide HL; omega)]; exact (unhide HR).1, (unhide HR).2⟩, hide (PV.snoc (unhide HP))⟩
          case measure => simp [intOf]; omega
        | false =>
          go_wp2_with fail
          go_roundw
          case rel =>
            obtain ⟨vs', l1, l2, l3, l4⟩ := unhide hset
            exact ⟨k + 1, vs', by omega, by go_num, hide l1, hide ⟨l2, l3⟩, hide l4⟩
          case measure => simp [intOf]; omega
      · go_wp2_with fail
        go_roundw
        case rel =>
          obtain ⟨vs', l1, l2, l3, l4⟩ := unhide hset
          exact ⟨k + 1, vs', by omega, by go_num, hide l1, hide ⟨l2, l3⟩, hide l4⟩
        case measure => simp [intOf]; omega
    · go_wp2_with fail
      go_ret
      have hkn : k = n := by omega
      have hvl : vs.length = n := by rw [unhide HL]; exact hkn
      have hr := (unhide HR).1
      rw [vpart_all vs n hvl] at hr
      exact ⟨_, vs, rfl, hvl, VL.row hr, (unhide HR).2, fun x hx => ((unhide HP) x hx).weak⟩

end Go.Proofs.Qxb6615626a
