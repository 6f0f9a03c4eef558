/-
  Slices of bytes, and slices of those, that came in.
-/
import Derived.Test.Qxb6615626aZz3
import Derived.ProofKit
import Derived.OpenShut
import Derived.Deep.Slices
import Derived.Below
namespace Go.Proofs.Qxb6615626a
open Go.ChangeShapes Go.WideShapes Go.ChangeAt Go.RowKit Go.Deep
set_option linter.unusedVariables false

theorem cells5 : Try.prog.cellsOf 5 = 1 := by kernel_rfl
theorem cells23 : Try.prog.cellsOf 23 = 1 := by kernel_rfl

section
variable {H : Type} {enc : TypeId × Value → H} {W : World}

/-- a slice of bytes that came in, by its cell -/
theorem open_byt {fuel : Nat} {v : Value} {x : DataW H × List MemPlace} (h : DataW.trod enc Try.prog W 0 (fun _ => true) true fuel 23 [v] = some x) :
    ∃ (s : Sl) (l : List UInt8), v = .slice s.a s.n s.c ∧ BytW W s l ∧ s.n ≤ maxLen := by
  rcases open_ints Try.underlying23 Try.underlying5 cells5 h with ⟨hcs, _⟩ | ⟨a, len, cap, zs, hcs, _, hl, hm, hz, _, hcell, hwz⟩
  · simp at hcs
    exact ⟨Sl.nil, [], hcs, (Byt.nil W).weak, Nat.zero_le _⟩
  · simp at hcs
    simp only [if_true] at hz
    refine ⟨⟨some a, len, cap⟩, (zs.take len).map fun n => UInt8.ofNat n.toNat, hcs, ⟨by simp; omega, fun e => (nomatch e), fun ad ha i hi => ?_⟩, Nat.le_trans hl hm⟩
    cases ha
    have hil : i < len := by simp at hi; omega
    have hiz : i < zs.length := by omega
    have hc := hcell i hiz
    obtain ⟨b, o, sp⟩ := a
    have hsp : sp = none := by
      have := World.cell?_spot (hcell 0 (by omega))
      simpa [Addr.add] using this
    subst hsp
    refine ⟨rfl, ?_⟩
    rw [addr_add] at hc
    rw [hc]
    congr 2
    simp only [List.getElem_map, List.getElem_take]
    have hw := bounds_u8 (hwz (zs[i]) (List.getElem_mem hiz))
    have e : zs.getD i 0 = zs[i] := by simp [List.getD, hiz]
    rw [e]
    have : (UInt8.ofNat (zs[i]).toNat).toNat = (zs[i]).toNat := by
      rw [UInt8.toNat_ofNat']
      omega
    rw [this]
    omega

theorem open_lst {fuel : Nat} {v : Value} {x : DataW H × List MemPlace} (h : DataW.trod enc Try.prog W 0 (fun _ => true) true fuel 22 [v] = some x) :
    ∃ (s : Sl) (ss : List Sl) (ls : List (List UInt8)), v = .slice s.a s.n s.c ∧ LstW W s ss ls ∧ s.n ≤ maxLen := by
  rcases open_slice1 Try.underlying22 cells23 h with ⟨hcs, _⟩ | ⟨a, len, cap, m, n, V, D, Pl, hcs, _, hl, hm, hmm, _, hx⟩
  · simp at hcs
    exact ⟨Sl.nil, [], [], hcs, ⟨⟨rfl, fun _ => rfl, fun a h => (nomatch h)⟩, rfl, fun i h => (nomatch h), fun t h => (nomatch h)⟩, Nat.zero_le _⟩
  · simp at hcs
    simp only [if_true] at hmm
    have hg : ∀ i, i < len → ∃ y : Sl × List UInt8, V i = .slice y.1.a y.1.n y.1.c ∧ BytW W y.1 y.2 ∧ y.1.n ≤ maxLen := fun i hi => by
      obtain ⟨s, l, h1, h2, h3⟩ := open_byt (hx i (by omega)).2
      exact ⟨(s, l), h1, h2, h3⟩
    have : Inhabited (Sl × List UInt8) := ⟨(Sl.nil, [])⟩
    obtain ⟨F, hF⟩ := choose_lt hg
    refine ⟨⟨some a, len, cap⟩, (List.range len).map fun i => (F i).1, (List.range len).map fun i => (F i).2, hcs, ⟨⟨by simp, fun e => (nomatch e), fun ad ha i hi => ?_⟩, by simp, fun i h1 h2 => ?_, fun t ht => ?_⟩, Nat.le_trans hl hm⟩
    · cases ha
      have hil : i < len := by simpa using hi
      have hc := (hx i (by omega)).1
      obtain ⟨b, o, sp⟩ := a
      have hsp : sp = none := by
        have := World.cell?_spot (hx 0 (by omega)).1
        simpa [Addr.add] using this
      subst hsp
      refine ⟨rfl, ?_⟩
      rw [addr_add] at hc
      rw [hc, (hF i hil).1]
      simp
    · have hil : i < len := by simpa using h1
      simp only [List.getElem_map, List.getElem_range]
      exact (hF i hil).2.1
    · obtain ⟨i, hi, rfl⟩ := List.mem_map.1 ht
      exact (hF i (List.mem_range.1 hi)).2.2
end

theorem Fr.toBelow {w w' : World} (h : Fr (fun _ => False) w w') : Below w.heap.size w w' := h.below (fun _ e => e.elim) (Nat.le_refl _)
end Go.Proofs.Qxb6615626a
