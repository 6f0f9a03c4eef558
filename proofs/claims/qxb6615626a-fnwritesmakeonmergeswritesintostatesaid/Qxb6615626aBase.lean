/-
  What is said of memory throughout: byte slices, rows, frames. Laws of no function.
-/
import Derived.Test.Qxb6615626aRows
import Derived.WalkKit
import Derived.WalkSpells
import Derived.WalkLawsBesides
import Derived.Lib.Bytealg
import Derived.Laws.BytesArg
import Derived.Test.Qxb6615626aOrd
namespace Go.Proofs.Qxb6615626a
set_option linter.unusedVariables false
open Go.RowKit

theorem hide {p : Prop} (h : p) : Hid p := h
theorem unhide {p : Prop} (h : Hid p) : p := h

theorem ret_bool {a b : Bool} (h : a = b) : Ending.returned (.bool a) = .returned (.bool b) := by rw [h]
theorem ret_int {k : IntKind} {a b : Int} (h : a = b) : Ending.returned (.int k a) = .returned (.int k b) := by rw [h]

/-- A byte slice as a value: where it begins, its length, its capacity. -/
structure Sl where
  a : Option Addr
  n : Nat
  c : Nat

abbrev Sl.v (s : Sl) : Value := .slice s.a s.n s.c
def Sl.nil : Sl := ⟨none, 0, 0⟩

/-- The block in which it lies (0 where it is nil). -/
def Sl.blk (s : Sl) : Nat := match s.a with | some a => a.block | none => 0

/-- In the world w the slice s reads as the bytes l. -/
def Byt (w : World) (s : Sl) (l : List UInt8) : Prop :=
  l.length = s.n ∧ (s.a = none → s.n = 0) ∧ ∀ a, s.a = some a → a.spot = none ∧ ∀ i (h : i < l.length), w.cell? ⟨a.block, a.off + i, none⟩ = some (.int .u8 (l[i].toNat : Int))

theorem Byt.of_cells {w w' : World} {s : Sl} {l : List UInt8} (h : Byt w s l) (hc : ∀ o, s.a ≠ none → w'.cell? ⟨s.blk, o, none⟩ = w.cell? ⟨s.blk, o, none⟩) : Byt w' s l := by
  refine ⟨h.1, h.2.1, fun a ha => ⟨(h.2.2 a ha).1, fun i hi => ?_⟩⟩
  have e : a.block = s.blk := by unfold Sl.blk; rw [ha]
  have := (h.2.2 a ha).2 i hi
  rw [e] at this ⊢
  rw [hc _ (by rw [ha]; simp)]; exact this

theorem Byt.nil (w : World) : Byt w Sl.nil [] := ⟨rfl, fun _ => rfl, fun a h => by cases h⟩

theorem Byt.drew {w : World} {s : Sl} {l : List UInt8} (h : Byt w s l) : Byt w.drew s l := h
theorem Byt.drewN {w : World} {s : Sl} {l : List UInt8} (h : Byt w s l) (n : Nat) : Byt (w.drewN n) s l := h

/-- The bytes that the model's readers take off the slice. -/
theorem run_loadBytes_of {P : Program} (w : World) : ∀ (l : List UInt8) (a : Addr) (acc : ByteArray), (∀ j x, l[j]? = some x → w.cell? (a.add j) = some (.int .u8 x.toNat)) →
    (Extern.Bytes.loadBytes a l.length acc).run P w = .ok ⟨acc.data ++ l.toArray⟩ w
  | [], a, acc, _ => by simp [Extern.Bytes.loadBytes]
  | x :: l, a, acc, h => by
    have h0 : w.cell? a = some (.int .u8 x.toNat) := by
      have := h 0 x rfl
      simpa [Addr.add] using this
    have ih := run_loadBytes_of (P := P) w l (a.add 1) (acc.push x) (fun j y hy => by
      have := h (j + 1) y (by simpa using hy)
      have e : (a.add 1).add j = a.add (j + 1) := by
        unfold Addr.add
        by_cases hj : j = 0
        · subst hj; simp
        · simp [hj]; omega
      rw [e]; exact this)
    simp only [List.length_cons, Extern.Bytes.loadBytes, Sem.run_bind, run_load, h0, Result.andThen]
    have ex : ((x.toNat : Int).toNat.toUInt8) = x := by simp
    rw [ex, ih]
    congr 1
    apply ByteArray.ext
    simp [ByteArray.push]

theorem addr_add (b off j : Nat) : (⟨b, off, none⟩ : Addr).add j = ⟨b, off + j, none⟩ := by unfold Addr.add; split <;> simp_all

theorem run_bytesOf {P : Program} (w : World) (s : Sl) (l : List UInt8) (h : Byt w s l) : (Extern.Bytes.bytesOf s.v).run P w = .ok ⟨l.toArray⟩ w := by
  obtain ⟨a, n, c⟩ := s
  cases a with
  | none =>
    have : l = [] := by have h1 := h.1; have h2 := h.2.1 rfl; simp at h1 h2; rw [h2] at h1; exact List.length_eq_zero_iff.1 h1
    subst this; rfl
  | some a =>
    obtain ⟨b, off, sp⟩ := a
    have hs := h.2.2 _ rfl
    have hsp : sp = none := hs.1
    subst hsp
    have hn : n = l.length := h.1.symm
    subst hn
    have := run_loadBytes_of (P := P) w l ⟨b, off, none⟩ .empty (fun j x hj => by
      rw [addr_add]
      obtain ⟨hl, hx⟩ := List.getElem?_eq_some_iff.1 hj
      rw [hs.2 j hl, hx])
    show (Extern.Bytes.loadBytes ⟨b, off, none⟩ l.length .empty).run P w = _
    rw [this]
    congr 1
    apply ByteArray.ext
    show (#[] : Array UInt8) ++ l.toArray = l.toArray
    simp

theorem compareBytes_eq : ∀ a b : List UInt8, Lib.compareBytes a b = Pl.cmp a b
  | [], [] => rfl
  | [], _ :: _ => rfl
  | _ :: _, [] => rfl
  | a :: l, b :: m => by
    have ih := compareBytes_eq l m
    unfold Lib.compareBytes Pl.cmp; rw [ih]

theorem run_compareSl {P : Program} (w : World) (s t : Sl) (ls lt : List UInt8) (hs : Byt w s ls) (ht : Byt w t lt) :
    (Extern.BytealgCompare.compare #[s.v, t.v]).run P w = .ok (.int .i64 (Pl.cmp ls lt)) w := by
  change Sem.run P (do pure (goInt (Extern.BytealgCompare.cmp (← Extern.Bytes.bytesOf s.v) (← Extern.Bytes.bytesOf t.v)))) w = _
  simp only [Sem.run_bind, Sem.run_pure, run_bytesOf w s ls hs, run_bytesOf w t lt ht, Result.andThen]
  rw [Lib.cmp_eq, compareBytes_eq]
  rfl

set_option maxHeartbeats 1000000 in
set_option maxRecDepth 100000 in
/-- bytes.Compare -/
theorem compare_any (s t : Sl) (ls lt : List UInt8) (w : World) (hs : Byt w s ls) (ht : Byt w t lt) :
    Calls Try.prog 77 #[s.v, t.v] w fun e w' => e = .returned (.int .i64 (Pl.cmp ls lt)) ∧ w' = w := by
  have HS := hide hs; have HT := hide ht
  clear hs ht
  go_enter Try.func77, Try.ntmps77
  go_wp2
  rw [run_callFunc_extern Try.func111 (by kernel_rfl) (by kernel_rfl) (by kernel_rfl) (e := Extern.BytealgCompare.compare) (by kernel_rfl), run_compareSl _ s t ls lt (unhide HS) (unhide HT)]
  simp only [Result.andThen]
  rw [Oper.upon_value]
  go_wp2
  go_ret
  exact ⟨rfl, rfl⟩

theorem strOfNums_eq (l : List UInt8) : strOfNums (l.map fun x => (x.toNat : Int)) = ⟨l.toArray⟩ := by
  unfold strOfNums
  congr 1
  rw [List.map_map]
  have : ((fun n : Int => UInt8.ofNat n.toNat) ∘ fun x : UInt8 => (x.toNat : Int)) = id := by funext x; simp
  rw [this, List.map_id]

theorem run_convert_sl {P : Program} (w : World) (hu : P.underlying 23 = some (.slice 5)) (h5 : P.underlying 5 = some (.int .u8)) (s : Sl) (l : List UInt8) (h : Byt w s l) :
    ∀ dst, P.underlying dst = some .string → (convert 23 dst s.v).run P w = .ok (.string ⟨l.toArray⟩) w := by
  obtain ⟨a, n, c⟩ := s
  cases a with
  | none =>
    have : l = [] := by have h1 := h.1; have h2 := h.2.1 rfl; simp at h1 h2; rw [h2] at h1; exact List.length_eq_zero_iff.1 h1
    subst this
    exact run_convert_bytes_nil w 23 5 hu h5 n c
  | some a =>
    obtain ⟨b, off, sp⟩ := a
    have hs := h.2.2 _ rfl
    have hsp : sp = none := hs.1
    subst hsp
    have hn : n = l.length := h.1.symm
    subst hn
    have := run_convert_bytes_arg (P := P) w 23 5 hu h5 b off l.length c (l.map fun x => (x.toNat : Int)) (by simp) (fun i hi => by
      rw [hs.2 i hi]; simp [hi])
    rw [strOfNums_eq] at this
    exact this

set_option maxHeartbeats 1000000 in
/-- bytes.Equal -/
theorem equal_any (s t : Sl) (ls lt : List UInt8) (w : World) (hs : Byt w s ls) (ht : Byt w t lt) :
    Calls Try.prog 117 #[s.v, t.v] w fun e w' => e = .returned (.bool (ls == lt)) ∧ w' = w := by
  have c1 := run_convert_sl w Try.underlying23 Try.underlying5 s ls hs 9 Try.underlying9
  have c2 := run_convert_sl w Try.underlying23 Try.underlying5 t lt ht 9 Try.underlying9
  clear hs ht
  go_enter Try.func117, Try.ntmps117
  go_wp2
  go_ret
  exact ⟨rfl, rfl⟩

end Go.Proofs.Qxb6615626a
