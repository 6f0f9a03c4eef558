/-
  Tree.least, First, After, Editor.First, Editor.After (V = *Version).
-/
import Derived.Test.Qxb6615626aFst
namespace Go.Proofs.Qxb6615626a.BV
open Go.RowKit
set_option linter.unusedVariables false

def LeastPost (es : List (Sl × Option Addr)) (i : Nat) (w : World) (e : Ending) (w' : World) : Prop := e = .returned (firstRes es i) ∧ Fr (fun _ => False) w w'

/-- a result of three parts -/
theorem firstRes_parts (es : List (Sl × Option Addr)) (i : Nat) : ∃ (a : Option Addr) (n c : Nat) (x : Option Addr) (b : Bool), firstRes es i = .tuple #[.slice a n c, .pointer x, .bool b] := by
  unfold firstRes
  split
  · exact ⟨_, _, _, _, _, rfl⟩
  · exact ⟨_, _, _, _, _, rfl⟩

theorem node_first (f : Sl → List UInt8) (K : Sl → Prop) (B eb : Nat) (T : Tr) (key : Sl) (above : Bool) (w : World) (h : Ok f K B w eb T) (hk : KOK f K B w) (hn : T.es.length ≤ 7000) (hkey : Byt w key (f key)) (r : Addr) (hr : T.root = some r) :
    Calls Try.prog 116 #[.pointer (some r), .slice key.a key.n key.c, .bool above] w (LeastPost T.es (fidx f T.es (f key) above) w) := by
  have hp : ∀ e w', (e = Ending.returned (firstRes T.es (fidx f T.es (f key) above)) ∧ ∃ n, w' = w.drewN n) → LeastPost T.es (fidx f T.es (f key) above) w e w' := fun e w' ⟨h1, n, h2⟩ => ⟨h1, by rw [h2]; exact (Fr.refl _ w).drewN n⟩
  rcases h.core.sh with ⟨g1, g2, g3⟩ | ⟨I, g1, _⟩
  · cases hl : T.ls with
    | nil =>
      have : T.root = none := by unfold Tr.root; rw [g1, hl]
      rw [this] at hr; cases hr
    | cons L ls =>
      have hls : ls = [] := by rw [hl] at g2; simp at g2; exact g2
      subst hls
      have hLm : L ∈ T.ls := by rw [hl]; simp
      have hr2 : T.root = some ⟨L.nb, 0, none⟩ := by unfold Tr.root; rw [g1, hl]
      have hes : T.es = L.es := by unfold Tr.es; rw [hl]; simp
      rw [hr2] at hr; cases hr
      rw [hes] at hp ⊢
      exact (node_first_leaf L f key above w (h.core.lf L hLm) (h.full L hLm) (fun e he => (hk e.1 (h.core.kk L hLm e he)).1) hkey (by rw [← hes]; exact h.core.asc)).mono hp
  · have hr2 : T.root = some ⟨I.rb, 0, none⟩ := by unfold Tr.root; rw [g1]
    rw [hr2] at hr; cases hr
    exact (node_first_inn I T f K B eb key above w h hk hn hkey g1).mono hp

theorem Byt.alloc1 {w : World} {s : Sl} {l : List UInt8} (h : Byt w s l) (o : Obj) : Byt (w.alloc o) s l := h.fr ((Fr.refl (fun _ => False) w).alloc o) (fun _ e => e)

set_option maxHeartbeats 1000000 in
theorem least_any (f : Sl → List UInt8) (K : Sl → Prop) (B eb : Nat) (T : Tr) (key : Sl) (above : Bool) (w : World) (h : Ok f K B w eb T) (hk : KOK f K B w) (hn : T.es.length ≤ 7000) (hkey : Byt w key (f key)) :
    Calls Try.prog 82 #[.agg #[.pointer T.root], .slice key.a key.n key.c, .bool above] w (LeastPost T.es (fidx f T.es (f key) above) w) := by
  cases hr : T.root with
  | none =>
    have hes : T.es = [] := by
      unfold Tr.root at hr
      rcases h.core.sh with ⟨g1, g2, g3⟩ | ⟨I, g1, _⟩
      · rw [g1] at hr
        cases hl : T.ls with
        | nil => unfold Tr.es; rw [hl]; rfl
        | cons L ls => rw [hl] at hr; simp at hr
      · rw [g1] at hr; simp at hr
    have HR := hide (firstRes_ge (es := T.es) (i := fidx f T.es (f key) above) (by rw [hes]; exact Nat.zero_le _))
    clear h hk hkey
    go_enter Try.func82, Try.ntmps82
    go_wp2_with fail
    refine bodyPost_ret (v := .tuple #[.slice none 0 0, .pointer none, .bool false]) (by simp [results, Try.results82, go_sem]) rfl ?_
    exact ⟨by rw [unhide HR], (Fr.refl _ w).alloc _⟩
  | some r =>
    obtain ⟨W1, hW1⟩ : ∃ W, W = w.alloc (.cells #[.pointer (some r)] 101) := ⟨_, rfl⟩
    have F1 : Fr (fun _ => False) w W1 := by rw [hW1]; exact (Fr.refl _ w).alloc _
    have HN := hide (node_first f K B eb T key above W1 (h.fr F1 (fun _ _ e => e)) (hk.fr F1 (fun _ _ e => e)) hn (hkey.fr F1 (fun _ e => e)) r hr)
    obtain ⟨a, n, c, x, b, hres⟩ := firstRes_parts T.es (fidx f T.es (f key) above)
    have HRES := hide hres; have HF1 := hide F1
    clear h hk hkey hres F1
    go_enter Try.func82, Try.ntmps82
    go_wp2_with fail
    rw [← hW1]
    refine (unhide HN).mono ?_
    rintro e W2 ⟨rfl, hF2⟩
    have HF2 := hide hF2
    clear hF2
    rw [unhide HRES]
    go_wp2_with fail
    refine bodyPost_ret (v := .tuple #[.slice a n c, .pointer x, .bool b]) (by simp [results, Try.results82, go_sem]) rfl ?_
    exact ⟨by rw [unhide HRES], (unhide HF1).trans (unhide HF2) (fun _ _ e => e)⟩

set_option maxHeartbeats 1000000 in
theorem tfirst_any (f : Sl → List UInt8) (K : Sl → Prop) (B eb : Nat) (T : Tr) (key : Sl) (w : World) (h : Ok f K B w eb T) (hk : KOK f K B w) (hn : T.es.length ≤ 7000) (hkey : Byt w key (f key)) :
    Calls Try.prog 56 #[.agg #[.pointer T.root], .slice key.a key.n key.c] w (LeastPost T.es (fidx f T.es (f key) false) w) := by
  obtain ⟨r, hr⟩ : ∃ r, r = T.root := ⟨_, rfl⟩
  obtain ⟨W1, hW1⟩ : ∃ W, W = w.alloc (.cells #[.pointer T.root] 101) := ⟨_, rfl⟩
  have F1 : Fr (fun _ => False) w W1 := by rw [hW1]; exact (Fr.refl _ w).alloc _
  have HN := hide (least_any f K B eb T key false W1 (h.fr F1 (fun _ _ e => e)) (hk.fr F1 (fun _ _ e => e)) hn (hkey.fr F1 (fun _ e => e)))
  obtain ⟨a, n, c, x, b, hres⟩ := firstRes_parts T.es (fidx f T.es (f key) false)
  have HRES := hide hres; have HF1 := hide F1
  rw [← hr] at HN hW1 ⊢
  clear h hk hkey hres F1 hr
  go_enter Try.func56, Try.ntmps56
  go_wp2_with fail
  rw [← hW1]
  refine (unhide HN).mono ?_
  rintro e W2 ⟨rfl, hF2⟩
  have HF2 := hide hF2
  clear hF2
  rw [unhide HRES]
  go_wp2_with fail
  refine bodyPost_ret (v := .tuple #[.slice a n c, .pointer x, .bool b]) (by simp [results, Try.results56, go_sem]) rfl ?_
  exact ⟨by rw [unhide HRES], (unhide HF1).trans (unhide HF2) (fun _ _ e => e)⟩

set_option maxHeartbeats 1000000 in
theorem tafter_any (f : Sl → List UInt8) (K : Sl → Prop) (B eb : Nat) (T : Tr) (key : Sl) (w : World) (h : Ok f K B w eb T) (hk : KOK f K B w) (hn : T.es.length ≤ 7000) (hkey : Byt w key (f key)) :
    Calls Try.prog 57 #[.agg #[.pointer T.root], .slice key.a key.n key.c] w (LeastPost T.es (fidx f T.es (f key) true) w) := by
  obtain ⟨r, hr⟩ : ∃ r, r = T.root := ⟨_, rfl⟩
  obtain ⟨W1, hW1⟩ : ∃ W, W = w.alloc (.cells #[.pointer T.root] 101) := ⟨_, rfl⟩
  have F1 : Fr (fun _ => False) w W1 := by rw [hW1]; exact (Fr.refl _ w).alloc _
  have HN := hide (least_any f K B eb T key true W1 (h.fr F1 (fun _ _ e => e)) (hk.fr F1 (fun _ _ e => e)) hn (hkey.fr F1 (fun _ e => e)))
  obtain ⟨a, n, c, x, b, hres⟩ := firstRes_parts T.es (fidx f T.es (f key) true)
  have HRES := hide hres; have HF1 := hide F1
  rw [← hr] at HN hW1 ⊢
  clear h hk hkey hres F1 hr
  go_enter Try.func57, Try.ntmps57
  go_wp2_with fail
  rw [← hW1]
  refine (unhide HN).mono ?_
  rintro e W2 ⟨rfl, hF2⟩
  have HF2 := hide hF2
  clear hF2
  rw [unhide HRES]
  go_wp2_with fail
  refine bodyPost_ret (v := .tuple #[.slice a n c, .pointer x, .bool b]) (by simp [results, Try.results57, go_sem]) rfl ?_
  exact ⟨by rw [unhide HRES], (unhide HF1).trans (unhide HF2) (fun _ _ e => e)⟩

set_option maxHeartbeats 1000000 in
/-- Editor.First -/
theorem efirst_any (f : Sl → List UInt8) (K : Sl → Prop) (B eb : Nat) (T : Tr) (key : Sl) (w : World) (h : Ok f K B w eb T) (hk : KOK f K B w) (hn : T.es.length ≤ 7000) (hkey : Byt w key (f key)) :
    Calls Try.prog 37 #[.pointer (some ⟨eb, 0, none⟩), .slice key.a key.n key.c] w (LeastPost T.es (fidx f T.es (f key) false) w) := by
  have HN := hide (tfirst_any f K B eb T key w h hk hn hkey)
  obtain ⟨nl, lo, hi, p, hE, _⟩ := h.ed
  have c0 := hE.c0
  obtain ⟨a, n, c, x, b, hres⟩ := firstRes_parts T.es (fidx f T.es (f key) false)
  have HRES := hide hres
  clear h hk hkey hres hE
  go_enter Try.func37, Try.ntmps37
  go_wp2_with fail
  refine (unhide HN).mono ?_
  rintro e W2 ⟨rfl, hF2⟩
  have HF2 := hide hF2
  clear hF2
  rw [unhide HRES]
  go_wp2_with fail
  refine bodyPost_ret (v := .tuple #[.slice a n c, .pointer x, .bool b]) (by simp [results, Try.results37, go_sem]) rfl ?_
  exact ⟨by rw [unhide HRES], unhide HF2⟩

set_option maxHeartbeats 1000000 in
/-- Editor.After -/
theorem eafter_any (f : Sl → List UInt8) (K : Sl → Prop) (B eb : Nat) (T : Tr) (key : Sl) (w : World) (h : Ok f K B w eb T) (hk : KOK f K B w) (hn : T.es.length ≤ 7000) (hkey : Byt w key (f key)) :
    Calls Try.prog 38 #[.pointer (some ⟨eb, 0, none⟩), .slice key.a key.n key.c] w (LeastPost T.es (fidx f T.es (f key) true) w) := by
  have HN := hide (tafter_any f K B eb T key w h hk hn hkey)
  obtain ⟨nl, lo, hi, p, hE, _⟩ := h.ed
  have c0 := hE.c0
  obtain ⟨a, n, c, x, b, hres⟩ := firstRes_parts T.es (fidx f T.es (f key) true)
  have HRES := hide hres
  clear h hk hkey hres hE
  go_enter Try.func38, Try.ntmps38
  go_wp2_with fail
  refine (unhide HN).mono ?_
  rintro e W2 ⟨rfl, hF2⟩
  have HF2 := hide hF2
  clear hF2
  rw [unhide HRES]
  go_wp2_with fail
  refine bodyPost_ret (v := .tuple #[.slice a n c, .pointer x, .bool b]) (by simp [results, Try.results38, go_sem]) rfl ?_
  exact ⟨by rw [unhide HRES], unhide HF2⟩
end Go.Proofs.Qxb6615626a.BV
