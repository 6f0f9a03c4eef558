/-
  Set (V by the namespace).
-/
import Derived.Test.Qxb6615626aSetIB
namespace Go.Proofs.Qxb6615626a.BV
open Go.RowKit
set_option linter.unusedVariables false

theorem EdAt.alloc {w : World} {eb : Nat} {root nl : Option Addr} {lo hi : Sl} {p : Nat} (h : EdAt w eb root nl lo hi p) (o : Obj) : EdAt (w.alloc o) eb root nl lo hi p := h.of_block (Below.heap_alloc _ _ _ h.lt)

theorem Row.lit1 (w : World) (v : Value) (e : TypeId) : Row (w.alloc (.cells #[v] e)) w.heap.size e 1 1 1 [v] :=
  Row.new w #[v] e 1 1 1 [v] rfl (Nat.le_refl _) (by unfold maxLen; omega) rfl rfl

/-- the tree of one new leaf -/
theorem first_leaf (f : Sl → List UInt8) (K : Sl → Prop) (B : Nat) (eb s : Nat) (key : Sl) (x : Option Addr) (w : World) (hs : w.heap.size = s) (hK : K key) (hB : B ≤ eb)
    (hE : EdAt w eb (some ⟨s + 1 + 1, 0, none⟩) (some ⟨s + 1 + 1, 0, none⟩) Sl.nil Sl.nil 0) :
    Ok f K B (((w.alloc (.cells #[key.v] 23)).alloc (.cells #[Value.pointer x] 48)).alloc (.cells #[.pointer none, .bool false, .slice (some ⟨s, 0, none⟩) 1 1, .slice (some ⟨s + 1, 0, none⟩) 1 1, .slice none 0 0] 119)) eb ⟨[⟨s + 1 + 1, s, 1, s + 1, 1, [(key, x)]⟩], none, []⟩ := by
  subst hs
  have helt := hE.lt
  have hl : Lf.At (((w.alloc (.cells #[key.v] 23)).alloc (.cells #[Value.pointer x] 48)).alloc (.cells #[.pointer none, .bool false, .slice (some ⟨w.heap.size, 0, none⟩) 1 1, .slice (some ⟨w.heap.size + 1, 0, none⟩) 1 1, .slice none 0 0] 119)) ⟨w.heap.size + 1 + 1, w.heap.size, 1, w.heap.size + 1, 1, [(key, x)]⟩ := by
    refine ⟨?_, ?_, ?_, by simp; omega, by simp, by simp⟩
    · have := heap_alloc_new ((w.alloc (.cells #[key.v] 23)).alloc (.cells #[Value.pointer x] 48)) (.cells #[.pointer none, .bool false, .slice (some ⟨w.heap.size, 0, none⟩) 1 1, .slice (some ⟨w.heap.size + 1, 0, none⟩) 1 1, .slice none 0 0] 119)
      simp only [World.size_alloc] at this
      exact this
    · exact ((Row.lit1 w key.v 23).alloc _).alloc _
    · have := (Row.lit1 (w.alloc (.cells #[key.v] 23)) (Value.pointer x) 48).alloc (.cells #[.pointer none, .bool false, .slice (some ⟨w.heap.size, 0, none⟩) 1 1, .slice (some ⟨w.heap.size + 1, 0, none⟩) 1 1, .slice none 0 0] 119)
      simp only [World.size_alloc] at this
      exact this
  have hmem : ∀ M, M ∈ [(⟨w.heap.size + 1 + 1, w.heap.size, 1, w.heap.size + 1, 1, [(key, x)]⟩ : Lf)] → M = ⟨w.heap.size + 1 + 1, w.heap.size, 1, w.heap.size + 1, 1, [(key, x)]⟩ := fun M hM => by simpa using hM
  have hge : ∀ k, Lf.own ⟨w.heap.size + 1 + 1, w.heap.size, 1, w.heap.size + 1, 1, [(key, x)]⟩ k → w.heap.size ≤ k := by
    rintro k (rfl | rfl | rfl) <;> first | omega | (dsimp only; omega)
  refine ⟨⟨?_, .inl ⟨rfl, by simp, rfl⟩, by simp, ?_, ?_, ?_, ?_, ?_, ?_, ?_, ?_, ?_⟩, ?_, some ⟨w.heap.size + 1 + 1, 0, none⟩, Sl.nil, Sl.nil, 0, ((hE.alloc _).alloc _).alloc _, by omega, .inr ⟨0, _, rfl, rfl, rfl, rfl⟩⟩
  · intro M hM; rw [hmem M hM]; exact hl
  · intro M hM hk; rw [hmem M hM] at hk; have := hge eb hk; omega
  · rintro k (e | ⟨M, hM, hk⟩ | ⟨I, hI, _⟩)
    · omega
    · rw [hmem M hM] at hk; have := hge k hk; omega
    · cases hI
  · simp; omega
  · intro M hM e he; rw [hmem M hM] at he; simp at he; rw [he]; exact hK
  · intro s hs; cases hs
  · unfold AscE Tr.es; simp
  · intro j s L hs; simp at hs
  · intro j s L hs; simp at hs
  · unfold Asc; simp
  · intro M hM; rw [hmem M hM]; simp

set_option maxHeartbeats 2000000 in
/-- Set on the empty tree -/
theorem set_nil (f : Sl → List UInt8) (K : Sl → Prop) (B : Nat) (eb : Nat) (key : Sl) (x : Option Addr) (w : World) (T : Tr) (h : Ok f K B w eb T) (hk : KOK f K B w) (hm : ∀ s, K s → s.n ≤ maxLen) (hK : K key) (hT : T.ls = []) :
    Calls Try.prog 44 #[.pointer (some ⟨eb, 0, none⟩), key.v, Value.pointer x] w (SetPost f K B eb T key x w) := by
  have HN := hide (setNear_any f K B eb T key x w h hk hm hK)
  obtain ⟨nl, lo, hi, p, hE, hp, hnear⟩ := h.ed
  have hinn : T.inn = none := by
    rcases h.core.sh with ⟨g1, _⟩ | ⟨I, _, _, g, _⟩
    · exact g1
    · rw [hT] at g; simp at g
  have hroot : T.root = none := by unfold Tr.root; rw [hinn, hT]
  rw [hroot] at hE
  have HO := hide h; have HE := hide hE
  clear h hE hnear
  go_enter Try.func44, Try.ntmps44
  go_wp2_with fail
  refine (unhide HN).mono ?_
  rintro e w1 (⟨rfl, n, hw1⟩ | ⟨⟨v1, v2, rfl⟩, hT'⟩)
  · have hE : EdAt w1 eb none nl lo hi p := by rw [hw1]; exact unhide HE
    have c0 := hE.c0; have c1 := hE.c1; have c2 := hE.c2; have c3 := hE.c3; have c4 := hE.c4; have c5 := hE.c5
    have g0 := hE.fz 0; have g2 := hE.fz 2; have g3 := hE.fz 3; have g4 := hE.fz 4; have g5 := hE.fz 5
    have elt := hE.lt
    have elt1 : eb < w1.heap.size + 1 := by omega
    have elt2 : eb < w1.heap.size + 1 + 1 := by omega
    have HE1 := hide hE; have HW1 := hide hw1
    clear hE hw1
    go_wp2_with fail
    go_ret2
    refine ⟨⟨_, _, rfl⟩, ?_⟩
    have hEW := ((unhide HE1).set0 (some ⟨w1.heap.size + 1 + 1, 0, none⟩)).setNear (some ⟨w1.heap.size + 1 + 1, 0, none⟩) Sl.nil Sl.nil 0
    refine ⟨_, first_leaf f K B eb w1.heap.size key x _ (by simp [World.setCell]) hK ((unhide HO).core.low eb (.inl rfl)) hEW, ?_, ?_, ?_⟩
    · unfold Tr.es; rw [hT]; rfl
    · have h0 : Fr (T.own eb) w w1 := by rw [unhide HW1]; exact (Fr.refl _ w).drewN n
      exact ((((((((h0.setCell ⟨eb, 0, none⟩ _ (fun _ => .inl rfl)).setCell ⟨eb, 2, none⟩ _ (fun _ => .inl rfl)).setCell ⟨eb, 3, none⟩ _ (fun _ => .inl rfl)).setCell ⟨eb, 4, none⟩ _ (fun _ => .inl rfl)).setCell ⟨eb, 5, none⟩ _ (fun _ => .inl rfl)).alloc _).alloc _).alloc _)
    · have hsz : w1.heap.size = w.heap.size := by rw [unhide HW1]; rfl
      rintro k (e | ⟨M, hM, hk⟩ | ⟨I, hI, _⟩)
      · exact .inl (.inl e)
      · have hM' : M = ⟨w1.heap.size + 1 + 1, w1.heap.size, 1, w1.heap.size + 1, 1, [(key, x)]⟩ := by simpa using hM
        subst hM'
        right
        rcases hk with rfl | rfl | rfl <;> first | omega | (dsimp only; omega)
      · cases hI
  · have HT' := hide hT'
    clear hT'
    go_wp2_with fail
    go_ret2
    exact ⟨⟨_, _, rfl⟩, unhide HT'⟩

/-- the root of a tree that is not empty is not too big -/
theorem root_fits {f : Sl → List UInt8} {K : Sl → Prop} {B : Nat} {w : World} {eb : Nat} {T : Tr} (h : Ok f K B w eb T) (hn : T.es.length ≤ 7001) (hne : T.es ≠ []) :
    ∃ (rb n m : Nat), T.root = some ⟨rb, 0, none⟩ ∧ n ≤ m ∧ m ≤ 256 ∧ (∀ W : World, W.heap = w.heap → Calls Try.prog 72 #[.pointer (some ⟨rb, 0, none⟩)] W fun e w' => e = .returned (.int .i64 n) ∧ w' = W) ∧
      (∀ W : World, W.heap = w.heap → Calls Try.prog 73 #[.pointer (some ⟨rb, 0, none⟩)] W fun e w' => e = .returned (.int .i64 m) ∧ w' = W) := by
  have cell : ∀ (W : World), W.heap = w.heap → ∀ a, W.cell? a = w.cell? a := fun W e a => by simp only [World.cell?, e]
  rcases h.core.sh with ⟨g1, g2, g3⟩ | ⟨I, g1, g2, g3, g4, g5, g6⟩
  · cases hl : T.ls with
    | nil => exact absurd (by unfold Tr.es; rw [hl]; rfl) hne
    | cons L C =>
      have hLm : L ∈ T.ls := by rw [hl]; simp
      have hL := h.core.lf L hLm
      refine ⟨L.nb, L.es.length, 256, by unfold Tr.root; rw [g1, hl], h.full L hLm, Nat.le_refl _, fun W e => ?_, fun W e => ?_⟩
      · exact size_leaf L.nb W _ _ _ (by rw [cell W e]; exact hL.node.c2) (by rw [cell W e]; exact hL.node.c4)
      · exact most_leaf L.nb W (by rw [cell W e]; exact hL.node.c4)
  · have hz := leaves_le T.ls g5
    unfold Tr.es at hn
    refine ⟨I.rb, (T.ls.map Lf.nb).length, 64, by unfold Tr.root; rw [g1], by rw [List.length_map]; omega, by omega, fun W e => ?_, fun W e => ?_⟩
    · exact size_inner I.rb W _ _ _ (by rw [cell W e]; exact g2.node.c4)
    · exact most_inner I.rb W _ _ _ (by rw [cell W e]; exact g2.node.c4)

theorem ins_ne {f : Sl → List UInt8} (key : Sl) (x : Option Addr) (es : List (Sl × Option Addr)) : ins f key x es ≠ [] := by
  cases es with
  | nil => simp [ins]
  | cons a es => unfold ins; split
                 · simp
                 · split <;> simp

set_option maxHeartbeats 2000000 in
/-- Set where the root is an inner node -/
theorem set_inn (f : Sl → List UInt8) (K : Sl → Prop) (B : Nat) (eb : Nat) (key : Sl) (x : Option Addr) (w : World) (T : Tr) (I : Inn) (h : Ok f K B w eb T) (hk : KOK f K B w) (hm : ∀ s, K s → s.n ≤ maxLen) (hK : K key) (hI : T.inn = some I) (hn : T.es.length ≤ 7000) :
    Calls Try.prog 44 #[.pointer (some ⟨eb, 0, none⟩), key.v, Value.pointer x] w (SetPost f K B eb T key x w) := by
  have HN := hide (setNear_any f K B eb T key x w h hk hm hK)
  obtain ⟨nl, lo, hi, p, hE, hp, hnear⟩ := h.ed
  have hroot : T.root = some ⟨I.rb, 0, none⟩ := by unfold Tr.root; rw [hI]
  rw [hroot] at hE
  have hIA : I.At w T.seps (T.ls.map Lf.nb) := by
    rcases h.core.sh with ⟨g1, _⟩ | ⟨I0, g1, g, _⟩
    · rw [hI] at g1; cases g1
    · rw [hI] at g1; cases g1; exact g
  have HO := hide h; have HE := hide hE; have HIA := hide hIA; have HK := hide hk; have HM := hide hm
  clear h hE hnear hIA hk hm
  go_enter Try.func44, Try.ntmps44
  go_wp2_with fail
  refine (unhide HN).mono ?_
  rintro e w1 (⟨rfl, n, hw1⟩ | ⟨⟨v1, v2, rfl⟩, hT'⟩)
  · have hh : w1.heap = w.heap := by rw [hw1]; rfl
    have hE : EdAt w1 eb (some ⟨I.rb, 0, none⟩) nl lo hi p := by rw [hw1]; exact unhide HE
    have c0 := hE.c0; have c1 := hE.c1; have g0 := hE.fz 0
    have i0 : w1.cell? ⟨I.rb, 0, none⟩ = some (.pointer none) := by rw [hw1]; exact (unhide HIA).node.c0
    have hsame : ∀ m, (w1.drewN m).setCell ⟨eb, 0, none⟩ (.pointer (some ⟨I.rb, 0, none⟩)) = w1.drewN m := fun m => setCell_same _ _ _ _ c0
    have HE1 := hide hE; have HW1 := hide hw1; have HH := hide hh
    clear hE hw1 hh
    go_wp2_with (go_at_call 70; refine (own_any eb I.rb _ (by exact i0) (by exact c1)).mono ?_; rintro e w2 ⟨rfl, m2, rfl⟩)
    refine (set_inner f K B eb T I key x (w1.drewN m2) (by exact (unhide HO).of_heap (unhide HH)) (by exact (unhide HK).below ⟨by rw [unhide HW1]; rfl, by rw [unhide HW1]; rfl, by rw [unhide HW1]; rfl, by rw [unhide HW1]; exact Nat.le_refl _, fun k _ => by rw [unhide HW1]; rfl⟩) (unhide HM) hK hI hn).mono ?_
    rintro e w3 ⟨⟨v1, v2, rfl⟩, T', hO', hes, hF, hown⟩
    obtain ⟨rb, rn, rm, hr', hle, h256, hsz, hmo⟩ := root_fits hO' (by rw [hes]; have := (length_ins (f := f) key x T.es).2; omega) (by rw [hes]; exact ins_ne key x _)
    obtain ⟨nl', lo', hi', p', hE', _⟩ := hO'.ed
    rw [hr'] at hE'
    have d0 := hE'.c0
    have hd : decide ((rm : Int) < (rn : Int)) = false := by rw [decide_eq_false_iff_not]; omega
    have HO' := hide hO'; have HES := hide hes; have HF := hide hF; have HOWN := hide hown; have HSZ := hide hsz; have HMO := hide hmo
    clear hO' hes hF hown hsz hmo hE' c0 c1 g0 i0 hsame
    go_wp2_with fail
    go_quiet (first | (go_at_call 72; exact Calls.quiet_of_same (unhide HSZ _ rfl)) | (go_at_call 73; exact Calls.quiet_of_same (unhide HMO _ rfl)))
    go_wp2_with fail
    go_ret2
    refine ⟨⟨_, _, rfl⟩, T', (unhide HO').of_heap rfl, unhide HES, ?_, ?_⟩
    · have h0 : Fr (T.own eb) w (w1.drewN m2) := by rw [unhide HW1]; exact ((Fr.refl _ w).drewN n).drewN m2
      exact (h0.trans (unhide HF) (fun _ _ h => h)).drewN nq
    · intro k hk
      have := unhide HOWN k hk
      rw [unhide HW1] at this; exact this
  · have HT' := hide hT'
    clear hT'
    go_wp2_with fail
    go_ret2
    exact ⟨⟨_, _, rfl⟩, unhide HT'⟩

set_option maxHeartbeats 2000000 in
/-- Set where the root is a leaf -/
theorem set_lf (f : Sl → List UInt8) (K : Sl → Prop) (B : Nat) (eb : Nat) (key : Sl) (x : Option Addr) (w : World) (T : Tr) (L : Lf) (h : Ok f K B w eb T) (hk : KOK f K B w) (hm : ∀ s, K s → s.n ≤ maxLen) (hK : K key) (hI : T.inn = none) (hT : T.ls = [L]) :
    Calls Try.prog 44 #[.pointer (some ⟨eb, 0, none⟩), key.v, Value.pointer x] w (SetPost f K B eb T key x w) := by
  have HN := hide (setNear_any f K B eb T key x w h hk hm hK)
  obtain ⟨nl, lo, hi, p, hE, hp, hnear⟩ := h.ed
  have hroot : T.root = some ⟨L.nb, 0, none⟩ := by unfold Tr.root; rw [hI, hT]
  rw [hroot] at hE
  have hLm : L ∈ T.ls := by rw [hT]; simp
  have hLA := h.core.lf L hLm
  have hseps : T.seps = [] := by
    rcases h.core.sh with ⟨_, _, g⟩ | ⟨I0, g1, _⟩
    · exact g
    · rw [hI] at g1; cases g1
  have PL : Place f T (f key) [] L [] := ⟨hT, fun j s hs => (by rw [hseps] at hs; cases hs), fun j s hs => (by rw [hseps] at hs; cases hs)⟩
  have hlen := h.full L hLm
  have hne := h.core.ne L hLm
  have hasc : AscE f L.es := by
    have := h.core.asc; unfold Tr.es at this; rw [hT] at this; simpa using this
  have HO := hide h; have HE := hide hE; have HLA := hide hLA; have HK := hide hk; have HP := hide PL; have HASC := hide hasc; have HSE := hide hseps; have HT := hide hT; have HI := hide hI
  clear h hE hnear hLA hk hm PL hasc hseps hT hI
  go_enter Try.func44, Try.ntmps44
  go_wp2_with fail
  refine (unhide HN).mono ?_
  rintro e w1 (⟨rfl, n, hw1⟩ | ⟨⟨v1, v2, rfl⟩, hT'⟩)
  · have hE : EdAt w1 eb (some ⟨L.nb, 0, none⟩) nl lo hi p := by rw [hw1]; exact unhide HE
    have c0 := hE.c0; have c1 := hE.c1; have g0 := hE.fz 0
    have i0 : w1.cell? ⟨L.nb, 0, none⟩ = some (.pointer none) := by rw [hw1]; exact (unhide HLA).node.c0
    have hsame : ∀ m, (w1.drewN m).setCell ⟨eb, 0, none⟩ (.pointer (some ⟨L.nb, 0, none⟩)) = w1.drewN m := fun m => setCell_same _ _ _ _ c0
    have HE1 := hide hE; have HW1 := hide hw1
    clear hE hw1
    go_wp2_with (go_at_call 70; refine (own_any eb L.nb _ (by exact i0) (by exact c1)).mono ?_; rintro e w2 ⟨rfl, m2, rfl⟩)
    refine (set_leaf f L eb _ nl lo hi ⟨none, 0, 0⟩ ⟨none, 0, 0⟩ key p x (w1.drewN m2) (by exact (unhide HLA).of_heap (by rw [unhide HW1]; rfl)) (by exact (unhide HE1)) (fun k hk he => hne (he ▸ hk)) (by omega)
      (fun e he => by rw [unhide HW1]; exact ((unhide HK) _ ((unhide HO).core.kk L hLm e he)).1) (by rw [unhide HW1]; exact ((unhide HK) key hK).1) (unhide HASC)).mono ?_
    rintro e w4 ⟨⟨v1, v2, rfl⟩, ⟨nb', kb', kc', vb', vc', es'⟩, q, hL', hnb, hes, hE', hq, hF, hown⟩
    have hnb' : nb' = L.nb := hnb
    subst hnb'
    have k2 := hL'.node.c2; have k4 := hL'.node.c4
    have hes' : es' = ins f key x L.es := hes
    have h0 : Fr (fun k => L.own k ∨ k = eb) w (w1.drewN m2) := by rw [unhide HW1]; exact ((Fr.refl _ w).drewN n).drewN m2
    have hF1 : Fr (fun k => L.own k ∨ k = eb) w w4 := h0.trans hF (fun _ _ h => h)
    have hown' : ∀ k, Lf.own ⟨L.nb, kb', kc', vb', vc', es'⟩ k → L.own k ∨ w.heap.size ≤ k := fun k hk => by have := hown k hk; rw [unhide HW1] at this; exact this
    have d0 := hE'.c0
    have HLA' := hide hL'; have HES := hide hes'; have HE' := hide hE'; have HF := hide hF1; have HOWN := hide hown'
    clear hL' hnb hes hes' hE' hF hF1 hown hown' c0 c1 g0 i0 hsame h0
    have hlen' : es'.length ≤ 257 := by have := (length_ins (f := f) key x L.es).2; rw [unhide HES]; omega
    by_cases hov : es'.length ≤ 256
    · have hd : decide ((256 : Int) < (es'.length : Int)) = false := by rw [decide_eq_false_iff_not]; omega
      have HOV := hide hov; have HLN := hide hlen'
      clear hov hlen' hlen
      go_wp2_with fail
      go_quiet (first | (go_at_call 72; exact Calls.quiet_of_same (size_leaf L.nb _ _ _ _ k2 k4)) | (go_at_call 73; exact Calls.quiet_of_same (most_leaf L.nb _ k4)))
      go_wp2_with fail
      go_ret2
      obtain ⟨T', t1, t2, t3, t4⟩ := (unhide HO).repl (L' := ⟨L.nb, kb', kc', vb', vc', es'⟩) (unhide HP) hK (unhide HLA') rfl (unhide HES) (unhide HF) (unhide HOWN) (unhide HOV) _ _ _ q (by rw [hroot]; exact unhide HE') hq ⟨rfl, by rw [unhide HSE]; rfl, by rw [unhide HSE]; rfl⟩
      exact ⟨⟨_, _, rfl⟩, T', t1.of_heap rfl, t2, t3.drewN nq, t4⟩
    · have hd : decide ((256 : Int) < (es'.length : Int)) = true := by rw [decide_eq_true_iff]; omega
      have he57 : es'.length = 257 := by omega
      have HOV := hide hov; have HLN := hide hlen'; have H57 := hide he57
      clear hov hlen' hlen he57
      have q2 := (unhide HE').c2; have q3 := (unhide HE').c3; have q4 := (unhide HE').c4; have q5 := (unhide HE').c5
      have g2 := (unhide HE').fz 2; have g3 := (unhide HE').fz 3; have g4 := (unhide HE').fz 4; have g5 := (unhide HE').fz 5
      go_wp2_with fail
      go_quiet (first | (go_at_call 72; exact Calls.quiet_of_same (size_leaf L.nb _ _ _ _ k2 k4)) | (go_at_call 73; exact Calls.quiet_of_same (most_leaf L.nb _ k4)))
      go_wp2_with fail
      obtain ⟨W5, hW5⟩ : ∃ W, W = ((((w4.drewN nq).setCell ⟨eb, 2, none⟩ (.pointer none)).setCell ⟨eb, 3, none⟩ (.slice none 0 0)).setCell ⟨eb, 4, none⟩ (.slice none 0 0)).setCell ⟨eb, 5, none⟩ (.int .i64 0) := ⟨_, rfl⟩
      rw [← hW5]
      have E5 : EdAt W5 eb (some ⟨L.nb, 0, none⟩) none Sl.nil Sl.nil 0 := by rw [hW5]; exact EdAt.setNear (w := w4.drewN nq) (unhide HE') none Sl.nil Sl.nil 0
      have F5 : Fr (fun k => k = eb) w4 W5 := by rw [hW5]; exact ((Fr.refl _ w4).drewN nq).trans (fr_near (w4.drewN nq) eb _ _ _ _) (fun _ _ h => h)
      have hLne : ∀ k, (⟨L.nb, kb', kc', vb', vc', es'⟩ : Lf).own k → k ≠ eb := fun k hk he => by
        subst he
        rcases unhide HOWN k hk with e | e
        · exact hne e
        · have := (unhide HE).lt; omega
      have L5 : Lf.At W5 ⟨L.nb, kb', kc', vb', vc', es'⟩ := (unhide HLA').fr F5 hLne
      have H5 := hide hW5; have HE5 := hide E5; have HF5 := hide F5; have HL5 := hide L5; have HLNE := hide hLne
      clear hW5 E5 F5 L5 hLne q2 q3 q4 q5 g2 g3 g4 g5 k2 k4
      refine (split_leaf ⟨L.nb, kb', kc', vb', vc', es'⟩ eb W5 (unhide HL5) (unhide HE5).c1 ((unhide HLNE) L.nb (.inl rfl)).symm (by have := unhide H57; show 2 ≤ es'.length; omega) (by have := unhide H57; show es'.length ≤ 500; omega)).mono ?_
      rintro e w6 ⟨L1, R, rfl, hL1, hR, hn1, hs1, hs2, hF6, ho1, ho2, hd12⟩
      have hm2 : es'.length / 2 < es'.length := by have := unhide H57; omega
      obtain ⟨sk, hsk⟩ : ∃ s, s = (es'[es'.length / 2]'hm2).1 := ⟨_, rfl⟩
      have hskv : (Lf.es ⟨L.nb, kb', kc', vb', vc', es'⟩)[(Lf.es ⟨L.nb, kb', kc', vb', vc', es'⟩).length / 2].1 = sk := hsk.symm
      rw [hskv]
      have E6 := (unhide HE5).fr hF6 (fun e => (unhide HLNE) eb e rfl)
      have c0 := E6.c0; have c1 := E6.c1; have g0 := E6.fz 0
      have elt := E6.lt
      have elt1 : eb < w6.heap.size + 1 := by omega
      have elt2 : eb < w6.heap.size + 1 + 1 := by omega
      have HL1 := hide hL1; have HR := hide hR; have HN1 := hide hn1; have HS1 := hide hs1; have HS2 := hide hs2; have HF6 := hide hF6; have HO1 := hide ho1; have HO2 := hide ho2; have HD := hide hd12; have HSK := hide hsk; have HE6 := hide E6
      clear hL1 hR hn1 hs1 hs2 hF6 ho1 ho2 hd12 hsk hskv E6
      go_wp2_with fail
      go_ret2
      refine ⟨⟨_, _, rfl⟩, ?_⟩
      obtain ⟨c1', c2', c3'⟩ := (unhide HO).core.repl (L' := ⟨L.nb, kb', kc', vb', vc', es'⟩) (unhide HP) hK (unhide HLA') rfl (unhide HES) (unhide HF) (unhide HOWN)
      have s0 := (unhide HF).size
      have s5 := (unhide HF5).size
      have s6 := (unhide HF6).size
      have hnb1 : L1.nb = L.nb := unhide HN1
      have h57 := unhide H57
      have hL1lt := (unhide HL1).lt
      have hRlt := (unhide HR).lt
      generalize hs : w6.heap.size = s at *
      obtain ⟨W, hW⟩ : ∃ W, W = (((w6.setCell ⟨eb, 0, none⟩ (.pointer (some ⟨s + 1 + 1, 0, none⟩))).alloc (.cells #[sk.v] 23)).alloc (.cells #[.pointer (some ⟨L.nb, 0, none⟩), .pointer (some ⟨R.nb, 0, none⟩)] 78)).alloc (.cells #[.pointer none, .bool false, .slice (some ⟨s, 0, none⟩) 1 1, .slice none 0 0, .slice (some ⟨s + 1, 0, none⟩) 2 2] 119) := ⟨_, rfl⟩
      rw [← hW]
      have hsz0 : (w6.setCell ⟨eb, 0, none⟩ (.pointer (some ⟨s + 1 + 1, 0, none⟩))).heap.size = s := by simp [World.setCell, hs]
      have F6W : Fr (fun k => k = eb) w6 W := by rw [hW]; exact ((((Fr.refl (fun k => k = eb) w6).setCell ⟨eb, 0, none⟩ _ (fun _ => rfl)).alloc _).alloc _).alloc _
      have EW : EdAt W eb (some ⟨s + 1 + 1, 0, none⟩) none Sl.nil Sl.nil 0 := by rw [hW]; exact ((((unhide HE6).set0 _).alloc _).alloc _).alloc _
      have hIW : Inn.At W ⟨s + 1 + 1, s, 1, s + 1, 2⟩ ([] ++ sk :: []) (([] ++ L1 :: R :: []).map Lf.nb) := by
        refine ⟨?_, ?_, ?_, by simp; omega, by simp, by simp⟩
        · rw [hW]
          have := heap_alloc_new (((w6.setCell ⟨eb, 0, none⟩ (.pointer (some ⟨s + 1 + 1, 0, none⟩))).alloc (.cells #[sk.v] 23)).alloc (.cells #[.pointer (some ⟨L.nb, 0, none⟩), .pointer (some ⟨R.nb, 0, none⟩)] 78)) (.cells #[.pointer none, .bool false, .slice (some ⟨s, 0, none⟩) 1 1, .slice none 0 0, .slice (some ⟨s + 1, 0, none⟩) 2 2] 119)
          simp only [World.size_alloc, hsz0] at this
          exact this
        · rw [hW]
          have := ((Row.lit1 (w6.setCell ⟨eb, 0, none⟩ (.pointer (some ⟨s + 1 + 1, 0, none⟩))) sk.v 23).alloc (.cells #[.pointer (some ⟨L.nb, 0, none⟩), .pointer (some ⟨R.nb, 0, none⟩)] 78)).alloc (.cells #[.pointer none, .bool false, .slice (some ⟨s, 0, none⟩) 1 1, .slice none 0 0, .slice (some ⟨s + 1, 0, none⟩) 2 2] 119)
          rw [hsz0] at this
          exact this
        · rw [hW]
          have := (Row.new ((w6.setCell ⟨eb, 0, none⟩ (.pointer (some ⟨s + 1 + 1, 0, none⟩))).alloc (.cells #[sk.v] 23)) #[.pointer (some ⟨L.nb, 0, none⟩), .pointer (some ⟨R.nb, 0, none⟩)] 78 1 2 2 [.pointer (some ⟨L.nb, 0, none⟩), .pointer (some ⟨R.nb, 0, none⟩)] rfl (Nat.le_refl _) (by unfold maxLen; omega) rfl rfl).alloc (.cells #[.pointer none, .bool false, .slice (some ⟨s, 0, none⟩) 1 1, .slice none 0 0, .slice (some ⟨s + 1, 0, none⟩) 2 2] 119)
          simp only [World.size_alloc, hsz0] at this
          show Row _ (s + 1) 78 1 2 2 [nptr L1.nb, nptr R.nb]
          rw [hnb1]
          exact this
      have F4W : Fr (fun k => (⟨L.nb, kb', kc', vb', vc', es'⟩ : Lf).own k ∨ k = eb ∨ ∃ I0, T.inn = some I0 ∧ I0.own k) w4 W := by
        refine (((unhide HF5).mono (G := fun k => (⟨L.nb, kb', kc', vb', vc', es'⟩ : Lf).own k ∨ k = eb ∨ ∃ I0, T.inn = some I0 ∧ I0.own k) (fun k _ e => .inr (.inl e))).trans (unhide HF6) (fun k _ e => .inl e)).trans F6W (fun k _ e => .inr (.inl e))
      have ne1 : ∀ k, L1.own k → ¬ k = eb := fun k hk he => by
        rcases unhide HO1 k hk with e | e
        · exact unhide HLNE k e he
        · have := (unhide HE5).lt; omega
      have ne2 : ∀ k, R.own k → ¬ k = eb := fun k hk he => by
        have := unhide HO2 k hk; have := (unhide HE5).lt; omega
      have oI' : ∀ k, Inn.own ⟨s + 1 + 1, s, 1, s + 1, 2⟩ k → s ≤ k := by
        rintro k (rfl | rfl | rfl) <;> first | omega | (dsimp only; omega)
      obtain ⟨t1, t2, t3⟩ := Core.split (f := f) (K := K) (B := B) (w := w4) (w' := W) (eb := eb) (T := { T with ls := [] ++ ⟨L.nb, kb', kc', vb', vc', es'⟩ :: [] }) (A := []) (L := ⟨L.nb, kb', kc', vb', vc', es'⟩) (L1 := L1) (R := R) (C := [])
        (SA := []) (SC := []) (I' := ⟨s + 1 + 1, s, 1, s + 1, 2⟩) (m := es'.length / 2) c1' rfl (unhide HSE) rfl (by omega) (by show es'.length / 2 + 128 ≤ es'.length; omega) ((unhide HL1).fr F6W ne1) ((unhide HR).fr F6W ne2) (unhide HS1) (unhide HS2)
        (by have e := unhide HSK; show Inn.At W _ ([] ++ (es'[es'.length / 2]'hm2).1 :: []) _; rw [← e]; exact hIW) F4W
        (fun k hk => (unhide HO1 k hk).imp id (fun e => by omega)) (fun k hk => by have := unhide HO2 k hk; omega)
        (fun k hk => .inr (by have := oI' k hk; omega))
        (unhide HD)
        (fun k hk hk' => by have := hL1lt k hk; have := oI' k hk'; omega)
        (fun k hk hk' => by have := hRlt k hk; have := oI' k hk'; omega)
      refine ⟨_, ⟨t1, ?_, none, Sl.nil, Sl.nil, 0, EW, by omega, .inl rfl⟩, t2.trans c2', ?_, ?_⟩
      · intro M hM
        simp at hM
        rcases hM with rfl | rfl
        · have := unhide HS1; rw [this]; simp; omega
        · have := unhide HS2; rw [this]; simp; omega
      · have hL0m : ∀ k, (⟨L.nb, kb', kc', vb', vc', es'⟩ : Lf).own k → k < w.heap.size → T.own eb k := fun k hk hlt => by
          rcases unhide HOWN k hk with e | e
          · exact .inr (.inl ⟨L, hLm, e⟩)
          · omega
        refine Fr.trans ((unhide HF).mono (G := T.own eb) (fun k _ hk => ?_)) F4W (fun k hlt hk => ?_)
        · rcases hk with e | e
          · exact .inr (.inl ⟨L, hLm, e⟩)
          · exact .inl e
        · rcases hk with e | e | e
          · exact hL0m k e hlt
          · exact .inl e
          · exact .inr (.inr e)
      · intro k hk
        rcases t3 k hk with e | e
        · exact c3' k e
        · exact .inr (by omega)
  · have HT' := hide hT'
    clear hT'
    go_wp2_with fail
    go_ret2
    exact ⟨⟨_, _, rfl⟩, unhide HT'⟩

/-- Set: the entry is stored, nothing else turns -/
theorem set_any (f : Sl → List UInt8) (K : Sl → Prop) (B : Nat) (eb : Nat) (key : Sl) (x : Option Addr) (w : World) (T : Tr) (h : Ok f K B w eb T) (hk : KOK f K B w) (hm : ∀ s, K s → s.n ≤ maxLen) (hK : K key) (hn : T.es.length ≤ 7000) :
    Calls Try.prog 44 #[.pointer (some ⟨eb, 0, none⟩), key.v, Value.pointer x] w (SetPost f K B eb T key x w) := by
  rcases h.core.sh with ⟨g1, g2, g3⟩ | ⟨I, g1, _⟩
  · cases hl : T.ls with
    | nil => exact set_nil f K B eb key x w T h hk hm hK hl
    | cons L C =>
      have hC : C = [] := by rw [hl] at g2; simp at g2; exact g2
      subst hC
      exact set_lf f K B eb key x w T L h hk hm hK g1 hl
  · exact set_inn f K B eb key x w T I h hk hm hK g1 hn

end Go.Proofs.Qxb6615626a.BV
