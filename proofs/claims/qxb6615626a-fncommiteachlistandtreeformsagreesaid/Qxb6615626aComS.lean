/-
  Commits kept as a list: ZZNewCommitSome, Each, ZZCommitEach.
-/
import Derived.Test.Qxb6615626aCom
import Derived.Test.Qxb6615626aVers
import Derived.BigRegion
namespace Go.Proofs.Qxb6615626a.BV
open Go.RowKit
set_option linter.unusedVariables false

theorem info91 : (Try.prog.info? 91).map (fun i => (i.zero, i.size, i.bytes)) = some (some (.agg #[.slice none 0 0, .pointer none]), 2, 32) := by kernel_rfl

/-- the cells of writes -/
def wcs : List (Sl × Option Addr) → List Value
  | [] => []
  | e :: es => e.1.v :: .pointer e.2 :: wcs es
theorem length_wcs : ∀ es, (wcs es).length = 2 * es.length
  | [] => rfl
  | e :: es => by simp [wcs, length_wcs es]; omega
theorem wcs_app : ∀ a b, wcs (a ++ b) = wcs a ++ wcs b
  | [], b => rfl
  | e :: a, b => by simp [wcs, wcs_app a b]
theorem wcs_key : ∀ (es : List (Sl × Option Addr)) (i : Nat) (h : i < es.length), (wcs es)[2 * i]? = some es[i].1.v
  | [], i, h => by simp at h
  | e :: es, 0, h => rfl
  | e :: es, i + 1, h => by
    have := wcs_key es i (by simpa using h)
    show (e.1.v :: .pointer e.2 :: wcs es)[2 * (i + 1)]? = _
    rw [show 2 * (i + 1) = 2 * i + 1 + 1 from by omega]
    simpa using this
theorem wcs_val : ∀ (es : List (Sl × Option Addr)) (i : Nat) (h : i < es.length), (wcs es)[2 * i + 1]? = some (.pointer es[i].2)
  | [], i, h => by simp at h
  | e :: es, 0, h => rfl
  | e :: es, i + 1, h => by
    have := wcs_val es i (by simpa using h)
    show (e.1.v :: .pointer e.2 :: wcs es)[2 * (i + 1) + 1]? = _
    rw [show 2 * (i + 1) + 1 = 2 * i + 1 + 1 + 1 from by omega]
    simpa using this

/-- writes, then zero ones -/
def zw : Sl × Option Addr := (Sl.nil, none)
def wpart (es : List (Sl × Option Addr)) (n : Nat) : List Value := wcs (es ++ List.replicate (n - es.length) zw)
theorem length_wpart (es : List (Sl × Option Addr)) (n : Nat) (h : es.length ≤ n) : (wpart es n).length = n * 2 := by unfold wpart; rw [length_wcs]; simp; omega
theorem wset : ∀ (es : List (Sl × Option Addr)) (i : Nat) (k : Sl) (x : Option Addr), i < es.length → ((wcs es).set (2 * i) k.v).set (2 * i + 1) (.pointer x) = wcs (es.set i (k, x))
  | [], i, k, x, h => by simp at h
  | e :: es, 0, k, x, h => rfl
  | e :: es, i + 1, k, x, h => by
    have := wset es i k x (by simpa using h)
    show ((e.1.v :: .pointer e.2 :: wcs es).set (2 * (i + 1)) k.v).set (2 * (i + 1) + 1) (.pointer x) = e.1.v :: .pointer e.2 :: wcs (es.set i (k, x))
    rw [show 2 * (i + 1) = 2 * i + 1 + 1 from by omega]
    simpa using this
theorem wpart_set (es : List (Sl × Option Addr)) (n : Nat) (h : es.length < n) (k : Sl) (x : Option Addr) : ((wpart es n).set (2 * es.length) k.v).set (2 * es.length + 1) (.pointer x) = wpart (es ++ [(k, x)]) n := by
  unfold wpart
  rw [wset _ _ _ _ (by simp; omega)]
  congr 1
  rw [show n - es.length = (n - (es.length + 1)) + 1 from by omega, List.replicate_succ, set_mid _ _ _ _ _ rfl]
  simp
theorem wpart_all (es : List (Sl × Option Addr)) (n : Nat) (h : es.length = n) : wpart es n = wcs es := by unfold wpart; rw [h]; simp
theorem wpart_zero (n : Nat) : wpart [] n = (List.replicate n zw).flatMap fun e => [e.1.v, .pointer e.2] := by
  unfold wpart
  simp only [List.nil_append, List.length_nil, Nat.sub_zero]
  induction n with
  | zero => rfl
  | succ n ih => simp [List.replicate_succ, wcs, ih]

theorem made2 (n : Nat) : (madeCells #[.slice none 0 0, .pointer none] (n * 2)).toList = wpart [] n := by
  apply List.ext_getElem?
  intro j
  have hl : (wpart [] n).length = n * 2 := length_wpart [] n (Nat.zero_le _)
  by_cases hj : j < n * 2
  · have hw : wpart [] n = wcs (List.replicate n zw) := by unfold wpart; simp
    rcases Nat.mod_two_eq_zero_or_one j with hm | hm
    · obtain ⟨i, rfl⟩ : ∃ i, j = 2 * i := ⟨j / 2, by omega⟩
      rw [hw, wcs_key _ i (by simp; omega)]
      simp [madeCells, hj, zw, Sl.nil]
    · obtain ⟨i, rfl⟩ : ∃ i, j = 2 * i + 1 := ⟨j / 2, by omega⟩
      rw [hw, wcs_val _ i (by simp; omega)]
      have : (2 * i + 1) % 2 = 1 := by omega
      simp [madeCells, hj, zw, this]
  · rw [List.getElem?_eq_none (by rw [Array.length_toList, size_madeCells]; omega), List.getElem?_eq_none (by rw [hl]; omega)]

/-- a Commit's block: its list, n -/
def CmSome (w : World) (cm g n : Nat) : Prop := ∃ c e x, w.heap[cm]? = some (.cells #[.pointer none, .slice (some ⟨g, 0, none⟩) n n, .int .i64 n, c, e, x] 87 (0, 0))

section
variable {w w' : World} {cm g n : Nat}
theorem CmSome.c0 (h : CmSome w cm g n) : w.cell? ⟨cm, 0, none⟩ = some (.pointer none) := by obtain ⟨c, e, x, h⟩ := h; simp [World.cell?, h]
theorem CmSome.c1 (h : CmSome w cm g n) : w.cell? ⟨cm, 1, none⟩ = some (.slice (some ⟨g, 0, none⟩) n n) := by obtain ⟨c, e, x, h⟩ := h; simp [World.cell?, h]
theorem CmSome.c2 (h : CmSome w cm g n) : w.cell? ⟨cm, 2, none⟩ = some (.int .i64 n) := by obtain ⟨c, e, x, h⟩ := h; simp [World.cell?, h]
theorem CmSome.lt (h : CmSome w cm g n) : cm < w.heap.size := by obtain ⟨c, e, x, h⟩ := h; exact (Array.getElem?_eq_some_iff.1 h).1
theorem CmSome.fr {F : Nat → Prop} (h : CmSome w cm g n) (hf : Fr F w w') (hn : ¬ F cm) : CmSome w' cm g n := by
  have hl := h.lt
  obtain ⟨c, e, x, h⟩ := h; exact ⟨c, e, x, by rw [hf.block cm hl hn]; exact h⟩
end

def SomePost (es : List (Sl × Option Addr)) (w : World) (e : Ending) (w' : World) : Prop :=
  ∃ cm g, e = .returned (.pointer (some ⟨cm, 0, none⟩)) ∧ CmSome w' cm g es.length ∧ Row w' g 91 2 es.length es.length (wcs es) ∧ Fr (fun _ => False) w w' ∧ w.heap.size ≤ cm ∧ w.heap.size ≤ g

set_option maxRecDepth 20000 in
set_option maxHeartbeats 4000000 in
theorem newSome_any (k v : Sl) (ks : List Sl) (vs : List (Option Addr)) (w : World) (h1 : Lst w k ks) (h2 : VL w v (vs.map Value.pointer)) (hn : v.n = k.n) (hn1 : k.n ≤ 4096) :
    Calls Try.prog 28 #[k.v, v.v, .int .i64 k.n, .int .i64 0, .int .i64 0] w (SomePost (ks.zip vs) w) := by
  obtain ⟨ka, kn, kc⟩ := k
  obtain ⟨va, vn, vc⟩ := v
  simp only at hn hn1
  subst hn
  change Calls Try.prog 28 #[.slice ka vn kc, .slice va vn vc, .int .i64 vn, .int .i64 0, .int .i64 0] w (SomePost (ks.zip vs) w)
  have e1 : ks.length = vn := h1.1
  have e2 : vs.length = vn := by have := h2.1; simpa using this
  have hzl : (ks.zip vs).length = vn := by simp; omega
  obtain ⟨i0, hin, hz0, hz1, hz2⟩ := info_parts info91
  have hmk := run_make (P := Try.prog) w 85 91 i0 (.agg #[.slice none 0 0, .pointer none]) Try.underlying85 hin hz0 .i64 .i64 (vn : Int) (vn : Int) (by omega) (by omega) (by rw [hz2]; omega) (by omega)
  have e3 : ((vn : Int)).toNat = vn := by omega
  rw [e3, hz1] at hmk
  have ec : (Value.agg #[.slice none 0 0, .pointer none]).cells = #[.slice none 0 0, .pointer none] := rfl
  rw [ec] at hmk
  clear hin hz0 hz1 hz2 e3 ec
  have hR0 : Row (w.alloc (.cells (madeCells #[.slice none 0 0, .pointer none] (vn * 2)) 91)) w.heap.size 91 2 vn vn (wpart [] vn) :=
    Row.new w _ 91 2 vn vn _ (length_wpart _ _ (Nat.zero_le _)) (Nat.le_refl _) (by unfold maxLen; omega) (size_madeCells _ _) (by rw [made2, List.take_of_length_le (by rw [length_wpart _ _ (Nat.zero_le _)]; exact Nat.le_refl _)])
  have HR0 := hide hR0; have H1 := hide h1; have H2 := hide h2; have E1 := hide e1; have E2 := hide e2; have HZL := hide hzl
  clear hR0 h1 h2 e1 e2 hzl
  generalize madeCells #[.slice none 0 0, .pointer none] (vn * 2) = made at *
  go_enter Try.func28, Try.ntmps28
  go_wp2_with fail
  go_loopw [12] (fun i wr => ∃ k : Nat, k ≤ vn ∧ i = .int .i64 k ∧ Hid (Row wr w.heap.size 91 2 vn vn (wpart ((ks.zip vs).take k) vn) ∧ Fr (fun _ => False) w wr)) (fun i _ => vn - (intOf i).toNat)
  case atStart => exact ⟨0, Nat.zero_le _, rfl, hide ⟨unhide HR0, (Fr.refl _ w).alloc _⟩⟩
  case round =>
    obtain ⟨k, hk, rfl, HR⟩ := hrel
    have htl : Hid (((ks.zip vs).take k).length = k) := hide (by rw [List.length_take, unhide HZL]; omega)
    by_cases hlt : k < vn
    · obtain ⟨b1, o1, y, rfl, hc1, g1⟩ := (unhide H1).at hlt
      obtain ⟨b2, o2, u, rfl, hc2, k1⟩ := (unhide H2).at hlt
      obtain ⟨x, hx, rfl⟩ : ∃ x, vs[k]? = some x ∧ Value.pointer x = u := by
        rw [List.getElem?_map] at k1
        obtain ⟨x, h1, h2⟩ := Option.map_eq_some_iff.1 k1
        exact ⟨x, h1, h2⟩
      have hcx : wr.cell? ⟨b1, o1 + k, none⟩ = some (.slice y.a y.n y.c) := ((unhide HR).2.cell (p := ⟨b1, o1 + k, none⟩) (World.block_lt_of_cell? w _ hc1) (fun e => e)).trans hc1
      have hcy : wr.cell? ⟨b2, o2 + k, none⟩ = some (.pointer x) := ((unhide HR).2.cell (p := ⟨b2, o2 + k, none⟩) (World.block_lt_of_cell? w _ hc2) (fun e => e)).trans hc2
      have hl1 : b1 < w.heap.size := World.block_lt_of_cell? w _ hc1
      have hl2 : b2 < w.heap.size := World.block_lt_of_cell? w _ hc2
      have hzk : Hid ((ks.zip vs)[k]? = some (y, x)) := hide (List.getElem?_zip_eq_some (z := (_, _)).2 ⟨g1, hx⟩)
      have hpl : k < ((ks.zip vs).take k ++ List.replicate (vn - ((ks.zip vs).take k).length) zw).length := by simp [unhide HZL]; omega
      have hs1 : wr.cell? ⟨w.heap.size, 2 * k, none⟩ = some (.slice none 0 0) := (unhide HR).1.cell? (by unfold wpart; rw [wcs_key _ k hpl, List.getElem_append_right (by rw [unhide htl]; exact Nat.le_refl _)]; simp [zw, Sl.nil])
      have hs2 : wr.cell? ⟨w.heap.size, 2 * k + 1, none⟩ = some (.pointer none) := (unhide HR).1.cell? (by unfold wpart; rw [wcs_val _ k hpl, List.getElem_append_right (by rw [unhide htl]; exact Nat.le_refl _)]; simp [zw])
      have z1 := (unhide HR).1.frozen (2 * k); have z2 := (unhide HR).1.frozen (2 * k + 1)
      have hgl := (unhide HR).1.lt
      clear hc1 hc2 g1 k1 hx hpl
      go_wp2_with fail
      rw [Nat.mul_comm] at hs1 hs2 z1 z2
      go_region
      go_wp2_with fail
      refine ⟨⟨k + 1, by omega, by go_num, hide ⟨?_, ?_⟩⟩, ?_⟩
      · have R := ((unhide HR).1.setCell (j := 2 * k) (by rw [length_wpart _ _ (by rw [unhide htl]; omega)]; omega) (.slice y.a y.n y.c)).setCell (j := 2 * k + 1) (by rw [List.length_set, length_wpart _ _ (by rw [unhide htl]; omega)]; omega) (.pointer x)
        have e := wpart_set ((ks.zip vs).take k) vn (by rw [unhide htl]; exact hlt) y x
        rw [unhide htl] at e
        rw [e] at R
        have e2 : (ks.zip vs).take (k + 1) = (ks.zip vs).take k ++ [(y, x)] := by
          obtain ⟨h1, h2⟩ := List.getElem?_eq_some_iff.1 (unhide hzk)
          rw [List.take_succ_eq_append_getElem h1, h2]
        rw [e2, Nat.mul_comm k 2]
        exact R
      · exact ((((unhide HR).2.setCell ⟨w.heap.size, k * 2, none⟩ _ (fun h => by simp at h)).setCell ⟨w.heap.size, k * 2 + 1, none⟩ _ (fun h => by simp at h))).drew
      · simp [intOf]; omega
    · have hkn : k = vn := by omega
      have hr := (unhide HR).1
      rw [hkn, List.take_of_length_le (by rw [unhide HZL]; exact Nat.le_refl _), wpart_all _ _ (unhide HZL)] at hr
      have HRR := hide hr
      clear hr hkn
      go_wp2_with fail
      go_ret
      have hsz := (unhide HR).2.size
      have F := (unhide HR).2.alloc (.cells #[.pointer none, .slice (some ⟨w.heap.size, 0, none⟩) vn vn, .int .i64 vn, .int .i64 0, .int .i64 0, .pointer none] 87)
      refine ⟨wr.heap.size, w.heap.size, rfl, ?_, ?_, F, hsz, Nat.le_refl _⟩
      · rw [unhide HZL]; exact ⟨_, _, _, heap_alloc_new wr _⟩
      · rw [unhide HZL]; exact (unhide HRR).alloc _

/-- all that Each's loop over a list works on -/
structure EachL (w0 w : World) (N : Nat) (es : List (Sl × Option Addr)) (b1 g1 b2 g2 cm g : Nat) (xs ys : List Value) : Prop where
  row : Row w g 91 2 es.length es.length (wcs es)
  a1 : Acc w 22 23 b1 g1 xs
  a2 : Acc w 38 48 b2 g2 ys
  fr : Fr (fun k => N ≤ k) w0 w
  cmt : CmSome w cm g es.length
  gg : g1 ≠ g2 ∧ g1 ≠ b2 ∧ g2 ≠ b1 ∧ b1 ≠ b2
  lo : N ≤ g1 ∧ N ≤ g2 ∧ N ≤ b1 ∧ N ≤ b2
  cl : cm < N
  gl : g < N

section
variable {w0 w w' : World} {N : Nat} {es : List (Sl × Option Addr)} {b1 g1 b2 g2 cm g : Nat} {xs ys : List Value}

theorem EachL.keep (h : EachL w0 w N es b1 g1 b2 g2 cm g xs ys) (hf : Fr (fun _ => False) w w') : EachL w0 w' N es b1 g1 b2 g2 cm g xs ys :=
  ⟨h.row.fr hf (fun e => e), h.a1.fr hf (fun e => e) (fun e => e), h.a2.fr hf (fun e => e) (fun e => e), h.fr.trans hf (fun _ _ e => e.elim), h.cmt.fr hf (fun e => e), h.gg, h.lo, h.cl, h.gl⟩

theorem EachL.clo (h : EachL w0 w N es b1 g1 b2 g2 cm g xs ys) {s e : Value} {g1' g2' : Nat} (x1 : Acc w' 22 23 b1 g1' (xs ++ [s])) (x2 : Acc w' 38 48 b2 g2' (ys ++ [e]))
    (hf : Fr (fun k => k = b1 ∨ k = g1 ∨ k = b2 ∨ k = g2) w w') (h1 : g1' = g1 ∨ w.heap.size ≤ g1') (h2 : g2' = g2 ∨ w.heap.size ≤ g2') (h12 : g1' ≠ g2') :
    EachL w0 w' N es b1 g1' b2 g2' cm g (xs ++ [s]) (ys ++ [e]) := by
  obtain ⟨e1, e2, e3, e4⟩ := h.gg
  obtain ⟨l1, l2, l3, l4⟩ := h.lo
  have hb1 := h.a1.lt; have hb2 := h.a2.lt
  have hNs : N ≤ w.heap.size := Nat.le_trans l3 (Nat.le_of_lt hb1)
  have no : ∀ k, k < N → ¬ (k = b1 ∨ k = g1 ∨ k = b2 ∨ k = g2) := fun k hk e => by
    rcases e with e | e | e | e
    · exact absurd hk (by rw [e]; exact Nat.not_lt.2 l3)
    · exact absurd hk (by rw [e]; exact Nat.not_lt.2 l1)
    · exact absurd hk (by rw [e]; exact Nat.not_lt.2 l4)
    · exact absurd hk (by rw [e]; exact Nat.not_lt.2 l2)
  have up : ∀ k, (k = b1 ∨ k = g1 ∨ k = b2 ∨ k = g2) → N ≤ k := fun k e => Nat.not_lt.1 (fun hk => no k hk e)
  exact ⟨h.row.fr hf (no g h.gl), x1, x2, h.fr.trans hf (fun k _ e => up k e), h.cmt.fr hf (no cm h.cl),
    ⟨h12, (ne_new h1 e2.symm hb2).symm, (ne_new h2 e3.symm hb1).symm, e4⟩, ⟨le_new h1 l1 hNs, le_new h2 l2 hNs, l3, l4⟩, h.cl, h.gl⟩
end

set_option maxRecDepth 20000 in
set_option maxHeartbeats 4000000 in
theorem eachSome_any (es : List (Sl × Option Addr)) (w : World) (cm g N b1 b2 : Nat) (hn : es.length ≤ 4096) (hrow : Row w g 91 2 es.length es.length (wcs es)) (hcm : CmSome w cm g es.length) (a1 : Acc w 22 23 b1 b1 []) (a2 : Acc w 38 48 b2 b2 [])
    (h12 : b1 ≠ b2) (hcl : cm < N) (hgl : g < N) (hb1 : N ≤ b1) (hb2 : N ≤ b2) :
    Calls Try.prog 45 #[.pointer (some ⟨cm, 0, none⟩), .func (.func 46) #[] #[.pointer (some ⟨b1, 0, none⟩), .pointer (some ⟨b2, 0, none⟩)]] w (EachBPost es N b1 b2 w) := by
  have c0 := hcm.c0; have c1 := hcm.c1
  have J0 : EachL w w N es b1 b1 b2 b2 cm g [] [] := ⟨hrow, a1, a2, Fr.refl _ w, hcm, ⟨h12, h12, h12.symm, h12⟩, ⟨hb1, hb2, hb1, hb2⟩, hcl, hgl⟩
  have HJ := hide J0
  clear hrow hcm a1 a2 h12 hcl hgl hb1 hb2 J0
  obtain ⟨n, hnn⟩ : ∃ n, n = es.length := ⟨_, rfl⟩
  rw [← hnn] at c1 hn
  have HNN := hide hnn
  clear hnn
  go_enter Try.func45, Try.ntmps45
  go_wp2_with fail
  go_loopg [20] n (fun gk v20 wr => ∃ p g1 g2 : Nat, gk + p = n ∧ v20 = .int .i64 p ∧ Hid (EachL w wr N es b1 g1 b2 g2 cm g (kvs (es.take p)) (vvs (es.take p))))
  case atStart => exact ⟨0, b1, b2, rfl, rfl, HJ⟩
  case round =>
    obtain ⟨p, g1, g2, hgp, rfl, HJ⟩ := hrel
    by_cases hpn : p < n
    · have hpl : p < es.length := by have := unhide HNN; omega
      obtain ⟨s, hs⟩ : ∃ s, s = es[p].1 := ⟨_, rfl⟩
      obtain ⟨x, hx⟩ : ∃ x, x = es[p].2 := ⟨_, rfl⟩
      have d1 : wr.cell? ⟨g, 2 * p, none⟩ = some (.slice s.a s.n s.c) := by rw [hs]; exact (unhide HJ).row.cell? (wcs_key es p hpl)
      have d2 : wr.cell? ⟨g, 2 * p + 1, none⟩ = some (.pointer x) := by rw [hx]; exact (unhide HJ).row.cell? (wcs_val es p hpl)
      rw [Nat.mul_comm] at d1 d2
      have hglt := (unhide HJ).row.lt
      have HSX := hide (show es[p] = (s, x) from by rw [hs, hx])
      clear hs hx
      go_wp2_with fail
      obtain ⟨W4, hW4⟩ : ∃ W, W = wr.alloc (.cells #[.slice s.a s.n s.c, .pointer x] 91) := ⟨_, rfl⟩
      rw [← hW4]
      have HJ4 := hide ((unhide HJ).keep (w' := W4) (by rw [hW4]; exact (Fr.refl _ wr).alloc _))
      clear hW4 HJ d1 d2 hglt
      have J := unhide HJ4
      refine (cloB_any b1 g1 b2 g2 _ _ s x W4 J.a1 J.a2 (by rw [length_kvs, length_vvs]) (by rw [length_kvs, List.length_take]; omega) J.gg.2.2.2 J.gg.1 J.gg.2.1 J.gg.2.2.1).mono ?_
      clear J
      rintro e W5 ⟨rfl, g1', g2', x1, x2, x3, x4, x5, x6⟩
      have HJ5 := hide ((unhide HJ4).clo x1 x2 x3 x4 x5 x6)
      have e1 : kvs (es.take p) ++ [.slice s.a s.n s.c] = kvs (es.take (p + 1)) := by rw [kvs_snoc _ _ hpl, unhide HSX]
      have e2 : vvs (es.take p) ++ [.pointer x] = vvs (es.take (p + 1)) := by rw [vvs_snoc _ _ hpl, unhide HSX]
      rw [e1, e2] at HJ5
      clear x1 x2 x3 x4 x5 x6 e1 e2 HJ4
      go_wp2_with fail
      go_roundg (gk - 1)
      case measure => omega
      case rel => exact ⟨p + 1, g1', g2', by omega, by go_num, HJ5⟩
    · have hpe : p = n := by omega
      have HPE := hide hpe
      clear hpe hgp
      go_wp2_with fail
      refine bodyPost_ret (v := .tuple #[]) (by simp [results, Try.results45, go_sem]) rfl ?_
      have J := unhide HJ
      rw [List.take_of_length_le (by have := unhide HPE; have := unhide HNN; omega)] at J
      exact ⟨rfl, g1, g2, J.a1, J.a2, J.fr⟩

theorem zzComSome (es : List (Sl × Option Addr)) (w : World) (cm g : Nat) (hn : es.length ≤ 4096) (hrow : Row w g 91 2 es.length es.length (wcs es)) (hcm : CmSome w cm g es.length) :
    Calls Try.prog 24 #[.pointer (some ⟨cm, 0, none⟩)] w (ZComPost es w) :=
  zzCom_of cm es w fun W1 F1 A1 A2 =>
    eachSome_any es W1 cm g w.heap.size w.heap.size (w.heap.size + 1) hn (hrow.fr F1 (fun e => e)) (hcm.fr F1 (fun e => e)) A1 A2 (by omega) hcm.lt hrow.lt (Nat.le_refl _) (by omega)
end Go.Proofs.Qxb6615626a.BV
