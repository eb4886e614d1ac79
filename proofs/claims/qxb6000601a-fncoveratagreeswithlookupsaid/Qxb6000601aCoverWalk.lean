/-
  FnCoverAtAgreesWithLookup (8): the walk.
-/
import Derived.Test.Qxb6000601aAt
namespace Go.Proofs.Qxb6000601a
open Go.RowKit

theorem rdI_kept {w w' : World} {a : Option Addr} {n : Nat} {zs : List Int} {row : Option Nat} (h : RdI w a n zs) (hg : w.grownBy w' row) (hne : ∀ x, a = some x → some x.block ≠ row) : RdI w' a n zs := by
  refine ⟨h.1, fun h0 => ?_⟩
  obtain ⟨b, off, rfl, hc⟩ := h.2 h0
  exact ⟨b, off, rfl, fun i hi => by rw [← hc i hi]; exact World.cell?_of_block (hg.block b (World.block_lt_of_cell? _ _ (hc 0 h0)) (hne _ rfl))⟩
theorem rdI_draws {w : World} {a : Option Addr} {n : Nat} {zs : List Int} (h : RdI w a n zs) (q : Nat) : RdI (w.drewN q) a n zs := h
theorem rd_draws {w : World} {a : Option Addr} {n : Nat} {zs : List Int} (h : Rd w a n zs) (q : Nat) : Rd (w.drewN q) a n zs := h
theorem ownI_len {w : World} {B n : Nat} {v : Value} {zs : List Int} (h : w.ownsRow B 3 1 v n (iv zs)) : zs.length = n := by
  have := h.1; rw [iv_len] at this; simpa using this
theorem ownI_rd {w : World} {B n c : Nat} {a : Option Addr} {zs : List Int} (h : w.ownsRow B 3 1 (.slice a n c) n (iv zs)) : RdI w a n zs ∧ (∀ x, a = some x → x.block < w.heap.size) := by
  refine ⟨⟨ownI_len h, fun h0 => ?_⟩, fun x hx => (h.lt x.block (by rw [hx]; rfl)).2⟩
  rcases h.2 with ⟨h', _⟩ | ⟨g, cap, cur, hv, _⟩
  · omega
  · simp only [Value.slice.injEq, true_and] at hv
    obtain ⟨rfl, rfl⟩ := hv
    exact ⟨g, 0, rfl, fun i hi => by rw [Nat.zero_add]; exact (h.cellAt i (by omega)).trans (iv_at zs i (by rw [ownI_len h]; exact hi))⟩

theorem bel_draws {B : Nat} {a w : World} (h : Below B a w) (n : Nat) : Below B a (w.drewN n) := ⟨h.os, h.tape, h.output, h.size, h.block⟩
theorem bel_grown {w w' : World} (h : w.grownBy w' none) : Below w.heap.size w w' := ⟨h.os, h.tape, h.output, h.size, fun k hk => h.block k hk (by simp)⟩
theorem cov_cells {w : World} {C m : Nat} {S T L : List Int} (h : w.ownsRow C 65 3 (.slice (some ⟨C, 0, none⟩) m m) m (runL S T L m m)) (i : Nat) (hi : i < m) :
    w.cell? ⟨C, i * 3, none⟩ = some (.int .i64 (S.getD i 0)) ∧ w.cell? ⟨C, i * 3 + 1, none⟩ = some (.int .i64 (T.getD i 0)) ∧ w.cell? ⟨C, i * 3 + 2, none⟩ = some (.int .i64 (L.getD i 0)) := by
  refine ⟨?_, ?_, ?_⟩
  · rw [h.cellAt _ (by omega), runL_at _ _ _ _ _ _ (by omega), runZ_0 _ _ _ _ _ hi]
  · rw [h.cellAt _ (by omega), runL_at _ _ _ _ _ _ (by omega), runZ_1 _ _ _ _ _ hi]
  · rw [h.cellAt _ (by omega), runL_at _ _ _ _ _ _ (by omega), runZ_2 _ _ _ _ _ hi]

theorem CovSt.trans {w wr wx : World} {M : Nat} {src cover : Value} {k j : Nat} (h : CovSt w wr M src cover k) (h' : CovSt wr wx M src cover j) : CovSt w wx M src cover j := ⟨h.grow.trans h'.grow, h'.mat⟩
theorem CovSt.rdI {w wr : World} {M : Nat} {src cover : Value} {k : Nat} (h : CovSt w wr M src cover k) {a : Option Addr} {n : Nat} {zs : List Int} (hr : RdI w a n zs) (hb : ∀ x, a = some x → x.block < M) : RdI wr a n zs :=
  rdI_kept hr h.grow (fun x hx e => by have := hb x hx; simp at e; omega)

/-- lookup (26), whatever comes in: j is the first run that ends past p; the answer is X. -/
theorem look_any (sl m j c0 c1 c2 : Nat) (X : Int × Int × Bool) (a0 a1 a2 : Option Addr) (S T L : List Int) (st fi p : Int) (w : World) (hm : m ≤ 4096) (hS : RdI w a0 m S) (hT : RdI w a1 m T) (hL : RdI w a2 m L) (hP : CoverP S T L m m) (hsl : sl ≤ 1048576) (hst : 0 ≤ st ∧ st ≤ 268435456) (hfi : 0 ≤ fi ∧ fi ≤ 268435456) (hp : 0 ≤ p ∧ p ≤ 268435456)
    (hjm : j ≤ m) (hlow : ∀ i, i < j → T.getD i 0 + L.getD i 0 ≤ p) (htop : j < m → p < T.getD j 0 + L.getD j 0)
    (hX1 : j < m → T.getD j 0 ≤ p → X = ans (S.getD j 0) (T.getD j 0) (L.getD j 0) sl st fi p) (hX2 : (j < m → p < T.getD j 0) → X = (0, 0, false)) :
    Calls Try.prog 26 #[.int .i64 sl, .slice a0 m c0, .slice a1 m c1, .slice a2 m c2, .int .i64 st, .int .i64 fi, .int .i64 p] w fun e w' => e = .returned (ansV X) ∧ ∃ q, w' = w.drewN q := by
  rcases Nat.eq_zero_or_pos m with h0 | h0
  · subst h0
    refine (look_zero sl a0 a1 a2 c0 c1 c2 st fi p w).mono ?_
    rintro e w' ⟨rfl, rfl⟩
    exact ⟨by rw [hX2 (fun h => absurd h (by omega))], 0, rfl⟩
  · obtain ⟨b0, o0, rfl, h1⟩ := hS.2 h0
    obtain ⟨b1, o1, rfl, h2⟩ := hT.2 h0
    obtain ⟨b2, o2, rfl, h3⟩ := hL.2 h0
    by_cases h : j < m ∧ T.getD j 0 ≤ p
    · rw [hX1 h.1 h.2]
      exact look_hit sl b0 o0 b1 o1 b2 o2 m c0 c1 c2 j S T L st fi p w hm h1 h2 h3 hP hsl hst hfi hp h.1 h.2 (htop h.1) hlow
    · rw [hX2 (fun hj => by omega)]
      refine look_miss sl b0 o0 b1 o1 b2 o2 m c0 c1 c2 S T L st fi p w hm h2 h3 hP (fun i hi hip => ?_)
      by_cases hij : i < j
      · exact hlow i hij
      · have := hP.le (i := j) (j := i) (by omega) hi
        omega

set_option maxHeartbeats 2000000 in
set_option maxRecDepth 100000 in
theorem cover_main (a0 a1 a2 a3 a6 : Option Addr) (n0 c0 m c1 c2 c3 n6 c6 : Nat) (src S T L P : List Int) (st fi : Int) (w : World) (h0 : Rd w a0 n0 src) (h1 : RdI w a1 m S) (h2 : RdI w a2 m T) (h3 : RdI w a3 m L) (h6 : RdI w a6 n6 P)
    (b0 : n0 ≤ 262144) (bm : m ≤ 4096) (b6 : n6 ≤ 4096) (hst : 0 ≤ st ∧ st ≤ 268435456) (hfi : 0 ≤ fi ∧ fi ≤ 268435456) :
    Calls Try.prog 8 #[.slice a0 n0 c0, .slice a1 m c1, .slice a2 m c2, .slice a3 m c3, .int .i64 st, .int .i64 fi, .slice a6 n6 c6] w fun e w' => e = .returned (.bool true) ∧ Below w.heap.size w w' := by
  have d1 : decide ((262144 : Int) < (n0 : Int)) = false := decide_eq_false (by omega)
  have d2 : decide ((4096 : Int) < (m : Int)) = false := decide_eq_false (by omega)
  have d3 : decide ((4096 : Int) < (n6 : Int)) = false := decide_eq_false (by omega)
  have d4 : decide (st < 0) = false := decide_eq_false (by omega)
  have d5 : decide ((268435456 : Int) < st) = false := decide_eq_false (by omega)
  have d6 : decide (fi < 0) = false := decide_eq_false (by omega)
  have d7 : decide ((268435456 : Int) < fi) = false := decide_eq_false (by omega)
  go_enter Try.func8, Try.ntmps8
  go_wp2_with fail
  refine (zzb19 _ _ _ _ _ _ _ _ _ _ _ _ _ _ _ _ _ _ (by unfold maxLen; omega) (by unfold maxLen; omega) (by unfold maxLen; omega) (by unfold maxLen; omega) (by unfold maxLen; omega)).mono ?_
  rintro e w' ⟨⟨b, rfl⟩, rfl⟩
  cases b
  · go_wp2_with fail
    go_ret
    exact ⟨rfl, Below.refl _ _⟩
  go_wp2_with fail
  refine (cov_any _ _ _ _ _ _ _ _ _ S T L _ bm h1 h2 h3).mono ?_
  rintro e w1 ⟨⟨b, rfl, hb⟩, q1, rfl⟩
  cases b
  · go_wp2_with fail
    go_ret
    exact ⟨rfl, bel_draws (Below.refl _ _) q1⟩
  have HP : Hid (CoverP S T L m m) := (hb rfl).2.2
  clear hb
  go_wp2_with fail
  refine (rise_any _ _ _ P _ b6 (rdI_draws h6 q1)).mono ?_
  rintro e w2 ⟨⟨b, rfl, hb⟩, q2, rfl⟩
  cases b
  · go_wp2_with fail
    go_ret
    exact ⟨rfl, bel_draws (Below.refl _ _) (q1 + q2)⟩
  have HR : Hid (RiseP P n6 n6) := hb rfl
  clear hb
  go_wp2_with fail
  refine (clone_any _ _ _ src _ (rd_draws h0 _) (by omega)).mono ?_
  rintro e wa ⟨sa, sc, rfl, -, hgA⟩
  go_wp2_with fail
  refine (cloneI_any _ _ _ S _ (rdI_kept (rdI_draws h1 _) hgA (by simp)) (by omega)).mono ?_
  rintro e wb ⟨Sa, Sc, rfl, hSO, hgB⟩
  go_wp2_with fail
  refine (cloneI_any _ _ _ T _ (rdI_kept (rdI_kept (rdI_draws h2 _) hgA (by simp)) hgB (by simp)) (by omega)).mono ?_
  rintro e wc ⟨Ta, Tc, rfl, hTO, hgC⟩
  go_wp2_with fail
  refine (cloneI_any _ _ _ L _ (rdI_kept (rdI_kept (rdI_kept (rdI_draws h3 _) hgA (by simp)) hgB (by simp)) hgC (by simp)) (by omega)).mono ?_
  rintro e wd ⟨La, Lc, rfl, hLO, hgD⟩
  go_wp2_with fail
  refine (cloneI_any _ _ _ P _ (rdI_kept (rdI_kept (rdI_kept (rdI_kept (rdI_draws h6 _) hgA (by simp)) hgB (by simp)) hgC (by simp)) hgD (by simp)) (by omega)).mono ?_
  rintro e we ⟨Pa, Pc, rfl, hPO, hgE⟩
  clear h0 h1 h2 h3 h6
  obtain ⟨hSr, hSb⟩ := ownI_rd hSO
  obtain ⟨hTr, hTb⟩ := ownI_rd hTO
  obtain ⟨hLr, hLb⟩ := ownI_rd hLO
  obtain ⟨hPr, hPb⟩ := ownI_rd hPO
  have hSe : RdI we Sa m S := rdI_kept (rdI_kept (rdI_kept hSr hgC (by simp)) hgD (by simp)) hgE (by simp)
  have hTe : RdI we Ta m T := rdI_kept (rdI_kept hTr hgD (by simp)) hgE (by simp)
  have hLe : RdI we La m L := rdI_kept hLr hgE (by simp)
  have sz1 := hgC.size
  have sz2 := hgD.size
  have sz3 := hgE.size
  have HB : Hid (Below w'.heap.size w' we) :=
    ((((bel_draws (Below.refl _ _) (q1 + q2)).trans (bel_grown hgA)).trans ((bel_grown hgB).mono hgA.size)).trans ((bel_grown hgC).mono (Nat.le_trans hgA.size hgB.size))).trans (((bel_grown hgD).trans ((bel_grown hgE).mono hgD.size)).mono (Nat.le_trans hgA.size (Nat.le_trans hgB.size hgC.size)))
  clear hSO hTO hLO hPO hgA hgB hgC hgD hgE hSr hTr hLr
  go_wp2_with fail
  refine (mk_any _ _ _ m _ _ _ S T L _ bm hSe hTe hLe).mono ?_
  rintro e wf ⟨rfl, hCO, hgF⟩
  have hSf : RdI wf Sa m S := rdI_kept hSe hgF (by simp)
  have hTf : RdI wf Ta m T := rdI_kept hTe hgF (by simp)
  have hLf : RdI wf La m L := rdI_kept hLe hgF (by simp)
  have hPf : RdI wf Pa n6 P := rdI_kept hPr hgF (by simp)
  have sz4 := hgF.size
  have sz5 : we.heap.size < wf.heap.size := (hCO.lt we.heap.size rfl).2
  have HB2 : Hid (Below w'.heap.size w' wf) := HB.out.trans ((bel_grown hgF).mono HB.out.size)
  clear hSe hTe hLe hPr hgF
  go_wp2_with fail
  refine (win_any _ _ _ _ _ _ _ _ _).mono ?_
  rintro e wg ⟨rfl, hwg⟩
  have hsA : (wf.alloc (.cells (matC (.slice sa n0 sc) (.slice (some ⟨we.heap.size, 0, none⟩) m m) 0) 57)).heap.size = wf.heap.size + 1 := by simp
  have hWg : wg.heap[wf.heap.size + 1]? = some (.cells (winC (.pointer (some ⟨wf.heap.size, 0, none⟩)) st fi) 63 (0, 0)) := by rw [hwg, ← hsA, heap_alloc_new]
  have hMg : wg.heap[wf.heap.size]? = some (.cells (matC (.slice sa n0 sc) (.slice (some ⟨we.heap.size, 0, none⟩) m m) 0) 57 (0, 0)) := by rw [hwg, Below.heap_alloc _ _ _ (by omega), heap_alloc_new]
  have hgG : wf.grownBy wg none := by rw [hwg]; exact (World.grownBy_alloc _ _ _).trans (World.grownBy_alloc _ _ _)
  have hSg : RdI wg Sa m S := rdI_kept hSf hgG (by simp)
  have hTg : RdI wg Ta m T := rdI_kept hTf hgG (by simp)
  have hLg : RdI wg La m L := rdI_kept hLf hgG (by simp)
  have hPg : RdI wg Pa n6 P := rdI_kept hPf hgG (by simp)
  have HCg : Hid (∀ i, i < m → wg.cell? ⟨we.heap.size, i * 3, none⟩ = some (.int .i64 (S.getD i 0)) ∧ wg.cell? ⟨we.heap.size, i * 3 + 1, none⟩ = some (.int .i64 (T.getD i 0)) ∧ wg.cell? ⟨we.heap.size, i * 3 + 2, none⟩ = some (.int .i64 (L.getD i 0))) := fun i hi => by
    obtain ⟨k1, k2, k3⟩ := cov_cells hCO i hi
    exact ⟨hgG.cell k1 (by simp), hgG.cell k2 (by simp), hgG.cell k3 (by simp)⟩
  have HSb : Hid (∀ x, Sa = some x → x.block < wf.heap.size) := fun x hx => by have := hSb x hx; omega
  have HTb : Hid (∀ x, Ta = some x → x.block < wf.heap.size) := fun x hx => by have := hTb x hx; omega
  have HLb : Hid (∀ x, La = some x → x.block < wf.heap.size) := fun x hx => by have := hLb x hx; omega
  have HPb : Hid (∀ x, Pa = some x → x.block < wf.heap.size) := fun x hx => by have := hPb x hx; omega
  have HB3 : Hid (Below w'.heap.size w' wg) := HB2.out.trans ((bel_grown hgG).mono HB2.out.size)
  have hzM : w'.heap.size ≤ wf.heap.size := HB2.out.size
  have hSt0 : CovSt wg wg wf.heap.size (.slice sa n0 sc) (.slice (some ⟨we.heap.size, 0, none⟩) m m) 0 := ⟨⟨rfl, rfl, rfl, Nat.le_refl _, fun _ _ _ => rfl⟩, hMg⟩
  clear hwg hsA hSf hTf hLf hPf hCO hgG hSb hTb hLb hPb hMg
  go_wp2_with fail
  go_loopw [16] (fun v wr => ∃ (i k : Nat), i ≤ n6 ∧ k ≤ m ∧ v = .int .i64 i ∧ CovSt wg wr wf.heap.size (.slice sa n0 sc) (.slice (some ⟨we.heap.size, 0, none⟩) m m) k ∧ Hid (∀ q, q < k → i < n6 → T.getD q 0 + L.getD q 0 ≤ P.getD i 0)) (fun v _ => n6 - (intOf v).toNat)
  case atStart => exact ⟨0, 0, by omega, by omega, rfl, hSt0, fun q hq => absurd hq (by omega)⟩
  case round =>
    clear hSt0
    obtain ⟨i, k, hi, hk, rfl, hSt, HI⟩ := hrel
    by_cases hlt : i < n6
    · obtain ⟨pb, po, hpa, hpc⟩ := hPg.2 (by omega)
      subst hpa
      obtain ⟨p, hp⟩ : ∃ p, p = P.getD i 0 := ⟨_, rfl⟩
      have hpcell : wr.cell? ⟨pb, po + i, none⟩ = some (.int .i64 p) := by rw [hp]; exact hSt.far (hpc i hlt) (by have := HPb.out _ rfl; simp only at this; omega)
      have hpr : 0 ≤ p ∧ p ≤ 268435456 := by rw [hp]; exact HR.out.rng i hlt
      obtain ⟨j, hj1, hj2, hj3, hj4⟩ := next_run T L p m (m - k) k (by omega)
      have hlow : ∀ q, q < j → T.getD q 0 + L.getD q 0 ≤ p := fun q hq => by
        by_cases hqk : q < k
        · rw [hp]; exact HI.out q hqk hlt
        · exact hj3 q (by omega) hq
      have HI' : Hid (∀ q, q < j → i + 1 < n6 → T.getD q 0 + L.getD q 0 ≤ P.getD (i + 1) 0) := fun q hq hn => by
        have := HR.out.ord i hn
        have := hlow q hq
        rw [hp] at this
        omega
      obtain ⟨X, hX1, hX2⟩ : ∃ X : Int × Int × Bool, (j < m → T.getD j 0 ≤ p → X = ans (S.getD j 0) (T.getD j 0) (L.getD j 0) n0 st fi p) ∧ ((j < m → p < T.getD j 0) → X = (0, 0, false)) := by
        by_cases hh : j < m ∧ T.getD j 0 ≤ p
        · exact ⟨_, fun _ _ => rfl, fun h => absurd (h hh.1) (by omega)⟩
        · exact ⟨(0, 0, false), fun h1 h2 => absurd ⟨h1, h2⟩ hh, fun _ => rfl⟩
      have HC1 : Hid (Calls _ _ _ _ _) := zzat_any (wf.heap.size + 1) wf.heap.size we.heap.size m k j X sa n0 sc S T L st fi p wr bm
        (by rw [hSt.grow.block _ (Array.getElem?_eq_some_iff.1 hWg).1 (by simp)]; exact hWg) hSt.mat (by omega) (by omega)
        (fun q hq => hSt.far (HCg.out q hq).1 (by omega)) (fun q hq => hSt.far (HCg.out q hq).2.1 (by omega)) (fun q hq => hSt.far (HCg.out q hq).2.2 (by omega))
        HP.out hpr hj1 hj2 hj3 hj4 hX1 hX2 (by omega) hst hfi
      have HC2 : Hid (∀ wx c0 c1 c2, CovSt wg wx wf.heap.size (.slice sa n0 sc) (.slice (some ⟨we.heap.size, 0, none⟩) m m) j →
          Calls Try.prog 26 #[.int .i64 n0, .slice Sa m c0, .slice Ta m c1, .slice La m c2, .int .i64 st, .int .i64 fi, .int .i64 p] wx fun e w'' => e = .returned (ansV X) ∧ ∃ q, w'' = wx.drewN q) := fun wx c0 c1 c2 hx =>
        look_any n0 m j c0 c1 c2 X Sa Ta La S T L st fi p wx bm (hx.rdI hSg HSb.out) (hx.rdI hTg HTb.out) (hx.rdI hLg HLb.out) HP.out (by omega) hst hfi hpr hj2 hlow hj4 hX1 hX2
      have HSt : Hid (CovSt wg wr _ _ _ k) := hSt
      obtain ⟨x, y, z⟩ := X
      have qx : (x != x) = false := by simp
      have qy : (y != y) = false := by simp
      have qz : (z != z) = false := by simp
      clear hp hlow hj3 hj4 hX1 hX2 hpr hSt hpc hSg hTg hLg hPg hWg
      go_wp2_with fail
      refine HC1.out.mono ?_
      rintro e wx ⟨rfl, hx1⟩
      have hx2 := HSt.out.trans hx1
      unfold ansV
      go_wp2_with fail
      refine (HC2.out wx _ _ _ hx2).mono ?_
      rintro e wy ⟨rfl, q, rfl⟩
      unfold ansV
      go_wp2_with fail
      go_roundw
      case rel => exact ⟨i + 1, j, by omega, hj2, by go_num, hx2.draws q, HI'⟩
      case measure => simp [intOf]; omega
    · have HSt : Hid (CovSt wg wr _ _ _ k) := hSt
      clear hSt
      go_wp2_with fail
      go_ret
      exact ⟨rfl, HB3.out.grown HSt.out.grow (HB3.out.size) (fun q hq => by simp at hq; omega)⟩

set_option maxHeartbeats 1000000 in
/-- The ways on which the law has nothing to say. -/
theorem cover_early (a0 a1 a2 a3 a6 : Option Addr) (n0 c0 n1 c1 n2 c2 n3 c3 n6 c6 : Nat) (x4 x5 : Int) (w : World) (m0 : n0 ≤ maxLen) (m1 : n1 ≤ maxLen) (m2 : n2 ≤ maxLen) (m3 : n3 ≤ maxLen) (m6 : n6 ≤ maxLen)
    (h : (262144 : Int) < n0 ∨ (4096 : Int) < n1 ∨ (4096 : Int) < n2 ∨ (4096 : Int) < n3 ∨ (4096 : Int) < n6 ∨ x4 < 0 ∨ (268435456 : Int) < x4 ∨ x5 < 0 ∨ (268435456 : Int) < x5 ∨ n1 ≠ n2 ∨ n2 ≠ n3) :
    Calls Try.prog 8 #[.slice a0 n0 c0, .slice a1 n1 c1, .slice a2 n2 c2, .slice a3 n3 c3, .int .i64 x4, .int .i64 x5, .slice a6 n6 c6] w fun e w' => e = .returned (.bool true) ∧ Below w.heap.size w w' := by
  go_enter Try.func8, Try.ntmps8
  go_wp2_with fail
  refine (zzb19 _ _ _ _ _ _ _ _ _ _ _ _ _ _ _ _ _ _ m0 m1 m2 m3 m6).mono ?_
  rintro e w' ⟨⟨b, rfl⟩, rfl⟩
  cases b
  · go_wp2_with fail
    go_ret
    exact ⟨rfl, Below.refl _ _⟩
  by_cases e0 : (262144 : Int) < n0
  · clear h
    go_wp2_with fail
    go_ret
    exact ⟨rfl, Below.refl _ _⟩
  by_cases e1 : (4096 : Int) < n1
  · clear h
    go_wp2_with fail
    go_ret
    exact ⟨rfl, Below.refl _ _⟩
  by_cases e2 : (4096 : Int) < n2
  · clear h
    go_wp2_with fail
    go_ret
    exact ⟨rfl, Below.refl _ _⟩
  by_cases e3 : (4096 : Int) < n3
  · clear h
    go_wp2_with fail
    go_ret
    exact ⟨rfl, Below.refl _ _⟩
  by_cases e6 : (4096 : Int) < n6
  · clear h
    go_wp2_with fail
    go_ret
    exact ⟨rfl, Below.refl _ _⟩
  by_cases f0 : x4 < 0
  · clear h
    go_wp2_with fail
    go_ret
    exact ⟨rfl, Below.refl _ _⟩
  by_cases f1 : (268435456 : Int) < x4
  · clear h
    go_wp2_with fail
    go_ret
    exact ⟨rfl, Below.refl _ _⟩
  by_cases f2 : x5 < 0
  · clear h
    go_wp2_with fail
    go_ret
    exact ⟨rfl, Below.refl _ _⟩
  by_cases f3 : (268435456 : Int) < x5
  · clear h
    go_wp2_with fail
    go_ret
    exact ⟨rfl, Below.refl _ _⟩
  have H : Hid (n1 ≠ n2 ∨ n2 ≠ n3) := (by omega : n1 ≠ n2 ∨ n2 ≠ n3)
  clear h
  go_wp2_with fail
  refine (cov_ne _ _ _ _ _ _ _ _ _ _ H.out).mono ?_
  rintro e w' ⟨rfl, rfl⟩
  go_wp2_with fail
  go_ret
  exact ⟨rfl, Below.refl _ _⟩
end Go.Proofs.Qxb6000601a
