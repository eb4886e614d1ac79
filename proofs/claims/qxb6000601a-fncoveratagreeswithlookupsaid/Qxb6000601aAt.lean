/-
  The walks of ZZNewCoverWindow (23), coverAt (31), ZZCoverAt (25).
-/
import Derived.Test.Qxb6000601aLook
namespace Go.Proofs.Qxb6000601a
open Go.RowKit

/-- The windowMatcher that ZZNewCoverWindow lays: its 779 cells. -/
def winC (p : Value) (s e : Int) : Array Value :=
  ([p, .slice none 0 0, .int .i64 s, .int .i64 e, .int .i64 0, .int .i64 0, .int .u64 0, .int .u64 0, .int .u64 0, .int .u64 0, .int .i64 0] ++ List.replicate 768 (Value.int .u64 0)).toArray
theorem winC_built (a : Addr) (s e : Int) : Try.prog.built 63 [(0, .pointer (some a)), (2, .int .i64 s), (3, .int .i64 e)] = some (winC (.pointer (some a)) s e) := by kernel_rfl
theorem winC_0 (p : Value) (s e : Int) : (winC p s e)[0]? = some p := by kernel_rfl
theorem winC_2 (p : Value) (s e : Int) : (winC p s e)[2]? = some (.int .i64 s) := by kernel_rfl
theorem winC_3 (p : Value) (s e : Int) : (winC p s e)[3]? = some (.int .i64 e) := by kernel_rfl
theorem box63 (w : World) (p : Value) (s e : Int) : (Instr.box 63 (.agg (winC p s e))).run Try.prog w = .ok (.pointer (some ⟨w.heap.size, 0, none⟩)) (w.alloc (.cells (winC p s e) 63)) := by kernel_rfl

theorem wpList_build_named {P : Program} {ops : Array Oper} {rest : List Oper} {o : Oper} {a : Act} {w : World} {Q : Exit → Act → World → Prop} (hgd : o.guard = none) (ty : TypeId) (parts : Array (Nat × Operand)) (ho : o.op = .build ty parts) (vs : List (Nat × Value)) (hv : (parts.toList.map fun (i, x) => (i, a.eval x)) = vs) (C : Array Value)
    (hb : P.built ty vs = some C) (h : wpList P ops Q rest (a.put o.dst (.agg C)) w) : wpList P ops Q (o :: rest) a w := by
  refine wpList_plain hgd fun K hK => ?_
  have hr := run_build (P := P) w ty (parts.map fun (i, x) => (i, a.eval x)) C (by rw [Array.toList_map, hv]; exact hb)
  unfold Oper.wp execOp
  simp only [ho, Sem.run_bind, hr, Result.andThen_ok]
  exact hK _ _ h
theorem wpList_box_named {P : Program} {ops : Array Oper} {rest : List Oper} {o : Oper} {a : Act} {w : World} {Q : Exit → Act → World → Prop} (hgd : o.guard = none) (ty : TypeId) (x : Operand) (ho : o.op = .box ty x) (C : Array Value) (hx : a.eval x = .agg C)
    (hrun : ∀ w, (Instr.box ty (.agg C)).run P w = .ok (.pointer (some ⟨w.heap.size, 0, none⟩)) (w.alloc (.cells C ty)))
    (h : wpList P ops Q rest (a.put o.dst (.pointer (some ⟨w.heap.size, 0, none⟩))) (w.alloc (.cells C ty))) : wpList P ops Q (o :: rest) a w := by
  refine wpList_plain hgd fun K hK => ?_
  unfold Oper.wp execOp
  simp only [ho, Sem.run_bind, hx, hrun, Result.andThen_ok]
  exact hK _ _ h

/-- The matcher: its seven cells. -/
def matC (src cover : Value) (k : Nat) : Array Value := #[src, .pointer none, .pointer none, cover, .int .i64 k, .int .i64 0, .int .i64 0]

set_option maxHeartbeats 400000 in
set_option maxRecDepth 100000 in
theorem win_any (sa ca : Option Addr) (sn sc cn cc : Nat) (st fi : Int) (w : World) :
    Calls Try.prog 23 #[.slice sa sn sc, .slice ca cn cc, .int .i64 st, .int .i64 fi] w fun e w' => e = .returned (.pointer (some ⟨w.heap.size + 1, 0, none⟩)) ∧
      w' = (w.alloc (.cells (matC (.slice sa sn sc) (.slice ca cn cc) 0) 57)).alloc (.cells (winC (.pointer (some ⟨w.heap.size, 0, none⟩)) st fi) 63) := by
  go_enter Try.func23, Try.ntmps23
  go_wp2_with (first | (refine wpList_build_named rfl 63 _ rfl [(0, .pointer (some ⟨w.heap.size, 0, none⟩)), (2, .int .i64 st), (3, .int .i64 fi)] rfl _ (winC_built ⟨w.heap.size, 0, none⟩ st fi) ?_) | (refine wpList_box_named rfl 63 _ rfl (winC (.pointer (some ⟨w.heap.size, 0, none⟩)) st fi) rfl (fun w => box63 w _ _ _) ?_))
  go_ret
  exact ⟨rfl, rfl⟩

/-- THE STATE OF THE CURSOR: since w only the matcher's block M has turned, and it holds next = k. -/
structure CovSt (w wr : World) (M : Nat) (src cover : Value) (k : Nat) : Prop where
  grow : w.grownBy wr (some M)
  mat : wr.heap[M]? = some (.cells (matC src cover k) 57 (0, 0))
/-- Where the cursor stands: for the loop's measure. -/
def nextOf (M : Nat) (w : World) : Nat := match w.cell? ⟨M, 4, none⟩ with
  | some (.int _ k) => k.toNat
  | _ => 0
theorem CovSt.c0 {w wr : World} {M : Nat} {src cover : Value} {k : Nat} (h : CovSt w wr M src cover k) : wr.cell? ⟨M, 0, none⟩ = some src := (cell_of_row wr M 0 _ _ _ h.mat).trans rfl
theorem CovSt.c3 {w wr : World} {M : Nat} {src cover : Value} {k : Nat} (h : CovSt w wr M src cover k) : wr.cell? ⟨M, 3, none⟩ = some cover := (cell_of_row wr M 3 _ _ _ h.mat).trans rfl
theorem CovSt.c4 {w wr : World} {M : Nat} {src cover : Value} {k : Nat} (h : CovSt w wr M src cover k) : wr.cell? ⟨M, 4, none⟩ = some (.int .i64 k) := (cell_of_row wr M 4 _ _ _ h.mat).trans rfl
theorem CovSt.nx {w wr : World} {M : Nat} {src cover : Value} {k : Nat} (h : CovSt w wr M src cover k) : nextOf M wr = k := by unfold nextOf; rw [h.c4]; simp
theorem CovSt.draws {w wr : World} {M : Nat} {src cover : Value} {k : Nat} (h : CovSt w wr M src cover k) (n : Nat) : CovSt w (wr.drewN n) M src cover k := ⟨⟨h.grow.os, h.grow.tape, h.grow.output, h.grow.size, h.grow.block⟩, h.mat⟩
theorem CovSt.draw {w wr : World} {M : Nat} {src cover : Value} {k : Nat} (h : CovSt w wr M src cover k) : CovSt w wr.drew M src cover k := ⟨⟨h.grow.os, h.grow.tape, h.grow.output, h.grow.size, h.grow.block⟩, h.mat⟩
theorem CovSt.alloc {w wr : World} {M : Nat} {src cover : Value} {k : Nat} (h : CovSt w wr M src cover k) (o : Obj) : CovSt w (wr.alloc o) M src cover k :=
  ⟨h.grow.trans (World.grownBy_alloc _ _ _), by rw [Below.heap_alloc _ _ _ (Array.getElem?_eq_some_iff.1 h.mat).1]; exact h.mat⟩
theorem CovSt.next {w wr : World} {M : Nat} {src cover : Value} {k : Nat} (h : CovSt w wr M src cover k) : CovSt w (wr.setCell ⟨M, 4, none⟩ (.int .i64 ((k : Int) + 1))) M src cover (k + 1) := by
  refine ⟨⟨h.grow.os, h.grow.tape, h.grow.output, by simp [World.setCell]; exact h.grow.size, fun q hq hne => (heap_setCell_other _ _ _ _ (by intro e; exact hne (by simp only at e; rw [e]))).trans (h.grow.block q hq hne)⟩, ?_⟩
  rw [heap_setCell_same _ _ _ _ _ _ h.mat]
  rfl
theorem CovSt.far {w wr : World} {M : Nat} {src cover : Value} {k : Nat} (h : CovSt w wr M src cover k) {b o : Nat} {v : Value} (hc : w.cell? ⟨b, o, none⟩ = some v) (hb : b ≠ M) : wr.cell? ⟨b, o, none⟩ = some v := by
  rw [← hc]; exact World.cell?_of_block (h.grow.block b (World.block_lt_of_cell? _ _ hc) (by simpa using hb))

set_option maxHeartbeats 2000000 in
set_option maxRecDepth 100000 in
/-- coverAt (31): the cursor moves from k to j, the first run that ends past p; the answer is X. -/
theorem at_any (W M C m k j : Nat) (X : Int × Int × Bool) (sa : Option Addr) (sn sc : Nat) (S T L : List Int) (st fi p : Int) (w : World) (hm : m ≤ 4096) (hW : w.heap[W]? = some (.cells (winC (.pointer (some ⟨M, 0, none⟩)) st fi) 63 (0, 0)))
    (hM : w.heap[M]? = some (.cells (matC (.slice sa sn sc) (.slice (some ⟨C, 0, none⟩) m m) k) 57 (0, 0))) (nWM : W ≠ M) (nCM : C ≠ M)
    (hS : ∀ i, i < m → w.cell? ⟨C, i * 3, none⟩ = some (.int .i64 (S.getD i 0))) (hT : ∀ i, i < m → w.cell? ⟨C, i * 3 + 1, none⟩ = some (.int .i64 (T.getD i 0))) (hL : ∀ i, i < m → w.cell? ⟨C, i * 3 + 2, none⟩ = some (.int .i64 (L.getD i 0)))
    (hP : CoverP S T L m m) (hp : 0 ≤ p ∧ p ≤ 268435456) (hkj : k ≤ j) (hjm : j ≤ m) (hlow : ∀ i, k ≤ i → i < j → T.getD i 0 + L.getD i 0 ≤ p) (htop : j < m → p < T.getD j 0 + L.getD j 0)
    (hX1 : j < m → T.getD j 0 ≤ p → X = ans (S.getD j 0) (T.getD j 0) (L.getD j 0) sn st fi p) (hX2 : (j < m → p < T.getD j 0) → X = (0, 0, false)) (hsn : sn ≤ 1048576) (hst : 0 ≤ st ∧ st ≤ 268435456) (hfi : 0 ≤ fi ∧ fi ≤ 268435456) :
    Calls Try.prog 31 #[.pointer (some ⟨W, 0, none⟩), .int .i64 p] w fun e w' => e = .returned (ansV X) ∧ CovSt w w' M (.slice sa sn sc) (.slice (some ⟨C, 0, none⟩) m m) j := by
  have w0 : w.cell? ⟨W, 0, none⟩ = some (.pointer (some ⟨M, 0, none⟩)) := (cell_of_row w W 0 _ _ _ hW).trans (winC_0 _ _ _)
  have w2 : w.cell? ⟨W, 2, none⟩ = some (.int .i64 st) := (cell_of_row w W 2 _ _ _ hW).trans (winC_2 _ _ _)
  have w3 : w.cell? ⟨W, 3, none⟩ = some (.int .i64 fi) := (cell_of_row w W 3 _ _ _ hW).trans (winC_3 _ _ _)
  have HS : Hid (∀ i, i < m → w.cell? ⟨C, i * 3, none⟩ = some (.int .i64 (S.getD i 0))) := hS
  have HX1 : Hid (j < m → T.getD j 0 ≤ p → X = ans (S.getD j 0) (T.getD j 0) (L.getD j 0) sn st fi p) := hX1
  have HX2 : Hid ((j < m → p < T.getD j 0) → X = (0, 0, false)) := hX2
  obtain ⟨hst1, hst2⟩ := hst
  obtain ⟨hfi1, hfi2⟩ := hfi
  have HT : Hid (∀ i, i < m → w.cell? ⟨C, i * 3 + 1, none⟩ = some (.int .i64 (T.getD i 0))) := hT
  have HL : Hid (∀ i, i < m → w.cell? ⟨C, i * 3 + 2, none⟩ = some (.int .i64 (L.getD i 0))) := hL
  have HP : Hid (CoverP S T L m m) := hP
  have HM : Hid (∀ i, k ≤ i → i < j → T.getD i 0 + L.getD i 0 ≤ p) := hlow
  have HTop : Hid (j < m → p < T.getD j 0 + L.getD j 0) := htop
  have hS0 : CovSt w w M (.slice sa sn sc) (.slice (some ⟨C, 0, none⟩) m m) k := ⟨⟨rfl, rfl, rfl, Nat.le_refl _, fun _ _ _ => rfl⟩, hM⟩
  obtain ⟨hp1, hp2⟩ := hp
  clear hS hT hL hP hlow htop hM hX1 hX2
  go_enter Try.func31, Try.ntmps31
  go_wp2
  go_loopw [13] (fun _ wr => ∃ i : Nat, k ≤ i ∧ i ≤ j ∧ CovSt w wr M (.slice sa sn sc) (.slice (some ⟨C, 0, none⟩) m m) i) (fun _ wr => j - nextOf M wr)
  case atStart => exact ⟨k, by omega, hkj, hS0⟩
  case round =>
    clear hS0
    obtain ⟨i, hi1, hi2, hSt⟩ := hrel
    have m0 := hSt.c0
    have m3 := hSt.c3
    have m4 := hSt.c4
    have mf : wr.frozen? ⟨M, 4, none⟩ = false := frozen_of_row wr M 4 _ _ hSt.mat
    have HSt : Hid (CovSt w wr M (.slice sa sn sc) (.slice (some ⟨C, 0, none⟩) m m) i) := hSt
    by_cases hlt : i < j
    · obtain ⟨t, ht⟩ : ∃ t, t = T.getD i 0 := ⟨_, rfl⟩
      obtain ⟨l, hl⟩ : ∃ l, l = L.getD i 0 := ⟨_, rfl⟩
      have e1 : wr.cell? ⟨C, i * 3 + 1, none⟩ = some (.int .i64 t) := by rw [ht]; exact hSt.far (HT.out i (by omega)) nCM
      have e2 : wr.cell? ⟨C, i * 3 + 2, none⟩ = some (.int .i64 l) := by rw [hl]; exact hSt.far (HL.out i (by omega)) nCM
      have f1 : 0 ≤ t ∧ t ≤ 268435456 := by rw [ht]; exact HP.out.tgt i (by omega)
      have f2 : 1 ≤ l ∧ l ≤ 268435456 := by rw [hl]; exact HP.out.len i (by omega)
      have f3 : t + l ≤ p := by rw [ht, hl]; exact HM.out i hi1 hlt
      obtain ⟨f11, f12⟩ := f1
      obtain ⟨f21, f22⟩ := f2
      have i1 : (0 : Int) ≤ (i : Int) := by omega
      have i2 : (i : Int) < (m : Int) := by omega
      clear ht hl hSt
      go_wp2
      go_quiet (fail)
      go_wp2
      have hN : CovSt w ((wr.drewN nq).setCell ⟨M, 4, none⟩ (.int .i64 ((i : Int) + 1))) M (.slice sa sn sc) (.slice (some ⟨C, 0, none⟩) m m) (i + 1) := (HSt.out.draws nq).next
      exact ⟨⟨i + 1, by omega, by omega, hN⟩, by rw [hN.nx, HSt.out.nx]; omega⟩
    · obtain rfl : i = j := by omega
      by_cases hjm' : i < m
      · obtain ⟨s, hs⟩ : ∃ s, s = S.getD i 0 := ⟨_, rfl⟩
        obtain ⟨t, ht⟩ : ∃ t, t = T.getD i 0 := ⟨_, rfl⟩
        obtain ⟨l, hl⟩ : ∃ l, l = L.getD i 0 := ⟨_, rfl⟩
        have e0 : wr.cell? ⟨C, i * 3, none⟩ = some (.int .i64 s) := by rw [hs]; exact hSt.far (HS.out i hjm') nCM
        have e1 : wr.cell? ⟨C, i * 3 + 1, none⟩ = some (.int .i64 t) := by rw [ht]; exact hSt.far (HT.out i hjm') nCM
        have e2 : wr.cell? ⟨C, i * 3 + 2, none⟩ = some (.int .i64 l) := by rw [hl]; exact hSt.far (HL.out i hjm') nCM
        have f0 : 0 ≤ s ∧ s ≤ 268435456 := by rw [hs]; exact HP.out.src i hjm'
        have f1 : 0 ≤ t ∧ t ≤ 268435456 := by rw [ht]; exact HP.out.tgt i hjm'
        have f2 : 1 ≤ l ∧ l ≤ 268435456 := by rw [hl]; exact HP.out.len i hjm'
        have f3 : p < t + l := by rw [ht, hl]; exact HTop.out hjm'
        have HX1' : Hid (t ≤ p → X = ans s t l sn st fi p) := by rw [hs, ht, hl]; exact fun h => HX1.out hjm' h
        have HX2' : Hid (p < t → X = (0, 0, false)) := by rw [ht]; exact fun h => HX2.out (fun _ => h)
        obtain ⟨f01, f02⟩ := f0
        obtain ⟨f11, f12⟩ := f1
        obtain ⟨f21, f22⟩ := f2
        have i1 : (0 : Int) ≤ (i : Int) := by omega
        have i2 : (i : Int) < (m : Int) := by omega
        have i3 : ((i : Int) == (m : Int)) = false := by rw [beq_eq_false_iff_ne]; omega
        have v2 : wr.cell? ⟨W, 2, none⟩ = some (.int .i64 st) := hSt.far w2 nWM
        have v3 : wr.cell? ⟨W, 3, none⟩ = some (.int .i64 fi) := hSt.far w3 nWM
        have Hs : Hid (s = S.getD i 0) := hs
        have Ht : Hid (t = T.getD i 0) := ht
        have Hl : Hid (l = L.getD i 0) := hl
        clear hs ht hl hSt
        by_cases g1 : p < t
        · go_wp2
          go_quiet (fail)
          go_wp2
          go_quiet (fail)
          go_wp2
          go_ret3
          exact ⟨by rw [HX2'.out g1]; rfl, (HSt.out.draws _).draws _⟩
        · go_wp2
          go_quiet (fail)
          obtain ⟨n1, rfl⟩ : ∃ n, n = nq := ⟨nq, rfl⟩
          go_wp2
          go_quiet (fail)
          go_wp2
          have hS2 := (HSt.out.draws n1).draws nq
          generalize (wr.drewN n1).drewN nq = wx at hS2 ⊢
          clear HSt e0 e1 e2 m0 m3 m4 mf v2 v3
          have m0 := hS2.c0
          have m3 := hS2.c3
          have m4 := hS2.c4
          have v2 : wx.cell? ⟨W, 2, none⟩ = some (.int .i64 st) := hS2.far w2 nWM
          have v3 : wx.cell? ⟨W, 3, none⟩ = some (.int .i64 fi) := hS2.far w3 nWM
          have e0 : wx.cell? ⟨C, i * 3, none⟩ = some (.int .i64 s) := by rw [Hs.out]; exact hS2.far (HS.out i hjm') nCM
          have e1 : wx.cell? ⟨C, i * 3 + 1, none⟩ = some (.int .i64 t) := by rw [Ht.out]; exact hS2.far (HT.out i hjm') nCM
          have e2 : wx.cell? ⟨C, i * 3 + 2, none⟩ = some (.int .i64 l) := by rw [Hl.out]; exact hS2.far (HL.out i hjm') nCM
          have x1 : M < wx.heap.size := World.block_lt_of_cell? _ _ m4
          have x2 : W < wx.heap.size := World.block_lt_of_cell? _ _ v2
          have x3 : C < wx.heap.size := World.block_lt_of_cell? _ _ e0
          have HS2 : Hid (CovSt w wx M (.slice sa sn sc) (.slice (some ⟨C, 0, none⟩) m m) i) := hS2
          clear hS2
          go_region
          by_cases h1 : (sn : Int) ≤ s + p - t
          · by_cases h2 : s + p - t - st < (sn : Int)
            · go_wp2
              go_ret3
              exact ⟨by rw [HX1'.out g1, ans_no h1 h2]; rfl, (HS2.out.alloc _).draw⟩
            · by_cases h3 : fi < t + l
              · go_wp2
                go_quiet (fail)
                go_wp2
                go_ret3
                exact ⟨by rw [HX1'.out g1, ans_far h1 (by omega), if_pos (show fi < t + l by omega)]; exact tup3 (by omega) rfl, ((HS2.out.alloc _).draw).draws _⟩
              · go_wp2
                go_quiet (fail)
                go_wp2
                go_ret3
                exact ⟨by rw [HX1'.out g1, ans_far h1 (by omega), if_neg (show ¬ fi < t + l by omega)]; exact tup3 (by omega) rfl, ((HS2.out.alloc _).draw).draws _⟩
          · by_cases h3 : fi < t + l
            · go_wp2
              go_quiet (fail)
              go_wp2
              go_ret3
              exact ⟨by rw [HX1'.out g1, ans_src (by omega), if_pos (show fi < t + l by omega)]; exact tup3 (by omega) rfl, ((HS2.out.alloc _).draw).draws _⟩
            · go_wp2
              go_quiet (fail)
              go_wp2
              go_ret3
              exact ⟨by rw [HX1'.out g1, ans_src (by omega), if_neg (show ¬ fi < t + l by omega)]; exact tup3 (by omega) rfl, ((HS2.out.alloc _).draw).draws _⟩
      · have i2 : decide ((i : Int) < (m : Int)) = false := decide_eq_false (by omega)
        have i3 : ((i : Int) == (m : Int)) = true := by rw [beq_iff_eq]; omega
        have HX2' : Hid (X = (0, 0, false)) := HX2.out (fun h => absurd h hjm')
        clear hSt
        go_wp2
        go_quiet (fail)
        go_wp2
        go_quiet (fail)
        go_wp2
        go_ret3
        exact ⟨by rw [HX2'.out]; rfl, (HSt.out.draws _).draws _⟩

/-- ZZCoverAt (25) is coverAt. -/
theorem zzat_any (W M C m k j : Nat) (X : Int × Int × Bool) (sa : Option Addr) (sn sc : Nat) (S T L : List Int) (st fi p : Int) (w : World) (hm : m ≤ 4096) (hW : w.heap[W]? = some (.cells (winC (.pointer (some ⟨M, 0, none⟩)) st fi) 63 (0, 0)))
    (hM : w.heap[M]? = some (.cells (matC (.slice sa sn sc) (.slice (some ⟨C, 0, none⟩) m m) k) 57 (0, 0))) (nWM : W ≠ M) (nCM : C ≠ M)
    (hS : ∀ i, i < m → w.cell? ⟨C, i * 3, none⟩ = some (.int .i64 (S.getD i 0))) (hT : ∀ i, i < m → w.cell? ⟨C, i * 3 + 1, none⟩ = some (.int .i64 (T.getD i 0))) (hL : ∀ i, i < m → w.cell? ⟨C, i * 3 + 2, none⟩ = some (.int .i64 (L.getD i 0)))
    (hP : CoverP S T L m m) (hp : 0 ≤ p ∧ p ≤ 268435456) (hkj : k ≤ j) (hjm : j ≤ m) (hlow : ∀ i, k ≤ i → i < j → T.getD i 0 + L.getD i 0 ≤ p) (htop : j < m → p < T.getD j 0 + L.getD j 0)
    (hX1 : j < m → T.getD j 0 ≤ p → X = ans (S.getD j 0) (T.getD j 0) (L.getD j 0) sn st fi p) (hX2 : (j < m → p < T.getD j 0) → X = (0, 0, false)) (hsn : sn ≤ 1048576) (hst : 0 ≤ st ∧ st ≤ 268435456) (hfi : 0 ≤ fi ∧ fi ≤ 268435456) :
    Calls Try.prog 25 #[.pointer (some ⟨W, 0, none⟩), .int .i64 p] w fun e w' => e = .returned (ansV X) ∧ CovSt w w' M (.slice sa sn sc) (.slice (some ⟨C, 0, none⟩) m m) j := by
  have HC : Hid (Calls _ _ _ _ _) := at_any W M C m k j X sa sn sc S T L st fi p w hm hW hM nWM nCM hS hT hL hP hp hkj hjm hlow htop hX1 hX2 hsn hst hfi
  clear hW hM hS hT hL hP hlow htop hX1 hX2
  obtain ⟨x, y, b⟩ := X
  go_enter Try.func25, Try.ntmps25
  go_wp2_with fail
  refine HC.out.mono ?_
  rintro e w' ⟨rfl, h⟩
  unfold ansV
  go_wp2
  go_ret3
  exact ⟨rfl, h⟩
end Go.Proofs.Qxb6000601a
