/-
  FnAppendCopyMatchesBytewiseCopy (5): the walk.
-/
import Derived.Test.Qxb6000601aAppend
namespace Go.Proofs.Qxb6000601a
open Go.RowKit

theorem rd_kept {w w' : World} {a : Option Addr} {n : Nat} {zs : List Int} {row : Option Nat} (h : Rd w a n zs) (hg : w.grownBy w' row) (hne : ∀ x, a = some x → some x.block ≠ row) : Rd w' a n zs := by
  refine ⟨h.1, fun h0 => ?_⟩
  obtain ⟨b, off, rfl, hc⟩ := h.2 h0
  exact ⟨b, off, rfl, fun i hi => by rw [← hc i hi]; exact World.cell?_of_block (hg.block b (World.block_lt_of_cell? _ _ (hc 0 h0)) (hne _ rfl))⟩
theorem rd_below {w w' : World} {a : Option Addr} {n B : Nat} {zs : List Int} (h : Rd w a n zs) (hg : Below B w w') (hB : ∀ x, a = some x → x.block < B) : Rd w' a n zs := by
  refine ⟨h.1, fun h0 => ?_⟩
  obtain ⟨b, off, rfl, hc⟩ := h.2 h0
  exact ⟨b, off, rfl, fun i hi => by rw [← hc i hi]; exact World.cell?_of_block (hg.block b (hB _ rfl))⟩
theorem grown_below {w w' : World} (h : w.grownBy w' none) : Below w.heap.size w w' := ⟨h.os, h.tape, h.output, h.size, fun k hk => h.block k hk (by simp)⟩

theorem own_below {w w' : World} {B B' n : Nat} {v : Value} {xs : List Value} (h : w.ownsRow B 5 1 v n xs) (hg : Below B' w w') (hB : ∀ k, v.ownBlock = some k → k < B') : w'.ownsRow B 5 1 v n xs := by
  refine ⟨h.1, ?_⟩
  rcases h.2 with h' | ⟨g', cap', cur, rfl, hb, hh, r⟩
  · exact .inl h'
  · exact .inr ⟨g', cap', cur, rfl, hb, by rw [hg.block _ (hB g' rfl)]; exact hh, r⟩
theorem below_draws {B : Nat} {a w : World} (h : Below B a w) (n : Nat) : Below B a (w.drewN n) := ⟨h.os, h.tape, h.output, h.size, h.block⟩

/-- THE STATE OF THE BYTEWISE COPY. -/
def WantInv (wb wr : World) (a : Option Addr) (n c : Nat) (zs : List Int) : Prop := wr.ownsRow wb.heap.size 5 1 (.slice a n c) n (bv zs) ∧ Below wb.heap.size wb wr

theorem want_step {wb wr w1 : World} {a : Option Addr} {n c : Nat} {zs ys : List Int} {z : Int} {g1 n1 cap1 : Nat} {o : Obj} (h : WantInv wb wr a n c zs)
    (hown : w1.ownsRow wb.heap.size 5 1 (.slice (some ⟨g1, 0, none⟩) n1 cap1) n1 (bv zs ++ [.int .u8 z])) (hg : (wr.alloc o).grownBy w1 (Value.slice a n c).ownBlock) (e : ys = zs ++ [z]) :
    WantInv wb w1 (some ⟨g1, 0, none⟩) n1 cap1 ys := by
  obtain ⟨h1, h2⟩ := h
  refine ⟨by rw [e, bv_append]; exact hown, (h2.alloc h2.size o).grown hg (by have := h2.size; simp; omega) (fun k hk => (h1.lt k hk).1)⟩

set_option maxHeartbeats 2000000 in
theorem bytewise_main (a0 : Option Addr) (n0 c0 : Nat) (out : List Int) (a1 : Option Addr) (n1 c1 : Nat) (seg : List Int) (start addr size : Nat) (w : World) (ho : Rd w a0 n0 out) (hs : Rd w a1 n1 seg)
    (h1 : start ≤ n0) (h2 : addr < n1 + (n0 - start)) (h3 : n0 ≤ 262144) (h4 : n1 ≤ 262144) (h5 : size ≤ 65536) :
    Calls Try.prog 5 #[.slice a0 n0 c0, .slice a1 n1 c1, .int .i64 start, .int .u64 addr, .int .u64 size] w fun e w' => e = .returned (.bool true) ∧ Below w.heap.size w w' := by
  have d1 : decide ((262144 : Int) < (n0 : Int)) = false := decide_eq_false (by omega)
  have d2 : decide ((262144 : Int) < (n1 : Int)) = false := decide_eq_false (by omega)
  have d3 : decide ((65536 : Int) < (size : Int)) = false := decide_eq_false (by omega)
  obtain ⟨i0, hi, hz0, hz1, hz2⟩ := info_parts info5p
  go_enter Try.func5, Try.ntmps5
  go_wp2_with fail
  refine (zzb12 _ _ _ _ _ _ _ _ _ _ (by unfold maxLen; omega) (by unfold maxLen; omega)).mono ?_
  rintro e w' ⟨⟨b, rfl⟩, rfl⟩
  cases b
  · go_wp2_with fail
    go_ret
    exact ⟨rfl, Below.refl _ _⟩
  go_wp2_with fail
  refine (fits_yes _ _ _ _ _ _ _ _ _ (by omega) (by omega) (by omega) (by omega) (by omega)).mono ?_
  rintro e w' ⟨rfl, rfl⟩
  go_wp2_with fail
  refine (clone_any _ _ _ out _ ho (by omega)).mono ?_
  rintro e wa ⟨oa, oc, rfl, hoO, hgA⟩
  go_wp2_with fail
  refine (clone_any _ _ _ seg _ (rd_kept hs hgA (by simp)) (by omega)).mono ?_
  rintro e wb ⟨sa, sc, rfl, hsO, hgB⟩
  clear ho hs
  have hoB : wb.ownsRow w'.heap.size 5 1 (.slice oa n0 oc) n0 (bv out) := hoO.kept hgB (by cases (Value.slice oa n0 oc).ownBlock <;> simp)
  have HLo := hoO.lt
  have HLs := hsO.lt
  have HLo' : Hid (∀ k, (Value.slice oa n0 oc).ownBlock = some k → w'.heap.size ≤ k ∧ k < wa.heap.size) := HLo
  have HLs' : Hid (∀ k, (Value.slice sa n1 sc).ownBlock = some k → wa.heap.size ≤ k ∧ k < wb.heap.size) := HLs
  have HA : Hid (Below w'.heap.size w' wb) := (grown_below hgA).trans ((grown_below hgB).mono hgA.size)
  have hBs : wa.heap.size ≤ wb.heap.size := hgB.size
  clear hoO hgA hgB HLo HLs
  go_wp2_with fail
  refine (clone_any _ _ _ out _ (own_rd hoB) (by omega)).mono ?_
  rintro e wc ⟨wantA, wantC, rfl, hwO, hgC⟩
  have hW0 : WantInv wb wc wantA n0 wantC out := ⟨hwO, grown_below hgC⟩
  clear hwO hgC
  go_wp2_with fail
  go_loopw [12, 13] (fun v i wr => ∃ (k n : Nat) (a : Option Addr) (c : Nat), k ≤ size ∧ Hid (n = n0 + k) ∧ v = .slice a n c ∧ i = .int .u64 k ∧ WantInv wb wr a n c (cp seg start addr out k)) (fun _ i _ => size - (intOf i).toNat)
  case atStart => exact ⟨0, n0, wantA, wantC, by omega, rfl, rfl, rfl, hW0⟩
  case round =>
    clear hW0
    obtain ⟨k, n, a, c, hk, HN, rfl, rfl, hW⟩ := hrel
    have bn : n ≤ 327680 := by have := HN.out; omega
    have hHs : wb.heap.size ≤ wr.heap.size := hW.2.size
    by_cases hlt : k < size
    · by_cases hA : addr + k < n1
      · obtain ⟨g, cap, hv, hgB, hgw⟩ := hsO.form (by omega)
        simp only [Value.slice.injEq, true_and] at hv
        obtain ⟨rfl, rfl⟩ := hv
        obtain ⟨z, hz⟩ : ∃ z, z = seg.getD (addr + k) 0 := ⟨_, rfl⟩
        have hcx : wr.cell? ⟨g, addr + k, none⟩ = some (.int .u8 z) := by
          rw [hz, ← (own_cells hsO).2 (addr + k) hA]
          exact World.cell?_of_block (hW.2.block g hgw)
        have HE : Hid (cp seg start addr out (k + 1) = cp seg start addr out k ++ [z]) := (by rw [cp, U, if_pos (by rw [own_len hsO]; exact hA), hz] : _ = _)
        have HWI : Hid (WantInv wb wr a n c (cp seg start addr out k)) := hW
        have hown' := hW.1
        clear hz hW
        go_wp2_with (first | (at_builtin; refine wpList_append_lies _ rfl (.tmp 57) (.tmp 62) 27 rfl wb.heap.size 5 i0 (.int .u8 0) 1 1 Try.underlying27 hi hz0 hz1 hz2 rfl (by decide) _ _ _ rfl (hown'.alloc _) ⟨wr.heap.size, 0, none⟩ 1 1 [.int .u8 z] rfl rfl (cell_one_new _ _ _) (by intro u hu; simp at hu; subst hu; rfl) (by omega) (by unfold maxLen; omega) (by omega) (by simp; omega) (wr.heap.size + 1) (by simp) ?_; intro g1 cap1 w1 hown1 hgrow1 hat1 hlt1; have R := want_step HWI.out hown1 hgrow1 HE.out; clear hown1 hgrow1 hat1 hown'))
        go_roundw
        case rel => exact ⟨k + 1, n + 1, _, _, by omega, (by have := HN.out; omega : n + 1 = n0 + (k + 1)), rfl, by go_num, R⟩
        case measure => simp [intOf]; omega
      · have hfn : start + (addr + k - n1) < n := by have := HN.out; omega
        obtain ⟨g, cap, hv, hgB, hgw⟩ := hW.1.form (by omega)
        simp only [Value.slice.injEq, true_and] at hv
        obtain ⟨rfl, rfl⟩ := hv
        obtain ⟨z, hz⟩ : ∃ z, z = (cp seg start addr out k).getD (start + (addr + k - n1)) 0 := ⟨_, rfl⟩
        have hcx : wr.cell? ⟨g, start + (addr + k - n1), none⟩ = some (.int .u8 z) := by
          rw [hz]; exact (own_cells hW.1).2 _ hfn
        have HE : Hid (cp seg start addr out (k + 1) = cp seg start addr out k ++ [z]) := (by rw [cp, U, if_neg (by rw [own_len hsO]; exact hA), hz, own_len hsO] : _ = _)
        have HWI : Hid (WantInv wb wr _ n c (cp seg start addr out k)) := hW
        have hown' := hW.1
        clear hz hW
        go_wp2_with (first | (at_builtin; refine wpList_append_lies _ rfl (.tmp 64) (.tmp 74) 27 rfl wb.heap.size 5 i0 (.int .u8 0) 1 1 Try.underlying27 hi hz0 hz1 hz2 rfl (by decide) _ _ _ rfl (hown'.alloc _) ⟨wr.heap.size, 0, none⟩ 1 1 [.int .u8 z] rfl rfl (cell_one_new _ _ _) (by intro u hu; simp at hu; subst hu; rfl) (by omega) (by unfold maxLen; omega) (by omega) (by simp; omega) (wr.heap.size + 1) (by simp) ?_; intro g1 cap1 w1 hown1 hgrow1 hat1 hlt1; have R := want_step HWI.out hown1 hgrow1 HE.out; clear hown1 hgrow1 hat1 hown'))
        go_roundw
        case rel => exact ⟨k + 1, n + 1, _, _, by omega, (by have := HN.out; omega : n + 1 = n0 + (k + 1)), rfl, by go_num, R⟩
        case measure => simp [intOf]; omega
    · replace hW : WantInv wb wr a n c (cp seg start addr out size) := by rw [show size = k by omega]; exact hW
      have hoW : wr.ownsRow w'.heap.size 5 1 (.slice oa n0 oc) n0 (bv out) := own_below hoB hW.2 (fun q hq => by have := HLo'.out q hq; omega)
      have hsW : Rd wr sa n1 seg := rd_below (own_rd hsO) hW.2 (fun x hx => by have := HLs'.out x.block (by rw [hx]; rfl); omega)
      have hne : ∀ x, sa = some x → some x.block ≠ (Value.slice oa n0 oc).ownBlock := fun x hx e => by
        have := HLs'.out x.block (by rw [hx]; rfl)
        have := HLo'.out x.block e.symm
        omega
      have hbS : w'.heap.size ≤ wr.heap.size := by have := HA.out.size; omega
      have HX : Hid (∀ q, (Value.slice a n c).ownBlock = some q → wb.heap.size ≤ q) := fun q hq => (hW.1.lt q hq).1
      have hsc' := own_le hsO
      clear hoB hsO
      go_wp2_with fail
      refine (zzcopy_any wr w'.heap.size oa n0 oc out hoW sa n1 sc seg hsW hsc' hne hbS start addr size h1 h2 (by omega) (by omega) h5).mono ?_
      rintro e wd ⟨ga, gn, gc, rfl, hC⟩
      have hwd : wd.ownsRow wb.heap.size 5 1 (.slice a n c) n (bv (cp seg start addr out size)) := hW.1.kept hC.2.1 (by
        cases hq : (Value.slice a n c).ownBlock with
        | none => exact .inl rfl
        | some q => right; intro e; have := HX.out q hq; have := HLo'.out q e.symm; omega)
      obtain rfl : gn = n := by rw [← own_len hC.1, own_len hwd]
      have hbd : Below w'.heap.size w' wd := (HA.out.trans (hW.2.mono HA.out.size)).grown hC.2.1 hbS (fun q hq => (HLo'.out q hq).1)
      clear hoW hsW hne hW
      go_wp2_with fail
      refine (same_any ga a gn gc c _ wd (by omega) (own_rd hC.1) (own_rd hwd)).mono ?_
      rintro e we ⟨rfl, q, rfl⟩
      go_wp2_with fail
      go_ret
      exact ⟨rfl, below_draws hbd q⟩

set_option maxHeartbeats 1000000 in
/-- The ways on which the law has nothing to say. -/
theorem bytewise_early (a0 : Option Addr) (n0 c0 : Nat) (a1 : Option Addr) (n1 c1 : Nat) (x2 x3 x4 : Int) (w : World) (m0 : n0 ≤ maxLen) (m1 : n1 ≤ maxLen) (b2 : -9223372036854775808 ≤ x2 ∧ x2 ≤ 9223372036854775807)
    (h : (262144 : Int) < n0 ∨ (262144 : Int) < n1 ∨ (65536 : Int) < x4 ∨ x2 < 0 ∨ (n0 : Int) < x2 ∨ (n1 : Int) + ((n0 : Int) - x2) ≤ x3) :
    Calls Try.prog 5 #[.slice a0 n0 c0, .slice a1 n1 c1, .int .i64 x2, .int .u64 x3, .int .u64 x4] w fun e w' => e = .returned (.bool true) ∧ Below w.heap.size w w' := by
  go_enter Try.func5, Try.ntmps5
  go_wp2_with fail
  refine (zzb12 _ _ _ _ _ _ _ _ _ _ m0 m1).mono ?_
  rintro e w' ⟨⟨b, rfl⟩, rfl⟩
  cases b
  · go_wp2_with fail
    go_ret
    exact ⟨rfl, Below.refl _ _⟩
  by_cases e0 : (262144 : Int) < n0
  · clear h
    go_wp2_with fail
    go_ret
    exact ⟨rfl, Below.refl _ _⟩
  by_cases e1 : (262144 : Int) < n1
  · clear h
    go_wp2_with fail
    go_ret
    exact ⟨rfl, Below.refl _ _⟩
  by_cases e2 : (65536 : Int) < x4
  · clear h
    go_wp2_with fail
    go_ret
    exact ⟨rfl, Below.refl _ _⟩
  have H : Hid (x2 < 0 ∨ (n0 : Int) < x2 ∨ (n1 : Int) + ((n0 : Int) - x2) ≤ x3) := (by omega : x2 < 0 ∨ (n0 : Int) < x2 ∨ (n1 : Int) + ((n0 : Int) - x2) ≤ x3)
  clear h
  go_wp2_with fail
  refine (fits_no _ _ _ _ _ _ _ _ _ (by omega) (by omega) b2 H.out).mono ?_
  rintro e w' ⟨rfl, rfl⟩
  go_wp2_with fail
  go_ret
  exact ⟨rfl, Below.refl _ _⟩
end Go.Proofs.Qxb6000601a
