/-
  FnAppendCopyFromTargetIsPeriodic (7): the walk.
-/
import Derived.Test.Qxb6000601aBytewise
namespace Go.Proofs.Qxb6000601a
open Go.RowKit

set_option maxHeartbeats 2000000 in
theorem periodic_main (a0 : Option Addr) (n0 c0 : Nat) (out : List Int) (a1 : Option Addr) (n1 c1 : Nat) (seg : List Int) (start addr size : Nat) (w : World) (ho : Rd w a0 n0 out) (hs : Rd w a1 n1 seg)
    (h1 : start ≤ n0) (h2 : addr < n1 + (n0 - start)) (h3 : n0 ≤ 262144) (h4 : n1 ≤ 262144) (h5 : size ≤ 65536) (h6 : n1 ≤ addr) :
    Calls Try.prog 7 #[.slice a0 n0 c0, .slice a1 n1 c1, .int .i64 start, .int .u64 addr, .int .u64 size] w fun e w' => e = .returned (.bool true) ∧ Below w.heap.size w w' := by
  have d1 : decide ((262144 : Int) < (n0 : Int)) = false := decide_eq_false (by omega)
  have d2 : decide ((262144 : Int) < (n1 : Int)) = false := decide_eq_false (by omega)
  have d3 : decide ((65536 : Int) < (size : Int)) = false := decide_eq_false (by omega)
  have d4 : decide ((addr : Int) < (n1 : Int)) = false := decide_eq_false (by omega)
  go_enter Try.func7, Try.ntmps7
  go_wp2_with fail
  refine (zzb18 _ _ _ _ _ _ _ _ _ _ (by unfold maxLen; omega) (by unfold maxLen; omega)).mono ?_
  rintro e w' ⟨⟨b, rfl⟩, rfl⟩
  cases b
  · go_wp2_with fail
    go_ret
    exact ⟨rfl, Below.refl _ _⟩
  go_wp2_with fail
  refine (fits_yes _ _ _ _ _ _ _ _ _ (by omega) (by omega) (by omega) (by omega) (by omega)).mono ?_
  rintro e w' ⟨rfl, rfl⟩
  go_wp2_with fail
  refine (clone_any _ _ _ out _ ho (by omega)).mono ?_
  rintro e wa ⟨oa, oc, rfl, hoO, hgA⟩
  go_wp2_with fail
  refine (clone_any _ _ _ seg _ (rd_kept hs hgA (by simp)) (by omega)).mono ?_
  rintro e wb ⟨sa, sc, rfl, hsO, hgB⟩
  clear ho hs
  have hoB : wb.ownsRow w'.heap.size 5 1 (.slice oa n0 oc) n0 (bv out) := hoO.kept hgB (by cases (Value.slice oa n0 oc).ownBlock <;> simp)
  have HLo' : Hid (∀ k, (Value.slice oa n0 oc).ownBlock = some k → w'.heap.size ≤ k ∧ k < wa.heap.size) := hoO.lt
  have HLs' : Hid (∀ k, (Value.slice sa n1 sc).ownBlock = some k → wa.heap.size ≤ k ∧ k < wb.heap.size) := hsO.lt
  have HA : Hid (Below w'.heap.size w' wb) := (grown_below hgA).trans ((grown_below hgB).mono hgA.size)
  have hBs : wa.heap.size ≤ wb.heap.size := hgB.size
  clear hoO hgA hgB
  go_wp2_with fail
  refine (clone_any _ _ _ out _ (own_rd hoB) (by omega)).mono ?_
  rintro e wc ⟨xa, xc, rfl, hxO, hgC⟩
  have HLx : Hid (∀ k, (Value.slice xa n0 xc).ownBlock = some k → wb.heap.size ≤ k ∧ k < wc.heap.size) := hxO.lt
  have hoC : wc.ownsRow w'.heap.size 5 1 (.slice oa n0 oc) n0 (bv out) := hoB.kept hgC (by cases (Value.slice oa n0 oc).ownBlock <;> simp)
  have hsC : Rd wc sa n1 seg := rd_kept (own_rd hsO) hgC (by simp)
  have hne : ∀ x, sa = some x → some x.block ≠ (Value.slice xa n0 xc).ownBlock := fun x hx e => by
    have := HLs'.out x.block (by rw [hx]; rfl)
    have := HLx.out x.block e.symm
    omega
  have hsc' := own_le hsO
  have hbS : wb.heap.size ≤ wc.heap.size := hgC.size
  have HC : Hid (Below w'.heap.size w' wc) := HA.out.trans ((grown_below hgC).mono HA.out.size)
  clear hoB hsO hgC
  go_wp2_with fail
  refine (zzcopy_any wc wb.heap.size xa n0 xc out hxO sa n1 sc seg hsC hsc' hne hbS start addr size h1 h2 (by omega) (by omega) h5).mono ?_
  rintro e wd ⟨ga, gn, gc, rfl, hG⟩
  have hod : wd.ownsRow w'.heap.size 5 1 (.slice oa n0 oc) n0 (bv out) := hoC.kept hG.2.1 (by
    cases hq : (Value.slice oa n0 oc).ownBlock with
    | none => exact .inl rfl
    | some q => right; intro e; have := HLo'.out q hq; have := HLx.out q e.symm; omega)
  have hbd : Below w'.heap.size w' wd := HC.out.grown hG.2.1 HC.out.size (fun q hq => by have := (HLx.out q hq).1; have := HA.out.size; omega)
  have hlo : out.length = n0 := own_len hod
  have hgn : gn = n0 + size := by rw [← own_len hG.1, cp_len, hlo]
  obtain ⟨g, cap, hv, hgB, hgw⟩ := hG.1.form (by omega)
  simp only [Value.slice.injEq, true_and] at hv
  obtain ⟨rfl, rfl⟩ := hv
  obtain ⟨hnc, hcm⟩ := own_cap hG.1
  unfold maxLen at hcm
  have hcells := (own_cells hG.1).2
  have HP : Hid (∀ i d, d + addr = n1 + (n0 - start) → 0 < d → n0 ≤ i → i < n0 + size → (cp seg start addr out size).getD i 0 = (cp seg start addr out size).getD (i - d) 0) := fun i d hd h0 hi1 hi2 =>
    cp_periodic seg start addr out size i d (by rw [hsC.1]; exact h6) (by omega) (by rw [hsC.1, hlo]; exact hd) h0 (by omega) (by omega)
  have hR1 : Rd wd (some ⟨g, 0, none⟩) n0 out := ⟨hlo, fun _ => ⟨g, 0, rfl, fun i hi => by
    rw [Nat.zero_add, hcells i (by omega)]
    congr 2
    have := congrArg (fun l => l.getD i 0) (cp_take seg start addr out size)
    simp only [List.getD_eq_getElem?_getD] at this ⊢
    rw [← this, List.getElem?_take, if_pos (by omega)]⟩⟩
  have hR2 := own_rd hod
  have HCl : Hid (∀ i, i < gn → wd.cell? ⟨g, i, none⟩ = some (.int .u8 ((cp seg start addr out size).getD i 0))) := hcells
  have q1 : ((gn : Int) != (n0 : Int) + (size : Int)) = false := by rw [bne_eq_false_iff_eq]; omega
  have bg1 : n0 ≤ gn := by omega
  have bg2 : gn ≤ 327680 := by omega
  have Hgn : Hid (gn = n0 + size) := hgn
  clear hG hcells hod hoC hsC hne hgn hlo hxO
  go_wp2_with fail
  refine (same_any (some ⟨g, 0, none⟩) oa n0 gc oc out wd (by omega) hR1 hR2).mono ?_
  rintro e we ⟨rfl, q, rfl⟩
  clear hR1 hR2
  go_wp2_with fail
  go_loopw [14] (fun i wr => ∃ j k : Nat, n0 ≤ j ∧ j ≤ gn ∧ i = .int .i64 j ∧ wr = wd.drewN k) (fun i _ => gn - (intOf i).toNat)
  case atStart => exact ⟨n0, q, by omega, by omega, rfl, rfl⟩
  case round =>
    obtain ⟨j, k, hj1, hj2, rfl, rfl⟩ := hrel
    by_cases hlt : j < gn
    · obtain ⟨z, hz⟩ : ∃ z, z = (cp seg start addr out size).getD j 0 := ⟨_, rfl⟩
      have k1 : wd.cell? ⟨g, j, none⟩ = some (.int .u8 z) := by rw [hz]; exact HCl.out j hlt
      have k2 : wd.cell? ⟨g, j - (n1 + (n0 - start) - addr), none⟩ = some (.int .u8 z) := by
        rw [hz, HP.out j (n1 + (n0 - start) - addr) (by omega) (by omega) hj1 (by have := Hgn.out; omega)]
        exact HCl.out _ (by omega)
      have e1 : (0 : Int) ≤ (j : Int) := by omega
      have e2 : (j : Int) < (gn : Int) := by omega
      have e3 : (0 : Int) ≤ (j : Int) - ((n1 : Int) + ((n0 : Int) - (start : Int)) - (addr : Int)) := by omega
      have e4 : (j : Int) - ((n1 : Int) + ((n0 : Int) - (start : Int)) - (addr : Int)) < (gn : Int) := by omega
      have bz : (z != z) = false := by simp
      clear hz
      go_wp2
      go_quiet (fail)
      go_wp2
      go_roundw
      case rel => exact ⟨j + 1, k + nq, by omega, by omega, by go_num, by simp [World.drewN]⟩
      case measure => simp [intOf]; omega
    · go_wp2
      go_ret
      exact ⟨rfl, below_draws hbd k⟩

set_option maxHeartbeats 1000000 in
/-- The ways on which the law has nothing to say. -/
theorem periodic_early (a0 : Option Addr) (n0 c0 : Nat) (a1 : Option Addr) (n1 c1 : Nat) (x2 x3 x4 : Int) (w : World) (m0 : n0 ≤ maxLen) (m1 : n1 ≤ maxLen) (b2 : -9223372036854775808 ≤ x2 ∧ x2 ≤ 9223372036854775807)
    (_b3 : 0 ≤ x3 ∧ x3 ≤ 18446744073709551615)
    (h : (262144 : Int) < n0 ∨ (262144 : Int) < n1 ∨ (65536 : Int) < x4 ∨ x2 < 0 ∨ (n0 : Int) < x2 ∨ (n1 : Int) + ((n0 : Int) - x2) ≤ x3 ∨ x3 < (n1 : Int)) :
    Calls Try.prog 7 #[.slice a0 n0 c0, .slice a1 n1 c1, .int .i64 x2, .int .u64 x3, .int .u64 x4] w fun e w' => e = .returned (.bool true) ∧ Below w.heap.size w w' := by
  go_enter Try.func7, Try.ntmps7
  go_wp2_with fail
  refine (zzb18 _ _ _ _ _ _ _ _ _ _ m0 m1).mono ?_
  rintro e w' ⟨⟨b, rfl⟩, rfl⟩
  cases b
  · go_wp2_with fail
    go_ret
    exact ⟨rfl, Below.refl _ _⟩
  by_cases e0 : (262144 : Int) < n0
  · clear h
    go_wp2_with fail
    go_ret
    exact ⟨rfl, Below.refl _ _⟩
  by_cases e1 : (262144 : Int) < n1
  · clear h
    go_wp2_with fail
    go_ret
    exact ⟨rfl, Below.refl _ _⟩
  by_cases e2 : (65536 : Int) < x4
  · clear h
    go_wp2_with fail
    go_ret
    exact ⟨rfl, Below.refl _ _⟩
  by_cases e3 : x2 < 0 ∨ (n0 : Int) < x2 ∨ (n1 : Int) + ((n0 : Int) - x2) ≤ x3
  · have H : Hid (x2 < 0 ∨ (n0 : Int) < x2 ∨ (n1 : Int) + ((n0 : Int) - x2) ≤ x3) := e3
    clear h e3
    go_wp2_with fail
    refine (fits_no _ _ _ _ _ _ _ _ _ (by omega) (by omega) b2 H.out).mono ?_
    rintro e w' ⟨rfl, rfl⟩
    go_wp2_with fail
    go_ret
    exact ⟨rfl, Below.refl _ _⟩
  have e4 : x3 < (n1 : Int) := by omega
  have e5 : 0 ≤ x2 := by omega
  have e6 : x2 ≤ (n0 : Int) := by omega
  have e7 : x3 < (n1 : Int) + ((n0 : Int) - x2) := by omega
  clear h e3
  go_wp2_with fail
  refine (fits_yes _ _ _ _ _ _ _ _ _ (by omega) (by omega) e5 e6 e7).mono ?_
  rintro e w' ⟨rfl, rfl⟩
  go_wp2_with fail
  go_ret
  exact ⟨rfl, Below.refl _ _⟩
end Go.Proofs.Qxb6000601a
