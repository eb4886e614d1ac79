/-
  FnDefaultCodeTableIsInjective (4): the walk.
-/
import Derived.Test.Qxb6000601aTabLaws
import Derived.Deep.QuietTactic
import Derived.BigQuiet
namespace Go.Proofs.Qxb6000601a
open Go.RowKit

set_option maxHeartbeats 1000000 in
set_option maxRecDepth 100000 in
theorem inj_walk (w : World) :
    Calls Try.prog 4 #[] w fun e w' => e = .returned (.bool true) ∧ Below w.heap.size w w' := by
  go_enter Try.func4, Try.ntmps4
  go_wp2_with fail
  refine (zz_any _).mono ?_
  rintro e w1 ⟨rfl, hb⟩
  go_wp2_with (first | (refine wpList_alloc_named rfl 23 rfl (tab 0) alloc23 ?_) | (refine wpList_store_row rfl 23 _ _ rfl w1.heap.size (tab 256) rfl rfl 23 (tab 0) (heap_alloc_new _ _) (by rw [tab_size]; exact size23) (by rw [tab_size, tab_size]) (tab_one _) ?_))
  go_loopw [2] (fun i wr => ∃ k : Nat, k ≤ 256 ∧ i = .int .i64 k ∧ Held w w1.heap.size wr) (fun i _ => 256 - (intOf i).toNat)
  case atStart => exact ⟨0, by omega, rfl, held_start hb⟩
  case round =>
    clear hb
    obtain ⟨k, hk, rfl, hF⟩ := hrel
    by_cases hlt : k < 256
    · have dk : decide ((k : Int) < 256) = true := decide_eq_true (by omega)
      go_wp2
      go_loopw [3] (fun i wr => ∃ j : Nat, k + 1 ≤ j ∧ j ≤ 256 ∧ i = .int .i64 j ∧ Held w w1.heap.size wr) (fun i _ => 256 - (intOf i).toNat)
      case atStart => exact ⟨k + 1, by omega, by omega, by go_num, hF⟩
      case round =>
        clear hF
        obtain ⟨j, hj1, hj2, rfl, hF⟩ := hrel
        by_cases hlj : j < 256
        · have b0 : (0 : Int) ≤ (k : Int) := by omega
          have b1 : (k : Int) < 256 := by omega
          have b2 : (0 : Int) ≤ (j : Int) := by omega
          have b3 : (j : Int) < 256 := by omega
          obtain ⟨a0, a1, a2, a3, a4, a5, ha⟩ := ent_parts (k : Int)
          obtain ⟨c0, c1, c2, c3, c4, c5, hc⟩ := ent_parts (j : Int)
          have hS : ∀ i r, i < 256 → r < 6 → wr.cell? ⟨w1.heap.size, i * 6 + r, none⟩ = some (.int .u8 ((ent i).getD r 0)) := fun i r hi hr =>
            (cell_of_row wr _ _ _ _ _ hF.tabl).trans ((tab_at 256 _ (by omega)).trans (by rw [tabZ_full 256 i r hi hr]))
          have hE : ∀ W, (Op.equalIn 10000 22 (.agg #[.int .u8 a0, .int .u8 a1, .int .u8 a2, .int .u8 a3, .int .u8 a4, .int .u8 a5]) (.agg #[.int .u8 c0, .int .u8 c1, .int .u8 c2, .int .u8 c3, .int .u8 c4, .int .u8 c5])).run Try.prog W = .ok false W := fun W => by
            rw [eq22, decide_eq_false (by rw [← ha, ← hc]; exact ent_inj (by omega) hlj)]
          have k0 : wr.cell? ⟨w1.heap.size, k * 6, none⟩ = some (.int .u8 a0) := by have := hS k 0 hlt (by omega); rw [ha] at this; exact this
          have k1 : wr.cell? ⟨w1.heap.size, k * 6 + 1, none⟩ = some (.int .u8 a1) := by have := hS k 1 hlt (by omega); rw [ha] at this; exact this
          have k2 : wr.cell? ⟨w1.heap.size, k * 6 + 2, none⟩ = some (.int .u8 a2) := by have := hS k 2 hlt (by omega); rw [ha] at this; exact this
          have k3 : wr.cell? ⟨w1.heap.size, k * 6 + 3, none⟩ = some (.int .u8 a3) := by have := hS k 3 hlt (by omega); rw [ha] at this; exact this
          have k4 : wr.cell? ⟨w1.heap.size, k * 6 + 4, none⟩ = some (.int .u8 a4) := by have := hS k 4 hlt (by omega); rw [ha] at this; exact this
          have k5 : wr.cell? ⟨w1.heap.size, k * 6 + 5, none⟩ = some (.int .u8 a5) := by have := hS k 5 hlt (by omega); rw [ha] at this; exact this
          have j0 : wr.cell? ⟨w1.heap.size, j * 6, none⟩ = some (.int .u8 c0) := by have := hS j 0 hlj (by omega); rw [hc] at this; exact this
          have j1 : wr.cell? ⟨w1.heap.size, j * 6 + 1, none⟩ = some (.int .u8 c1) := by have := hS j 1 hlj (by omega); rw [hc] at this; exact this
          have j2 : wr.cell? ⟨w1.heap.size, j * 6 + 2, none⟩ = some (.int .u8 c2) := by have := hS j 2 hlj (by omega); rw [hc] at this; exact this
          have j3 : wr.cell? ⟨w1.heap.size, j * 6 + 3, none⟩ = some (.int .u8 c3) := by have := hS j 3 hlj (by omega); rw [hc] at this; exact this
          have j4 : wr.cell? ⟨w1.heap.size, j * 6 + 4, none⟩ = some (.int .u8 c4) := by have := hS j 4 hlj (by omega); rw [hc] at this; exact this
          have j5 : wr.cell? ⟨w1.heap.size, j * 6 + 5, none⟩ = some (.int .u8 c5) := by have := hS j 5 hlj (by omega); rw [hc] at this; exact this
          clear hS ha hc
          go_wp2
          go_quiet (fail)
          go_wp2
          go_roundw
          case rel => exact ⟨j + 1, by omega, by omega, by go_num, hF.drewN nq⟩
          case measure => simp [intOf]; omega
        · go_wp2
          go_roundw
          case rel => exact ⟨k + 1, by omega, by go_num, hF⟩
          case measure => simp [intOf]; omega
    · go_wp2
      go_ret
      exact ⟨rfl, hF.bel⟩
end Go.Proofs.Qxb6000601a
