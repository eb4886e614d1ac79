/-
  FnDefaultCodeTableMatchesRFCTable (3): the walk.
-/
import Derived.Test.Qxb6000601aTabLaws
import Derived.Deep.RegionWith
namespace Go.Proofs.Qxb6000601a
open Go.RowKit

theorem later {W w2 : World} {a : Addr} {v : Value} (hb : Below W.heap.size W w2) (h : W.cell? a = some v) : w2.cell? a = some v :=
  (hb.cell (World.block_lt_of_cell? _ _ h)).trans h

theorem Held.later {w0 w w2 : World} {S : Nat} (h : Held w0 S w) (hb : Below w.heap.size w w2) : Held w0 S w2 :=
  ⟨h.lt, by rw [hb.block _ (Array.getElem?_eq_some_iff.1 h.tabl).1]; exact h.tabl, h.bel.trans (hb.mono h.bel.size)⟩

set_option maxHeartbeats 1000000 in
set_option maxRecDepth 100000 in
theorem match_walk (w : World) :
    Calls Try.prog 3 #[] w fun e w' => e = .returned (.bool true) ∧ Below w.heap.size w w' := by
  go_enter Try.func3, Try.ntmps3
  go_wp2_with fail
  refine (zz_any _).mono ?_
  rintro e w1 ⟨rfl, hb⟩
  go_wp2_with (first | (refine wpList_alloc_named rfl 23 rfl (tab 0) alloc23 ?_) | (refine wpList_store_row rfl 23 _ _ rfl w1.heap.size (tab 256) rfl rfl 23 (tab 0) (heap_alloc_new _ _) (by rw [tab_size]; exact size23) (by rw [tab_size, tab_size]) (tab_one _) ?_))
  go_loopw [2] (fun i wr => ∃ k : Nat, k ≤ 256 ∧ i = .int .i64 k ∧ Held w w1.heap.size wr) (fun i _ => 256 - (intOf i).toNat)
  case atStart => exact ⟨0, by omega, rfl, held_start hb⟩
  case round =>
    clear hb
    obtain ⟨k, hk, rfl, hF⟩ := hrel
    by_cases hlt : k < 256
    · have dk : decide ((k : Int) < 256) = true := decide_eq_true (by omega)
      have b0 : (0 : Int) ≤ (k : Int) := by omega
      have b1 : (k : Int) < 256 := by omega
      obtain ⟨a0, a1, a2, a3, a4, a5, ha⟩ := ent_parts (k : Int)
      have HA : Hid (entA k = _) := entA_of ha
      have hS : ∀ i r, i < 256 → r < 6 → wr.cell? ⟨w1.heap.size, i * 6 + r, none⟩ = some (.int .u8 ((ent i).getD r 0)) := fun i r hi hr =>
        (cell_of_row wr _ _ _ _ _ hF.tabl).trans ((tab_at 256 _ (by omega)).trans (by rw [tabZ_full 256 i r hi hr]))
      have hE : ∀ W, (Op.equalIn 10000 22 (.agg #[.int .u8 a0, .int .u8 a1, .int .u8 a2, .int .u8 a3, .int .u8 a4, .int .u8 a5]) (.agg #[.int .u8 a0, .int .u8 a1, .int .u8 a2, .int .u8 a3, .int .u8 a4, .int .u8 a5])).run Try.prog W = .ok true W := fun W => by
        rw [eq22, decide_eq_true rfl]
      have k0 : wr.cell? ⟨w1.heap.size, k * 6, none⟩ = some (.int .u8 a0) := by have := hS k 0 hlt (by omega); rw [ha] at this; exact this
      have k1 : wr.cell? ⟨w1.heap.size, k * 6 + 1, none⟩ = some (.int .u8 a1) := by have := hS k 1 hlt (by omega); rw [ha] at this; exact this
      have k2 : wr.cell? ⟨w1.heap.size, k * 6 + 2, none⟩ = some (.int .u8 a2) := by have := hS k 2 hlt (by omega); rw [ha] at this; exact this
      have k3 : wr.cell? ⟨w1.heap.size, k * 6 + 3, none⟩ = some (.int .u8 a3) := by have := hS k 3 hlt (by omega); rw [ha] at this; exact this
      have k4 : wr.cell? ⟨w1.heap.size, k * 6 + 4, none⟩ = some (.int .u8 a4) := by have := hS k 4 hlt (by omega); rw [ha] at this; exact this
      have k5 : wr.cell? ⟨w1.heap.size, k * 6 + 5, none⟩ = some (.int .u8 a5) := by have := hS k 5 hlt (by omega); rw [ha] at this; exact this
      have hs : w1.heap.size < wr.heap.size := (Array.getElem?_eq_some_iff.1 hF.tabl).1
      clear hS ha
      go_wp2
      go_region_with (go_at_call 11; refine (rfc_any _ _ b0 (by omega)).mono ?_; rw [HA.out]; rintro e w2 ⟨rfl, hb2⟩; have q0 := later hb2 k0; have q1 := later hb2 k1; have q2 := later hb2 k2; have q3 := later hb2 k3; have q4 := later hb2 k4; have q5 := later hb2 k5)
      all_goals
        have hbb : Below wr.heap.size wr w2 := ⟨hb2.os, hb2.tape, hb2.output, hb2.size, hb2.block⟩
        go_wp2
        go_roundw
        case rel => exact ⟨k + 1, by omega, by go_num, hF.later hbb⟩
        case measure => simp [intOf]; omega
    · go_wp2
      go_ret
      exact ⟨rfl, hF.bel⟩
end Go.Proofs.Qxb6000601a
