/-
  The walk of ZZDefaultCodeTable (10): the table copied byte by byte.
-/
import Derived.Test.Qxb6000601aNew
namespace Go.Proofs.Qxb6000601a
open Go.RowKit

/-- THE STATE OF THE FLATTENER. -/
structure Flat (w0 : World) (S F : Nat) (w : World) (m : Nat) : Prop where
  lt1 : w0.heap.size < S
  lt2 : S < F
  src : w.heap[S]? = some (.cells (tab 256) 52 (0, 0))
  dst : w.heap[F]? = some (.cells (tab m) 23 (0, 0))
  out : w.heap[w0.heap.size]? = some (.cells (tab 0) 23 (0, 0))
  bel : Below w0.heap.size w0 w

theorem ent_parts (n : Int) : ∃ a b c d e f, ent n = [a, b, c, d, e, f] := by
  have h := ent_len n
  match ent n, h with
  | [a, b, c, d, e, f], _ => exact ⟨a, b, c, d, e, f, rfl⟩

theorem flat_step {w0 w : World} {S F m : Nat} {a b c d e f : Int} (h : Flat w0 S F w m) (hm : m < 256) (he : ent m = [a, b, c, d, e, f]) :
    Flat w0 S F ((((((w.setCell ⟨F, m * 6, none⟩ (.int .u8 a)).setCell ⟨F, m * 6 + 1, none⟩ (.int .u8 b)).setCell ⟨F, m * 6 + 2, none⟩ (.int .u8 c)).setCell ⟨F, m * 6 + 3, none⟩ (.int .u8 d)).setCell ⟨F, m * 6 + 4, none⟩ (.int .u8 e)).setCell ⟨F, m * 6 + 5, none⟩ (.int .u8 f)).drew.drew.drew.drew.drew.drew (m + 1) := by
  have l1 := h.lt1
  have l2 := h.lt2
  have nS : S ≠ F := by omega
  have nR : w0.heap.size ≠ F := by omega
  have hB : w0.heap.size ≤ F := by omega
  refine ⟨l1, l2, ?_, ?_, ?_, ?_⟩
  · simp only [heap_drew]
    rw [heap_setCell_other _ _ _ _ nS, heap_setCell_other _ _ _ _ nS, heap_setCell_other _ _ _ _ nS, heap_setCell_other _ _ _ _ nS, heap_setCell_other _ _ _ _ nS, heap_setCell_other _ _ _ _ nS]
    exact h.src
  · simp only [heap_drew]
    rw [← tab_put hm he]
    exact heap_setCell_same _ _ _ _ _ _ (heap_setCell_same _ _ _ _ _ _ (heap_setCell_same _ _ _ _ _ _ (heap_setCell_same _ _ _ _ _ _ (heap_setCell_same _ _ _ _ _ _ (heap_setCell_same _ _ _ _ _ _ h.dst)))))
  · simp only [heap_drew]
    rw [heap_setCell_other _ _ _ _ nR, heap_setCell_other _ _ _ _ nR, heap_setCell_other _ _ _ _ nR, heap_setCell_other _ _ _ _ nR, heap_setCell_other _ _ _ _ nR, heap_setCell_other _ _ _ _ nR]
    exact h.out
  · exact ((((((h.bel.setCell hB _).setCell hB _).setCell hB _).setCell hB _).setCell hB _).setCell hB _).drew.drew.drew.drew.drew.drew

theorem flat_start {w w1 : World} (hb : Below (w.alloc (.cells (tab 0) 23)).heap.size (w.alloc (.cells (tab 0) 23)) w1) :
    Flat w w1.heap.size (w1.heap.size + 1) (((w1.alloc (.cells (tab 0) 52)).setRow w1.heap.size (tab 256)).alloc (.cells (tab 0) 23)) 0 := by
  have h1 : (w.alloc (.cells (tab 0) 23)).heap.size = w.heap.size + 1 := by simp
  have h2 : w.heap.size + 1 ≤ w1.heap.size := by have := hb.size; omega
  have h3 : ((w1.alloc (.cells (tab 0) 52)).setRow w1.heap.size (tab 256)).heap.size = w1.heap.size + 1 := by simp
  refine ⟨by omega, by omega, ?_, ?_, ?_, ?_⟩
  · rw [Below.heap_alloc _ _ _ (by omega)]
    exact setRow_heap _ _ (tab 0) _ _ _ (heap_alloc_new _ _)
  · rw [← h3, heap_alloc_new]
  · rw [Below.heap_alloc _ _ _ (by omega), setRow_other _ _ _ _ (by omega), Below.heap_alloc _ _ _ (by omega), hb.block _ (by omega), heap_alloc_new]
  · have hb0 : Below w.heap.size w w1 := ((Below.refl _ _).alloc (Nat.le_refl _) _).trans (hb.mono (by omega))
    exact (below_row (hb0.alloc (by omega) _) (by omega) _).alloc (by omega) _

set_option maxHeartbeats 1000000 in
set_option maxRecDepth 100000 in
/-- The flattened table is the table: RFC 3284's. -/
theorem zz_any (w : World) :
    Calls Try.prog 10 #[] w fun e w' => e = .returned (.agg (tab 256)) ∧ Below w.heap.size w w' := by
  go_enter Try.func10, Try.ntmps10
  go_wp2_with (first | (refine wpList_alloc_named rfl 23 rfl (tab 0) alloc23 ?_))
  refine (new_any _).mono ?_
  rintro e w1 ⟨rfl, hb⟩
  go_wp2_with (first | (refine wpList_alloc_named rfl 23 rfl (tab 0) alloc23 ?_) | (refine wpList_alloc_named rfl 52 rfl (tab 0) alloc52 ?_) | (refine wpList_store_row rfl 52 _ _ rfl w1.heap.size (tab 256) rfl rfl 52 (tab 0) (heap_alloc_new _ _) (by rw [tab_size]; exact size52) (by rw [tab_size, tab_size]) (tab_one _) ?_))
  go_loopw [3] (fun i wr => ∃ k : Nat, k ≤ 256 ∧ i = .int .i64 k ∧ Flat w w1.heap.size (w1.heap.size + 1) wr k) (fun i _ => 256 - (intOf i).toNat)
  case atStart => exact ⟨0, by omega, rfl, flat_start hb⟩
  case round =>
    clear hb
    obtain ⟨k, hk, rfl, hF⟩ := hrel
    by_cases hlt : k < 256
    · obtain ⟨e0, e1, e2, e3, e4, e5, he⟩ := ent_parts (k : Int)
      have hs : w1.heap.size + 1 < wr.heap.size := (Array.getElem?_eq_some_iff.1 hF.dst).1
      have hs' : w1.heap.size < wr.heap.size := by omega
      have hS : ∀ j, j < 6 → wr.cell? ⟨w1.heap.size, k * 6 + j, none⟩ = some (.int .u8 ((ent k).getD j 0)) := fun j hj =>
        (cell_of_row wr _ _ _ _ _ hF.src).trans ((tab_at 256 _ (by omega)).trans (by rw [tabZ_full 256 k j hlt hj]))
      rw [he] at hS
      have s0 : wr.cell? ⟨w1.heap.size, k * 6, none⟩ = some (.int .u8 e0) := hS 0 (by omega)
      have s1 : wr.cell? ⟨w1.heap.size, k * 6 + 1, none⟩ = some (.int .u8 e1) := hS 1 (by omega)
      have s2 : wr.cell? ⟨w1.heap.size, k * 6 + 2, none⟩ = some (.int .u8 e2) := hS 2 (by omega)
      have s3 : wr.cell? ⟨w1.heap.size, k * 6 + 3, none⟩ = some (.int .u8 e3) := hS 3 (by omega)
      have s4 : wr.cell? ⟨w1.heap.size, k * 6 + 3 + 1, none⟩ = some (.int .u8 e4) := hS 4 (by omega)
      have s5 : wr.cell? ⟨w1.heap.size, k * 6 + 3 + 2, none⟩ = some (.int .u8 e5) := hS 5 (by omega)
      have fT : ∀ j, wr.frozen? ⟨w1.heap.size + 1, j, none⟩ = false := fun j => frozen_of_row wr _ j _ _ hF.dst
      have hT : ∀ j, j < 1536 → wr.cell? ⟨w1.heap.size + 1, j, none⟩ = some (.int .u8 (tabZ k j)) := fun j hj => (cell_of_row wr _ j _ _ _ hF.dst).trans (tab_at k j hj)
      have t0 := hT (k * 6) (by omega)
      have t1 := hT (k * 6 + 1) (by omega)
      have t2 := hT (k * 6 + 2) (by omega)
      have t3 := hT (k * 6 + 3) (by omega)
      have t4 := hT (k * 6 + 4) (by omega)
      have t5 := hT (k * 6 + 5) (by omega)
      have b0 : (0 : Int) ≤ (k : Int) := by omega
      have b1 : (k : Int) < 256 := by omega
      clear hS hT
      have HE : Hid (ent k = _) := he
      clear he
      go_wp2
      go_region
      go_wp2
      go_region
      go_wp2
      go_region
      go_wp2
      go_region
      go_wp2
      go_region
      go_wp2
      go_region
      go_wp2
      go_roundw
      case rel => exact ⟨k + 1, by omega, by go_num, flat_step hF hlt HE.out⟩
      case measure => simp [intOf]; omega
    · replace hF : Flat w w1.heap.size (w1.heap.size + 1) wr 256 := by rw [show k = 256 by omega] at hF; exact hF
      go_wp2_with (first | (refine wpList_load_row rfl 23 _ rfl (w1.heap.size + 1) rfl 23 (tab 256) (0, 0) _ hF.dst Try.underlying23 rfl (by rw [tab_size]; exact size23) ?_) | (refine wpList_store_row rfl 23 _ _ rfl w.heap.size (tab 256) rfl rfl 23 (tab 0) hF.out (by rw [tab_size]; exact size23) (by rw [tab_size, tab_size]) (tab_one _) ?_))
      exact bodyPost_ret (results_cell_row Try.results10 _ _ w.heap.size 23 (tab 256) (0, 0) _ rfl (setRow_heap _ _ (tab 0) _ _ _ hF.out) Try.underlying23 rfl (by rw [tab_size]; exact size23)) rfl ⟨rfl, below_row hF.bel (Nat.le_refl _) _⟩
end Go.Proofs.Qxb6000601a
