/-
  The walks of 'rfcEntry' (11) and of the closure 'put' (32); a law on the alloc of a long row.
-/
import Derived.Test.Qxb6000601aProg
import Derived.Test.Qxb6000601aEnt
import Derived.WalkKit
import Derived.KernelRfl
namespace Go.Proofs.Qxb6000601a
open Go.RowKit

set_option maxHeartbeats 1000000 in
theorem rfc_any (n : Int) (w : World) (h0 : 0 ≤ n) (h1 : n ≤ 255) :
    Calls Try.prog 11 #[.int .i64 n] w fun e w' => e = .returned (.agg (entA n)) ∧ Below w.heap.size w w' := by
  by_cases a0 : n = 0
  · subst a0
    have HE : Hid (entA 0 = _) := entA_of ent_0
    go_enter Try.func11, Try.ntmps11
    go_wp2
    exact bodyPost_ret (v := .agg (entA 0)) (by rw [HE.out]; simp [results, Try.results11, go_sem]) rfl ⟨rfl, ((Below.refl _ _).alloc (Nat.le_refl _) _).alloc (by simp) _⟩
  have b0 : (n == 0) = false := by simpa using a0
  by_cases a1 : n ≤ 18
  · have HE : Hid (entA n = _) := entA_of (ent_1 (by omega) a1)
    go_enter Try.func11, Try.ntmps11
    go_wp2
    exact bodyPost_ret (v := .agg (entA n)) (by rw [HE.out]; simp [results, Try.results11, go_sem]) rfl ⟨rfl, ((Below.refl _ _).alloc (Nat.le_refl _) _).alloc (by simp) _⟩
  by_cases a2 : n ≤ 162
  · by_cases a3 : (n - 19) % 16 = 0
    · have HE : Hid (entA n = _) := entA_of (ent_2 (by omega) a2 a3)
      go_enter Try.func11, Try.ntmps11
      go_wp2
      exact bodyPost_ret (v := .agg (entA n)) (by rw [HE.out]; simp [results, Try.results11, go_sem]) rfl ⟨rfl, ((Below.refl _ _).alloc (Nat.le_refl _) _).alloc (by simp) _⟩
    · have b3 : ((n - 19) % 16 != 0) = true := by simpa using a3
      have HE : Hid (entA n = _) := entA_of (ent_3 (by omega) a2 a3)
      go_enter Try.func11, Try.ntmps11
      go_wp2
      exact bodyPost_ret (v := .agg (entA n)) (by rw [HE.out]; simp [results, Try.results11, go_sem]) rfl ⟨rfl, ((Below.refl _ _).alloc (Nat.le_refl _) _).alloc (by simp) _⟩
  by_cases a4 : n ≤ 234
  · have HE : Hid (entA n = _) := entA_of (ent_4 (by omega) a4)
    go_enter Try.func11, Try.ntmps11
    go_wp2
    exact bodyPost_ret (v := .agg (entA n)) (by rw [HE.out]; simp [results, Try.results11, go_sem]) rfl ⟨rfl, ((Below.refl _ _).alloc (Nat.le_refl _) _).alloc (by simp) _⟩
  by_cases a5 : n ≤ 246
  · have HE : Hid (entA n = _) := entA_of (ent_5 (by omega) a5)
    go_enter Try.func11, Try.ntmps11
    go_wp2
    exact bodyPost_ret (v := .agg (entA n)) (by rw [HE.out]; simp [results, Try.results11, go_sem]) rfl ⟨rfl, ((Below.refl _ _).alloc (Nat.le_refl _) _).alloc (by simp) _⟩
  · have HE : Hid (entA n = _) := entA_of (ent_6 (by omega))
    go_enter Try.func11, Try.ntmps11
    go_wp2
    exact bodyPost_ret (v := .agg (entA n)) (by rw [HE.out]; simp [results, Try.results11, go_sem]) rfl ⟨rfl, ((Below.refl _ _).alloc (Nat.le_refl _) _).alloc (by simp) _⟩

/-- THE STATE OF THE BUILDER: the table lies in block T with its first m entries, the counter in block O; below w0's size nothing has turned; the result's own block is as it was laid. -/
structure Laid (w0 : World) (T O : Nat) (w : World) (m : Nat) : Prop where
  lt1 : w0.heap.size < T
  lt2 : T < O
  tabl : w.heap[T]? = some (.cells (tab m) 52 (0, 0))
  cnt : w.heap[O]? = some (.cells #[.int .i64 m] 3 (0, 0))
  out : w.heap[w0.heap.size]? = some (.cells (tab 0) 52 (0, 0))
  bel : Below w0.heap.size w0 w

theorem put_world {w0 w : World} {T O m : Nat} {a b c d e f : Int} (h : Laid w0 T O w m) (hm : m < 256) (he : ent m = [a, b, c, d, e, f]) (o : Obj) :
    Laid w0 T O ((((((((w.setCell ⟨T, m * 6, none⟩ (.int .u8 a)).setCell ⟨T, m * 6 + 1, none⟩ (.int .u8 b)).setCell ⟨T, m * 6 + 2, none⟩ (.int .u8 c)).setCell ⟨T, m * 6 + 3, none⟩ (.int .u8 d)).setCell ⟨T, m * 6 + 4, none⟩ (.int .u8 e)).setCell ⟨T, m * 6 + 5, none⟩ (.int .u8 f)).setCell ⟨O, 0, none⟩ (.int .i64 (m + 1))).alloc o) (m + 1) := by
  have hs2 : O < w.heap.size := (Array.getElem?_eq_some_iff.1 h.cnt).1
  have l1 := h.lt1
  have l2 := h.lt2
  have nTO : T ≠ O := by omega
  have nOT : O ≠ T := by omega
  have nS : w0.heap.size ≠ T := by omega
  have nS' : w0.heap.size ≠ O := by omega
  refine ⟨l1, l2, ?_, ?_, ?_, ?_⟩
  · rw [Below.heap_alloc _ _ _ (by simp [World.setCell]; omega), heap_setCell_other _ _ _ _ nTO, ← tab_put hm he]
    exact heap_setCell_same _ _ _ _ _ _ (heap_setCell_same _ _ _ _ _ _ (heap_setCell_same _ _ _ _ _ _ (heap_setCell_same _ _ _ _ _ _ (heap_setCell_same _ _ _ _ _ _ (heap_setCell_same _ _ _ _ _ _ h.tabl)))))
  · rw [Below.heap_alloc _ _ _ (by simp [World.setCell]; omega)]
    have := heap_setCell_same (((((((w.setCell ⟨T, m * 6, none⟩ (.int .u8 a)).setCell ⟨T, m * 6 + 1, none⟩ (.int .u8 b)).setCell ⟨T, m * 6 + 2, none⟩ (.int .u8 c)).setCell ⟨T, m * 6 + 3, none⟩ (.int .u8 d)).setCell ⟨T, m * 6 + 4, none⟩ (.int .u8 e)).setCell ⟨T, m * 6 + 5, none⟩ (.int .u8 f))) O 0 #[.int .i64 m] 3 (.int .i64 (m + 1)) (by
      rw [heap_setCell_other _ _ _ _ nOT, heap_setCell_other _ _ _ _ nOT, heap_setCell_other _ _ _ _ nOT, heap_setCell_other _ _ _ _ nOT, heap_setCell_other _ _ _ _ nOT, heap_setCell_other _ _ _ _ nOT]
      exact h.cnt)
    rw [this]
    simp
  · rw [Below.heap_alloc _ _ _ (by simp [World.setCell]; omega), heap_setCell_other _ _ _ _ nS', heap_setCell_other _ _ _ _ nS, heap_setCell_other _ _ _ _ nS, heap_setCell_other _ _ _ _ nS, heap_setCell_other _ _ _ _ nS, heap_setCell_other _ _ _ _ nS, heap_setCell_other _ _ _ _ nS]
    exact h.out
  · exact (((((((h.bel.setCell (Nat.le_of_lt l1) _).setCell (Nat.le_of_lt l1) _).setCell (Nat.le_of_lt l1) _).setCell (Nat.le_of_lt l1) _).setCell (Nat.le_of_lt l1) _).setCell (Nat.le_of_lt l1) _).setCell (by simp only; omega) _).alloc (by simp [World.setCell]; omega) _

set_option maxHeartbeats 400000 in
/-- 'put(e)': one entry more. -/
theorem put_any (w0 : World) (T O m : Nat) (e0 e1 e2 e3 e4 e5 : Int) (w : World) (h : Laid w0 T O w m) (hm : m < 256) (he : ent m = [e0, e1, e2, e3, e4, e5]) :
    Calls Try.prog 32 #[.agg #[.int .u8 e0, .int .u8 e1, .int .u8 e2, .int .u8 e3, .int .u8 e4, .int .u8 e5], .pointer (some ⟨T, 0, none⟩), .pointer (some ⟨O, 0, none⟩)] w fun e w' => e = .returned (.tuple #[]) ∧ Laid w0 T O w' (m + 1) := by
  have HW := @put_world w0 w T O m e0 e1 e2 e3 e4 e5 h hm he
  have hs2 : O < w.heap.size := (Array.getElem?_eq_some_iff.1 h.cnt).1
  have l2 := h.lt2
  have hs1 : T < w.heap.size := by omega
  have nTO : T ≠ O := by omega
  have nOT : O ≠ T := by omega
  have fT : ∀ j, w.frozen? ⟨T, j, none⟩ = false := fun j => frozen_of_row w _ j _ _ h.tabl
  have fO : w.frozen? ⟨O, 0, none⟩ = false := frozen_of_row w _ 0 _ _ h.cnt
  have hO : w.cell? ⟨O, 0, none⟩ = some (.int .i64 m) := cell_of_row w _ 0 _ _ _ h.cnt
  have hT : ∀ j, j < 1536 → w.cell? ⟨T, j, none⟩ = some (.int .u8 (tabZ m j)) := fun j hj => (cell_of_row w _ j _ _ _ h.tabl).trans (tab_at m j hj)
  have c0 := hT (m * 6) (by omega)
  have c1 := hT (m * 6 + 1) (by omega)
  have c2 := hT (m * 6 + 2) (by omega)
  have c3 := hT (m * 6 + 3) (by omega)
  have c4 := hT (m * 6 + 4) (by omega)
  have c5 := hT (m * 6 + 5) (by omega)
  have HW' : Hid (∀ o, _) := HW
  clear hT h he HW l2
  go_enter Try.func32, Try.ntmps32
  go_wp2
  go_end0
  exact ⟨rfl, HW'.out _⟩

/-- A new variable of a long type: its zero value is a row that bears a name. -/
theorem wpList_alloc_named {P : Program} {ops : Array Oper} {rest : List Oper} {o : Oper} {a : Act} {w : World} {Q : Exit → Act → World → Prop} (hgd : o.guard = none) (ty : TypeId) (ho : o.op = .alloc ty) (C : Array Value)
    (hrun : ∀ w, (Instr.alloc ty true (.tuple #[])).run P w = .ok (.pointer (some ⟨w.heap.size, 0, none⟩)) (w.alloc (.cells C ty)))
    (h : wpList P ops Q rest (a.put o.dst (.pointer (some ⟨w.heap.size, 0, none⟩))) (w.alloc (.cells C ty))) : wpList P ops Q (o :: rest) a w := by
  refine wpList_plain hgd fun K hK => ?_
  unfold Oper.wp execOp
  simp only [ho, Sem.run_bind, hrun, Result.andThen_ok]
  exact hK _ _ h
theorem alloc52 (w : World) : (Instr.alloc 52 true (.tuple #[])).run Try.prog w = .ok (.pointer (some ⟨w.heap.size, 0, none⟩)) (w.alloc (.cells (tab 0) 52)) := by kernel_rfl
theorem alloc23 (w : World) : (Instr.alloc 23 true (.tuple #[])).run Try.prog w = .ok (.pointer (some ⟨w.heap.size, 0, none⟩)) (w.alloc (.cells (tab 0) 23)) := by kernel_rfl
theorem size52 : (Try.prog.info? 52).map (·.size) = some 1536 := by kernel_rfl
theorem size23 : (Try.prog.info? 23).map (·.size) = some 1536 := by kernel_rfl
theorem size22 : (Try.prog.info? 22).map (·.size) = some 6 := by kernel_rfl
theorem tab_one (m : Nat) : (tab m).all (·.oneCell') = true := by
  refine Array.all_eq_true_iff_forall_mem.2 fun v hv => ?_
  simp only [tab, List.mem_toArray, List.mem_map] at hv
  obtain ⟨j, _, rfl⟩ := hv
  rfl
end Go.Proofs.Qxb6000601a
