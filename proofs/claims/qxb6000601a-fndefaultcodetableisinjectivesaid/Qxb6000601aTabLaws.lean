/-
  What the two table laws share: '==' on [6]byte, no two entries are one, the table as the laws hold it.
-/
import Derived.Test.Qxb6000601aZz
import Derived.ChangeKeysEq
import Derived.Deep.Draws
namespace Go.Proofs.Qxb6000601a
open Go.RowKit

theorem info5 : (Try.prog.info? 5).isSome = true := by kernel_rfl
theorem cells5 : Try.prog.cellsOf 5 = 1 := by kernel_rfl
theorem eq22_step (w : World) (C D : Array Value) (i : Nat) (is : List Nat) (x y : Int) (hx : C[i]? = some (.int .u8 x)) (hy : D[i]? = some (.int .u8 y)) :
    (Op.eqItems 9999 5 1 C D (i :: is)).run Try.prog w = if x = y then (Op.eqItems 9999 5 1 C D is).run Try.prog w else .ok false w := by
  have hp : ∀ (C : Array Value) (v : Value), C[i]? = some v → (part 5 C i).run Try.prog w = .ok v w := by
    intro C v hv
    simp [part, isAgg, run_underlying Try.underlying5, hv]
  have hq : (Op.equalIn 9999 5 (.int .u8 x) (.int .u8 y)).run Try.prog w = .ok (x == y) w := run_equalIn_int w 9998 5 .u8 .u8 x y Try.underlying5
  by_cases h : x = y
  · subst h
    simp [Op.eqItems, Sem.run_bind, hp _ _ hx, hp _ _ hy, hq]
  · simp [Op.eqItems, Sem.run_bind, hp _ _ hx, hp _ _ hy, hq, h]
theorem eq22 (w : World) (a b c d e f a' b' c' d' e' f' : Int) : (Op.equalIn 10000 22 (.agg #[.int .u8 a, .int .u8 b, .int .u8 c, .int .u8 d, .int .u8 e, .int .u8 f]) (.agg #[.int .u8 a', .int .u8 b', .int .u8 c', .int .u8 d', .int .u8 e', .int .u8 f'])).run Try.prog w
    = .ok (decide ([a, b, c, d, e, f] = [a', b', c', d', e', f'])) w := by
  obtain ⟨i, hi⟩ := Option.isSome_iff_exists.1 info5
  rw [show (10000 : Nat) = 9999 + 1 from rfl, run_equalIn_array w 9999 _ _ Try.underlying22 hi, show List.range 6 = [0, 1, 2, 3, 4, 5] from rfl, cells5]
  rw [eq22_step w _ _ 0 _ a a' rfl rfl, eq22_step w _ _ 1 _ b b' rfl rfl, eq22_step w _ _ 2 _ c c' rfl rfl, eq22_step w _ _ 3 _ d d' rfl rfl, eq22_step w _ _ 4 _ e e' rfl rfl, eq22_step w _ _ 5 _ f f' rfl rfl]
  simp only [Op.eqItems, Sem.run_pure]
  by_cases h1 : a = a' <;> by_cases h2 : b = b' <;> by_cases h3 : c = c' <;> by_cases h4 : d = d' <;> by_cases h5 : e = e' <;> by_cases h6 : f = f' <;> simp [h1, h2, h3, h4, h5, h6]

/-- No two of the 256 entries are one. -/
def injB : Bool := (List.range 256).all fun i => (List.range 256).all fun j => decide (j ≤ i) || !(ent (i : Int) == ent (j : Int))
theorem injB_true : injB = true := by kernel_rfl
theorem ent_inj {i j : Nat} (hij : i < j) (hj : j < 256) : ent (i : Int) ≠ ent (j : Int) := by
  have h := injB_true
  unfold injB at h
  have h1 := List.all_eq_true.1 (List.all_eq_true.1 h i (List.mem_range.2 (by omega))) j (List.mem_range.2 hj)
  intro e
  rw [e] at h1
  simp at h1
  omega

structure Held (w0 : World) (S : Nat) (w : World) : Prop where
  lt : w0.heap.size ≤ S
  tabl : w.heap[S]? = some (.cells (tab 256) 23 (0, 0))
  bel : Below w0.heap.size w0 w

theorem Held.drewN {w0 w : World} {S : Nat} (h : Held w0 S w) (n : Nat) : Held w0 S (w.drewN n) := ⟨h.lt, h.tabl, ⟨h.bel.os, h.bel.tape, h.bel.output, h.bel.size, h.bel.block⟩⟩
theorem held_start {w w1 : World} (hb : Below w.heap.size w w1) : Held w w1.heap.size ((w1.alloc (.cells (tab 0) 23)).setRow w1.heap.size (tab 256)) :=
  ⟨hb.size, setRow_heap _ _ (tab 0) _ _ _ (heap_alloc_new _ _), below_row (hb.alloc hb.size _) hb.size _⟩

end Go.Proofs.Qxb6000601a
