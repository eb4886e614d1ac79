/-
  The plain side of the cover law: what a good cover is, the answer of a run at a position, and that the first run that ends past p is the one that a search finds.
-/
import Derived.Below
namespace Go.Proofs.Qxb6000601a
open Go Go.RowKit

/-- Three lists of one length describe runs within 2^28, each of length at least 1, in order of target and disjoint (as far as index k). -/
structure CoverP (S T L : List Int) (m k : Nat) : Prop where
  src : ∀ i, i < k → 0 ≤ S.getD i 0 ∧ S.getD i 0 ≤ 268435456
  tgt : ∀ i, i < k → 0 ≤ T.getD i 0 ∧ T.getD i 0 ≤ 268435456
  len : ∀ i, i < k → 1 ≤ L.getD i 0 ∧ L.getD i 0 ≤ 268435456
  ord : ∀ i, i + 1 < k → T.getD i 0 + L.getD i 0 ≤ T.getD (i + 1) 0
  hm : k ≤ m

theorem CoverP.zero (S T L : List Int) (m : Nat) : CoverP S T L m 0 := ⟨fun _ h => absurd h (by omega), fun _ h => absurd h (by omega), fun _ h => absurd h (by omega), fun _ h => absurd h (by omega), Nat.zero_le _⟩

theorem CoverP.step {S T L : List Int} {m k : Nat} (h : CoverP S T L m k) (hk : k < m) (hs : 0 ≤ S.getD k 0 ∧ S.getD k 0 ≤ 268435456) (ht : 0 ≤ T.getD k 0 ∧ T.getD k 0 ≤ 268435456) (hl : 1 ≤ L.getD k 0 ∧ L.getD k 0 ≤ 268435456)
    (ho : 0 < k → T.getD (k - 1) 0 + L.getD (k - 1) 0 ≤ T.getD k 0) : CoverP S T L m (k + 1) := by
  refine ⟨fun i hi => ?_, fun i hi => ?_, fun i hi => ?_, fun i hi => ?_, hk⟩
  · by_cases e : i = k
    · rw [e]; exact hs
    · exact h.src i (by omega)
  · by_cases e : i = k
    · rw [e]; exact ht
    · exact h.tgt i (by omega)
  · by_cases e : i = k
    · rw [e]; exact hl
    · exact h.len i (by omega)
  · by_cases e : i + 1 = k
    · have := ho (by omega)
      rw [show k - 1 = i by omega] at this
      rw [e]; exact this
    · exact h.ord i (by omega)

/-- Later runs begin past the ends of earlier ones. -/
theorem CoverP.far {S T L : List Int} {m k : Nat} (h : CoverP S T L m k) : ∀ d i, i + d + 1 < k → T.getD i 0 + L.getD i 0 ≤ T.getD (i + d + 1) 0 := by
  intro d
  induction d with
  | zero => intro i hi; exact h.ord i hi
  | succ d ih =>
    intro i hi
    have h1 := ih i (by omega)
    have h2 := h.ord (i + d + 1) (by omega)
    have h3 := (h.len (i + d + 1) (by omega)).1
    rw [show i + (d + 1) + 1 = i + d + 1 + 1 by omega]
    omega
theorem CoverP.le {S T L : List Int} {m k i j : Nat} (h : CoverP S T L m k) (hij : i ≤ j) (hj : j < k) : T.getD i 0 ≤ T.getD j 0 := by
  by_cases e : i = j
  · rw [e]; exact Int.le_refl _
  · have := h.far (j - i - 1) i (by omega)
    rw [show i + (j - i - 1) + 1 = j by omega] at this
    have := (h.len i (by omega)).1
    omega

/-- ps never decreases and lies in [0, 2^28], as far as index k. -/
structure RiseP (P : List Int) (n k : Nat) : Prop where
  rng : ∀ i, i < k → 0 ≤ P.getD i 0 ∧ P.getD i 0 ≤ 268435456
  ord : ∀ i, i + 1 < k → P.getD i 0 ≤ P.getD (i + 1) 0
  hn : k ≤ n

theorem RiseP.zero (P : List Int) (n : Nat) : RiseP P n 0 := ⟨fun _ h => absurd h (by omega), fun _ h => absurd h (by omega), Nat.zero_le _⟩
theorem RiseP.step {P : List Int} {n k : Nat} (h : RiseP P n k) (hk : k < n) (hr : 0 ≤ P.getD k 0 ∧ P.getD k 0 ≤ 268435456) (ho : 0 < k → P.getD (k - 1) 0 ≤ P.getD k 0) : RiseP P n (k + 1) := by
  refine ⟨fun i hi => ?_, fun i hi => ?_, hk⟩
  · by_cases e : i = k
    · rw [e]; exact hr
    · exact h.rng i (by omega)
  · by_cases e : i + 1 = k
    · have := ho (by omega)
      rw [show k - 1 = i by omega] at this
      rw [e]; exact this
    · exact h.ord i (by omega)

/-- The first run from k on that ends past p. -/
theorem next_run (T L : List Int) (p : Int) (m : Nat) : ∀ d k, k + d = m → ∃ j, k ≤ j ∧ j ≤ m ∧ (∀ i, k ≤ i → i < j → T.getD i 0 + L.getD i 0 ≤ p) ∧ (j < m → p < T.getD j 0 + L.getD j 0) := by
  intro d
  induction d with
  | zero => intro k hk; exact ⟨k, Nat.le_refl _, by omega, fun i h1 h2 => absurd h2 (by omega), fun h => absurd h (by omega)⟩
  | succ d ih =>
    intro k hk
    by_cases h : p < T.getD k 0 + L.getD k 0
    · exact ⟨k, Nat.le_refl _, by omega, fun i h1 h2 => absurd h2 (by omega), fun _ => h⟩
    · obtain ⟨j, h1, h2, h3, h4⟩ := ih (k + 1) (by omega)
      refine ⟨j, by omega, h2, fun i hi1 hi2 => ?_, h4⟩
      by_cases e : i = k
      · rw [e]; omega
      · exact h3 i (by omega) hi2

/-- What run (s, t, l) answers at position p: an address, a size, yes or no. -/
def ans (s t l srcLen start fin p : Int) : Int × Int × Bool :=
  if srcLen ≤ s + p - t then
    (if s + p - t - start < srcLen then (0, 0, false) else (s + p - t - start, (if fin < t + l then fin else t + l) - p, true))
  else (s + p - t, (if fin < t + l then fin else t + l) - p, true)

def iv (zs : List Int) : List Value := zs.map (Value.int .i64)
theorem iv_len (zs : List Int) : (iv zs).length = zs.length := by simp [iv]
theorem iv_at (zs : List Int) (j : Nat) (h : j < zs.length) : (iv zs)[j]? = some (.int .i64 (zs.getD j 0)) := by
  simp [iv, List.getElem?_eq_getElem h]
end Go.Proofs.Qxb6000601a
