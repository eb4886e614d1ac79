/-
  The plain side of the code table laws: RFC 3284's default table by arithmetic ('ent'), and the table as a row of 1536 cells ('tab'). No Go in sight but the values.
-/
import Derived.Below
namespace Go.Proofs.Qxb6000601a
open Go Go.RowKit

/-- RFC 3284's entry of opcode n: six bytes. -/
def ent (n : Int) : List Int :=
  if n = 0 then [2, 0, 0, 0, 0, 0]
  else if n ≤ 18 then [1, n - 1, 0, 0, 0, 0]
  else if n ≤ 162 then [3, if (n - 19) % 16 = 0 then 0 else (n - 19) % 16 + 3, (n - 19) / 16, 0, 0, 0]
  else if n ≤ 234 then [1, (n - 163) % 12 / 3 + 1, 0, 3, (n - 163) % 3 + 4, (n - 163) / 12]
  else if n ≤ 246 then [1, (n - 235) % 4 + 1, 0, 3, 4, 6 + (n - 235) / 4]
  else [3, 4, n - 247, 1, 1, 0]
/-- The same as a value's cells. -/
def entA (n : Int) : Array Value := ((ent n).map fun x => Value.int .u8 x).toArray

theorem ent_0 : ent 0 = [2, 0, 0, 0, 0, 0] := rfl
theorem ent_1 {n : Int} (h0 : 0 < n) (h1 : n ≤ 18) : ent n = [1, n - 1, 0, 0, 0, 0] := by
  unfold ent; rw [if_neg (by omega), if_pos h1]
theorem ent_2 {n : Int} (h0 : 18 < n) (h1 : n ≤ 162) (h : (n - 19) % 16 = 0) : ent n = [3, 0, (n - 19) / 16, 0, 0, 0] := by
  unfold ent; rw [if_neg (by omega), if_neg (by omega), if_pos h1, if_pos h]
theorem ent_3 {n : Int} (h0 : 18 < n) (h1 : n ≤ 162) (h : ¬ (n - 19) % 16 = 0) : ent n = [3, (n - 19) % 16 + 3, (n - 19) / 16, 0, 0, 0] := by
  unfold ent; rw [if_neg (by omega), if_neg (by omega), if_pos h1, if_neg h]
theorem ent_4 {n : Int} (h0 : 162 < n) (h1 : n ≤ 234) : ent n = [1, (n - 163) % 12 / 3 + 1, 0, 3, (n - 163) % 3 + 4, (n - 163) / 12] := by
  unfold ent; rw [if_neg (by omega), if_neg (by omega), if_neg (by omega), if_pos h1]
theorem ent_5 {n : Int} (h0 : 234 < n) (h1 : n ≤ 246) : ent n = [1, (n - 235) % 4 + 1, 0, 3, 4, 6 + (n - 235) / 4] := by
  unfold ent; rw [if_neg (by omega), if_neg (by omega), if_neg (by omega), if_neg (by omega), if_pos h1]
theorem ent_6 {n : Int} (h0 : 246 < n) : ent n = [3, 4, n - 247, 1, 1, 0] := by
  unfold ent; rw [if_neg (by omega), if_neg (by omega), if_neg (by omega), if_neg (by omega), if_neg (by omega)]
theorem entA_of {n a b c d e f : Int} (h : ent n = [a, b, c, d, e, f]) : entA n = #[.int .u8 a, .int .u8 b, .int .u8 c, .int .u8 d, .int .u8 e, .int .u8 f] := by
  unfold entA; rw [h]; rfl

/-- What the Go text puts at its m-th call is the m-th entry. -/
theorem put_0 : ent ((0 : Nat) : Int) = [2, 0, 0, 0, 0, 0] := rfl
theorem put_0' : ent ((0 + 1 : Nat) : Int) = [1, 0, 0, 0, 0, 0] := rfl
theorem put_1 {s : Nat} (h0 : 1 ≤ s) (h1 : s ≤ 17) : ent ((s + 1 : Nat) : Int) = [1, (s : Int), 0, 0, 0, 0] := by
  rw [ent_1 (by omega) (by omega), show ((s + 1 : Nat) : Int) - 1 = (s : Int) by omega]
theorem put_2 {m : Nat} (h1 : m ≤ 8) : ent ((19 + 16 * m : Nat) : Int) = [3, 0, (m : Int), 0, 0, 0] := by
  rw [ent_2 (by omega) (by omega) (by omega), show (((19 + 16 * m : Nat) : Int) - 19) / 16 = (m : Int) by omega]
theorem put_3 {m s : Nat} (h1 : m ≤ 8) (h2 : 4 ≤ s) (h3 : s ≤ 18) : ent ((16 + 16 * m + s : Nat) : Int) = [3, (s : Int), (m : Int), 0, 0, 0] := by
  rw [ent_3 (by omega) (by omega) (by omega), show (((16 + 16 * m + s : Nat) : Int) - 19) / 16 = m by omega, show (((16 + 16 * m + s : Nat) : Int) - 19) % 16 + 3 = s by omega]
theorem put_4 {m a s : Nat} (h1 : m ≤ 5) (h2 : 1 ≤ a) (h3 : a ≤ 4) (h4 : 4 ≤ s) (h5 : s ≤ 6) : ent ((156 + 12 * m + 3 * a + s : Nat) : Int) = [1, (a : Int), 0, 3, (s : Int), (m : Int)] := by
  rw [ent_4 (by omega) (by omega), show (((156 + 12 * m + 3 * a + s : Nat) : Int) - 163) % 12 / 3 + 1 = a by omega, show (((156 + 12 * m + 3 * a + s : Nat) : Int) - 163) % 3 + 4 = s by omega, show (((156 + 12 * m + 3 * a + s : Nat) : Int) - 163) / 12 = m by omega]
theorem put_5 {m a : Nat} (h0 : 6 ≤ m) (h1 : m ≤ 8) (h2 : 1 ≤ a) (h3 : a ≤ 4) : ent ((210 + 4 * m + a : Nat) : Int) = [1, (a : Int), 0, 3, 4, (m : Int)] := by
  rw [ent_5 (by omega) (by omega), show (((210 + 4 * m + a : Nat) : Int) - 235) % 4 + 1 = a by omega, show 6 + (((210 + 4 * m + a : Nat) : Int) - 235) / 4 = m by omega]
theorem put_6 {m : Nat} : ent ((247 + m : Nat) : Int) = [3, 4, (m : Int), 1, 1, 0] := by
  rw [ent_6 (by omega), show ((247 + m : Nat) : Int) - 247 = m by omega]

/-- Byte j of the table whose first m entries are laid. -/
def tabZ (m j : Nat) : Int := if j / 6 < m then (ent ((j / 6 : Nat) : Int)).getD (j % 6) 0 else 0
/-- The table whose first m entries are laid, as a row of cells. -/
def tab (m : Nat) : Array Value := ((List.range 1536).map fun j => Value.int .u8 (tabZ m j)).toArray

theorem tab_size (m : Nat) : (tab m).size = 1536 := by simp [tab]
theorem tab_at (m j : Nat) (h : j < 1536) : (tab m)[j]? = some (.int .u8 (tabZ m j)) := by
  simp [tab, List.getElem?_range h]
theorem tab_ext {m : Nat} {C : Array Value} (hs : C.size = 1536) (h : ∀ j, j < 1536 → C[j]? = some (.int .u8 (tabZ m j))) : C = tab m := by
  refine Array.ext_getElem? fun j => ?_
  by_cases hj : j < 1536
  · rw [h j hj, tab_at m j hj]
  · rw [Array.getElem?_eq_none (by omega), Array.getElem?_eq_none (by rw [tab_size]; omega)]
theorem ent_len (n : Int) : (ent n).length = 6 := by unfold ent; (repeat' split) <;> rfl
theorem tabZ_full (m i j : Nat) (hi : i < m) (hj : j < 6) : tabZ m (i * 6 + j) = (ent i).getD j 0 := by
  unfold tabZ
  rw [show (i * 6 + j) / 6 = i by omega, show (i * 6 + j) % 6 = j by omega, if_pos hi]
/-- One entry more. -/
theorem tab_put {m : Nat} {a b c d e f : Int} (hm : m < 256) (h : ent m = [a, b, c, d, e, f]) :
    ((((((tab m).setIfInBounds (m * 6) (.int .u8 a)).setIfInBounds (m * 6 + 1) (.int .u8 b)).setIfInBounds (m * 6 + 2) (.int .u8 c)).setIfInBounds (m * 6 + 3) (.int .u8 d)).setIfInBounds (m * 6 + 4) (.int .u8 e)).setIfInBounds (m * 6 + 5) (.int .u8 f) = tab (m + 1) := by
  refine tab_ext (by simp [tab_size]) fun j hj => ?_
  by_cases hjm : j / 6 = m
  · obtain ⟨r, hr, rfl⟩ : ∃ r, r < 6 ∧ j = m * 6 + r := ⟨j % 6, by omega, by omega⟩
    rw [tabZ_full (m + 1) m r (by omega) hr, h]
    match r, hr with
    | 0, _ => simp [Array.getElem?_setIfInBounds, tab_size]; omega
    | 1, _ => simp [Array.getElem?_setIfInBounds, tab_size]; omega
    | 2, _ => simp [Array.getElem?_setIfInBounds, tab_size]; omega
    | 3, _ => simp [Array.getElem?_setIfInBounds, tab_size]; omega
    | 4, _ => simp [Array.getElem?_setIfInBounds, tab_size]; omega
    | 5, _ => simp [Array.getElem?_setIfInBounds, tab_size]; omega
  · have e0 : tabZ (m + 1) j = tabZ m j := by
      unfold tabZ
      by_cases hlt : j / 6 < m
      · rw [if_pos hlt, if_pos (by omega)]
      · rw [if_neg hlt, if_neg (by omega)]
    rw [e0, Array.getElem?_setIfInBounds_ne (by omega), Array.getElem?_setIfInBounds_ne (by omega), Array.getElem?_setIfInBounds_ne (by omega), Array.getElem?_setIfInBounds_ne (by omega),
      Array.getElem?_setIfInBounds_ne (by omega), Array.getElem?_setIfInBounds_ne (by omega), tab_at m j hj]
theorem tab_zero : tab 0 = Array.replicate 1536 (.int .u8 0) := by
  refine Array.ext_getElem? fun j => ?_
  by_cases hj : j < 1536
  · rw [tab_at 0 j hj]; simp [tabZ, hj]
  · rw [Array.getElem?_eq_none (by rw [tab_size]; omega), Array.getElem?_eq_none (by simp; omega)]
end Go.Proofs.Qxb6000601a
