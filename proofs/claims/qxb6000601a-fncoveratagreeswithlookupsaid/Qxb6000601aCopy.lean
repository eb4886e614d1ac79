/-
  The plain side of the COPY laws: RFC 3284's byte-at-a-time COPY ('cp'), and what whole pieces of it are.
-/
import Derived.Below
namespace Go.Proofs.Qxb6000601a
open Go Go.RowKit

/-- Byte a of U = seg ++ want[start:]. -/
def U (seg want : List Int) (start a : Nat) : Int := if a < seg.length then seg.getD a 0 else want.getD (start + (a - seg.length)) 0
/-- k bytes copied one at a time from position addr of U on. -/
def cp (seg : List Int) (start addr : Nat) (out : List Int) : Nat → List Int
  | 0 => out
  | k + 1 => cp seg start addr out k ++ [U seg (cp seg start addr out k) start (addr + k)]

theorem cp_len (seg : List Int) (start addr : Nat) (out : List Int) (k : Nat) : (cp seg start addr out k).length = out.length + k := by
  induction k with
  | zero => rfl
  | succ k ih => simp [cp, ih]; omega

theorem snoc_take (l : List Int) (f m : Nat) (h : f + m < l.length) : (l.drop f).take (m + 1) = (l.drop f).take m ++ [l.getD (f + m) 0] := by
  rw [List.take_succ_eq_append_getElem (by simp; omega), List.getElem_drop, List.getD_eq_getElem?_getD, List.getElem?_eq_getElem h]
  rfl

/-- A piece that lies in the segment. -/
theorem cp_seg (seg : List Int) (start addr : Nat) (out : List Int) (k m : Nat) (h : addr + k + m ≤ seg.length) :
    cp seg start addr out (k + m) = cp seg start addr out k ++ (seg.drop (addr + k)).take m := by
  induction m with
  | zero => simp
  | succ m ih =>
    rw [← Nat.add_assoc, cp, ih (by omega), snoc_take _ _ _ (by omega), List.append_assoc]
    congr 2
    unfold U
    rw [if_pos (by omega), Nat.add_assoc]

/-- A piece that lies in what is there already. -/
theorem cp_tgt (seg : List Int) (start addr : Nat) (out : List Int) (k m f : Nat) (h : seg.length ≤ addr + k) (hf : f = start + (addr + k - seg.length)) (hm : f + m ≤ (cp seg start addr out k).length) :
    cp seg start addr out (k + m) = cp seg start addr out k ++ ((cp seg start addr out k).drop f).take m := by
  induction m with
  | zero => simp
  | succ m ih =>
    rw [← Nat.add_assoc, cp, ih (by omega), snoc_take _ _ _ (by omega)]
    rw [List.append_assoc]
    congr 2
    unfold U
    rw [if_neg (by omega), show start + (addr + (k + m) - seg.length) = f + m by omega]
    simp only [List.getD_eq_getElem?_getD]
    rw [List.getElem?_append_left (by omega)]

/-- What is there already stays. -/
theorem cp_take (seg : List Int) (start addr : Nat) (out : List Int) (k : Nat) : (cp seg start addr out k).take out.length = out := by
  induction k with
  | zero => simp [cp]
  | succ k ih => rw [cp, List.take_append_of_le_length (by rw [cp_len]; omega), ih]

theorem cp_get (seg : List Int) (start addr : Nat) (out : List Int) (k j : Nat) (hj : j < k) : (cp seg start addr out k).getD (out.length + j) 0 = U seg (cp seg start addr out j) start (addr + j) := by
  induction k with
  | zero => omega
  | succ k ih =>
    rw [cp]
    simp only [List.getD_eq_getElem?_getD] at ih ⊢
    by_cases hjk : j < k
    · rw [List.getElem?_append_left (by rw [cp_len]; omega)]; exact ih hjk
    · obtain rfl : j = k := by omega
      rw [List.getElem?_append_right (by rw [cp_len]; omega), cp_len]
      simp

/-- A shorter copy is the head of a longer one. -/
theorem cp_pre (seg : List Int) (start addr : Nat) (out : List Int) (j k i : Nat) (hjk : j ≤ k) (hi : i < out.length + j) : (cp seg start addr out k).getD i 0 = (cp seg start addr out j).getD i 0 := by
  induction k with
  | zero => rw [show j = 0 by omega]
  | succ k ih =>
    by_cases h : j = k + 1
    · rw [h]
    · rw [cp, ← ih (by omega)]
      simp only [List.getD_eq_getElem?_getD]
      rw [List.getElem?_append_left (by rw [cp_len]; omega)]

/-- A COPY from the target is periodic: byte i is byte i - d, d its distance back from the end of U. -/
theorem cp_periodic (seg : List Int) (start addr : Nat) (out : List Int) (size i d : Nat) (hs : seg.length ≤ addr) (hst : start ≤ out.length) (hd : d + addr = seg.length + (out.length - start)) (h0 : 0 < d)
    (h1 : out.length ≤ i) (h2 : i < out.length + size) : (cp seg start addr out size).getD i 0 = (cp seg start addr out size).getD (i - d) 0 := by
  obtain ⟨j, rfl⟩ : ∃ j, i = out.length + j := ⟨i - out.length, by omega⟩
  rw [cp_get _ _ _ _ _ _ (by omega), cp_pre _ _ _ _ j size (out.length + j - d) (by omega) (by omega)]
  unfold U
  rw [if_neg (by omega), show start + (addr + j - seg.length) = out.length + j - d by omega]

/-- Numbers as cells. -/
def bv (zs : List Int) : List Value := zs.map (Value.int .u8)
theorem bv_len (zs : List Int) : (bv zs).length = zs.length := by simp [bv]
theorem bv_append (a b : List Int) : bv (a ++ b) = bv a ++ bv b := by simp [bv]
theorem bv_at (zs : List Int) (j : Nat) (h : j < zs.length) : (bv zs)[j]? = some (.int .u8 (zs.getD j 0)) := by
  simp [bv, List.getElem?_eq_getElem h]
theorem bv_one (zs : List Int) : ∀ u ∈ bv zs, u.oneCell' = true := by
  intro u hu
  simp only [bv, List.mem_map] at hu
  obtain ⟨_, _, rfl⟩ := hu
  rfl
end Go.Proofs.Qxb6000601a
