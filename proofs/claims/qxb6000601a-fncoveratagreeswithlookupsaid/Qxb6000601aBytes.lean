/-
  Walks of the small functions on slices of bytes: cloneBytes (14), sameBytes (16).
-/
import Derived.Test.Qxb6000601aProg
import Derived.Test.Qxb6000601aCopy
import Derived.WalkKit
import Derived.WalkSpells
import Derived.WalkLawsBesides
import Derived.KernelRfl
import Derived.Deep.QuietTactic
import Derived.BigQuiet
namespace Go.Proofs.Qxb6000601a
open Go.RowKit

/-- WHAT A SLICE OF BYTES HOLDS: its elements are zs. -/
def Rd (w : World) (a : Option Addr) (n : Nat) (zs : List Int) : Prop :=
  zs.length = n ∧ (0 < n → ∃ b off, a = some ⟨b, off, none⟩ ∧ ∀ i, i < n → w.cell? ⟨b, off + i, none⟩ = some (.int .u8 (zs.getD i 0)))

theorem info5p : (Try.prog.info? 5).map (fun i => (i.zero, i.size, i.bytes)) = some (some (.int .u8 0), 1, 1) := by kernel_rfl

theorem eq27 (w : World) (a : Option Addr) (n c : Nat) : (binOp .eql 27 (.slice a n c) (.slice none 0 0)).run Try.prog w = .ok (.bool a.isNone) w := Lib.run_eql_slice_nil w 27 5 a n c 0 0 Try.underlying27

theorem clone_nil (c : Nat) (w : World) :
    Calls Try.prog 14 #[.slice none 0 c] w fun e w' => e = .returned (.slice none 0 0) ∧ w' = w := by
  have q27 := eq27
  go_enter Try.func14, Try.ntmps14
  go_wp2
  go_ret
  exact ⟨rfl, rfl⟩

/-- The row of the clone behind k rounds. -/
def part_ (zs : List Int) (k : Nat) : List Int := zs.take k ++ List.replicate (zs.length - k) 0
theorem part_zero (zs : List Int) : (madeCells (Value.int .u8 0).cells (zs.length * 1)).toList = bv (part_ zs 0) := by
  show (madeCells #[Value.int .u8 0] _).toList = _
  rw [toList_madeCells_one]
  simp [bv, part_]
theorem part_set (zs : List Int) (k : Nat) (h : k < zs.length) : (bv (part_ zs k)).set k (.int .u8 (zs.getD k 0)) = bv (part_ zs (k + 1)) := by
  unfold bv part_
  rw [← List.map_set]
  congr 1
  rw [List.set_append_right _ _ (by simp; omega), List.take_succ_eq_append_getElem h, List.append_assoc]
  congr 1
  rw [List.length_take, Nat.min_eq_left (by omega), Nat.sub_self, show zs.length - k = (zs.length - (k + 1)) + 1 by omega, List.replicate_succ]
  simp [h]
theorem part_full (zs : List Int) (k : Nat) (h : zs.length ≤ k) : part_ zs k = zs := by
  unfold part_
  rw [List.take_of_length_le h, show zs.length - k = 0 by omega]
  simp
theorem part_len (zs : List Int) (k : Nat) (h : k ≤ zs.length) : (part_ zs k).length = zs.length := by simp [part_]; omega

theorem grown_set {w0 w : World} {g j : Nat} {u : Value} {row : Option Nat} (h : w0.grownBy w row) (hg : w0.heap.size ≤ g) : w0.grownBy (w.setCell ⟨g, j, none⟩ u) row :=
  ⟨h.os, h.tape, h.output, by simp [World.setCell]; exact h.size, fun k hk hne => (heap_setCell_other _ _ _ _ (by simp only; omega)).trans (h.block k hk hne)⟩

set_option maxHeartbeats 400000 in
theorem clone_empty (x : Addr) (c : Nat) (w : World) :
    Calls Try.prog 14 #[.slice (some x) 0 c] w fun e w' => e = .returned (.slice (some ⟨w.heap.size, 0, none⟩) 0 0) ∧ w'.ownsRow w.heap.size 5 1 (.slice (some ⟨w.heap.size, 0, none⟩) 0 0) 0 (bv []) ∧ w.grownBy w' none := by
  have q27 := eq27
  obtain ⟨i0, hi, hz0, hz1, hz2⟩ := info_parts info5p
  go_enter Try.func14, Try.ntmps14
  go_wp2_with (first | (at_make; refine wpList_make_full w rfl _ _ 27 rfl w.heap.size 5 i0 (.int .u8 0) 1 Try.underlying27 hi hz0 hz1 .i64 .i64 _ _ 0 rfl rfl rfl rfl (by rw [hz2]; omega) (by unfold maxLen; omega) (Nat.le_refl _) ?_; intro w1 hown1 hgrow1))
  refine wp_loop_rounds 1 ?_
  rw [rounds_succ]
  go_wp2
  go_ret
  exact ⟨rfl, by rw [show (0 : Nat) * 1 = ([] : List Int).length * 1 from rfl, part_zero] at hown1; exact hown1, hgrow1⟩

set_option maxHeartbeats 400000 in
theorem clone_row (b off n c : Nat) (zs : List Int) (w : World) (hl : zs.length = n) (hn : n ≤ 1048576) (hc : ∀ i, i < n → w.cell? ⟨b, off + i, none⟩ = some (.int .u8 (zs.getD i 0))) (hbw : b < w.heap.size) :
    Calls Try.prog 14 #[.slice (some ⟨b, off, none⟩) n c] w fun e w' => e = .returned (.slice (some ⟨w.heap.size, 0, none⟩) n n) ∧ w'.ownsRow w.heap.size 5 1 (.slice (some ⟨w.heap.size, 0, none⟩) n n) n (bv zs) ∧ w.grownBy w' none := by
  have q27 := eq27
  have HL : Hid (zs.length = n) := hl
  obtain ⟨i0, hi, hz0, hz1, hz2⟩ := info_parts info5p
  have HC : Hid (∀ i, i < n → w.cell? ⟨b, off + i, none⟩ = some (.int .u8 (zs.getD i 0))) := hc
  clear hl hc
  go_enter Try.func14, Try.ntmps14
  go_wp2_with (first | (at_make; refine wpList_make_full w rfl _ _ 27 rfl w.heap.size 5 i0 (.int .u8 0) 1 Try.underlying27 hi hz0 hz1 .i64 .i64 _ _ n rfl rfl rfl rfl (by rw [hz2]; omega) (by unfold maxLen; omega) (Nat.le_refl _) ?_; intro w1 hown1 hgrow1))
  go_loopw [4] (fun i wr => ∃ k : Nat, k ≤ n ∧ i = .int .i64 k ∧ wr.ownsRow w.heap.size 5 1 (.slice (some ⟨w.heap.size, 0, none⟩) n n) n (bv (part_ zs k)) ∧ w.grownBy wr none) (fun i _ => n - (intOf i).toNat)
  case atStart => exact ⟨0, by omega, rfl, by rw [← part_zero, HL.out]; exact hown1, hgrow1⟩
  case round =>
    clear hown1 hgrow1 hi hz0 hz1 hz2
    obtain ⟨k, hk, rfl, hown, hgrow⟩ := hrel
    by_cases hlt : k < n
    · obtain ⟨z, hz⟩ : ∃ z, z = zs.getD k 0 := ⟨_, rfl⟩
      have hcx : wr.cell? ⟨b, off + k, none⟩ = some (.int .u8 z) := by rw [hz, ← HC.out k hlt]; exact World.cell?_of_block (hgrow.block b hbw (by simp))
      obtain ⟨u, hcu⟩ : ∃ u, wr.cell? ⟨w.heap.size, k, none⟩ = some u := ⟨_, (hown.cellAt k (by omega)).trans (bv_at _ k (by rw [part_len _ _ (by have := HL.out; omega), HL.out]; exact hlt))⟩
      have hfr := hown.frozenAt k
      have hO := (hown.stored k (.int .u8 z)).1
      rw [hz, part_set zs k (by rw [HL.out]; exact hlt), ← hz] at hO
      have hG : w.grownBy (wr.setCell ⟨w.heap.size, k, none⟩ (.int .u8 z)) none := grown_set hgrow (Nat.le_refl _)
      clear hz hown hgrow
      go_wp2
      go_roundw
      case rel => exact ⟨k + 1, by omega, by go_num, hO, hG⟩
      case measure => simp [intOf]; omega
    · go_wp2
      go_ret
      exact ⟨rfl, by rw [part_full _ _ (by have := HL.out; omega)] at hown; exact hown, hgrow⟩

/-- cloneBytes, whatever comes in: a slice of the call's own that holds the same. -/
theorem clone_any (a : Option Addr) (n c : Nat) (zs : List Int) (w : World) (hr : Rd w a n zs) (hn : n ≤ 1048576) :
    Calls Try.prog 14 #[.slice a n c] w fun e w' => ∃ a' c', e = .returned (.slice a' n c') ∧ w'.ownsRow w.heap.size 5 1 (.slice a' n c') n (bv zs) ∧ w.grownBy w' none := by
  cases a with
  | none =>
    have h0 : n = 0 := by
      rcases Nat.eq_zero_or_pos n with h | h
      · exact h
      · obtain ⟨b, off, hx, _⟩ := hr.2 h; cases hx
    subst h0
    have hz : zs = [] := List.eq_nil_of_length_eq_zero hr.1
    subst hz
    refine (clone_nil c w).mono ?_
    rintro e w' ⟨rfl, rfl⟩
    exact ⟨none, 0, rfl, World.ownsRow_nil _ _ _ _, ⟨rfl, rfl, rfl, Nat.le_refl _, fun _ _ _ => rfl⟩⟩
  | some x =>
    rcases Nat.eq_zero_or_pos n with h0 | h0
    · subst h0
      have hz : zs = [] := List.eq_nil_of_length_eq_zero hr.1
      subst hz
      refine (clone_empty x c w).mono ?_
      rintro e w' ⟨rfl, h1, h2⟩
      exact ⟨_, _, rfl, h1, h2⟩
    · obtain ⟨b, off, hx, hc⟩ := hr.2 h0
      cases hx
      refine (clone_row b off n c zs w hr.1 hn hc (World.block_lt_of_cell? _ _ (hc 0 h0))).mono ?_
      rintro e w' ⟨rfl, h1, h2⟩
      exact ⟨_, _, rfl, h1, h2⟩

theorem same_empty (a b : Option Addr) (c d : Nat) (w : World) :
    Calls Try.prog 16 #[.slice a 0 c, .slice b 0 d] w fun e w' => e = .returned (.bool true) ∧ ∃ k, w' = w.drewN k := by
  go_enter Try.func16, Try.ntmps16
  go_wp2
  refine wp_loop_rounds 1 ?_
  rw [rounds_succ]
  go_wp2
  go_ret
  exact ⟨rfl, 0, rfl⟩

set_option maxHeartbeats 400000 in
theorem same_row (b off b' off' n c d : Nat) (zs : List Int) (w : World) (hn : n ≤ 1048576 * 2) (hc : ∀ i, i < n → w.cell? ⟨b, off + i, none⟩ = some (.int .u8 (zs.getD i 0))) (hd : ∀ i, i < n → w.cell? ⟨b', off' + i, none⟩ = some (.int .u8 (zs.getD i 0))) :
    Calls Try.prog 16 #[.slice (some ⟨b, off, none⟩) n c, .slice (some ⟨b', off', none⟩) n d] w fun e w' => e = .returned (.bool true) ∧ ∃ k, w' = w.drewN k := by
  have HC : Hid (∀ i, i < n → w.cell? ⟨b, off + i, none⟩ = some (.int .u8 (zs.getD i 0))) := hc
  have HD : Hid (∀ i, i < n → w.cell? ⟨b', off' + i, none⟩ = some (.int .u8 (zs.getD i 0))) := hd
  clear hc hd
  have hne : ((n : Int) != (n : Int)) = false := by simp
  go_enter Try.func16, Try.ntmps16
  go_wp2
  go_loopw [5] (fun i wr => ∃ k q : Nat, k ≤ n ∧ i = .int .i64 k ∧ wr = w.drewN q) (fun i _ => n - (intOf i).toNat)
  case atStart => exact ⟨0, 0, by omega, rfl, rfl⟩
  case round =>
    obtain ⟨k, q, hk, rfl, rfl⟩ := hrel
    by_cases hlt : k < n
    · obtain ⟨z, hz⟩ : ∃ z, z = zs.getD k 0 := ⟨_, rfl⟩
      have c1 : w.cell? ⟨b, off + k, none⟩ = some (.int .u8 z) := by rw [hz]; exact HC.out k hlt
      have c2 : w.cell? ⟨b', off' + k, none⟩ = some (.int .u8 z) := by rw [hz]; exact HD.out k hlt
      have b1 : (0 : Int) ≤ (k : Int) := by omega
      have b2 : (k : Int) < (n : Int) := by omega
      have bz : (z != z) = false := by simp
      clear hz
      go_wp2
      go_quiet (fail)
      go_wp2
      go_roundw
      case rel => exact ⟨k + 1, q + nq, by omega, by go_num, by simp [World.drewN]⟩
      case measure => simp [intOf]; omega
    · go_wp2
      go_ret
      exact ⟨rfl, q, rfl⟩
end Go.Proofs.Qxb6000601a
