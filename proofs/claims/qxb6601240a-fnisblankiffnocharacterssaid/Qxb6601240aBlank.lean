/-
  The walks of the blank-record law: zzBytes (15), zzB1RecSize (16), zzB1CopyRec (17), isBlank (21), ZZisBlank (18), FnIsBlankIffNoCharacters (6).
-/
import Derived.Test.Qxb6601240aProg
import Derived.WalkKit
import Derived.WalkSpells
import Derived.WalkLawsBesides
import Derived.KernelRfl
namespace Go.Proofs.Qxb6601240a
open Go.RowKit

/-- WHAT A SLICE OF STRINGS HOLDS. -/
def RdS (w : World) (a : Option Addr) (n : Nat) (ss : List ByteArray) : Prop :=
  ss.length = n ∧ (0 < n → ∃ b off, a = some ⟨b, off, none⟩ ∧ ∀ i, i < n → w.cell? ⟨b, off + i, none⟩ = some (.string (ss.getD i ByteArray.empty)))
/-- The number of characters. -/
def tot : List ByteArray → Nat
  | [] => 0
  | s :: r => s.size + tot r
theorem tot_append (a b : List ByteArray) : tot (a ++ b) = tot a + tot b := by
  induction a with
  | nil => simp [tot]
  | cons s r ih => simp [tot, ih, Nat.add_assoc]
theorem tot_succ (ss : List ByteArray) (k : Nat) (h : k < ss.length) : tot (ss.take (k + 1)) = tot (ss.take k) + (ss.getD k ByteArray.empty).size := by
  rw [List.take_succ_eq_append_getElem h, tot_append, List.getD_eq_getElem?_getD, List.getElem?_eq_getElem h]
  simp [tot]
theorem tot_take_le (ss : List ByteArray) (k : Nat) : tot (ss.take k) ≤ tot ss := by
  have := tot_append (ss.take k) (ss.drop k)
  rw [List.take_append_drop] at this
  omega
theorem tot_zero (ss : List ByteArray) (h : ∀ i, i < ss.length → (ss.getD i ByteArray.empty).size = 0) : tot ss = 0 := by
  have : ∀ k, k ≤ ss.length → tot (ss.take k) = 0 := by
    intro k
    induction k with
    | zero => intro _; rfl
    | succ k ih => intro hk; rw [tot_succ ss k (by omega), ih (by omega), h k (by omega)]
  rw [← List.take_length (l := ss)]
  exact this _ (Nat.le_refl _)
theorem tot_pos (ss : List ByteArray) (k : Nat) (hk : k < ss.length) (h : (ss.getD k ByteArray.empty).size ≠ 0) : tot ss ≠ 0 := by
  have h1 := tot_succ ss k hk
  have h2 := tot_take_le ss (k + 1)
  omega

/-- It answers a bool. -/
def AnyB (e : Ending) : Prop := ∃ b : Bool, e = .returned (.bool b)
theorem anyB (b : Bool) : AnyB (.returned (.bool b)) := ⟨b, rfl⟩

theorem empty_no {s : ByteArray} (h : s.toList.isEmpty = false) : s.size ≠ 0 := by
  intro e
  rw [ByteArray.toList_eq, List.isEmpty_eq_false_iff] at h
  exact h (List.eq_nil_of_length_eq_zero (by simpa using e))
theorem empty_yes {s : ByteArray} (h : s.toList.isEmpty = true) : s.size = 0 := by
  rw [ByteArray.toList_eq, List.isEmpty_iff] at h
  have := congrArg List.length h
  simpa using this

theorem zz_zero (a : Option Addr) (c : Nat) (w : World) :
    Calls Try.prog 15 #[.slice a 0 c] w fun e w' => AnyB e ∧ w' = w := by
  go_enter Try.func15, Try.ntmps15
  go_wp2
  refine wp_loop_rounds 1 ?_
  rw [rounds_succ]
  go_wp2
  go_ret
  exact ⟨anyB _, rfl⟩

set_option maxHeartbeats 1000000 in
theorem zz_row (b off n c : Nat) (ss : List ByteArray) (w : World) (hn : n ≤ maxLen) (hsz : ∀ i, (ss.getD i ByteArray.empty).size ≤ maxLen) (hc : ∀ i, i < n → w.cell? ⟨b, off + i, none⟩ = some (.string (ss.getD i ByteArray.empty))) :
    Calls Try.prog 15 #[.slice (some ⟨b, off, none⟩) n c] w fun e w' => AnyB e ∧ w' = w := by
  unfold maxLen at hn hsz
  have HC : Hid (∀ i, i < n → w.cell? ⟨b, off + i, none⟩ = some (.string (ss.getD i ByteArray.empty))) := hc
  have HZ : Hid (∀ i, (ss.getD i ByteArray.empty).size ≤ 2 ^ 63 - 1) := hsz
  clear hc hsz
  by_cases h1 : 1048576 < n
  · go_enter Try.func15, Try.ntmps15
    go_wp2
    go_ret
    exact ⟨anyB _, rfl⟩
  have d1 : decide ((1048576 : Int) < (n : Int)) = false := decide_eq_false (by omega)
  go_enter Try.func15, Try.ntmps15
  go_wp2
  go_loop [3, 4] (fun z i => ∃ (k : Nat) (x : Int), k ≤ n ∧ 0 ≤ x ∧ x ≤ 1048576 ∧ i = .int .i64 k ∧ z = .int .i64 x) (fun _ i => n - (intOf i).toNat)
  case atStart => exact ⟨0, n, by omega, by omega, by omega, rfl, rfl⟩
  case round =>
    obtain ⟨k, x, hk, hx0, hx1, rfl, rfl⟩ := hrel
    by_cases hlt : k < n
    · obtain ⟨s, hs⟩ : ∃ s, s = ss.getD k ByteArray.empty := ⟨_, rfl⟩
      have e0 : w.cell? ⟨b, off + k, none⟩ = some (.string s) := by rw [hs]; exact HC.out k hlt
      have e1 : s.size ≤ 9223372036854775807 := by rw [hs]; have := HZ.out k; omega
      clear hs
      by_cases g1 : (1048576 : Int) < (s.size : Int)
      · go_wp2
        go_ret
        exact ⟨anyB _, rfl⟩
      by_cases g2 : (1048576 : Int) < x + (s.size : Int)
      · go_wp2
        go_ret
        exact ⟨anyB _, rfl⟩
      · go_wp2
        go_round
        case rel => exact ⟨k + 1, x + s.size, by omega, by omega, by omega, by go_num, rfl⟩
        case measure => simp [intOf]; omega
    · go_wp2
      go_ret
      exact ⟨anyB _, rfl⟩

/-- The two results of zzB1RecSize: where the second says yes the first is the number of characters. -/
def SizeP (e : Ending) (ss : List ByteArray) : Prop := ∃ (x : Int) (b : Bool), e = .returned (.tuple #[.int .i64 x, .bool b]) ∧ (b = true → x = (tot ss : Nat) ∧ ss.length ≤ 65536)
theorem sizeP_no (x : Int) (ss : List ByteArray) : SizeP (.returned (.tuple #[.int .i64 x, .bool false])) ss := ⟨x, false, rfl, by simp⟩
theorem sizeP_yes {x : Int} {ss : List ByteArray} (h : x = (tot ss : Nat)) (h' : ss.length ≤ 65536) : SizeP (.returned (.tuple #[.int .i64 x, .bool true])) ss := ⟨x, true, rfl, fun _ => ⟨h, h'⟩⟩

theorem size_zero (a : Option Addr) (c : Nat) (w : World) :
    Calls Try.prog 16 #[.slice a 0 c] w fun e w' => SizeP e [] ∧ w' = w := by
  go_enter Try.func16, Try.ntmps16
  go_wp2
  refine wp_loop_rounds 1 ?_
  rw [rounds_succ]
  go_wp2
  go_ret2
  exact ⟨sizeP_yes rfl (Nat.zero_le _), rfl⟩

set_option maxHeartbeats 1000000 in
theorem size_row (b off n c : Nat) (ss : List ByteArray) (w : World) (hl : ss.length = n) (hn : n ≤ maxLen) (hsz : ∀ i, (ss.getD i ByteArray.empty).size ≤ maxLen) (hc : ∀ i, i < n → w.cell? ⟨b, off + i, none⟩ = some (.string (ss.getD i ByteArray.empty))) :
    Calls Try.prog 16 #[.slice (some ⟨b, off, none⟩) n c] w fun e w' => SizeP e ss ∧ w' = w := by
  unfold maxLen at hn hsz
  have HC : Hid (∀ i, i < n → w.cell? ⟨b, off + i, none⟩ = some (.string (ss.getD i ByteArray.empty))) := hc
  have HZ : Hid (∀ i, (ss.getD i ByteArray.empty).size ≤ 2 ^ 63 - 1) := hsz
  have HL : Hid (ss.length = n) := hl
  clear hc hsz hl
  by_cases h1 : 65536 < n
  · go_enter Try.func16, Try.ntmps16
    go_wp2
    go_ret2
    exact ⟨sizeP_no _ _, rfl⟩
  have d1 : decide ((65536 : Int) < (n : Int)) = false := decide_eq_false (by omega)
  have d2 : decide ((1048576 : Int) < 16 * (n : Int)) = false := decide_eq_false (by omega)
  go_enter Try.func16, Try.ntmps16
  go_wp2
  go_loop [5, 6] (fun z i => ∃ (k x : Nat), k ≤ n ∧ 16 * n + x ≤ 1048576 ∧ i = .int .i64 k ∧ z = .int .i64 x ∧ Hid (x = tot (ss.take k))) (fun _ i => n - (intOf i).toNat)
  case atStart => exact ⟨0, 0, by omega, by omega, rfl, rfl, rfl⟩
  case round =>
    obtain ⟨k, x, hk, hx1, rfl, rfl, HX⟩ := hrel
    by_cases hlt : k < n
    · obtain ⟨s, hs⟩ : ∃ s, s = ss.getD k ByteArray.empty := ⟨_, rfl⟩
      have e0 : w.cell? ⟨b, off + k, none⟩ = some (.string s) := by rw [hs]; exact HC.out k hlt
      have e1 : s.size ≤ 9223372036854775807 := by rw [hs]; have := HZ.out k; omega
      have HX' : Hid (x + s.size = tot (ss.take (k + 1))) := (by rw [tot_succ ss k (by rw [HL.out]; exact hlt), ← hs, HX.out] : _ = _)
      clear hs
      by_cases g1 : 1048576 - 16 * (n : Int) - (x : Int) < (s.size : Int)
      · go_wp2
        go_ret2
        exact ⟨sizeP_no _ _, rfl⟩
      · go_wp2
        go_round
        case rel => exact ⟨k + 1, x + s.size, by omega, by omega, by go_num, by go_num, HX'⟩
        case measure => simp [intOf]; omega
    · go_wp2
      go_ret2
      exact ⟨sizeP_yes (by rw [HX.out, List.take_of_length_le (by rw [HL.out]; omega)]) (by rw [HL.out]; omega), rfl⟩

set_option maxHeartbeats 400000 in
theorem blank_zero (a : Option Addr) (c : Nat) (w : World) :
    Calls Try.prog 21 #[.slice a 0 c] w fun e w' => e = .returned (.bool true) ∧ w' = w := by
  go_enter Try.func21, Try.ntmps21
  go_wp2
  refine wp_loop_rounds 1 ?_
  rw [rounds_succ]
  go_wp2
  go_ret
  exact ⟨rfl, rfl⟩

set_option maxHeartbeats 400000 in
theorem blank_row (b off n c : Nat) (ss : List ByteArray) (w : World) (hl : ss.length = n) (hn : n ≤ 1048576) (hc : ∀ i, i < n → w.cell? ⟨b, off + i, none⟩ = some (.string (ss.getD i ByteArray.empty))) :
    Calls Try.prog 21 #[.slice (some ⟨b, off, none⟩) n c] w fun e w' => e = .returned (.bool (decide (tot ss = 0))) ∧ w' = w := by
  have HC : Hid (∀ i, i < n → w.cell? ⟨b, off + i, none⟩ = some (.string (ss.getD i ByteArray.empty))) := hc
  have HL : Hid (ss.length = n) := hl
  clear hc hl
  obtain ⟨ans, hans⟩ : ∃ x, x = decide (tot ss = 0) := ⟨_, rfl⟩
  have HA : Hid (ans = decide (tot ss = 0)) := hans
  rw [← hans]
  clear hans
  go_enter Try.func21, Try.ntmps21
  go_wp2
  go_loop [7] (fun i => ∃ (k : Nat), k ≤ n ∧ i = .int .i64 k ∧ Hid (∀ j, j < k → (ss.getD j ByteArray.empty).size = 0)) (fun i => n - (intOf i).toNat)
  case atStart => exact ⟨0, by omega, rfl, fun j hj => absurd hj (by omega)⟩
  case round =>
    obtain ⟨k, hk, rfl, HX⟩ := hrel
    by_cases hlt : k < n
    · obtain ⟨s, hs⟩ : ∃ s, s = ss.getD k ByteArray.empty := ⟨_, rfl⟩
      have e0 : w.cell? ⟨b, off + k, none⟩ = some (.string s) := by rw [hs]; exact HC.out k hlt
      have HS : Hid (s = ss.getD k ByteArray.empty) := hs
      clear hs
      cases he : s.toList.isEmpty
      · have hb : (!s.toList.isEmpty) = true := by rw [he]; rfl
        go_wp2
        go_ret
        exact ⟨by rw [HA.out, decide_eq_false (tot_pos ss k (by rw [HL.out]; exact hlt) (by rw [← HS.out]; exact empty_no he))]; rfl, rfl⟩
      · have hb : (!s.toList.isEmpty) = false := by rw [he]; rfl
        go_wp2
        go_round
        case rel => exact ⟨k + 1, by omega, by go_num, fun j hj => by
          by_cases e : j = k
          · rw [e, ← HS.out]; exact empty_yes he
          · exact HX.out j (by omega)⟩
        case measure => simp [intOf]; omega
    · go_wp2
      go_ret
      exact ⟨by rw [HA.out, decide_eq_true (tot_zero ss (fun j hj => HX.out j (by rw [HL.out] at hj; omega)))]; rfl, rfl⟩

/-- isBlank (21), whatever comes in. -/
theorem blank_any (a : Option Addr) (n c : Nat) (ss : List ByteArray) (w : World) (hn : n ≤ 1048576) (hr : RdS w a n ss) :
    Calls Try.prog 21 #[.slice a n c] w fun e w' => e = .returned (.bool (decide (tot ss = 0))) ∧ w' = w := by
  rcases Nat.eq_zero_or_pos n with h0 | h0
  · subst h0
    have hz : ss = [] := List.eq_nil_of_length_eq_zero hr.1
    subst hz
    exact blank_zero a c w
  · obtain ⟨b, off, rfl, hc⟩ := hr.2 h0
    exact blank_row b off n c ss w hr.1 hn hc
/-- ZZisBlank (18) is isBlank. -/
theorem zzblank_any (a : Option Addr) (n c : Nat) (ss : List ByteArray) (w : World) (hn : n ≤ 1048576) (hr : RdS w a n ss) :
    Calls Try.prog 18 #[.slice a n c] w fun e w' => e = .returned (.bool (decide (tot ss = 0))) ∧ w' = w := by
  have H : Hid (Calls _ _ _ _ _) := blank_any a n c ss w hn hr
  clear hr
  obtain ⟨ans, hans⟩ : ∃ x, decide (tot ss = 0) = x := ⟨_, rfl⟩
  rw [hans] at H ⊢
  clear hans
  go_enter Try.func18, Try.ntmps18
  go_wp2_with fail
  refine H.out.mono ?_
  rintro e w' ⟨rfl, rfl⟩
  go_wp2
  go_ret
  exact ⟨rfl, rfl⟩
theorem zz_any (a : Option Addr) (n c : Nat) (ss : List ByteArray) (w : World) (hn : n ≤ maxLen) (hsz : ∀ i, (ss.getD i ByteArray.empty).size ≤ maxLen) (hr : RdS w a n ss) :
    Calls Try.prog 15 #[.slice a n c] w fun e w' => AnyB e ∧ w' = w := by
  rcases Nat.eq_zero_or_pos n with h0 | h0
  · subst h0; exact zz_zero a c w
  · obtain ⟨b, off, rfl, hc⟩ := hr.2 h0
    exact zz_row b off n c ss w hn hsz hc
theorem size_any (a : Option Addr) (n c : Nat) (ss : List ByteArray) (w : World) (hn : n ≤ maxLen) (hsz : ∀ i, (ss.getD i ByteArray.empty).size ≤ maxLen) (hr : RdS w a n ss) :
    Calls Try.prog 16 #[.slice a n c] w fun e w' => SizeP e ss ∧ w' = w := by
  rcases Nat.eq_zero_or_pos n with h0 | h0
  · subst h0
    have hz : ss = [] := List.eq_nil_of_length_eq_zero hr.1
    subst hz
    exact size_zero a c w
  · obtain ⟨b, off, rfl, hc⟩ := hr.2 h0
    exact size_row b off n c ss w hr.1 hn hsz hc

/-- Strings as cells. -/
def sv (zs : List ByteArray) : List Value := zs.map Value.string
theorem sv_len (zs : List ByteArray) : (sv zs).length = zs.length := by simp [sv]
theorem sv_at (zs : List ByteArray) (j : Nat) (h : j < zs.length) : (sv zs)[j]? = some (.string (zs.getD j ByteArray.empty)) := by
  simp [sv, List.getElem?_eq_getElem h]
theorem info9p : (Try.prog.info? 9).map (fun i => (i.zero, i.size, i.bytes)) = some (some (.string ByteArray.empty), 1, 16) := by kernel_rfl
theorem eq29 (w : World) (a : Option Addr) (n c : Nat) : (binOp .eql 29 (.slice a n c) (.slice none 0 0)).run Try.prog w = .ok (.bool a.isNone) w := Lib.run_eql_slice_nil w 29 9 a n c 0 0 Try.underlying29

theorem copy_nil (c : Nat) (w : World) :
    Calls Try.prog 17 #[.slice none 0 c] w fun e w' => e = .returned (.slice none 0 0) ∧ w' = w := by
  have q29 := eq29
  go_enter Try.func17, Try.ntmps17
  go_wp2
  go_ret
  exact ⟨rfl, rfl⟩

/-- The row of the clone behind k rounds. -/
def prt_ (zs : List ByteArray) (k : Nat) : List ByteArray := zs.take k ++ List.replicate (zs.length - k) ByteArray.empty
theorem prt_zero (zs : List ByteArray) : (madeCells (Value.string ByteArray.empty).cells (zs.length * 1)).toList = sv (prt_ zs 0) := by
  show (madeCells #[Value.string ByteArray.empty] _).toList = _
  rw [toList_madeCells_one]
  simp [sv, prt_]
theorem prt_set (zs : List ByteArray) (k : Nat) (h : k < zs.length) : (sv (prt_ zs k)).set k (.string (zs.getD k ByteArray.empty)) = sv (prt_ zs (k + 1)) := by
  unfold sv prt_
  rw [← List.map_set]
  congr 1
  rw [List.set_append_right _ _ (by simp; omega), List.take_succ_eq_append_getElem h, List.append_assoc]
  congr 1
  rw [List.length_take, Nat.min_eq_left (by omega), Nat.sub_self, show zs.length - k = (zs.length - (k + 1)) + 1 by omega, List.replicate_succ]
  simp [h]
theorem prt_full (zs : List ByteArray) (k : Nat) (h : zs.length ≤ k) : prt_ zs k = zs := by
  unfold prt_
  rw [List.take_of_length_le h, show zs.length - k = 0 by omega]
  simp
theorem prt_len (zs : List ByteArray) (k : Nat) (h : k ≤ zs.length) : (prt_ zs k).length = zs.length := by simp [prt_]; omega

theorem grown_set {w0 w : World} {g j : Nat} {u : Value} {row : Option Nat} (h : w0.grownBy w row) (hg : w0.heap.size ≤ g) : w0.grownBy (w.setCell ⟨g, j, none⟩ u) row :=
  ⟨h.os, h.tape, h.output, by simp [World.setCell]; exact h.size, fun k hk hne => (heap_setCell_other _ _ _ _ (by simp only; omega)).trans (h.block k hk hne)⟩

set_option maxHeartbeats 400000 in
theorem copy_empty (x : Addr) (c : Nat) (w : World) :
    Calls Try.prog 17 #[.slice (some x) 0 c] w fun e w' => e = .returned (.slice (some ⟨w.heap.size, 0, none⟩) 0 0) ∧ w'.ownsRow w.heap.size 9 1 (.slice (some ⟨w.heap.size, 0, none⟩) 0 0) 0 (sv []) ∧ w.grownBy w' none := by
  have q29 := eq29
  obtain ⟨i0, hi, hz0, hz1, hz2⟩ := info_parts info9p
  go_enter Try.func17, Try.ntmps17
  go_wp2_with (first | (at_make; refine wpList_make_full w rfl _ _ 29 rfl w.heap.size 9 i0 (.string ByteArray.empty) 1 Try.underlying29 hi hz0 hz1 .i64 .i64 _ _ 0 rfl rfl rfl rfl (by rw [hz2]; omega) (by unfold maxLen; omega) (Nat.le_refl _) ?_; intro w1 hown1 hgrow1))
  refine wp_loop_rounds 1 ?_
  rw [rounds_succ]
  go_wp2
  go_ret
  exact ⟨rfl, by rw [show (0 : Nat) * 1 = ([] : List ByteArray).length * 1 from rfl, prt_zero] at hown1; exact hown1, hgrow1⟩

set_option maxHeartbeats 400000 in
theorem copy_row (b off n c : Nat) (zs : List ByteArray) (w : World) (hl : zs.length = n) (hn : n ≤ 1048576) (hc : ∀ i, i < n → w.cell? ⟨b, off + i, none⟩ = some (.string (zs.getD i ByteArray.empty))) (hbw : b < w.heap.size) :
    Calls Try.prog 17 #[.slice (some ⟨b, off, none⟩) n c] w fun e w' => e = .returned (.slice (some ⟨w.heap.size, 0, none⟩) n n) ∧ w'.ownsRow w.heap.size 9 1 (.slice (some ⟨w.heap.size, 0, none⟩) n n) n (sv zs) ∧ w.grownBy w' none := by
  have q29 := eq29
  have HL : Hid (zs.length = n) := hl
  obtain ⟨i0, hi, hz0, hz1, hz2⟩ := info_parts info9p
  have HC : Hid (∀ i, i < n → w.cell? ⟨b, off + i, none⟩ = some (.string (zs.getD i ByteArray.empty))) := hc
  clear hl hc
  go_enter Try.func17, Try.ntmps17
  go_wp2_with (first | (at_make; refine wpList_make_full w rfl _ _ 29 rfl w.heap.size 9 i0 (.string ByteArray.empty) 1 Try.underlying29 hi hz0 hz1 .i64 .i64 _ _ n rfl rfl rfl rfl (by rw [hz2]; omega) (by unfold maxLen; omega) (Nat.le_refl _) ?_; intro w1 hown1 hgrow1))
  go_loopw [4] (fun i wr => ∃ k : Nat, k ≤ n ∧ i = .int .i64 k ∧ wr.ownsRow w.heap.size 9 1 (.slice (some ⟨w.heap.size, 0, none⟩) n n) n (sv (prt_ zs k)) ∧ w.grownBy wr none) (fun i _ => n - (intOf i).toNat)
  case atStart => exact ⟨0, by omega, rfl, by rw [← prt_zero, HL.out]; exact hown1, hgrow1⟩
  case round =>
    clear hown1 hgrow1 hi hz0 hz1 hz2
    obtain ⟨k, hk, rfl, hown, hgrow⟩ := hrel
    by_cases hlt : k < n
    · obtain ⟨z, hz⟩ : ∃ z, z = zs.getD k ByteArray.empty := ⟨_, rfl⟩
      have hcx : wr.cell? ⟨b, off + k, none⟩ = some (.string z) := by rw [hz, ← HC.out k hlt]; exact World.cell?_of_block (hgrow.block b hbw (by simp))
      obtain ⟨u, hcu⟩ : ∃ u, wr.cell? ⟨w.heap.size, k, none⟩ = some u := ⟨_, (hown.cellAt k (by omega)).trans (sv_at _ k (by rw [prt_len _ _ (by have := HL.out; omega), HL.out]; exact hlt))⟩
      have hfr := hown.frozenAt k
      have hO := (hown.stored k (.string z)).1
      rw [hz, prt_set zs k (by rw [HL.out]; exact hlt), ← hz] at hO
      have hG : w.grownBy (wr.setCell ⟨w.heap.size, k, none⟩ (.string z)) none := grown_set hgrow (Nat.le_refl _)
      clear hz hown hgrow
      go_wp2
      go_roundw
      case rel => exact ⟨k + 1, by omega, by go_num, hO, hG⟩
      case measure => simp [intOf]; omega
    · go_wp2
      go_ret
      exact ⟨rfl, by rw [prt_full _ _ (by have := HL.out; omega)] at hown; exact hown, hgrow⟩

/-- zzB1CopyRec (17), whatever comes in: a slice of the call's own that holds the same. -/
theorem copy_any (a : Option Addr) (n c : Nat) (zs : List ByteArray) (w : World) (hr : RdS w a n zs) (hn : n ≤ 1048576) :
    Calls Try.prog 17 #[.slice a n c] w fun e w' => ∃ a' c', e = .returned (.slice a' n c') ∧ w'.ownsRow w.heap.size 9 1 (.slice a' n c') n (sv zs) ∧ w.grownBy w' none := by
  cases a with
  | none =>
    have h0 : n = 0 := by
      rcases Nat.eq_zero_or_pos n with h | h
      · exact h
      · obtain ⟨b, off, hx, _⟩ := hr.2 h; cases hx
    subst h0
    have hz : zs = [] := List.eq_nil_of_length_eq_zero hr.1
    subst hz
    refine (copy_nil c w).mono ?_
    rintro e w' ⟨rfl, rfl⟩
    exact ⟨none, 0, rfl, World.ownsRow_nil _ _ _ _, ⟨rfl, rfl, rfl, Nat.le_refl _, fun _ _ _ => rfl⟩⟩
  | some x =>
    rcases Nat.eq_zero_or_pos n with h0 | h0
    · subst h0
      have hz : zs = [] := List.eq_nil_of_length_eq_zero hr.1
      subst hz
      refine (copy_empty x c w).mono ?_
      rintro e w' ⟨rfl, h1, h2⟩
      exact ⟨_, _, rfl, h1, h2⟩
    · obtain ⟨b, off, hx, hc⟩ := hr.2 h0
      cases hx
      refine (copy_row b off n c zs w hr.1 hn hc (World.block_lt_of_cell? _ _ (hc 0 h0))).mono ?_
      rintro e w' ⟨rfl, h1, h2⟩
      exact ⟨_, _, rfl, h1, h2⟩


theorem own_rdS {w : World} {B n c : Nat} {a : Option Addr} {zs : List ByteArray} (h : w.ownsRow B 9 1 (.slice a n c) n (sv zs)) : RdS w a n zs := by
  have hl : zs.length = n := by have := h.1; rw [sv_len] at this; simpa using this
  refine ⟨hl, fun h0 => ?_⟩
  rcases h.2 with ⟨h', _⟩ | ⟨g, cap, cur, hv, _⟩
  · omega
  · simp only [Value.slice.injEq, true_and] at hv
    obtain ⟨rfl, rfl⟩ := hv
    exact ⟨g, 0, rfl, fun i hi => by rw [Nat.zero_add]; exact (h.cellAt i (by omega)).trans (sv_at zs i (by omega))⟩
theorem bel_grown {w w' : World} (h : w.grownBy w' none) : Below w.heap.size w w' := ⟨h.os, h.tape, h.output, h.size, fun k hk => h.block k hk (by simp)⟩

set_option maxHeartbeats 1000000 in
/-- THE LAW's WALK: FnIsBlankIffNoCharacters (6). -/
theorem law_any (a : Option Addr) (n c : Nat) (ss : List ByteArray) (w : World) (hn : n ≤ maxLen) (hsz : ∀ i, (ss.getD i ByteArray.empty).size ≤ maxLen) (hr : RdS w a n ss) :
    Calls Try.prog 6 #[.slice a n c] w fun e w' => e = .returned (.bool true) ∧ Below w.heap.size w w' := by
  go_enter Try.func6, Try.ntmps6
  go_wp2_with fail
  refine (zz_any a n c ss w hn hsz hr).mono ?_
  rintro e w' ⟨⟨b, rfl⟩, rfl⟩
  cases b
  · go_wp2_with fail
    go_ret
    exact ⟨rfl, Below.refl _ _⟩
  go_wp2_with fail
  refine (size_any a n c ss _ hn hsz hr).mono ?_
  rintro e w' ⟨⟨x, b, rfl, hx⟩, rfl⟩
  cases b
  · go_wp2_with fail
    go_ret
    exact ⟨rfl, Below.refl _ _⟩
  obtain ⟨hx1, hln⟩ := hx rfl
  rw [hr.1] at hln
  have HX : Hid (x = (tot ss : Nat)) := hx1
  clear hx hx1
  go_wp2_with fail
  refine (copy_any a n c ss _ hr (by omega)).mono ?_
  rintro e wa ⟨a', c', rfl, hO, hg⟩
  have HB : Hid (Below w'.heap.size w' wa) := bel_grown hg
  have hR := own_rdS hO
  clear hO hg hr hsz
  go_wp2_with fail
  refine (zzblank_any a' n c' ss wa (by omega) hR).mono ?_
  rintro e wb ⟨rfl, rfl⟩
  by_cases h0 : tot ss = 0
  · have q1 : (x == 0) = true := by rw [beq_iff_eq, HX.out, h0]; rfl
    rw [decide_eq_true h0]
    clear h0
    go_wp2_with fail
    go_ret
    exact ⟨rfl, HB.out⟩
  · have q1 : (x == 0) = false := by rw [beq_eq_false_iff_ne, HX.out]; omega
    rw [decide_eq_false h0]
    clear h0
    go_wp2_with fail
    go_ret
    exact ⟨rfl, HB.out⟩
end Go.Proofs.Qxb6601240a
