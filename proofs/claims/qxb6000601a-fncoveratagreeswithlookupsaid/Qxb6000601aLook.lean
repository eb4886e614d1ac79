/-
  The walks of makeCover (24) and lookup (26).
-/
import Derived.Test.Qxb6000601aInts
namespace Go.Proofs.Qxb6000601a
open Go.RowKit

/-- Cell j of the row of runs whose first k are laid. -/
def runZ (S T L : List Int) (k j : Nat) : Int := if j / 3 < k then (if j % 3 = 0 then S.getD (j / 3) 0 else if j % 3 = 1 then T.getD (j / 3) 0 else L.getD (j / 3) 0) else 0
def runL (S T L : List Int) (m k : Nat) : List Value := (List.range (m * 3)).map fun j => Value.int .i64 (runZ S T L k j)
theorem runL_len (S T L : List Int) (m k : Nat) : (runL S T L m k).length = m * 3 := by simp [runL]
theorem runL_at (S T L : List Int) (m k j : Nat) (h : j < m * 3) : (runL S T L m k)[j]? = some (.int .i64 (runZ S T L k j)) := by simp [runL, List.getElem?_range h]
theorem runZ_0 (S T L : List Int) (k i : Nat) (h : i < k) : runZ S T L k (i * 3) = S.getD i 0 := by
  unfold runZ; rw [show i * 3 / 3 = i by omega, show i * 3 % 3 = 0 by omega, if_pos h, if_pos rfl]
theorem runZ_1 (S T L : List Int) (k i : Nat) (h : i < k) : runZ S T L k (i * 3 + 1) = T.getD i 0 := by
  unfold runZ; rw [show (i * 3 + 1) / 3 = i by omega, show (i * 3 + 1) % 3 = 1 by omega, if_pos h, if_neg (by omega), if_pos rfl]
theorem runZ_2 (S T L : List Int) (k i : Nat) (h : i < k) : runZ S T L k (i * 3 + 2) = L.getD i 0 := by
  unfold runZ; rw [show (i * 3 + 2) / 3 = i by omega, show (i * 3 + 2) % 3 = 2 by omega, if_pos h, if_neg (by omega), if_neg (by omega)]
theorem runL_set (S T L : List Int) (m k : Nat) (h : k < m) :
    (((runL S T L m k).set (k * 3) (.int .i64 (S.getD k 0))).set (k * 3 + 1) (.int .i64 (T.getD k 0))).set (k * 3 + 2) (.int .i64 (L.getD k 0)) = runL S T L m (k + 1) := by
  refine List.ext_getElem? fun j => ?_
  by_cases hj : j < m * 3
  · rw [runL_at _ _ _ _ _ _ hj]
    by_cases e2 : j = k * 3 + 2
    · subst e2
      rw [List.getElem?_set_self (by simp [runL_len]; omega), runZ_2 _ _ _ _ _ (by omega)]
    rw [List.getElem?_set_ne (by omega)]
    by_cases e1 : j = k * 3 + 1
    · subst e1
      rw [List.getElem?_set_self (by simp [runL_len]; omega), runZ_1 _ _ _ _ _ (by omega)]
    rw [List.getElem?_set_ne (by omega)]
    by_cases e0 : j = k * 3
    · subst e0
      rw [List.getElem?_set_self (by simp [runL_len]; omega), runZ_0 _ _ _ _ _ (by omega)]
    rw [List.getElem?_set_ne (by omega), runL_at _ _ _ _ _ _ hj]
    unfold runZ
    by_cases hk : j / 3 < k
    · rw [if_pos hk, if_pos (show j / 3 < k + 1 by omega)]
    · rw [if_neg hk, if_neg (show ¬ j / 3 < k + 1 by omega)]
  · rw [List.getElem?_eq_none (by simp [runL_len]; omega), List.getElem?_eq_none (by rw [runL_len]; omega)]
theorem runL_zero (S T L : List Int) (m : Nat) : (madeCells (Value.agg #[.int .i64 0, .int .i64 0, .int .i64 0]).cells (m * 3)).toList = runL S T L m 0 := by
  refine List.ext_getElem? fun j => ?_
  by_cases hj : j < m * 3
  · rw [runL_at _ _ _ _ _ _ hj]
    simp [runZ, madeCells, hj, Value.cells]
    have : j % 3 = 0 ∨ j % 3 = 1 ∨ j % 3 = 2 := by omega
    rcases this with h | h | h <;> simp [h]
  · rw [List.getElem?_eq_none (by simp [madeCells]; omega), List.getElem?_eq_none (by rw [runL_len]; omega)]

theorem own_drew {w : World} {B n : Nat} {e : TypeId} {size : Nat} {v : Value} {xs : List Value} (h : w.ownsRow B e size v n xs) : w.drew.ownsRow B e size v n xs := h
theorem grown_drew {w w' : World} {row : Option Nat} (h : w.grownBy w' row) : w.grownBy w'.drew row := ⟨h.os, h.tape, h.output, h.size, h.block⟩

theorem info65p : (Try.prog.info? 65).map (fun i => (i.zero, i.size, i.bytes)) = some (some (.agg #[.int .i64 0, .int .i64 0, .int .i64 0]), 3, 24) := by kernel_rfl

theorem mk_zero (a0 a1 a2 : Option Addr) (c0 c1 c2 : Nat) (S T L : List Int) (w : World) :
    Calls Try.prog 24 #[.slice a0 0 c0, .slice a1 0 c1, .slice a2 0 c2] w fun e w' => e = .returned (.slice (some ⟨w.heap.size, 0, none⟩) 0 0) ∧ w'.ownsRow w.heap.size 65 3 (.slice (some ⟨w.heap.size, 0, none⟩) 0 0) 0 (runL S T L 0 0) ∧ w.grownBy w' none := by
  obtain ⟨i0, hi, hz0, hz1, hz2⟩ := info_parts info65p
  go_enter Try.func24, Try.ntmps24
  go_wp2_with (first | (at_make; refine wpList_make_full w rfl _ _ 42 rfl w.heap.size 65 i0 (.agg #[.int .i64 0, .int .i64 0, .int .i64 0]) 3 Try.underlying42 hi hz0 hz1 .i64 .i64 _ _ 0 rfl rfl rfl rfl (by rw [hz2]; omega) (by unfold maxLen; omega) (Nat.le_refl _) ?_; intro w1 hown1 hgrow1))
  refine wp_loop_rounds 1 ?_
  rw [rounds_succ]
  go_wp2
  go_ret
  exact ⟨rfl, by rw [runL_zero S T L 0] at hown1; exact hown1, hgrow1⟩

set_option maxHeartbeats 1000000 in
theorem mk_row (b0 o0 b1 o1 b2 o2 m c0 c1 c2 : Nat) (S T L : List Int) (w : World) (hn : m ≤ 4096) (hS : ∀ i, i < m → w.cell? ⟨b0, o0 + i, none⟩ = some (.int .i64 (S.getD i 0))) (hT : ∀ i, i < m → w.cell? ⟨b1, o1 + i, none⟩ = some (.int .i64 (T.getD i 0)))
    (hL : ∀ i, i < m → w.cell? ⟨b2, o2 + i, none⟩ = some (.int .i64 (L.getD i 0))) (k0 : b0 < w.heap.size) (k1 : b1 < w.heap.size) (k2 : b2 < w.heap.size) :
    Calls Try.prog 24 #[.slice (some ⟨b0, o0, none⟩) m c0, .slice (some ⟨b1, o1, none⟩) m c1, .slice (some ⟨b2, o2, none⟩) m c2] w fun e w' => e = .returned (.slice (some ⟨w.heap.size, 0, none⟩) m m) ∧ w'.ownsRow w.heap.size 65 3 (.slice (some ⟨w.heap.size, 0, none⟩) m m) m (runL S T L m m) ∧ w.grownBy w' none := by
  obtain ⟨i0, hi, hz0, hz1, hz2⟩ := info_parts info65p
  have HS : Hid (∀ i, i < m → w.cell? ⟨b0, o0 + i, none⟩ = some (.int .i64 (S.getD i 0))) := hS
  have HT : Hid (∀ i, i < m → w.cell? ⟨b1, o1 + i, none⟩ = some (.int .i64 (T.getD i 0))) := hT
  have HL : Hid (∀ i, i < m → w.cell? ⟨b2, o2 + i, none⟩ = some (.int .i64 (L.getD i 0))) := hL
  clear hS hT hL
  go_enter Try.func24, Try.ntmps24
  go_wp2_with (first | (at_make; refine wpList_make_full w rfl _ _ 42 rfl w.heap.size 65 i0 (.agg #[.int .i64 0, .int .i64 0, .int .i64 0]) 3 Try.underlying42 hi hz0 hz1 .i64 .i64 _ _ m rfl rfl rfl rfl (by rw [hz2]; omega) (by unfold maxLen; omega) (Nat.le_refl _) ?_; intro w1 hown1 hgrow1))
  go_loopw [8] (fun i wr => ∃ k : Nat, k ≤ m ∧ i = .int .i64 k ∧ wr.ownsRow w.heap.size 65 3 (.slice (some ⟨w.heap.size, 0, none⟩) m m) m (runL S T L m k) ∧ w.grownBy wr none) (fun i _ => m - (intOf i).toNat)
  case atStart => exact ⟨0, by omega, rfl, by rw [← runL_zero]; exact hown1, hgrow1⟩
  case round =>
    clear hown1 hgrow1 hi hz0 hz1 hz2
    obtain ⟨k, hk, rfl, hown, hgrow⟩ := hrel
    by_cases hlt : k < m
    · obtain ⟨s, hs⟩ : ∃ s, s = S.getD k 0 := ⟨_, rfl⟩
      obtain ⟨t, ht⟩ : ∃ t, t = T.getD k 0 := ⟨_, rfl⟩
      obtain ⟨l, hl⟩ : ∃ l, l = L.getD k 0 := ⟨_, rfl⟩
      have e0 : wr.cell? ⟨b0, o0 + k, none⟩ = some (.int .i64 s) := by rw [hs, ← HS.out k hlt]; exact World.cell?_of_block (hgrow.block b0 k0 (by simp))
      have e1 : wr.cell? ⟨b1, o1 + k, none⟩ = some (.int .i64 t) := by rw [ht, ← HT.out k hlt]; exact World.cell?_of_block (hgrow.block b1 k1 (by simp))
      have e2 : wr.cell? ⟨b2, o2 + k, none⟩ = some (.int .i64 l) := by rw [hl, ← HL.out k hlt]; exact World.cell?_of_block (hgrow.block b2 k2 (by simp))
      have hO := ((((hown.stored (k * 3) (.int .i64 s)).1).stored (k * 3 + 1) (.int .i64 t)).1.stored (k * 3 + 2) (.int .i64 l)).1
      rw [hs, ht, hl, runL_set S T L m k hlt, ← hs, ← ht, ← hl] at hO
      have hG : w.grownBy (((wr.setCell ⟨w.heap.size, k * 3, none⟩ (.int .i64 s)).setCell ⟨w.heap.size, k * 3 + 1, none⟩ (.int .i64 t)).setCell ⟨w.heap.size, k * 3 + 2, none⟩ (.int .i64 l)) none := grown_set (grown_set (grown_set hgrow (Nat.le_refl _)) (Nat.le_refl _)) (Nat.le_refl _)
      have c0 : wr.cell? ⟨w.heap.size, k * 3, none⟩ = some (.int .i64 (runZ S T L k (k * 3))) := (hown.cellAt _ (by omega)).trans (runL_at _ _ _ _ _ _ (by omega))
      have c1 : wr.cell? ⟨w.heap.size, k * 3 + 1, none⟩ = some (.int .i64 (runZ S T L k (k * 3 + 1))) := (hown.cellAt _ (by omega)).trans (runL_at _ _ _ _ _ _ (by omega))
      have c2 : wr.cell? ⟨w.heap.size, k * 3 + 2, none⟩ = some (.int .i64 (runZ S T L k (k * 3 + 2))) := (hown.cellAt _ (by omega)).trans (runL_at _ _ _ _ _ _ (by omega))
      have f0 := hown.frozenAt (k * 3)
      have f1 := hown.frozenAt (k * 3 + 1)
      have f2 := hown.frozenAt (k * 3 + 2)
      have i1 : (0 : Int) ≤ (k : Int) := by omega
      have i2 : (k : Int) < (m : Int) := by omega
      clear hs ht hl hown hgrow
      go_wp2
      go_region
      go_wp2
      go_roundw
      case rel => exact ⟨k + 1, by omega, by go_num, own_drew hO, grown_drew hG⟩
      case measure => simp [intOf]; omega
    · go_wp2
      go_ret
      exact ⟨rfl, by rw [show m = k by omega] at hown ⊢; exact hown, hgrow⟩

/-- makeCover (24), whatever comes in. -/
theorem mk_any (a0 a1 a2 : Option Addr) (m c0 c1 c2 : Nat) (S T L : List Int) (w : World) (hn : m ≤ 4096) (hS : RdI w a0 m S) (hT : RdI w a1 m T) (hL : RdI w a2 m L) :
    Calls Try.prog 24 #[.slice a0 m c0, .slice a1 m c1, .slice a2 m c2] w fun e w' => e = .returned (.slice (some ⟨w.heap.size, 0, none⟩) m m) ∧ w'.ownsRow w.heap.size 65 3 (.slice (some ⟨w.heap.size, 0, none⟩) m m) m (runL S T L m m) ∧ w.grownBy w' none := by
  rcases Nat.eq_zero_or_pos m with h0 | h0
  · subst h0
    exact mk_zero a0 a1 a2 c0 c1 c2 S T L w
  · obtain ⟨b0, o0, rfl, h1⟩ := hS.2 h0
    obtain ⟨b1, o1, rfl, h2⟩ := hT.2 h0
    obtain ⟨b2, o2, rfl, h3⟩ := hL.2 h0
    exact mk_row b0 o0 b1 o1 b2 o2 m c0 c1 c2 S T L w hn h1 h2 h3 (World.block_lt_of_cell? _ _ (h1 0 h0)) (World.block_lt_of_cell? _ _ (h2 0 h0)) (World.block_lt_of_cell? _ _ (h3 0 h0))

theorem ans_no {s t l x st fi p : Int} (h1 : x ≤ s + p - t) (h2 : s + p - t - st < x) : ans s t l x st fi p = (0, 0, false) := by unfold ans; rw [if_pos h1, if_pos h2]
theorem ans_far {s t l x st fi p : Int} (h1 : x ≤ s + p - t) (h2 : ¬ s + p - t - st < x) : ans s t l x st fi p = (s + p - t - st, (if fi < t + l then fi else t + l) - p, true) := by unfold ans; rw [if_pos h1, if_neg h2]
theorem ans_src {s t l x st fi p : Int} (h1 : ¬ x ≤ s + p - t) : ans s t l x st fi p = (s + p - t, (if fi < t + l then fi else t + l) - p, true) := by unfold ans; rw [if_neg h1]
/-- An answer as Go's three results. -/
def ansV (a : Int × Int × Bool) : Value := .tuple #[.int .i64 a.1, .int .i64 a.2.1, .bool a.2.2]

theorem tup3 {a b c d : Int} {x : Bool} (h1 : a = c) (h2 : b = d) : Ending.returned (.tuple #[.int .i64 a, .int .i64 b, .bool x]) = .returned (ansV (c, d, x)) := by rw [h1, h2]; rfl

theorem look_zero (x : Int) (a0 a1 a2 : Option Addr) (c0 c1 c2 : Nat) (st fi p : Int) (w : World) :
    Calls Try.prog 26 #[.int .i64 x, .slice a0 0 c0, .slice a1 0 c1, .slice a2 0 c2, .int .i64 st, .int .i64 fi, .int .i64 p] w fun e w' => e = .returned (ansV (0, 0, false)) ∧ w' = w := by
  go_enter Try.func26, Try.ntmps26
  go_wp2
  refine wp_loop_rounds 1 ?_
  rw [rounds_succ]
  go_wp2
  go_ret3
  exact ⟨rfl, rfl⟩

set_option maxHeartbeats 2000000 in
set_option maxRecDepth 100000 in
/-- lookup (26): run j holds p, and no earlier one does. -/
theorem look_hit (sl b0 o0 b1 o1 b2 o2 m c0 c1 c2 j : Nat) (S T L : List Int) (st fi p : Int) (w : World) (hn : m ≤ 4096) (hS : ∀ i, i < m → w.cell? ⟨b0, o0 + i, none⟩ = some (.int .i64 (S.getD i 0))) (hT : ∀ i, i < m → w.cell? ⟨b1, o1 + i, none⟩ = some (.int .i64 (T.getD i 0)))
    (hL : ∀ i, i < m → w.cell? ⟨b2, o2 + i, none⟩ = some (.int .i64 (L.getD i 0))) (hP : CoverP S T L m m) (hsl : sl ≤ 1048576) (hst : 0 ≤ st ∧ st ≤ 268435456) (hfi : 0 ≤ fi ∧ fi ≤ 268435456) (hp : 0 ≤ p ∧ p ≤ 268435456)
    (hj : j < m) (hjT : T.getD j 0 ≤ p) (hjL : p < T.getD j 0 + L.getD j 0) (hmiss : ∀ i, i < j → T.getD i 0 + L.getD i 0 ≤ p) :
    Calls Try.prog 26 #[.int .i64 sl, .slice (some ⟨b0, o0, none⟩) m c0, .slice (some ⟨b1, o1, none⟩) m c1, .slice (some ⟨b2, o2, none⟩) m c2, .int .i64 st, .int .i64 fi, .int .i64 p] w fun e w' =>
      e = .returned (ansV (ans (S.getD j 0) (T.getD j 0) (L.getD j 0) sl st fi p)) ∧ ∃ q, w' = w.drewN q := by
  have HS : Hid (∀ i, i < m → w.cell? ⟨b0, o0 + i, none⟩ = some (.int .i64 (S.getD i 0))) := hS
  have HT : Hid (∀ i, i < m → w.cell? ⟨b1, o1 + i, none⟩ = some (.int .i64 (T.getD i 0))) := hT
  have HL : Hid (∀ i, i < m → w.cell? ⟨b2, o2 + i, none⟩ = some (.int .i64 (L.getD i 0))) := hL
  have HP : Hid (CoverP S T L m m) := hP
  have HM : Hid (∀ i, i < j → T.getD i 0 + L.getD i 0 ≤ p) := hmiss
  obtain ⟨hst1, hst2⟩ := hst
  obtain ⟨hfi1, hfi2⟩ := hfi
  obtain ⟨hp1, hp2⟩ := hp
  obtain ⟨s, hs⟩ : ∃ s, S.getD j 0 = s := ⟨_, rfl⟩
  obtain ⟨t, ht⟩ : ∃ t, T.getD j 0 = t := ⟨_, rfl⟩
  obtain ⟨l, hl⟩ : ∃ l, L.getD j 0 = l := ⟨_, rfl⟩
  have bs := hP.src j hj
  have bt := hP.tgt j hj
  have bl := hP.len j hj
  rw [hs] at bs ⊢
  rw [ht] at bt hjT hjL ⊢
  rw [hl] at bl hjL ⊢
  have Hs : Hid (S.getD j 0 = s) := hs
  have Ht : Hid (T.getD j 0 = t) := ht
  have Hl : Hid (L.getD j 0 = l) := hl
  obtain ⟨bs1, bs2⟩ := bs
  obtain ⟨bt1, bt2⟩ := bt
  obtain ⟨bl1, bl2⟩ := bl
  clear hS hT hL hP hmiss hs ht hl
  go_enter Try.func26, Try.ntmps26
  go_wp2
  go_loopw [17] (fun i wr => ∃ k q : Nat, k ≤ j ∧ i = .int .i64 k ∧ wr = w.drewN q) (fun i _ => j - (intOf i).toNat)
  case atStart => exact ⟨0, 0, by omega, rfl, rfl⟩
  case round =>
    obtain ⟨k, q, hk, rfl, rfl⟩ := hrel
    have i1 : (0 : Int) ≤ (k : Int) := by omega
    have i2 : (k : Int) < (m : Int) := by omega
    by_cases hlt : k < j
    · obtain ⟨t', ht'⟩ : ∃ t, t = T.getD k 0 := ⟨_, rfl⟩
      obtain ⟨l', hl'⟩ : ∃ l, l = L.getD k 0 := ⟨_, rfl⟩
      have e1 : w.cell? ⟨b1, o1 + k, none⟩ = some (.int .i64 t') := by rw [ht']; exact HT.out k (by omega)
      have e2 : w.cell? ⟨b2, o2 + k, none⟩ = some (.int .i64 l') := by rw [hl']; exact HL.out k (by omega)
      have f1 : 0 ≤ t' ∧ t' ≤ 268435456 := by rw [ht']; exact HP.out.tgt k (by omega)
      have f2 : 1 ≤ l' ∧ l' ≤ 268435456 := by rw [hl']; exact HP.out.len k (by omega)
      have f3 : t' + l' ≤ p := by rw [ht', hl']; exact HM.out k hlt
      obtain ⟨f11, f12⟩ := f1
      obtain ⟨f21, f22⟩ := f2
      have f4 : t' ≤ p := by omega
      clear ht' hl'
      go_wp2
      go_quiet (fail)
      go_wp2
      go_roundw
      case rel => exact ⟨k + 1, q + nq, by omega, by go_num, by first | rfl | exact draws2 _ _ _⟩
      case measure => simp [intOf]; omega
    · obtain rfl : j = k := by omega
      have e0 : w.cell? ⟨b0, o0 + j, none⟩ = some (.int .i64 s) := by rw [← Hs.out]; exact HS.out j hj
      have e1 : w.cell? ⟨b1, o1 + j, none⟩ = some (.int .i64 t) := by rw [← Ht.out]; exact HT.out j hj
      have e2 : w.cell? ⟨b2, o2 + j, none⟩ = some (.int .i64 l) := by rw [← Hl.out]; exact HL.out j hj
      by_cases h1 : (sl : Int) ≤ s + p - t
      · by_cases h2 : s + p - t - (sl : Int) < st
        · have HA : Hid (ans s t l sl st fi p = _) := ans_no h1 (show s + p - t - st < (sl : Int) by omega)
          go_wp2
          go_quiet (fail)
          go_wp2
          go_quiet (fail)
          go_wp2
          go_ret3
          exact ⟨by rw [HA.out]; rfl, _, rfl⟩
        · by_cases h3 : fi < t + l
          · have HA : Hid (ans s t l sl st fi p = _) := ans_far h1 (show ¬ s + p - t - st < (sl : Int) by omega)
            go_wp2
            go_quiet (fail)
            go_wp2
            go_quiet (fail)
            go_wp2
            go_quiet (fail)
            go_wp2
            go_ret3
            exact ⟨by rw [HA.out, if_pos (show fi < t + l by omega)]; exact tup3 (by omega) rfl, _, rfl⟩
          · have HA : Hid (ans s t l sl st fi p = _) := ans_far h1 (show ¬ s + p - t - st < (sl : Int) by omega)
            go_wp2
            go_quiet (fail)
            go_wp2
            go_quiet (fail)
            go_wp2
            go_quiet (fail)
            go_wp2
            go_ret3
            exact ⟨by rw [HA.out, if_neg (show ¬ fi < t + l by omega)]; exact tup3 (by omega) rfl, _, rfl⟩
      · by_cases h3 : fi < t + l
        · have HA : Hid (ans s t l sl st fi p = _) := ans_src h1
          go_wp2
          go_quiet (fail)
          go_wp2
          go_quiet (fail)
          go_wp2
          go_quiet (fail)
          go_wp2
          go_ret3
          exact ⟨by rw [HA.out, if_pos (show fi < t + l by omega)]; exact tup3 (by omega) rfl, _, rfl⟩
        · have HA : Hid (ans s t l sl st fi p = _) := ans_src h1
          go_wp2
          go_quiet (fail)
          go_wp2
          go_quiet (fail)
          go_wp2
          go_quiet (fail)
          go_wp2
          go_ret3
          exact ⟨by rw [HA.out, if_neg (show ¬ fi < t + l by omega)]; exact tup3 (by omega) rfl, _, rfl⟩

set_option maxHeartbeats 2000000 in
set_option maxRecDepth 100000 in
/-- lookup (26): no run holds p. -/
theorem look_miss (sl b0 o0 b1 o1 b2 o2 m c0 c1 c2 : Nat) (S T L : List Int) (st fi p : Int) (w : World) (hn : m ≤ 4096) (hT : ∀ i, i < m → w.cell? ⟨b1, o1 + i, none⟩ = some (.int .i64 (T.getD i 0)))
    (hL : ∀ i, i < m → w.cell? ⟨b2, o2 + i, none⟩ = some (.int .i64 (L.getD i 0))) (hP : CoverP S T L m m) (hmiss : ∀ i, i < m → T.getD i 0 ≤ p → T.getD i 0 + L.getD i 0 ≤ p) :
    Calls Try.prog 26 #[.int .i64 sl, .slice (some ⟨b0, o0, none⟩) m c0, .slice (some ⟨b1, o1, none⟩) m c1, .slice (some ⟨b2, o2, none⟩) m c2, .int .i64 st, .int .i64 fi, .int .i64 p] w fun e w' =>
      e = .returned (ansV (0, 0, false)) ∧ ∃ q, w' = w.drewN q := by
  have HT : Hid (∀ i, i < m → w.cell? ⟨b1, o1 + i, none⟩ = some (.int .i64 (T.getD i 0))) := hT
  have HL : Hid (∀ i, i < m → w.cell? ⟨b2, o2 + i, none⟩ = some (.int .i64 (L.getD i 0))) := hL
  have HP : Hid (CoverP S T L m m) := hP
  have HM : Hid (∀ i, i < m → T.getD i 0 ≤ p → T.getD i 0 + L.getD i 0 ≤ p) := hmiss
  clear hT hL hP hmiss
  go_enter Try.func26, Try.ntmps26
  go_wp2
  go_loopw [17] (fun i wr => ∃ k q : Nat, k ≤ m ∧ i = .int .i64 k ∧ wr = w.drewN q) (fun i _ => m - (intOf i).toNat)
  case atStart => exact ⟨0, 0, by omega, rfl, rfl⟩
  case round =>
    obtain ⟨k, q, hk, rfl, rfl⟩ := hrel
    by_cases hlt : k < m
    · have i1 : (0 : Int) ≤ (k : Int) := by omega
      have i2 : (k : Int) < (m : Int) := by omega
      obtain ⟨t', ht'⟩ : ∃ t, t = T.getD k 0 := ⟨_, rfl⟩
      obtain ⟨l', hl'⟩ : ∃ l, l = L.getD k 0 := ⟨_, rfl⟩
      have e1 : w.cell? ⟨b1, o1 + k, none⟩ = some (.int .i64 t') := by rw [ht']; exact HT.out k (by omega)
      have e2 : w.cell? ⟨b2, o2 + k, none⟩ = some (.int .i64 l') := by rw [hl']; exact HL.out k (by omega)
      have f1 : 0 ≤ t' ∧ t' ≤ 268435456 := by rw [ht']; exact HP.out.tgt k (by omega)
      have f2 : 1 ≤ l' ∧ l' ≤ 268435456 := by rw [hl']; exact HP.out.len k (by omega)
      obtain ⟨f11, f12⟩ := f1
      obtain ⟨f21, f22⟩ := f2
      by_cases f4 : t' ≤ p
      · have f3 : t' + l' ≤ p := by rw [ht', hl']; exact HM.out k hlt (by rw [← ht']; exact f4)
        clear ht' hl'
        go_wp2
        go_quiet (fail)
        go_wp2
        go_roundw
        case rel => exact ⟨k + 1, q + nq, by omega, by go_num, by first | rfl | exact draws2 _ _ _⟩
        case measure => simp [intOf]; omega
      · have d4 : decide (t' ≤ p) = false := decide_eq_false f4
        clear ht' hl'
        go_wp2
        go_quiet (fail)
        go_wp2
        go_roundw
        case rel => exact ⟨k + 1, q + nq, by omega, by go_num, by first | rfl | exact draws2 _ _ _⟩
        case measure => simp [intOf]; omega
    · go_wp2
      go_ret3
      exact ⟨rfl, q, rfl⟩
end Go.Proofs.Qxb6000601a
