/-
  Walks of the small functions on slices of ints: cloneInts (22), coverOK (20), risingWithin (21), the bound (19).
-/
import Derived.Test.Qxb6000601aBytes
import Derived.Test.Qxb6000601aCover
namespace Go.Proofs.Qxb6000601a
open Go.RowKit

/-- WHAT A SLICE OF INTS HOLDS: its elements are zs. -/
def RdI (w : World) (a : Option Addr) (n : Nat) (zs : List Int) : Prop :=
  zs.length = n ∧ (0 < n → ∃ b off, a = some ⟨b, off, none⟩ ∧ ∀ i, i < n → w.cell? ⟨b, off + i, none⟩ = some (.int .i64 (zs.getD i 0)))

theorem info3p : (Try.prog.info? 3).map (fun i => (i.zero, i.size, i.bytes)) = some (some (.int .i64 0), 1, 8) := by kernel_rfl

theorem eq35 (w : World) (a : Option Addr) (n c : Nat) : (binOp .eql 35 (.slice a n c) (.slice none 0 0)).run Try.prog w = .ok (.bool a.isNone) w := Lib.run_eql_slice_nil w 35 3 a n c 0 0 Try.underlying35

theorem cloneI_nil (c : Nat) (w : World) :
    Calls Try.prog 22 #[.slice none 0 c] w fun e w' => e = .returned (.slice none 0 0) ∧ w' = w := by
  have q35 := eq35
  go_enter Try.func22, Try.ntmps22
  go_wp2
  go_ret
  exact ⟨rfl, rfl⟩

/-- The row of the clone behind k rounds. -/
def partI_ (zs : List Int) (k : Nat) : List Int := zs.take k ++ List.replicate (zs.length - k) 0
theorem partI_zero (zs : List Int) : (madeCells (Value.int .i64 0).cells (zs.length * 1)).toList = iv (partI_ zs 0) := by
  show (madeCells #[Value.int .i64 0] _).toList = _
  rw [toList_madeCells_one]
  simp [iv, partI_]
theorem partI_set (zs : List Int) (k : Nat) (h : k < zs.length) : (iv (partI_ zs k)).set k (.int .i64 (zs.getD k 0)) = iv (partI_ zs (k + 1)) := by
  unfold iv partI_
  rw [← List.map_set]
  congr 1
  rw [List.set_append_right _ _ (by simp; omega), List.take_succ_eq_append_getElem h, List.append_assoc]
  congr 1
  rw [List.length_take, Nat.min_eq_left (by omega), Nat.sub_self, show zs.length - k = (zs.length - (k + 1)) + 1 by omega, List.replicate_succ]
  simp [h]
theorem partI_full (zs : List Int) (k : Nat) (h : zs.length ≤ k) : partI_ zs k = zs := by
  unfold partI_
  rw [List.take_of_length_le h, show zs.length - k = 0 by omega]
  simp
theorem partI_len (zs : List Int) (k : Nat) (h : k ≤ zs.length) : (partI_ zs k).length = zs.length := by simp [partI_]; omega

set_option maxHeartbeats 400000 in
theorem cloneI_empty (x : Addr) (c : Nat) (w : World) :
    Calls Try.prog 22 #[.slice (some x) 0 c] w fun e w' => e = .returned (.slice (some ⟨w.heap.size, 0, none⟩) 0 0) ∧ w'.ownsRow w.heap.size 3 1 (.slice (some ⟨w.heap.size, 0, none⟩) 0 0) 0 (iv []) ∧ w.grownBy w' none := by
  have q35 := eq35
  obtain ⟨i0, hi, hz0, hz1, hz2⟩ := info_parts info3p
  go_enter Try.func22, Try.ntmps22
  go_wp2_with (first | (at_make; refine wpList_make_full w rfl _ _ 35 rfl w.heap.size 3 i0 (.int .i64 0) 1 Try.underlying35 hi hz0 hz1 .i64 .i64 _ _ 0 rfl rfl rfl rfl (by rw [hz2]; omega) (by unfold maxLen; omega) (Nat.le_refl _) ?_; intro w1 hown1 hgrow1))
  refine wp_loop_rounds 1 ?_
  rw [rounds_succ]
  go_wp2
  go_ret
  exact ⟨rfl, by rw [show (0 : Nat) * 1 = ([] : List Int).length * 1 from rfl, partI_zero] at hown1; exact hown1, hgrow1⟩

set_option maxHeartbeats 400000 in
theorem cloneI_row (b off n c : Nat) (zs : List Int) (w : World) (hl : zs.length = n) (hn : n ≤ 1048576) (hc : ∀ i, i < n → w.cell? ⟨b, off + i, none⟩ = some (.int .i64 (zs.getD i 0))) (hbw : b < w.heap.size) :
    Calls Try.prog 22 #[.slice (some ⟨b, off, none⟩) n c] w fun e w' => e = .returned (.slice (some ⟨w.heap.size, 0, none⟩) n n) ∧ w'.ownsRow w.heap.size 3 1 (.slice (some ⟨w.heap.size, 0, none⟩) n n) n (iv zs) ∧ w.grownBy w' none := by
  have q35 := eq35
  have HL : Hid (zs.length = n) := hl
  obtain ⟨i0, hi, hz0, hz1, hz2⟩ := info_parts info3p
  have HC : Hid (∀ i, i < n → w.cell? ⟨b, off + i, none⟩ = some (.int .i64 (zs.getD i 0))) := hc
  clear hl hc
  go_enter Try.func22, Try.ntmps22
  go_wp2_with (first | (at_make; refine wpList_make_full w rfl _ _ 35 rfl w.heap.size 3 i0 (.int .i64 0) 1 Try.underlying35 hi hz0 hz1 .i64 .i64 _ _ n rfl rfl rfl rfl (by rw [hz2]; omega) (by unfold maxLen; omega) (Nat.le_refl _) ?_; intro w1 hown1 hgrow1))
  go_loopw [4] (fun i wr => ∃ k : Nat, k ≤ n ∧ i = .int .i64 k ∧ wr.ownsRow w.heap.size 3 1 (.slice (some ⟨w.heap.size, 0, none⟩) n n) n (iv (partI_ zs k)) ∧ w.grownBy wr none) (fun i _ => n - (intOf i).toNat)
  case atStart => exact ⟨0, by omega, rfl, by rw [← partI_zero, HL.out]; exact hown1, hgrow1⟩
  case round =>
    clear hown1 hgrow1 hi hz0 hz1 hz2
    obtain ⟨k, hk, rfl, hown, hgrow⟩ := hrel
    by_cases hlt : k < n
    · obtain ⟨z, hz⟩ : ∃ z, z = zs.getD k 0 := ⟨_, rfl⟩
      have hcx : wr.cell? ⟨b, off + k, none⟩ = some (.int .i64 z) := by rw [hz, ← HC.out k hlt]; exact World.cell?_of_block (hgrow.block b hbw (by simp))
      obtain ⟨u, hcu⟩ : ∃ u, wr.cell? ⟨w.heap.size, k, none⟩ = some u := ⟨_, (hown.cellAt k (by omega)).trans (iv_at _ k (by rw [partI_len _ _ (by have := HL.out; omega), HL.out]; exact hlt))⟩
      have hfr := hown.frozenAt k
      have hO := (hown.stored k (.int .i64 z)).1
      rw [hz, partI_set zs k (by rw [HL.out]; exact hlt), ← hz] at hO
      have hG : w.grownBy (wr.setCell ⟨w.heap.size, k, none⟩ (.int .i64 z)) none := grown_set hgrow (Nat.le_refl _)
      clear hz hown hgrow
      go_wp2
      go_roundw
      case rel => exact ⟨k + 1, by omega, by go_num, hO, hG⟩
      case measure => simp [intOf]; omega
    · go_wp2
      go_ret
      exact ⟨rfl, by rw [partI_full _ _ (by have := HL.out; omega)] at hown; exact hown, hgrow⟩

/-- cloneInts, whatever comes in: a slice of the call's own that holds the same. -/
theorem cloneI_any (a : Option Addr) (n c : Nat) (zs : List Int) (w : World) (hr : RdI w a n zs) (hn : n ≤ 1048576) :
    Calls Try.prog 22 #[.slice a n c] w fun e w' => ∃ a' c', e = .returned (.slice a' n c') ∧ w'.ownsRow w.heap.size 3 1 (.slice a' n c') n (iv zs) ∧ w.grownBy w' none := by
  cases a with
  | none =>
    have h0 : n = 0 := by
      rcases Nat.eq_zero_or_pos n with h | h
      · exact h
      · obtain ⟨b, off, hx, _⟩ := hr.2 h; cases hx
    subst h0
    have hz : zs = [] := List.eq_nil_of_length_eq_zero hr.1
    subst hz
    refine (cloneI_nil c w).mono ?_
    rintro e w' ⟨rfl, rfl⟩
    exact ⟨none, 0, rfl, World.ownsRow_nil _ _ _ _, ⟨rfl, rfl, rfl, Nat.le_refl _, fun _ _ _ => rfl⟩⟩
  | some x =>
    rcases Nat.eq_zero_or_pos n with h0 | h0
    · subst h0
      have hz : zs = [] := List.eq_nil_of_length_eq_zero hr.1
      subst hz
      refine (cloneI_empty x c w).mono ?_
      rintro e w' ⟨rfl, h1, h2⟩
      exact ⟨_, _, rfl, h1, h2⟩
    · obtain ⟨b, off, hx, hc⟩ := hr.2 h0
      cases hx
      refine (cloneI_row b off n c zs w hr.1 hn hc (World.block_lt_of_cell? _ _ (hc 0 h0))).mono ?_
      rintro e w' ⟨rfl, h1, h2⟩
      exact ⟨_, _, rfl, h1, h2⟩


theorem zzb19 (a0 a1 a2 a3 a6 : Option Addr) (n0 c0 n1 c1 n2 c2 n3 c3 n6 c6 : Nat) (x4 x5 : Int) (w : World) (h0 : n0 ≤ maxLen) (h1 : n1 ≤ maxLen) (h2 : n2 ≤ maxLen) (h3 : n3 ≤ maxLen) (h6 : n6 ≤ maxLen) :
    Calls Try.prog 19 #[.slice a0 n0 c0, .slice a1 n1 c1, .slice a2 n2 c2, .slice a3 n3 c3, .int .i64 x4, .int .i64 x5, .slice a6 n6 c6] w fun e w' => (∃ b : Bool, e = .returned (.bool b)) ∧ w' = w := by
  unfold maxLen at h0 h1 h2 h3 h6
  go_enter Try.func19, Try.ntmps19
  go_wp2
  all_goals (go_ret; exact ⟨⟨_, rfl⟩, rfl⟩)

theorem cov_ne (a0 a1 a2 : Option Addr) (n0 c0 n1 c1 n2 c2 : Nat) (w : World) (h : n0 ≠ n1 ∨ n1 ≠ n2) :
    Calls Try.prog 20 #[.slice a0 n0 c0, .slice a1 n1 c1, .slice a2 n2 c2] w fun e w' => e = .returned (.bool false) ∧ w' = w := by
  by_cases e : n0 = n1
  · subst e
    have q0 : ((n0 : Int) != (n0 : Int)) = false := by simp
    have q1 : ((n0 : Int) != (n2 : Int)) = true := by rw [bne_iff_ne]; omega
    clear h
    go_enter Try.func20, Try.ntmps20
    go_wp2
    go_ret
    exact ⟨rfl, rfl⟩
  · have q0 : ((n0 : Int) != (n1 : Int)) = true := by rw [bne_iff_ne]; omega
    clear h
    go_enter Try.func20, Try.ntmps20
    go_wp2
    go_ret
    exact ⟨rfl, rfl⟩

theorem cov_zero (a0 a1 a2 : Option Addr) (c0 c1 c2 : Nat) (w : World) :
    Calls Try.prog 20 #[.slice a0 0 c0, .slice a1 0 c1, .slice a2 0 c2] w fun e w' => e = .returned (.bool true) ∧ w' = w := by
  go_enter Try.func20, Try.ntmps20
  go_wp2
  refine wp_loop_rounds 1 ?_
  rw [rounds_succ]
  go_wp2
  go_ret
  exact ⟨rfl, rfl⟩

theorem draws2 (w : World) (a b : Nat) : (w.drewN a).drewN b = w.drewN (a + b) := by simp [World.drewN, Nat.add_assoc]

/-- It answers a bool, and yes only where P holds. -/
def BoolP (e : Ending) (P : Prop) : Prop := ∃ b : Bool, e = .returned (.bool b) ∧ (b = true → P)
theorem boolP_no (P : Prop) : BoolP (.returned (.bool false)) P := ⟨false, rfl, by simp⟩
theorem boolP_yes {P : Prop} (h : P) : BoolP (.returned (.bool true)) P := ⟨true, rfl, fun _ => h⟩

set_option maxHeartbeats 2000000 in
theorem cov_row (b0 o0 b1 o1 b2 o2 n c0 c1 c2 : Nat) (S T L : List Int) (w : World) (hn : n ≤ 4096) (hS : ∀ i, i < n → w.cell? ⟨b0, o0 + i, none⟩ = some (.int .i64 (S.getD i 0))) (hT : ∀ i, i < n → w.cell? ⟨b1, o1 + i, none⟩ = some (.int .i64 (T.getD i 0)))
    (hL : ∀ i, i < n → w.cell? ⟨b2, o2 + i, none⟩ = some (.int .i64 (L.getD i 0))) :
    Calls Try.prog 20 #[.slice (some ⟨b0, o0, none⟩) n c0, .slice (some ⟨b1, o1, none⟩) n c1, .slice (some ⟨b2, o2, none⟩) n c2] w fun e w' => BoolP e (CoverP S T L n n) ∧ ∃ q, w' = w.drewN q := by
  have HS : Hid (∀ i, i < n → w.cell? ⟨b0, o0 + i, none⟩ = some (.int .i64 (S.getD i 0))) := hS
  have HT : Hid (∀ i, i < n → w.cell? ⟨b1, o1 + i, none⟩ = some (.int .i64 (T.getD i 0))) := hT
  have HL : Hid (∀ i, i < n → w.cell? ⟨b2, o2 + i, none⟩ = some (.int .i64 (L.getD i 0))) := hL
  have q0 : ((n : Int) != (n : Int)) = false := by simp
  clear hS hT hL
  go_enter Try.func20, Try.ntmps20
  go_wp2
  go_loopw [7] (fun i wr => ∃ k q : Nat, i = .int .i64 k ∧ CoverP S T L n k ∧ wr = w.drewN q) (fun i _ => n - (intOf i).toNat)
  case atStart => exact ⟨0, 0, rfl, CoverP.zero _ _ _ _, rfl⟩
  case round =>
    obtain ⟨k, q, rfl, hP, rfl⟩ := hrel
    have hk := hP.hm
    have HP : Hid (CoverP S T L n k) := hP
    clear hP
    by_cases hlt : k < n
    · obtain ⟨s, hs⟩ : ∃ s, s = S.getD k 0 := ⟨_, rfl⟩
      obtain ⟨t, ht⟩ : ∃ t, t = T.getD k 0 := ⟨_, rfl⟩
      obtain ⟨l, hl⟩ : ∃ l, l = L.getD k 0 := ⟨_, rfl⟩
      have e0 : w.cell? ⟨b0, o0 + k, none⟩ = some (.int .i64 s) := by rw [hs]; exact HS.out k hlt
      have e1 : w.cell? ⟨b1, o1 + k, none⟩ = some (.int .i64 t) := by rw [ht]; exact HT.out k hlt
      have e2 : w.cell? ⟨b2, o2 + k, none⟩ = some (.int .i64 l) := by rw [hl]; exact HL.out k hlt
      have Hs : Hid (s = S.getD k 0) := hs
      have Ht : Hid (t = T.getD k 0) := ht
      have Hl : Hid (l = L.getD k 0) := hl
      clear hs ht hl
      by_cases g0 : s < 0
      · go_wp2
        go_ret
        exact ⟨boolP_no _, q, rfl⟩
      by_cases g1 : 268435456 < s
      · go_wp2
        go_ret
        exact ⟨boolP_no _, q, rfl⟩
      by_cases g2 : t < 0
      · go_wp2
        go_ret
        exact ⟨boolP_no _, q, rfl⟩
      by_cases g3 : 268435456 < t
      · go_wp2
        go_ret
        exact ⟨boolP_no _, q, rfl⟩
      by_cases g4 : l < 1
      · go_wp2
        go_ret
        exact ⟨boolP_no _, q, rfl⟩
      by_cases g5 : 268435456 < l
      · go_wp2
        go_ret
        exact ⟨boolP_no _, q, rfl⟩
      by_cases g6 : 0 < k
      · obtain ⟨t', ht'⟩ : ∃ t, t = T.getD (k - 1) 0 := ⟨_, rfl⟩
        obtain ⟨l', hl'⟩ : ∃ l, l = L.getD (k - 1) 0 := ⟨_, rfl⟩
        have f1 : w.cell? ⟨b1, o1 + (k - 1), none⟩ = some (.int .i64 t') := by rw [ht']; exact HT.out (k - 1) (by omega)
        have f2 : w.cell? ⟨b2, o2 + (k - 1), none⟩ = some (.int .i64 l') := by rw [hl']; exact HL.out (k - 1) (by omega)
        have bt : 0 ≤ t' ∧ t' ≤ 268435456 := by rw [ht']; exact HP.out.tgt (k - 1) (by omega)
        have bl : 1 ≤ l' ∧ l' ≤ 268435456 := by rw [hl']; exact HP.out.len (k - 1) (by omega)
        obtain ⟨bt1, bt2⟩ := bt
        obtain ⟨bl1, bl2⟩ := bl
        have Ht' : Hid (t' = T.getD (k - 1) 0) := ht'
        have Hl' : Hid (l' = L.getD (k - 1) 0) := hl'
        clear ht' hl'
        have i1 : (0 : Int) < (k : Int) := by omega
        have i2 : (k : Int) < (n : Int) := by omega
        have i3 : (0 : Int) ≤ (k : Int) - 1 := by omega
        have i4 : (k : Int) - 1 < (n : Int) := by omega
        by_cases g7 : t < t' + l'
        · go_wp2
          go_quiet (fail)
          go_wp2
          go_ret
          exact ⟨boolP_no _, q + nq, by first | rfl | exact draws2 _ _ _⟩
        · go_wp2
          go_quiet (fail)
          go_wp2
          go_roundw
          case rel => exact ⟨k + 1, q + nq, by go_num, HP.out.step hlt (by rw [← Hs.out]; omega) (by rw [← Ht.out]; omega) (by rw [← Hl.out]; omega) (fun _ => by rw [← Ht.out, ← Ht'.out, ← Hl'.out]; omega), by first | rfl | exact draws2 _ _ _⟩
          case measure => simp [intOf]; omega
      · have i1 : decide ((0 : Int) < (k : Int)) = false := decide_eq_false (by omega)
        go_wp2
        go_quiet (fail)
        go_wp2
        go_roundw
        case rel => exact ⟨k + 1, q + nq, by go_num, HP.out.step hlt (by rw [← Hs.out]; omega) (by rw [← Ht.out]; omega) (by rw [← Hl.out]; omega) (fun h => absurd h g6), by first | rfl | exact draws2 _ _ _⟩
        case measure => simp [intOf]; omega
    · go_wp2
      go_ret
      exact ⟨boolP_yes (by have := HP.out; rw [show k = n by omega] at this; exact this), q, rfl⟩

/-- coverOK (20), whatever comes in. -/
theorem cov_any (a0 a1 a2 : Option Addr) (n0 c0 n1 c1 n2 c2 : Nat) (S T L : List Int) (w : World) (hn : n2 ≤ 4096) (hS : RdI w a0 n0 S) (hT : RdI w a1 n1 T) (hL : RdI w a2 n2 L) :
    Calls Try.prog 20 #[.slice a0 n0 c0, .slice a1 n1 c1, .slice a2 n2 c2] w fun e w' => BoolP e (n0 = n2 ∧ n1 = n2 ∧ CoverP S T L n2 n2) ∧ ∃ q, w' = w.drewN q := by
  by_cases h : n0 ≠ n1 ∨ n1 ≠ n2
  · refine (cov_ne a0 a1 a2 n0 c0 n1 c1 n2 c2 w h).mono ?_
    rintro e w' ⟨rfl, rfl⟩
    exact ⟨boolP_no _, 0, rfl⟩
  · obtain rfl : n0 = n1 := by omega
    obtain rfl : n0 = n2 := by omega
    rcases Nat.eq_zero_or_pos n0 with h0 | h0
    · subst h0
      refine (cov_zero a0 a1 a2 c0 c1 c2 w).mono ?_
      rintro e w' ⟨rfl, rfl⟩
      exact ⟨boolP_yes ⟨rfl, rfl, CoverP.zero _ _ _ _⟩, 0, rfl⟩
    · obtain ⟨b0, o0, rfl, h1⟩ := hS.2 h0
      obtain ⟨b1, o1, rfl, h2⟩ := hT.2 h0
      obtain ⟨b2, o2, rfl, h3⟩ := hL.2 h0
      refine (cov_row b0 o0 b1 o1 b2 o2 n0 c0 c1 c2 S T L w hn h1 h2 h3).mono ?_
      rintro e w' ⟨⟨b, he, hb⟩, hq⟩
      exact ⟨⟨b, he, fun h => ⟨rfl, rfl, hb h⟩⟩, hq⟩

theorem rise_zero (a : Option Addr) (c : Nat) (w : World) :
    Calls Try.prog 21 #[.slice a 0 c, .int .i64 0, .int .i64 268435457] w fun e w' => e = .returned (.bool true) ∧ w' = w := by
  go_enter Try.func21, Try.ntmps21
  go_wp2
  refine wp_loop_rounds 1 ?_
  rw [rounds_succ]
  go_wp2
  go_ret
  exact ⟨rfl, rfl⟩

set_option maxHeartbeats 2000000 in
theorem rise_row (b o n c : Nat) (P : List Int) (w : World) (hn : n ≤ 4096) (hP : ∀ i, i < n → w.cell? ⟨b, o + i, none⟩ = some (.int .i64 (P.getD i 0))) :
    Calls Try.prog 21 #[.slice (some ⟨b, o, none⟩) n c, .int .i64 0, .int .i64 268435457] w fun e w' => BoolP e (RiseP P n n) ∧ ∃ q, w' = w.drewN q := by
  have HC : Hid (∀ i, i < n → w.cell? ⟨b, o + i, none⟩ = some (.int .i64 (P.getD i 0))) := hP
  clear hP
  go_enter Try.func21, Try.ntmps21
  go_wp2
  go_loopw [7] (fun i wr => ∃ k q : Nat, i = .int .i64 k ∧ RiseP P n k ∧ wr = w.drewN q) (fun i _ => n - (intOf i).toNat)
  case atStart => exact ⟨0, 0, rfl, RiseP.zero _ _, rfl⟩
  case round =>
    obtain ⟨k, q, rfl, hP, rfl⟩ := hrel
    have hk := hP.hn
    have HP : Hid (RiseP P n k) := hP
    clear hP
    by_cases hlt : k < n
    · obtain ⟨p, hp⟩ : ∃ p, p = P.getD k 0 := ⟨_, rfl⟩
      have e0 : w.cell? ⟨b, o + k, none⟩ = some (.int .i64 p) := by rw [hp]; exact HC.out k hlt
      have Hp : Hid (p = P.getD k 0) := hp
      clear hp
      by_cases g0 : p < 0
      · go_wp2
        go_ret
        exact ⟨boolP_no _, q, rfl⟩
      by_cases g1 : 268435457 ≤ p
      · go_wp2
        go_ret
        exact ⟨boolP_no _, q, rfl⟩
      by_cases g6 : 0 < k
      · obtain ⟨p', hp'⟩ : ∃ t, t = P.getD (k - 1) 0 := ⟨_, rfl⟩
        have f1 : w.cell? ⟨b, o + (k - 1), none⟩ = some (.int .i64 p') := by rw [hp']; exact HC.out (k - 1) (by omega)
        have Hp' : Hid (p' = P.getD (k - 1) 0) := hp'
        clear hp'
        have i1 : (0 : Int) < (k : Int) := by omega
        have i2 : (k : Int) < (n : Int) := by omega
        have i3 : (0 : Int) ≤ (k : Int) - 1 := by omega
        have i4 : (k : Int) - 1 < (n : Int) := by omega
        by_cases g7 : p < p'
        · go_wp2
          go_quiet (fail)
          go_wp2
          go_ret
          exact ⟨boolP_no _, q + nq, by first | rfl | exact draws2 _ _ _⟩
        · go_wp2
          go_quiet (fail)
          go_wp2
          go_roundw
          case rel => exact ⟨k + 1, q + nq, by go_num, HP.out.step hlt (by rw [← Hp.out]; omega) (fun _ => by rw [← Hp.out, ← Hp'.out]; omega), by first | rfl | exact draws2 _ _ _⟩
          case measure => simp [intOf]; omega
      · have i1 : decide ((0 : Int) < (k : Int)) = false := decide_eq_false (by omega)
        go_wp2
        go_quiet (fail)
        go_wp2
        go_roundw
        case rel => exact ⟨k + 1, q + nq, by go_num, HP.out.step hlt (by rw [← Hp.out]; omega) (fun h => absurd h g6), by first | rfl | exact draws2 _ _ _⟩
        case measure => simp [intOf]; omega
    · go_wp2
      go_ret
      exact ⟨boolP_yes (by have := HP.out; rw [show k = n by omega] at this; exact this), q, rfl⟩

/-- risingWithin(ps, 0, posLim+1) (21), whatever comes in. -/
theorem rise_any (a : Option Addr) (n c : Nat) (P : List Int) (w : World) (hn : n ≤ 4096) (hP : RdI w a n P) :
    Calls Try.prog 21 #[.slice a n c, .int .i64 0, .int .i64 268435457] w fun e w' => BoolP e (RiseP P n n) ∧ ∃ q, w' = w.drewN q := by
  rcases Nat.eq_zero_or_pos n with h0 | h0
  · subst h0
    refine (rise_zero a c w).mono ?_
    rintro e w' ⟨rfl, rfl⟩
    exact ⟨boolP_yes (RiseP.zero _ _), 0, rfl⟩
  · obtain ⟨b, o, rfl, h1⟩ := hP.2 h0
    exact rise_row b o n c P w hn h1
end Go.Proofs.Qxb6000601a
