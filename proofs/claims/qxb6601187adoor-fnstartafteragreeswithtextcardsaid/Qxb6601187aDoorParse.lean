/-
  The walk of parseDecimal (10) on a numeral that FormatInt writes.
-/
import Derived.Test.Qxb6601187aDoorLaw4
import Derived.Lib.ItoaLen
namespace Go.Proofs.Qxb6601187aDoor
open Go.RowKit

/-- The byte at place i of the string s is c. -/
def StrAt (s : ByteArray) (i c : Int) : Prop := ∃ h : 0 ≤ i ∧ i < s.size, ((s[i.toNat]'(by omega)).toNat : Int) = c
theorem wpList_index_str {P : Program} {ops : Array Oper} {rest : List Oper} {o : Oper} {a : Act} {w : World} {Q : Exit → Act → World → Prop} (hgd : o.guard = none) (t : TypeId) (x y : Operand) (ho : o.op = .index t x y) (s : ByteArray) (hx : a.eval x = .string s) (k : IntKind) (i : Int) (hy : a.eval y = .int k i) (ht : P.underlying t = some .string) (c : Int) (hc : StrAt s i c)
    (h : wpList P ops Q rest (a.put o.dst (.int .u8 c)) w) : wpList P ops Q (o :: rest) a w := by
  refine wpList_plain hgd fun K hK => ?_
  obtain ⟨hi, hcc⟩ := hc
  have hr := run_index_string (P := P) w t s k i ht
  rw [dif_pos hi, hcc] at hr
  unfold Oper.wp execOp
  simp only [ho, Sem.run_bind, hx, hy, hr, Result.andThen_ok]
  exact hK _ _ h

set_option maxHeartbeats 1000000 in
theorem pd_pos (s : ByteArray) (k : Nat) (P D : Nat → Int) (w : World) (h1 : 0 < s.size) (hk0 : decide (k = 0) = false) (h45 : (((s[0]'h1).toNat : Int) == 45) = false) (h48 : (((s[0]'h1).toNat : Int) == 48) = false)
    (hk : s.size = k) (hk2 : k ≤ 100) (HS : Hid (∀ j : Nat, j < k → StrAt s j (48 + D j))) (HD : Hid (∀ j : Nat, j < k → 0 ≤ D j ∧ D j ≤ 9 ∧ P (j + 1) = P j * 10 + D j)) (HP : Hid (∀ j : Nat, j ≤ k → 0 ≤ P j ∧ P j ≤ 9223372036854775807)) (HP0 : Hid (P 0 = 0)) :
    Calls Tryd.prog 10 #[.string s] w fun e w' => e = .returned (.tuple #[.int .i64 (P k), .bool true]) ∧ Below w.heap.size w w' := by
  go_enter Tryd.func10, Tryd.ntmps10
  go_wp2
  go_loopw [4, 7] (fun i m wr => ∃ j : Nat, j ≤ k ∧ i = .int .i64 (j : Int) ∧ m = .int .u64 (P j) ∧ wr = w) (fun i _ _ => k - (intOf i).toNat)
  case atStart => exact ⟨0, Nat.zero_le _, rfl, by rw [HP0.out], rfl⟩
  case round =>
    obtain ⟨j, hj, rfl, rfl, rfl⟩ := hrel
    by_cases hlt : j < k
    · obtain ⟨d, hd⟩ : ∃ d, d = D j := ⟨_, rfl⟩
      obtain ⟨m, hm⟩ : ∃ m, m = P j := ⟨_, rfl⟩
      have hat : StrAt s j (48 + d) := by rw [hd]; exact HS.out j hlt
      obtain ⟨d1, d2, d3⟩ := HD.out j hlt
      obtain ⟨m1, m2⟩ := HP.out j hj
      obtain ⟨m3, m4⟩ := HP.out (j + 1) hlt
      rw [← hd] at d1 d2 d3
      rw [← hm] at m1 m2 d3
      rw [d3] at m3 m4
      have HM : Hid (P (j + 1) = m * 10 + d) := d3
      have HAT : Hid (StrAt s j (48 + d)) := hat
      rw [← hm]
      clear hm hd d3 hat HS HD HP HP0
      go_wp2_with (refine wpList_index_str rfl 9 _ _ rfl s rfl _ _ rfl Tryd.underlying9 (48 + d) HAT.out ?_)
      go_roundw
      case rel => exact ⟨j + 1, hlt, by go_num, by rw [HM.out]; go_num, trivial⟩
      case measure => simp [intOf]; omega
    · obtain rfl : j = k := by omega
      obtain ⟨m, hm⟩ : ∃ m, m = P j := ⟨_, rfl⟩
      obtain ⟨m1, m2⟩ := HP.out j hj
      rw [← hm] at m1 m2
      have HQ : Hid (P j = m) := hm.symm
      rw [← hm]
      clear hm HS HD HP HP0
      go_wp2
      refine bodyPost_ret (results_tmp2 Tryd.results10 _ _ _) rfl ?_
      exact ⟨by rw [HQ.out]; rfl, Below.refl _ _⟩

set_option maxHeartbeats 1000000 in
theorem pd_neg (s : ByteArray) (k L : Nat) (P D : Nat → Int) (w : World) (h1 : 1 < s.size) (hL : L = k + 1) (h45 : (((s[0]'(by omega)).toNat : Int) == 45) = true) (h48 : (((s[1]'h1).toNat : Int) == 48) = false)
    (hk : s.size = L) (hk2 : k ≤ 100) (HS : Hid (∀ j : Nat, j < k → StrAt s (1 + j) (48 + D j))) (HD : Hid (∀ j : Nat, j < k → 0 ≤ D j ∧ D j ≤ 9 ∧ P (j + 1) = P j * 10 + D j)) (HP : Hid (∀ j : Nat, j ≤ k → 0 ≤ P j ∧ P j ≤ 9223372036854775808)) (HP0 : Hid (P 0 = 0)) :
    Calls Tryd.prog 10 #[.string s] w fun e w' => e = .returned (.tuple #[.int .i64 (-P k), .bool true]) ∧ Below w.heap.size w w' := by
  go_enter Tryd.func10, Tryd.ntmps10
  go_wp2
  go_loopw [4, 7] (fun i m wr => ∃ j : Nat, j ≤ k ∧ i = .int .i64 (1 + (j : Int)) ∧ m = .int .u64 (P j) ∧ wr = w) (fun i _ _ => L - (intOf i).toNat)
  case atStart => exact ⟨0, Nat.zero_le _, rfl, by rw [HP0.out], rfl⟩
  case round =>
    obtain ⟨j, hj, rfl, rfl, rfl⟩ := hrel
    by_cases hlt : j < k
    · obtain ⟨d, hd⟩ : ∃ d, d = D j := ⟨_, rfl⟩
      obtain ⟨m, hm⟩ : ∃ m, m = P j := ⟨_, rfl⟩
      have hat : StrAt s (1 + j) (48 + d) := by rw [hd]; exact HS.out j hlt
      obtain ⟨d1, d2, d3⟩ := HD.out j hlt
      obtain ⟨m1, m2⟩ := HP.out j hj
      obtain ⟨m3, m4⟩ := HP.out (j + 1) hlt
      rw [← hd] at d1 d2 d3
      rw [← hm] at m1 m2 d3
      rw [d3] at m3 m4
      have HM : Hid (P (j + 1) = m * 10 + d) := d3
      have HAT : Hid (StrAt s (1 + j) (48 + d)) := hat
      rw [← hm]
      clear hm hd d3 hat HS HD HP HP0
      go_wp2_with (refine wpList_index_str rfl 9 _ _ rfl s rfl _ _ rfl Tryd.underlying9 (48 + d) HAT.out ?_)
      go_roundw
      case rel => exact ⟨j + 1, hlt, by go_num, by rw [HM.out]; go_num, trivial⟩
      case measure => simp [intOf]; omega
    · obtain rfl : j = k := by omega
      obtain ⟨m, hm⟩ : ∃ m, m = P j := ⟨_, rfl⟩
      obtain ⟨m1, m2⟩ := HP.out j hj
      rw [← hm] at m1 m2
      have HQ : Hid (P j = m) := hm.symm
      rw [← hm]
      clear hm HS HD HP HP0
      by_cases hbig : m = 9223372036854775808
      · subst hbig
        go_wp2
        refine bodyPost_ret (results_tmp2 Tryd.results10 _ _ _) rfl ?_
        exact ⟨by rw [HQ.out]; rfl, Below.refl _ _⟩
      · have hb : (m == 9223372036854775808) = false := by simpa using hbig
        go_wp2
        refine bodyPost_ret (results_tmp2 Tryd.results10 _ _ _) rfl ?_
        exact ⟨by rw [HQ.out]; rfl, Below.refl _ _⟩

theorem byte_of {t : List UInt8} {i : Nat} {b : UInt8} (h : t[i]? = some b) (hi : i < (ByteArray.mk t.toArray).size) : (ByteArray.mk t.toArray)[i]'hi = b := by
  obtain ⟨h', e⟩ := List.getElem?_eq_some_iff.1 h
  rw [← e]
  rfl
theorem strAt_list {t : List UInt8} {j : Nat} {b : UInt8} (h : t[j]? = some b) : StrAt ⟨t.toArray⟩ (j : Int) b.toNat := by
  obtain ⟨h', e⟩ := List.getElem?_eq_some_iff.1 h
  have hs : (ByteArray.mk t.toArray).size = t.length := by simp [ByteArray.size]
  refine ⟨⟨by omega, by omega⟩, ?_⟩
  have := byte_of h (by omega)
  simp only [Int.toNat_natCast, this]

/-- The first j digits of the numeral of u, as a number; and the digit behind it. -/
def pre (u j : Nat) : Nat := u / 10 ^ (Lib.nDigits u - j)
def dig (u j : Nat) : Nat := u / 10 ^ (Lib.nDigits u - 1 - j) % 10
theorem pre_zero (u : Nat) : pre u 0 = 0 := Nat.div_eq_of_lt (by simpa using Lib.lt_pow_nDigits u)
theorem pre_last (u : Nat) : pre u (Lib.nDigits u) = u := by simp [pre]
theorem pre_le (u j : Nat) : pre u j ≤ u := Nat.div_le_self _ _
theorem pre_succ (u j : Nat) (h : j < Lib.nDigits u) : pre u (j + 1) = pre u j * 10 + dig u j := by
  unfold pre dig
  rw [show Lib.nDigits u - j = (Lib.nDigits u - 1 - j) + 1 by omega, show Lib.nDigits u - (j + 1) = Lib.nDigits u - 1 - j by omega, Nat.pow_succ, ← Nat.div_div_eq_div_mul]
  omega
theorem dec_at (u j : Nat) (h : j < Lib.nDigits u) : (Lib.decDigits u)[j]? = some (UInt8.ofNat (48 + dig u j)) := by
  rw [Lib.decDigits_eq]
  simp [h, Lib.dg, dig]
theorem dig_le (u j : Nat) : dig u j ≤ 9 := by unfold dig; omega
theorem dig_byte (u j : Nat) : (UInt8.ofNat (48 + dig u j)).toNat = 48 + dig u j := by
  have := dig_le u j
  rw [UInt8.toNat_ofNat']
  omega
theorem dig_first (u : Nat) (h : 1 ≤ u) : dig u 0 ≠ 0 := by
  have hd : ∀ u : Nat, 1 ≤ u → 10 ^ (Lib.nDigits u - 1) ≤ u := by
    intro u
    induction u using Nat.strongRecOn with
    | _ u ih =>
      intro h
      by_cases hs : u < 10
      · rw [Lib.nDigits_small hs]; simpa using h
      · have := ih (u / 10) (by omega) (by omega)
        have hp := Lib.nDigits_pos (u / 10)
        rw [Lib.nDigits_big hs, show Lib.nDigits (u / 10) + 1 - 1 = (Lib.nDigits (u / 10) - 1) + 1 by omega, Nat.pow_succ]
        omega
  intro e
  have h1 := pre_succ u 0 (Lib.nDigits_pos u)
  rw [pre_zero, e] at h1
  have h2 := hd u h
  have hp : 0 < 10 ^ (Lib.nDigits u - 1) := Nat.pow_pos (by decide)
  have h3 : 1 ≤ u / 10 ^ (Lib.nDigits u - 1) := (Nat.le_div_iff_mul_le hp).2 (by omega)
  unfold pre at h1
  simp only [Nat.zero_add] at h1
  omega

theorem pd_zero (w : World) : Calls Tryd.prog 10 #[.string ⟨#[48]⟩] w fun e w' => e = .returned (.tuple #[.int .i64 0, .bool true]) ∧ Below w.heap.size w w' := by
  go_enter Tryd.func10, Tryd.ntmps10
  go_wp2
  refine bodyPost_ret (results_tmp2 Tryd.results10 _ _ _) rfl ?_
  exact ⟨rfl, Below.refl _ _⟩

/-- parseDecimal reads what FormatInt writes. -/
theorem parse_any (n : Int) (h0 : -9223372036854775808 ≤ n) (h1 : n ≤ 9223372036854775807) (w : World) :
    Calls Tryd.prog 10 #[.string ⟨(Lib.itoa n).toArray⟩] w fun e w' => e = .returned (.tuple #[.int .i64 n, .bool true]) ∧ Below w.heap.size w w' := by
  have hlen := Lib.itoa_length_le n h0 h1
  by_cases hz : n = 0
  · subst hz
    have e0 : Lib.itoa 0 = [48] := by unfold Lib.itoa; rw [if_neg (by decide)]; exact Lib.decDigits_one (by decide)
    rw [e0]
    exact pd_zero w
  rcases Int.lt_or_gt_of_ne hz with hn | hp
  · obtain ⟨u, hu⟩ : ∃ u : Nat, n = -(u : Int) := ⟨n.natAbs, by omega⟩
    subst hu
    have u1 : 1 ≤ u := by omega
    have e0 := Lib.itoa_neg u u1
    rw [e0] at hlen ⊢
    have hl : (45 :: Lib.decDigits u).length = Lib.nDigits u + 1 := by rw [List.length_cons, Lib.decDigits_length]
    have hs : (ByteArray.mk (45 :: Lib.decDigits u).toArray).size = Lib.nDigits u + 1 := by rw [← hl]; simp [ByteArray.size]
    have hk := Lib.nDigits_pos u
    rw [hl] at hlen
    have hlast : ((pre u (Lib.nDigits u) : Nat) : Int) = u := by rw [pre_last]
    have := pd_neg ⟨(45 :: Lib.decDigits u).toArray⟩ (Lib.nDigits u) (Lib.nDigits u + 1) (fun j => (pre u j : Int)) (fun j => (dig u j : Int)) w (by omega) rfl
      (by rw [byte_of (b := 45) rfl]; rfl)
      (by
        rw [byte_of (b := UInt8.ofNat (48 + dig u 0)) (by rw [List.getElem?_cons_succ]; exact dec_at u 0 hk), dig_byte]
        have := dig_first u u1
        simp; omega)
      hs (by omega)
      (fun j hj => by
        have := strAt_list (t := 45 :: Lib.decDigits u) (j := j + 1) (by rw [List.getElem?_cons_succ]; exact dec_at u j hj)
        rw [dig_byte] at this
        have e1 : ((j + 1 : Nat) : Int) = 1 + (j : Int) := by omega
        have e2 : ((48 + dig u j : Nat) : Int) = 48 + (dig u j : Int) := by omega
        rw [e1, e2] at this
        exact this)
      (fun j hj => by
        have := dig_le u j
        have := pre_succ u j hj
        exact ⟨by omega, by omega, by omega⟩)
      (fun j _ => by have := pre_le u j; exact ⟨by omega, by omega⟩)
      (by show ((pre u 0 : Nat) : Int) = 0; rw [pre_zero]; rfl)
    simp only [hlast] at this
    exact this
  · obtain ⟨u, hu⟩ : ∃ u : Nat, n = (u : Int) := ⟨n.natAbs, by omega⟩
    subst hu
    have u1 : 1 ≤ u := by omega
    have e0 := Lib.itoa_nonneg u
    rw [e0] at hlen ⊢
    have hs : (ByteArray.mk (Lib.decDigits u).toArray).size = Lib.nDigits u := by rw [← Lib.decDigits_length]; simp [ByteArray.size]
    have hk := Lib.nDigits_pos u
    rw [Lib.decDigits_length] at hlen
    have hlast : ((pre u (Lib.nDigits u) : Nat) : Int) = u := by rw [pre_last]
    have := pd_pos ⟨(Lib.decDigits u).toArray⟩ (Lib.nDigits u) (fun j => (pre u j : Int)) (fun j => (dig u j : Int)) w (by omega) (by simp; omega)
      (by
        rw [byte_of (b := UInt8.ofNat (48 + dig u 0)) (dec_at u 0 hk), dig_byte]
        simp; omega)
      (by
        rw [byte_of (b := UInt8.ofNat (48 + dig u 0)) (dec_at u 0 hk), dig_byte]
        have := dig_first u u1
        simp; omega)
      hs (by omega)
      (fun j hj => by
        have := strAt_list (t := Lib.decDigits u) (j := j) (dec_at u j hj)
        rw [dig_byte] at this
        have e2 : ((48 + dig u j : Nat) : Int) = 48 + (dig u j : Int) := by omega
        rw [e2] at this
        exact this)
      (fun j hj => by
        have := dig_le u j
        have := pre_succ u j hj
        exact ⟨by omega, by omega, by omega⟩)
      (fun j _ => by have := pre_le u j; exact ⟨by omega, by omega⟩)
      (by show ((pre u 0 : Nat) : Int) = 0; rw [pre_zero]; rfl)
    simp only [hlast] at this
    exact this
end Go.Proofs.Qxb6601187aDoor
