/-
  The walk of FnStartAfterIgnoresStreamUnlessOldestOrHead (4).
-/
import Derived.Test.Qxb6601187aDoorStart
namespace Go.Proofs.Qxb6601187aDoor
open Go.RowKit

theorem later {W w2 : World} {a : Addr} {v : Value} (hb : Below W.heap.size W w2) (h : W.cell? a = some v) : w2.cell? a = some v :=
  (hb.cell (World.block_lt_of_cell? _ _ h)).trans h
theorem box_cells (w1 : World) (u v : Value) : (w1.alloc (.cells #[u, v] 25)).cell? ⟨w1.heap.size, 0, none⟩ = some u ∧ (w1.alloc (.cells #[u, v] 25)).cell? ⟨w1.heap.size, 1, none⟩ = some v := by
  simp [go_sem]
theorem hide {p : Prop} (h : p) : Hid p := h
theorem on {w v u : World} (h : Below w.heap.size w v) (k : Below v.heap.size v u) : Below w.heap.size w u := h.trans (k.mono h.size)

/-- Its text is 'oldest'. -/
theorem law4_old (a n p1 q1 p2 q2 : Int) (w : World)
    (HS : Hid (∀ w' : World, Below w.heap.size w w' → Calls Tryd.prog 8 #[.agg #[.int .i8 a, .int .i64 n]] w' fun e w'' => e = .returned (.string ⟨#[111, 108, 100, 101, 115, 116]⟩) ∧ Below w'.heap.size w' w''))
    (HA : Hid (∀ (p q : Int) (w : World), Calls Tryd.prog 9 #[.agg #[.int .i8 a, .int .i64 n], .int .i64 p, .int .i64 q] w fun e w' => e = .returned (.int .i64 p) ∧ Below w.heap.size w w')) :
    Calls Tryd.prog 4 #[.int .i8 a, .int .i64 n, .int .i64 p1, .int .i64 q1, .int .i64 p2, .int .i64 q2] w fun e w' => e = .returned (.bool true) ∧ Below w.heap.size w w' := by
  go_enter Tryd.func4, Tryd.ntmps4
  go_wp2_with (first | (go_at_call 6; refine (mk_any _ _ _).mono ?_; rintro e w1 ⟨rfl, hb1⟩) | (go_at_call 8; have HB := hide (hb1.alloc hb1.size (.cells #[.int .i8 a, .int .i64 n] 25)); have cc := box_cells w1 (.int .i8 a) (.int .i64 n); refine (HS.out _ HB.out).mono ?_; rintro e w2 ⟨rfl, hb2⟩; replace HB := hide (on HB.out hb2); have d0 := later hb2 cc.1; have d1 := later hb2 cc.2; clear cc hb1 hb2) | (go_at_call 9; refine (HA.out _ _ _).mono ?_; rintro e w3 ⟨rfl, hb3⟩; replace HB := hide (on HB.out hb3); replace d0 := later hb3 d0; replace d1 := later hb3 d1; clear hb3))
  go_ret
  exact ⟨rfl, HB.out⟩

/-- Its text is 'head'. -/
theorem law4_head (a n p1 q1 p2 q2 : Int) (w : World)
    (HS : Hid (∀ w' : World, Below w.heap.size w w' → Calls Tryd.prog 8 #[.agg #[.int .i8 a, .int .i64 n]] w' fun e w'' => e = .returned (.string ⟨#[104, 101, 97, 100]⟩) ∧ Below w'.heap.size w' w''))
    (HA : Hid (∀ (p q : Int) (w : World), Calls Tryd.prog 9 #[.agg #[.int .i8 a, .int .i64 n], .int .i64 p, .int .i64 q] w fun e w' => e = .returned (.int .i64 q) ∧ Below w.heap.size w w')) :
    Calls Tryd.prog 4 #[.int .i8 a, .int .i64 n, .int .i64 p1, .int .i64 q1, .int .i64 p2, .int .i64 q2] w fun e w' => e = .returned (.bool true) ∧ Below w.heap.size w w' := by
  go_enter Tryd.func4, Tryd.ntmps4
  go_wp2_with (first | (go_at_call 6; refine (mk_any _ _ _).mono ?_; rintro e w1 ⟨rfl, hb1⟩) | (go_at_call 8; have HB := hide (hb1.alloc hb1.size (.cells #[.int .i8 a, .int .i64 n] 25)); have cc := box_cells w1 (.int .i8 a) (.int .i64 n); refine (HS.out _ HB.out).mono ?_; rintro e w2 ⟨rfl, hb2⟩; replace HB := hide (on HB.out hb2); have d0 := later hb2 cc.1; have d1 := later hb2 cc.2; clear cc hb1 hb2) | (go_at_call 9; refine (HA.out _ _ _).mono ?_; rintro e w3 ⟨rfl, hb3⟩; replace HB := hide (on HB.out hb3); replace d0 := later hb3 d0; replace d1 := later hb3 d1; clear hb3))
  go_ret
  exact ⟨rfl, HB.out⟩

/-- Its text is neither, and its number is the same at every stream. -/
theorem law4_rest (a n p1 q1 p2 q2 : Int) (t : List UInt8) (x : Int) (w : World)
    (HS : Hid (∀ w' : World, Below w.heap.size w w' → Calls Tryd.prog 8 #[.agg #[.int .i8 a, .int .i64 n]] w' fun e w'' => e = .returned (.string ⟨t.toArray⟩) ∧ Below w'.heap.size w' w''))
    (HA : Hid (∀ (p q : Int) (w : World), Calls Tryd.prog 9 #[.agg #[.int .i8 a, .int .i64 n], .int .i64 p, .int .i64 q] w fun e w' => e = .returned (.int .i64 x) ∧ Below w.heap.size w w'))
    (ht1 : (t == [111, 108, 100, 101, 115, 116]) = false) (ht2 : (t == [104, 101, 97, 100]) = false) :
    Calls Tryd.prog 4 #[.int .i8 a, .int .i64 n, .int .i64 p1, .int .i64 q1, .int .i64 p2, .int .i64 q2] w fun e w' => e = .returned (.bool true) ∧ Below w.heap.size w w' := by
  go_enter Tryd.func4, Tryd.ntmps4
  go_wp2_with (first | (go_at_call 6; refine (mk_any _ _ _).mono ?_; rintro e w1 ⟨rfl, hb1⟩) | (go_at_call 8; have HB := hide (hb1.alloc hb1.size (.cells #[.int .i8 a, .int .i64 n] 25)); have cc := box_cells w1 (.int .i8 a) (.int .i64 n); refine (HS.out _ HB.out).mono ?_; rintro e w2 ⟨rfl, hb2⟩; replace HB := hide (on HB.out hb2); have d0 := later hb2 cc.1; have d1 := later hb2 cc.2; clear cc hb1 hb2) | (go_at_call 9; refine (HA.out _ _ _).mono ?_; rintro e w3 ⟨rfl, hb3⟩; replace HB := hide (on HB.out hb3); replace d0 := later hb3 d0; replace d1 := later hb3 d1; clear hb3))
  go_ret
  exact ⟨rfl, HB.out⟩

theorem dec_head (u : Nat) : ∃ c r, Lib.decDigits u = c :: r ∧ 48 ≤ c.toNat ∧ c.toNat ≤ 57 := by
  induction u using Nat.strongRecOn with
  | _ u ih =>
    by_cases h : u < 10
    · rw [Lib.decDigits, dif_pos h]
      refine ⟨_, _, rfl, ?_, ?_⟩ <;> rw [UInt8.toNat_ofNat'] <;> omega
    · obtain ⟨c, r, e, h1, h2⟩ := ih (u / 10) (by omega)
      rw [Lib.decDigits, dif_neg h, e]
      exact ⟨c, _, rfl, h1, h2⟩
theorem itoa_head (n : Int) : ∃ c r, Lib.itoa n = c :: r ∧ c.toNat ≤ 57 := by
  unfold Lib.itoa
  split
  · exact ⟨45, _, rfl, by decide⟩
  · obtain ⟨c, r, e, _, h2⟩ := dec_head n.toNat
    exact ⟨c, r, e, h2⟩
theorem itoa_not (n : Int) (d : UInt8) (l : List UInt8) (hd : 57 < d.toNat) : (Lib.itoa n == d :: l) = false := by
  obtain ⟨c, r, e, h⟩ := itoa_head n
  rw [e]
  have : c ≠ d := by intro q; subst q; omega
  simp [this]

theorem law4 (a n p1 q1 p2 q2 : Int) (h0 : -9223372036854775808 ≤ n) (h1 : n ≤ 9223372036854775807) (w : World) (g : Nat) (hg : Tryd.prog.globalNamed powName = some g) (htab : Lib.TabIs Tryd.prog w powName .u64 Lib.pow10Tab) :
    Calls Tryd.prog 4 #[.int .i8 a, .int .i64 n, .int .i64 p1, .int .i64 q1, .int .i64 p2, .int .i64 q2] w fun e w' => e = .returned (.bool true) ∧ Below w.heap.size w w' := by
  have S : ∀ w' : World, Below w.heap.size w w' → Calls Tryd.prog 8 #[.agg #[.int .i8 a, .int .i64 n]] w' fun e w'' => e = .returned (.string ⟨(txt a n).toArray⟩) ∧ Below w'.heap.size w' w'' := fun w' hb => str_any a n h0 h1 w' (tab_below hg htab hb)
  by_cases e1 : a = 1
  · subst e1
    exact law4_old 1 n p1 q1 p2 q2 w S fun p q w => aft_any 1 n p q w
  by_cases e2 : a = 2
  · subst e2
    exact law4_head 2 n p1 q1 p2 q2 w S fun p q w => aft_any 2 n p q w
  have A : ∀ (p q : Int) (w : World), Calls Tryd.prog 9 #[.agg #[.int .i8 a, .int .i64 n], .int .i64 p, .int .i64 q] w fun e w' => e = .returned (.int .i64 n) ∧ Below w.heap.size w w' := by
    intro p q w
    have := aft_any a n p q w
    unfold aft at this
    rw [if_neg e1, if_neg e2] at this
    exact this
  by_cases e3 : a = 3
  · subst e3
    exact law4_rest 3 n p1 q1 p2 q2 (Lib.itoa n) n w S A (itoa_not n _ _ (by decide)) (itoa_not n _ _ (by decide))
  · have ht : txt a n = [] := by unfold txt; rw [if_neg e1, if_neg e2, if_neg e3]
    rw [ht] at S
    exact law4_rest a n p1 q1 p2 q2 [] n w S A rfl rfl
end Go.Proofs.Qxb6601187aDoor
