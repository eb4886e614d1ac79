/-
  The walk of FnStartAfterAgreesWithText (5).
-/
import Derived.Test.Qxb6601187aDoorParse
namespace Go.Proofs.Qxb6601187aDoor
open Go.RowKit

theorem law5_low (a n p q : Int) (w : World) (h : a < 0) : Calls Tryd.prog 5 #[.int .i8 a, .int .i64 n, .int .i64 p, .int .i64 q] w fun e w' => e = .returned (.bool true) ∧ Below w.heap.size w w' := by
  go_enter Tryd.func5, Tryd.ntmps5
  go_wp2
  go_ret
  exact ⟨rfl, Below.refl _ _⟩
theorem law5_high (a n p q : Int) (w : World) (h : 3 < a) : Calls Tryd.prog 5 #[.int .i8 a, .int .i64 n, .int .i64 p, .int .i64 q] w fun e w' => e = .returned (.bool true) ∧ Below w.heap.size w w' := by
  go_enter Tryd.func5, Tryd.ntmps5
  go_wp2
  go_ret
  exact ⟨rfl, Below.refl _ _⟩
theorem law5_none (n p q : Int) (w : World) (h : (n == 0) = false) : Calls Tryd.prog 5 #[.int .i8 0, .int .i64 n, .int .i64 p, .int .i64 q] w fun e w' => e = .returned (.bool true) ∧ Below w.heap.size w w' := by
  go_enter Tryd.func5, Tryd.ntmps5
  go_wp2
  go_ret
  exact ⟨rfl, Below.refl _ _⟩

theorem law5_zero (p q : Int) (w : World)
    (HS : Hid (∀ w' : World, Below w.heap.size w w' → Calls Tryd.prog 8 #[.agg #[.int .i8 0, .int .i64 0]] w' fun e w'' => e = .returned (.string ⟨#[]⟩) ∧ Below w'.heap.size w' w''))
    (HA : Hid (∀ w : World, Calls Tryd.prog 9 #[.agg #[.int .i8 0, .int .i64 0], .int .i64 p, .int .i64 q] w fun e w' => e = .returned (.int .i64 0) ∧ Below w.heap.size w w')) :
    Calls Tryd.prog 5 #[.int .i8 0, .int .i64 0, .int .i64 p, .int .i64 q] w fun e w' => e = .returned (.bool true) ∧ Below w.heap.size w w' := by
  go_enter Tryd.func5, Tryd.ntmps5
  go_wp2_with (first | (go_at_call 6; refine (mk_any _ _ _).mono ?_; rintro e w1 ⟨rfl, hb1⟩) | (go_at_call 8; have HB := hide (hb1.alloc hb1.size (.cells #[.int .i8 0, .int .i64 0] 25)); have cc := box_cells w1 (.int .i8 0) (.int .i64 0); refine (HS.out _ HB.out).mono ?_; rintro e w2 ⟨rfl, hb2⟩; replace HB := hide (on HB.out hb2); have d0 := later hb2 cc.1; have d1 := later hb2 cc.2; clear cc hb1 hb2) | (go_at_call 9; refine (HA.out _).mono ?_; rintro e w3 ⟨rfl, hb3⟩; replace HB := hide (on HB.out hb3); clear hb3 d0 d1))
  go_ret
  exact ⟨rfl, HB.out⟩

theorem law5_old (n p q : Int) (w : World)
    (HS : Hid (∀ w' : World, Below w.heap.size w w' → Calls Tryd.prog 8 #[.agg #[.int .i8 1, .int .i64 n]] w' fun e w'' => e = .returned (.string ⟨#[111, 108, 100, 101, 115, 116]⟩) ∧ Below w'.heap.size w' w''))
    (HA : Hid (∀ w : World, Calls Tryd.prog 9 #[.agg #[.int .i8 1, .int .i64 n], .int .i64 p, .int .i64 q] w fun e w' => e = .returned (.int .i64 p) ∧ Below w.heap.size w w')) :
    Calls Tryd.prog 5 #[.int .i8 1, .int .i64 n, .int .i64 p, .int .i64 q] w fun e w' => e = .returned (.bool true) ∧ Below w.heap.size w w' := by
  go_enter Tryd.func5, Tryd.ntmps5
  go_wp2_with (first | (go_at_call 6; refine (mk_any _ _ _).mono ?_; rintro e w1 ⟨rfl, hb1⟩) | (go_at_call 8; have HB := hide (hb1.alloc hb1.size (.cells #[.int .i8 1, .int .i64 n] 25)); have cc := box_cells w1 (.int .i8 1) (.int .i64 n); refine (HS.out _ HB.out).mono ?_; rintro e w2 ⟨rfl, hb2⟩; replace HB := hide (on HB.out hb2); have d0 := later hb2 cc.1; have d1 := later hb2 cc.2; clear cc hb1 hb2) | (go_at_call 9; refine (HA.out _).mono ?_; rintro e w3 ⟨rfl, hb3⟩; replace HB := hide (on HB.out hb3); clear hb3 d0 d1))
  go_ret
  exact ⟨rfl, HB.out⟩

theorem law5_head (n p q : Int) (w : World)
    (HS : Hid (∀ w' : World, Below w.heap.size w w' → Calls Tryd.prog 8 #[.agg #[.int .i8 2, .int .i64 n]] w' fun e w'' => e = .returned (.string ⟨#[104, 101, 97, 100]⟩) ∧ Below w'.heap.size w' w''))
    (HA : Hid (∀ w : World, Calls Tryd.prog 9 #[.agg #[.int .i8 2, .int .i64 n], .int .i64 p, .int .i64 q] w fun e w' => e = .returned (.int .i64 q) ∧ Below w.heap.size w w')) :
    Calls Tryd.prog 5 #[.int .i8 2, .int .i64 n, .int .i64 p, .int .i64 q] w fun e w' => e = .returned (.bool true) ∧ Below w.heap.size w w' := by
  go_enter Tryd.func5, Tryd.ntmps5
  go_wp2_with (first | (go_at_call 6; refine (mk_any _ _ _).mono ?_; rintro e w1 ⟨rfl, hb1⟩) | (go_at_call 8; have HB := hide (hb1.alloc hb1.size (.cells #[.int .i8 2, .int .i64 n] 25)); have cc := box_cells w1 (.int .i8 2) (.int .i64 n); refine (HS.out _ HB.out).mono ?_; rintro e w2 ⟨rfl, hb2⟩; replace HB := hide (on HB.out hb2); have d0 := later hb2 cc.1; have d1 := later hb2 cc.2; clear cc hb1 hb2) | (go_at_call 9; refine (HA.out _).mono ?_; rintro e w3 ⟨rfl, hb3⟩; replace HB := hide (on HB.out hb3); clear hb3 d0 d1))
  go_ret
  exact ⟨rfl, HB.out⟩

theorem law5_num (n p q : Int) (t : List UInt8) (w : World)
    (HS : Hid (∀ w' : World, Below w.heap.size w w' → Calls Tryd.prog 8 #[.agg #[.int .i8 3, .int .i64 n]] w' fun e w'' => e = .returned (.string ⟨t.toArray⟩) ∧ Below w'.heap.size w' w''))
    (HA : Hid (∀ w : World, Calls Tryd.prog 9 #[.agg #[.int .i8 3, .int .i64 n], .int .i64 p, .int .i64 q] w fun e w' => e = .returned (.int .i64 n) ∧ Below w.heap.size w w'))
    (HP : Hid (∀ w : World, Calls Tryd.prog 10 #[.string ⟨t.toArray⟩] w fun e w' => e = .returned (.tuple #[.int .i64 n, .bool true]) ∧ Below w.heap.size w w'))
    (ht1 : (t == [111, 108, 100, 101, 115, 116]) = false) (ht2 : (t == [104, 101, 97, 100]) = false) (ht3 : t.isEmpty = false) :
    Calls Tryd.prog 5 #[.int .i8 3, .int .i64 n, .int .i64 p, .int .i64 q] w fun e w' => e = .returned (.bool true) ∧ Below w.heap.size w w' := by
  go_enter Tryd.func5, Tryd.ntmps5
  go_wp2_with (first | (go_at_call 6; refine (mk_any _ _ _).mono ?_; rintro e w1 ⟨rfl, hb1⟩) | (go_at_call 8; have HB := hide (hb1.alloc hb1.size (.cells #[.int .i8 3, .int .i64 n] 25)); have cc := box_cells w1 (.int .i8 3) (.int .i64 n); refine (HS.out _ HB.out).mono ?_; rintro e w2 ⟨rfl, hb2⟩; replace HB := hide (on HB.out hb2); have d0 := later hb2 cc.1; have d1 := later hb2 cc.2; clear cc hb1 hb2) | (go_at_call 9; refine (HA.out _).mono ?_; rintro e w3 ⟨rfl, hb3⟩; replace HB := hide (on HB.out hb3); clear hb3 d0 d1) | (go_at_call 10; refine (HP.out _).mono ?_; rintro e w4 ⟨rfl, hb4⟩; replace HB := hide (on HB.out hb4); clear hb4))
  go_ret
  exact ⟨rfl, HB.out⟩

theorem law5 (a n p q : Int) (h0 : -9223372036854775808 ≤ n) (h1 : n ≤ 9223372036854775807) (w : World) (g : Nat) (hg : Tryd.prog.globalNamed powName = some g) (htab : Lib.TabIs Tryd.prog w powName .u64 Lib.pow10Tab) :
    Calls Tryd.prog 5 #[.int .i8 a, .int .i64 n, .int .i64 p, .int .i64 q] w fun e w' => e = .returned (.bool true) ∧ Below w.heap.size w w' := by
  have S : ∀ w' : World, Below w.heap.size w w' → Calls Tryd.prog 8 #[.agg #[.int .i8 a, .int .i64 n]] w' fun e w'' => e = .returned (.string ⟨(txt a n).toArray⟩) ∧ Below w'.heap.size w' w'' := fun w' hb => str_any a n h0 h1 w' (tab_below hg htab hb)
  by_cases low : a < 0
  · exact law5_low a n p q w low
  by_cases high : 3 < a
  · exact law5_high a n p q w high
  rcases (by omega : a = 0 ∨ a = 1 ∨ a = 2 ∨ a = 3) with rfl | rfl | rfl | rfl
  · by_cases hz : n = 0
    · subst hz
      exact law5_zero p q w S fun w => aft_any 0 0 p q w
    · exact law5_none n p q w (by simpa using hz)
  · exact law5_old n p q w S fun w => aft_any 1 n p q w
  · exact law5_head n p q w S fun w => aft_any 2 n p q w
  · refine law5_num n p q (Lib.itoa n) w S (fun w => aft_any 3 n p q w) (parse_any n h0 h1) (itoa_not n _ _ (by decide)) (itoa_not n _ _ (by decide)) ?_
    obtain ⟨c, r, e, _⟩ := itoa_head n
    rw [e]; rfl
end Go.Proofs.Qxb6601187aDoor
