/-
  The walks of ZZMakeStart (6), After (9), String (8).
-/
import Derived.Test.Qxb6601187aDoorFmt
import Derived.WalkKit
import Derived.WalkSpells
import Derived.WalkLawsBesides
import Derived.KernelRfl
namespace Go.Proofs.Qxb6601187aDoor
open Go.RowKit

theorem mk_any (a n : Int) (w : World) :
    Calls Tryd.prog 6 #[.int .i8 a, .int .i64 n] w fun e w' => e = .returned (.agg #[.int .i8 a, .int .i64 n]) ∧ Below w.heap.size w w' := by
  go_enter Tryd.func6, Tryd.ntmps6
  go_wp2
  exact bodyPost_ret (v := .agg #[.int .i8 a, .int .i64 n]) (by simp [results, Tryd.results6, go_sem]) rfl ⟨rfl, (Below.refl _ _).alloc (Nat.le_refl _) _⟩

def aft (a n p h : Int) : Int := if a = 1 then p else if a = 2 then h else n
theorem aft_any (a n p h : Int) (w : World) :
    Calls Tryd.prog 9 #[.agg #[.int .i8 a, .int .i64 n], .int .i64 p, .int .i64 h] w fun e w' => e = .returned (.int .i64 (aft a n p h)) ∧ Below w.heap.size w w' := by
  by_cases h1 : a = 1
  · subst h1
    go_enter Tryd.func9, Tryd.ntmps9
    go_wp2
    go_ret
    exact ⟨rfl, (Below.refl _ _).alloc (Nat.le_refl _) _⟩
  have b1 : (a == 1) = false := by simpa using h1
  by_cases h2 : a = 2
  · subst h2
    go_enter Tryd.func9, Tryd.ntmps9
    go_wp2
    go_ret
    exact ⟨rfl, (Below.refl _ _).alloc (Nat.le_refl _) _⟩
  have b2 : (a == 2) = false := by simpa using h2
  have HA : Hid (aft a n p h = n) := (by unfold aft; rw [if_neg h1, if_neg h2] : _ = n)
  go_enter Tryd.func9, Tryd.ntmps9
  go_wp2
  go_ret
  exact ⟨by rw [HA.out]; rfl, (Below.refl _ _).alloc (Nat.le_refl _) _⟩

theorem tab_below {n : String} {g : Nat} {k : IntKind} {zs : List Int} {w w' : World} (hg : Tryd.prog.globalNamed n = some g) (h : Lib.TabIs Tryd.prog w n k zs) (hb : Below w.heap.size w w') : Lib.TabIs Tryd.prog w' n k zs := by
  unfold Lib.TabIs World.var? at h ⊢
  rw [hg] at h ⊢
  simp only [Option.bind_some] at h ⊢
  have hlt : g < w.heap.size := by
    rcases Nat.lt_or_ge g w.heap.size with h' | h'
    · exact h'
    · rw [Array.getElem?_eq_none h'] at h; simp at h
  rw [hb.block g hlt]
  exact h

/-- The text of a Start. -/
def txt (a n : Int) : List UInt8 := if a = 1 then [111, 108, 100, 101, 115, 116] else if a = 2 then [104, 101, 97, 100] else if a = 3 then Lib.itoa n else []

theorem str_any (a n : Int) (h0 : -9223372036854775808 ≤ n) (h1 : n ≤ 9223372036854775807) (w : World) (htab : Lib.TabIs Tryd.prog w powName .u64 Lib.pow10Tab) :
    Calls Tryd.prog 8 #[.agg #[.int .i8 a, .int .i64 n]] w fun e w' => e = .returned (.string ⟨(txt a n).toArray⟩) ∧ Below w.heap.size w w' := by
  by_cases e1 : a = 1
  · subst e1
    go_enter Tryd.func8, Tryd.ntmps8
    go_wp2
    go_ret
    exact ⟨rfl, (Below.refl _ _).alloc (Nat.le_refl _) _⟩
  have b1 : (a == 1) = false := by simpa using e1
  by_cases e2 : a = 2
  · subst e2
    go_enter Tryd.func8, Tryd.ntmps8
    go_wp2
    go_ret
    exact ⟨rfl, (Below.refl _ _).alloc (Nat.le_refl _) _⟩
  have b2 : (a == 2) = false := by simpa using e2
  by_cases e3 : a = 3
  · subst e3
    have HF : Hid (∀ o, Calls Tryd.prog 11 #[.int .i64 n, .int .i64 10] (w.alloc o) fun e w' => e = .returned (.string ⟨(Lib.itoa n).toArray⟩) ∧ Below (w.alloc o).heap.size (w.alloc o) w') := fun o => fmt_any n h0 h1 _ (Lib.tabIs_alloc htab o)
    have HE : Hid (txt 3 n = Lib.itoa n) := (rfl : txt 3 n = Lib.itoa n)
    generalize Lib.itoa n = t at HF HE
    clear h0 h1 htab
    go_enter Tryd.func8, Tryd.ntmps8
    go_wp2_with (go_at_call 11; refine (HF.out _).mono ?_; rintro e w2 ⟨rfl, hb2⟩)
    have B0 : Below w.heap.size w (w.alloc (.cells #[.int .i8 3, .int .i64 n] 25)) := (Below.refl _ _).alloc (Nat.le_refl _) _
    have HB : Hid (Below w.heap.size w w2) := B0.trans (hb2.mono B0.size)
    go_ret
    exact ⟨by rw [HE.out]; rfl, HB.out⟩
  have b3 : (a == 3) = false := by simpa using e3
  have HE : Hid (txt a n = []) := (by unfold txt; rw [if_neg e1, if_neg e2, if_neg e3] : txt a n = [])
  clear h0 h1 htab
  go_enter Tryd.func8, Tryd.ntmps8
  go_wp2
  go_ret
  exact ⟨by rw [HE.out]; rfl, (Below.refl _ _).alloc (Nat.le_refl _) _⟩
end Go.Proofs.Qxb6601187aDoor
