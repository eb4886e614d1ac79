/-
  The walk of newDefaultCodeTable (29): seven loops, each call of put by its contract.
-/
import Derived.Test.Qxb6000601aPut
namespace Go.Proofs.Qxb6000601a
open Go.RowKit

theorem below_row {B g : Nat} {a w : World} (h : Below B a w) (hg : B ≤ g) (cs : Array Value) : Below B a (w.setRow g cs) :=
  h.trans ⟨rfl, rfl, rfl, by simp, fun k hk => setRow_other _ _ _ _ (by omega)⟩

theorem laid_start (w : World) : Laid w (w.heap.size + 1) (w.heap.size + 1 + 1) (((w.alloc (.cells (tab 0) 52)).alloc (.cells (tab 0) 52)).alloc (.cells #[.int .i64 0] 3)) 0 := by
  have h1 : (w.alloc (.cells (tab 0) 52)).heap.size = w.heap.size + 1 := by simp
  have h2 : ((w.alloc (.cells (tab 0) 52)).alloc (.cells (tab 0) 52)).heap.size = w.heap.size + 1 + 1 := by simp
  refine ⟨by omega, by omega, ?_, ?_, ?_, ?_⟩
  · rw [Below.heap_alloc _ _ _ (by omega), ← h1, heap_alloc_new]
  · rw [← h2, heap_alloc_new]; rfl
  · rw [Below.heap_alloc _ _ _ (by omega), Below.heap_alloc _ _ _ (by omega), heap_alloc_new]
  · exact (((Below.refl _ _).alloc (Nat.le_refl _) _).alloc (by omega) _).alloc (by omega) _

set_option maxHeartbeats 2000000 in
theorem new_any (w : World) :
    Calls Try.prog 29 #[] w fun e w' => e = .returned (.agg (tab 256)) ∧ Below w.heap.size w w' := by
  have hL0 := laid_start w
  go_enter Try.func29, Try.ntmps29
  go_wp2_with (first | (refine wpList_alloc_named rfl 52 rfl (tab 0) alloc52 ?_))
  refine (put_any w _ _ 0 2 0 0 0 0 0 _ hL0 (by omega) put_0).mono ?_
  rintro e w1 ⟨rfl, hL1⟩
  clear hL0
  go_wp2_with fail
  refine (put_any w _ _ (0 + 1) 1 0 0 0 0 0 _ hL1 (by omega) put_0').mono ?_
  rintro e w2 ⟨rfl, hL2⟩
  clear hL1
  go_wp2_with fail
  go_loopw [4] (fun i wr => ∃ s : Nat, 1 ≤ s ∧ s ≤ 18 ∧ i = .int .u8 s ∧ Laid w (w.heap.size + 1) (w.heap.size + 1 + 1) wr (s + 1)) (fun i _ => 18 - (intOf i).toNat)
  case atStart => exact ⟨1, by omega, by omega, rfl, hL2⟩
  case round =>
    obtain ⟨s, hs1, hs2, rfl, hL3⟩ := hrel
    by_cases hlt : s ≤ 17
    · go_wp2_with (go_at_call 32; refine (put_any w _ _ (s + 1) 1 s 0 0 0 0 _ hL3 (by omega) (put_1 hs1 hlt)).mono ?_; rintro e w3 ⟨rfl, hL4⟩)
      go_roundw
      case rel => exact ⟨s + 1, by omega, by omega, by go_num, hL4⟩
      case measure => simp [intOf]; omega
    · replace hL3 : Laid w (w.heap.size + 1) (w.heap.size + 1 + 1) wr 19 := by rw [show s + 1 = 19 by omega] at hL3; exact hL3
      go_wp2_with fail
      go_loopw [5] (fun i wr => ∃ m : Nat, m ≤ 9 ∧ i = .int .u8 m ∧ Laid w (w.heap.size + 1) (w.heap.size + 1 + 1) wr (19 + 16 * m)) (fun i _ => 9 - (intOf i).toNat)
      case atStart => exact ⟨0, by omega, rfl, hL3⟩
      case round =>
        clear hL3 hL2
        obtain ⟨m, hm, rfl, hL5⟩ := hrel
        by_cases hlt : m < 9
        · go_wp2_with fail
          refine (put_any w _ _ (19 + 16 * m) 3 0 m 0 0 0 _ hL5 (by omega) (put_2 (by omega))).mono ?_
          rintro e w3 ⟨rfl, hL6⟩
          clear hL5
          go_wp2_with fail
          go_loopw [6] (fun i wr => ∃ s : Nat, 4 ≤ s ∧ s ≤ 19 ∧ i = .int .u8 s ∧ Laid w (w.heap.size + 1) (w.heap.size + 1 + 1) wr (16 + 16 * m + s)) (fun i _ => 19 - (intOf i).toNat)
          case atStart => exact ⟨4, by omega, by omega, rfl, by rw [show 16 + 16 * m + 4 = 19 + 16 * m + 1 by omega]; exact hL6⟩
          case round =>
            clear hL6
            obtain ⟨s, hs1, hs2, rfl, hL7⟩ := hrel
            by_cases hsl : s ≤ 18
            · go_wp2_with (go_at_call 32; refine (put_any w _ _ (16 + 16 * m + s) 3 s m 0 0 0 _ hL7 (by omega) (put_3 (by omega) hs1 hsl)).mono ?_; rintro e w4 ⟨rfl, hL8⟩)
              go_roundw
              case rel => exact ⟨s + 1, by omega, by omega, by go_num, hL8⟩
              case measure => simp [intOf]; omega
            · replace hL7 : Laid w (w.heap.size + 1) (w.heap.size + 1 + 1) wr (19 + 16 * (m + 1)) := by rw [show 16 + 16 * m + s = 19 + 16 * (m + 1) by omega] at hL7; exact hL7
              go_wp2_with fail
              go_roundw
              case rel => exact ⟨m + 1, by omega, by go_num, hL7⟩
              case measure => simp [intOf]; omega
        · replace hL5 : Laid w (w.heap.size + 1) (w.heap.size + 1 + 1) wr 163 := by rw [show 19 + 16 * m = 163 by omega] at hL5; exact hL5
          go_wp2_with fail
          go_loopw [7] (fun i wr => ∃ m : Nat, m ≤ 9 ∧ i = .int .u8 m ∧ Laid w (w.heap.size + 1) (w.heap.size + 1 + 1) wr (if m ≤ 6 then 163 + 12 * m else 211 + 4 * m)) (fun i _ => 9 - (intOf i).toNat)
          case atStart => exact ⟨0, by omega, rfl, hL5⟩
          case round =>
            clear hL5
            obtain ⟨m, hm, rfl, hL9⟩ := hrel
            by_cases hlt : m < 9
            · have d9 : decide ((m : Int) < 9) = true := decide_eq_true (by omega)
              by_cases h6 : m < 6
              · have d6 : decide ((6 : Int) ≤ (m : Int)) = false := decide_eq_false (by omega)
                replace hL9 : Laid w (w.heap.size + 1) (w.heap.size + 1 + 1) wr (163 + 12 * m) := by rw [if_pos (by omega)] at hL9; exact hL9
                go_wp2_with fail
                go_loopw [9] (fun i wr => ∃ a : Nat, 1 ≤ a ∧ a ≤ 5 ∧ i = .int .u8 a ∧ Laid w (w.heap.size + 1) (w.heap.size + 1 + 1) wr (160 + 12 * m + 3 * a)) (fun i _ => 5 - (intOf i).toNat)
                case atStart => exact ⟨1, by omega, by omega, rfl, by rw [show 160 + 12 * m + 3 * 1 = 163 + 12 * m by omega]; exact hL9⟩
                case round =>
                  clear hL9
                  obtain ⟨a, ha1, ha2, rfl, hL10⟩ := hrel
                  by_cases hal : a ≤ 4
                  · have d4 : decide ((a : Int) ≤ 4) = true := decide_eq_true (by omega)
                    go_wp2_with fail
                    go_loopw [10] (fun i wr => ∃ s : Nat, 4 ≤ s ∧ s ≤ 7 ∧ i = .int .u8 s ∧ Laid w (w.heap.size + 1) (w.heap.size + 1 + 1) wr (156 + 12 * m + 3 * a + s)) (fun i _ => 7 - (intOf i).toNat)
                    case atStart => exact ⟨4, by omega, by omega, rfl, by rw [show 156 + 12 * m + 3 * a + 4 = 160 + 12 * m + 3 * a by omega]; exact hL10⟩
                    case round =>
                      clear hL10
                      obtain ⟨s, hs1, hs2, rfl, hL11⟩ := hrel
                      by_cases hsl : s ≤ 6
                      · go_wp2_with (go_at_call 32; refine (put_any w _ _ (156 + 12 * m + 3 * a + s) 1 a 0 3 s m _ hL11 (by omega) (put_4 (by omega) ha1 hal hs1 hsl)).mono ?_; rintro e w4 ⟨rfl, hL12⟩)
                        go_roundw
                        case rel => exact ⟨s + 1, by omega, by omega, by go_num, hL12⟩
                        case measure => simp [intOf]; omega
                      · replace hL11 : Laid w (w.heap.size + 1) (w.heap.size + 1 + 1) wr (160 + 12 * m + 3 * (a + 1)) := by rw [show 156 + 12 * m + 3 * a + s = 160 + 12 * m + 3 * (a + 1) by omega] at hL11; exact hL11
                        go_wp2_with fail
                        go_roundw
                        case rel => exact ⟨a + 1, by omega, by omega, by go_num, hL11⟩
                        case measure => simp [intOf]; omega
                  · replace hL10 : Laid w (w.heap.size + 1) (w.heap.size + 1 + 1) wr (if m + 1 ≤ 6 then 163 + 12 * (m + 1) else 211 + 4 * (m + 1)) := by rw [if_pos (by omega)]; rw [show 160 + 12 * m + 3 * a = 163 + 12 * (m + 1) by omega] at hL10; exact hL10
                    go_wp2_with fail
                    go_roundw
                    case rel => exact ⟨m + 1, by omega, by go_num, hL10⟩
                    case measure => simp [intOf]; omega
              · have d6 : decide ((6 : Int) ≤ (m : Int)) = true := decide_eq_true (by omega)
                replace hL9 : Laid w (w.heap.size + 1) (w.heap.size + 1 + 1) wr (211 + 4 * m) := by
                  by_cases h7 : m ≤ 6
                  · rw [if_pos h7, show 163 + 12 * m = 211 + 4 * m by omega] at hL9; exact hL9
                  · rw [if_neg h7] at hL9; exact hL9
                go_wp2_with fail
                go_loopw [9] (fun i wr => ∃ a : Nat, 1 ≤ a ∧ a ≤ 5 ∧ i = .int .u8 a ∧ Laid w (w.heap.size + 1) (w.heap.size + 1 + 1) wr (210 + 4 * m + a)) (fun i _ => 5 - (intOf i).toNat)
                case atStart => exact ⟨1, by omega, by omega, rfl, by rw [show 210 + 4 * m + 1 = 211 + 4 * m by omega]; exact hL9⟩
                case round =>
                  clear hL9
                  obtain ⟨a, ha1, ha2, rfl, hL10⟩ := hrel
                  by_cases hal : a ≤ 4
                  · have d4 : decide ((a : Int) ≤ 4) = true := decide_eq_true (by omega)
                    go_wp2_with fail
                    go_loopw [10] (fun i wr => ∃ s : Nat, 4 ≤ s ∧ s ≤ 5 ∧ i = .int .u8 s ∧ Laid w (w.heap.size + 1) (w.heap.size + 1 + 1) wr (206 + 4 * m + a + s)) (fun i _ => 5 - (intOf i).toNat)
                    case atStart => exact ⟨4, by omega, by omega, rfl, by rw [show 206 + 4 * m + a + 4 = 210 + 4 * m + a by omega]; exact hL10⟩
                    case round =>
                      clear hL10
                      obtain ⟨s, hs1, hs2, rfl, hL11⟩ := hrel
                      by_cases hsl : s ≤ 4
                      · have hp : ent ((206 + 4 * m + a + s : Nat) : Int) = [1, (a : Int), 0, 3, (s : Int), (m : Int)] := by
                          rw [show s = 4 by omega, show 206 + 4 * m + a + 4 = 210 + 4 * m + a by omega]
                          exact put_5 (by omega) (by omega) ha1 hal
                        have HP : Hid (_ = _) := hp
                        clear hp
                        go_wp2_with (go_at_call 32; refine (put_any w _ _ (206 + 4 * m + a + s) 1 a 0 3 s m _ hL11 (by omega) HP.out).mono ?_; rintro e w4 ⟨rfl, hL12⟩)
                        go_roundw
                        case rel => exact ⟨s + 1, by omega, by omega, by go_num, hL12⟩
                        case measure => simp [intOf]; omega
                      · replace hL11 : Laid w (w.heap.size + 1) (w.heap.size + 1 + 1) wr (210 + 4 * m + (a + 1)) := by rw [show 206 + 4 * m + a + s = 210 + 4 * m + (a + 1) by omega] at hL11; exact hL11
                        go_wp2_with fail
                        go_roundw
                        case rel => exact ⟨a + 1, by omega, by omega, by go_num, hL11⟩
                        case measure => simp [intOf]; omega
                  · replace hL10 : Laid w (w.heap.size + 1) (w.heap.size + 1 + 1) wr (if m + 1 ≤ 6 then 163 + 12 * (m + 1) else 211 + 4 * (m + 1)) := by rw [if_neg (by omega)]; rw [show 210 + 4 * m + a = 211 + 4 * (m + 1) by omega] at hL10; exact hL10
                    go_wp2_with fail
                    go_roundw
                    case rel => exact ⟨m + 1, by omega, by go_num, hL10⟩
                    case measure => simp [intOf]; omega
            · replace hL9 : Laid w (w.heap.size + 1) (w.heap.size + 1 + 1) wr 247 := by rw [if_neg (by omega), show 211 + 4 * m = 247 by omega] at hL9; exact hL9
              go_wp2_with fail
              go_loopw [11] (fun i wr => ∃ m : Nat, m ≤ 9 ∧ i = .int .u8 m ∧ Laid w (w.heap.size + 1) (w.heap.size + 1 + 1) wr (247 + m)) (fun i _ => 9 - (intOf i).toNat)
              case atStart => exact ⟨0, by omega, rfl, hL9⟩
              case round =>
                clear hL9
                obtain ⟨q, hq, rfl, hL13⟩ := hrel
                by_cases hlq : q < 9
                · go_wp2_with (go_at_call 32; refine (put_any w _ _ (247 + q) 3 4 q 1 1 0 _ hL13 (by omega) put_6).mono ?_; rintro e w4 ⟨rfl, hL14⟩)
                  go_roundw
                  case rel => exact ⟨q + 1, by omega, by go_num, hL14⟩
                  case measure => simp [intOf]; omega
                · replace hL13 : Laid w (w.heap.size + 1) (w.heap.size + 1 + 1) wr 256 := by rw [show 247 + q = 256 by omega] at hL13; exact hL13
                  go_wp2_with (first | (refine wpList_load_row rfl 52 _ rfl (w.heap.size + 1) rfl 52 (tab 256) (0, 0) _ hL13.tabl Try.underlying52 rfl (by rw [tab_size]; exact size52) ?_) | (refine wpList_store_row rfl 52 _ _ rfl w.heap.size (tab 256) rfl rfl 52 (tab 0) hL13.out (by rw [tab_size]; exact size52) (by rw [tab_size, tab_size]) (tab_one _) ?_))
                  exact bodyPost_ret (results_cell_row Try.results29 _ _ w.heap.size 52 (tab 256) (0, 0) _ rfl (setRow_heap _ _ (tab 0) _ _ _ hL13.out) Try.underlying52 rfl (by rw [tab_size]; exact size52)) rfl ⟨rfl, below_row hL13.bel (Nat.le_refl _) _⟩
end Go.Proofs.Qxb6000601a
