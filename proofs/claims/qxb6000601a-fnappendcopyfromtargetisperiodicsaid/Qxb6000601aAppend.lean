/-
  The walk of appendCopy (30): it appends what the byte-at-a-time COPY appends ('cp').
-/
import Derived.Test.Qxb6000601aBytes
import Derived.Deep.AppendLies
namespace Go.Proofs.Qxb6000601a
open Go.RowKit

/-- THE STATE OF THE COPY: the slice owns zs; of what was there when the call began, only the row r0 (the slice's own at the start) may have turned; the slice lies in that row or in a new one. -/
def CopyInv (w wr : World) (B : Nat) (r0 : Option Nat) (a : Option Addr) (n c : Nat) (zs : List Int) : Prop :=
  wr.ownsRow B 5 1 (.slice a n c) n (bv zs) ∧ w.grownBy wr r0 ∧ ((Value.slice a n c).ownBlock = r0 ∨ ∃ g, (Value.slice a n c).ownBlock = some g ∧ w.heap.size ≤ g)

theorem copy_step {w wr w1 : World} {B : Nat} {r0 : Option Nat} {a : Option Addr} {n c : Nat} {zs ys : List Int} {g1 n1 cap1 : Nat} (h : CopyInv w wr B r0 a n c zs)
    (hown : w1.ownsRow B 5 1 (.slice (some ⟨g1, 0, none⟩) n1 cap1) n1 (bv ys)) (hg : wr.grownBy w1 (Value.slice a n c).ownBlock) (hat : (Value.slice a n c).ownBlock = some g1 ∨ g1 = wr.heap.size) :
    CopyInv w w1 B r0 (some ⟨g1, 0, none⟩) n1 cap1 ys := by
  obtain ⟨_, h2, h3⟩ := h
  refine ⟨hown, ⟨hg.os.trans h2.os, hg.tape.trans h2.tape, hg.output.trans h2.output, Nat.le_trans h2.size hg.size, fun k hk hne => ?_⟩, ?_⟩
  · refine (hg.block k (Nat.lt_of_lt_of_le hk h2.size) ?_).trans (h2.block k hk hne)
    rcases h3 with h3 | ⟨g, h3, h4⟩
    · rw [h3]; exact hne
    · rw [h3]; intro e; cases e; omega
  · show some g1 = r0 ∨ ∃ g, some g1 = some g ∧ w.heap.size ≤ g
    rcases hat with hat | hat
    · rcases h3 with h3 | ⟨g, h3, h4⟩
      · left; rw [← hat, h3]
      · right; exact ⟨g, by rw [← hat, h3], h4⟩
    · right; exact ⟨g1, rfl, by rw [hat]; exact h2.size⟩

theorem copy_n {w w1 : World} {B : Nat} {r0 : Option Nat} {a : Option Addr} {n n' c : Nat} {zs : List Int} (h : CopyInv w w1 B r0 a n c zs) (e : n = n') : CopyInv w w1 B r0 a n' c zs := by rw [← e]; exact h

theorem own_cap {w : World} {B g n c : Nat} {xs : List Value} (h : w.ownsRow B 5 1 (.slice (some ⟨g, 0, none⟩) n c) n xs) : n ≤ c ∧ c ≤ maxLen := by
  rcases h.2 with ⟨h', _⟩ | ⟨g', cap', cur, h', _, _, hnc, hcm, _⟩
  · simp at h'
  · simp only [Value.slice.injEq, Option.some.injEq, Addr.mk.injEq, and_true, true_and] at h'
    obtain ⟨rfl, rfl⟩ := h'
    exact ⟨hnc, hcm⟩
theorem own_len {w : World} {B n : Nat} {v : Value} {zs : List Int} (h : w.ownsRow B 5 1 v n (bv zs)) : zs.length = n := by
  have := h.1; rw [bv_len] at this; simpa using this
theorem own_cells {w : World} {B g n c : Nat} {zs : List Int} (h : w.ownsRow B 5 1 (.slice (some ⟨g, 0, none⟩) n c) n (bv zs)) : zs.length = n ∧ ∀ i, i < n → w.cell? ⟨g, i, none⟩ = some (.int .u8 (zs.getD i 0)) :=
  ⟨own_len h, fun i hi => (h.cellAt i (by omega)).trans (bv_at zs i (by rw [own_len h]; exact hi))⟩

theorem news_seg (W : World) (b off sn : Nat) (zs : List Int) (hl : zs.length = sn) (hc : ∀ i, i < sn → W.cell? ⟨b, off + i, none⟩ = some (.int .u8 (zs.getD i 0))) (f m : Nat) (hm : f + m ≤ sn) :
    ∀ j u, (bv ((zs.drop f).take m))[j]? = some u → W.cell? ((⟨b, off + f, none⟩ : Addr).add j) = some u := by
  intro j u hu
  have hj : j < m := by
    have := (List.getElem?_eq_some_iff.1 hu).1
    rw [bv_len, List.length_take, List.length_drop] at this
    omega
  have hadd : (⟨b, off + f, none⟩ : Addr).add j = ⟨b, off + (f + j), none⟩ := by unfold Addr.add; split <;> simp_all [Nat.add_assoc]
  rw [hadd, hc (f + j) (by omega), ← hu]
  rw [bv_at _ j (by rw [List.length_take, List.length_drop]; omega)]
  simp [List.getElem?_drop, hj]
theorem news_tgt (W : World) (g n : Nat) (zs : List Int) (hl : zs.length = n) (hc : ∀ i, i < n → W.cell? ⟨g, i, none⟩ = some (.int .u8 (zs.getD i 0))) (f m : Nat) (hm : f + m ≤ n) :
    ∀ j u, (bv ((zs.drop f).take m))[j]? = some u → W.cell? ((⟨g, f, none⟩ : Addr).add j) = some u := by
  have := news_seg W g 0 n zs hl (fun i hi => by rw [Nat.zero_add]; exact hc i hi) f m hm
  rw [Nat.zero_add] at this
  exact this

set_option maxHeartbeats 1000000 in
theorem copy_row (w : World) (B : Nat) (a0 : Option Addr) (n0 c0 : Nat) (out : List Int) (hown : w.ownsRow B 5 1 (.slice a0 n0 c0) n0 (bv out)) (b off sn sc : Nat) (seg : List Int)
    (hsl : seg.length = sn) (hsc : sn ≤ sc) (hseg : ∀ i, i < sn → w.cell? ⟨b, off + i, none⟩ = some (.int .u8 (seg.getD i 0))) (hbw : b < w.heap.size) (hne : some b ≠ (Value.slice a0 n0 c0).ownBlock) (hB : B ≤ w.heap.size)
    (start addr size : Nat) (h1 : start ≤ n0) (h2 : addr < sn + (n0 - start)) (h3 : n0 ≤ 1048576) (h4 : sn ≤ 1048576) (h5 : size ≤ 65536) :
    Calls Try.prog 30 #[.slice a0 n0 c0, .slice (some ⟨b, off, none⟩) sn sc, .int .i64 start, .int .u64 addr, .int .u64 size] w fun e w' => ∃ a n c, e = .returned (.slice a n c) ∧ CopyInv w w' B (Value.slice a0 n0 c0).ownBlock a n c (cp seg start addr out size) := by
  obtain ⟨i0, hi, hz0, hz1, hz2⟩ := info_parts info5p
  have HS : Hid (∀ i, i < sn → w.cell? ⟨b, off + i, none⟩ = some (.int .u8 (seg.getD i 0))) := hseg
  clear hseg
  have HL : Hid (seg.length = sn) := hsl
  clear hsl
  go_enter Try.func30, Try.ntmps30
  go_wp2
  go_loopw [0, 3, 4] (fun v i3 i4 wr => ∃ (A r k n : Nat) (a : Option Addr) (c : Nat), Hid (A = addr + k ∧ k + r = size ∧ n = n0 + k) ∧ v = .slice a n c ∧ i3 = .int .u64 A ∧ i4 = .int .u64 r ∧ CopyInv w wr B (Value.slice a0 n0 c0).ownBlock a n c (cp seg start addr out k)) (fun _ _ i4 _ => (intOf i4).toNat)
  case atStart => exact ⟨addr, size, 0, n0, a0, c0, ⟨rfl, by omega, rfl⟩, rfl, rfl, rfl, hown, ⟨rfl, rfl, rfl, Nat.le_refl _, fun _ _ _ => rfl⟩, .inl rfl⟩
  case round =>
    obtain ⟨A, r, k, n, a, c, HK, rfl, rfl, rfl, hinv⟩ := hrel
    have bA : A ≤ 4194304 := by have := HK.out; omega
    have br : r ≤ 65536 := by have := HK.out; omega
    have bn : n ≤ 2097152 := by have := HK.out; omega
    by_cases hr : 0 < r
    · by_cases hA : A < sn
      · have hcx : ∀ i, i < sn → wr.cell? ⟨b, off + i, none⟩ = some (.int .u8 (seg.getD i 0)) := fun i hi => by rw [← HS.out i hi]; exact World.cell?_of_block (hinv.2.1.block b hbw hne)
        have HN : Hid (∀ m, A + m ≤ sn → ∀ j u, (bv ((seg.drop A).take m))[j]? = some u → wr.cell? ((⟨b, off + A, none⟩ : Addr).add j) = some u) := fun m hm => news_seg wr b off sn seg HL.out hcx A m hm
        have HP : Hid (∀ m, A + m ≤ sn → cp seg start addr out (k + m) = cp seg start addr out k ++ (seg.drop A).take m) := fun m hm => by
          rw [HK.out.1]; exact cp_seg _ _ _ _ _ _ (by rw [HL.out, ← HK.out.1]; exact hm)
        have HI : Hid (CopyInv w wr B _ _ n _ _) := hinv
        have hB' : B ≤ wr.heap.size := by have := hinv.2.1.size; omega
        have hown' := hinv.1
        clear hcx hinv
        by_cases hm : r ≤ sn - A
        · have HLen : Hid ((bv ((seg.drop A).take r)).length = r) := (by rw [bv_len, List.length_take, List.length_drop, HL.out]; omega : _ = r)
          go_wp2_with (first | (at_builtin; refine wpList_append_lies wr rfl (.tmp 28) (.tmp 34) 27 rfl B 5 i0 (.int .u8 0) 1 1 Try.underlying27 hi hz0 hz1 hz2 rfl (by decide) _ _ _ rfl hown' _ _ _ (bv ((seg.drop A).take r)) rfl (by rw [HLen.out]; omega) (HN.out r (by omega)) (bv_one _) (by omega) (by unfold maxLen; omega) (by omega) hB' wr.heap.size rfl ?_; intro g1 cap1 w1 hown1 hgrow1 hat1 hlt1; rw [← bv_append, ← HP.out r (by omega)] at hown1; have R := copy_step HI.out hown1 hgrow1 hat1; clear hown1 hgrow1 hat1 hown'))
          go_roundw
          case rel => exact ⟨A + r, 0, k + r, n + r, _, _, (by have := HK.out; omega : _ ∧ _ ∧ _), by go_num, by go_num, by go_num, copy_n R (by omega)⟩
          case measure => simp [intOf]; omega
        · have HLen : Hid ((bv ((seg.drop A).take (sn - A))).length = sn - A) := (by rw [bv_len, List.length_take, List.length_drop, HL.out]; omega : _ = sn - A)
          go_wp2_with (first | (at_builtin; refine wpList_append_lies wr rfl (.tmp 28) (.tmp 34) 27 rfl B 5 i0 (.int .u8 0) 1 1 Try.underlying27 hi hz0 hz1 hz2 rfl (by decide) _ _ _ rfl hown' _ _ _ (bv ((seg.drop A).take (sn - A))) rfl (by rw [HLen.out]; omega) (HN.out (sn - A) (by omega)) (bv_one _) (by omega) (by unfold maxLen; omega) (by omega) hB' wr.heap.size rfl ?_; intro g1 cap1 w1 hown1 hgrow1 hat1 hlt1; rw [← bv_append, ← HP.out (sn - A) (by omega)] at hown1; have R := copy_step HI.out hown1 hgrow1 hat1; clear hown1 hgrow1 hat1 hown'))
          go_roundw
          case rel => exact ⟨A + (sn - A), r - (sn - A), k + (sn - A), n + (sn - A), _, _, (by have := HK.out; omega : _ ∧ _ ∧ _), by go_num, by go_num, by go_num, copy_n R (by omega)⟩
          case measure => simp [intOf]; omega
      · have hfn : start + (A - sn) < n := by have := HK.out; omega
        obtain ⟨g, cap, hv, hgB, hgw⟩ := hinv.1.form (by omega)
        simp only [Value.slice.injEq, true_and] at hv
        obtain ⟨rfl, rfl⟩ := hv
        obtain ⟨hnc, hcm⟩ := own_cap hinv.1
        unfold maxLen at hcm
        have hcells := own_cells hinv.1
        have HN : Hid (∀ m, start + (A - sn) + m ≤ n → ∀ j u, (bv (((cp seg start addr out k).drop (start + (A - sn))).take m))[j]? = some u → wr.cell? ((⟨g, start + (A - sn), none⟩ : Addr).add j) = some u) :=
          fun m hm => news_tgt wr g n _ hcells.1 hcells.2 _ m hm
        have HP : Hid (∀ m, start + (A - sn) + m ≤ n → cp seg start addr out (k + m) = cp seg start addr out k ++ ((cp seg start addr out k).drop (start + (A - sn))).take m) :=
          fun m hm => cp_tgt _ _ _ _ _ _ _ (by have := HK.out; have := HL.out; omega) (by rw [HK.out.1, HL.out]) (by rw [hcells.1]; exact hm)
        have HC1 : Hid ((cp seg start addr out k).length = n) := hcells.1
        have HI : Hid (CopyInv w wr B _ _ n _ _) := hinv
        have hB' : B ≤ wr.heap.size := by have := hinv.2.1.size; omega
        have hown' := hinv.1
        have HK' := HK.out
        clear hcells hinv
        by_cases hm : r ≤ n - (start + (A - sn))
        · have HLen : Hid ((bv (((cp seg start addr out k).drop (start + (A - sn))).take r)).length = r) := (by rw [bv_len, List.length_take, List.length_drop, HC1.out]; omega : _ = r)
          clear HK'
          go_wp2_with (first | (at_builtin; refine wpList_append_lies wr rfl (.tmp 55) (.tmp 62) 27 rfl B 5 i0 (.int .u8 0) 1 1 Try.underlying27 hi hz0 hz1 hz2 rfl (by decide) _ _ _ rfl hown' _ _ _ (bv (((cp seg start addr out k).drop (start + (A - sn))).take r)) rfl (by rw [HLen.out]; omega) (HN.out r (by omega)) (bv_one _) (by omega) (by unfold maxLen; omega) (by omega) hB' wr.heap.size rfl ?_; intro g1 cap1 w1 hown1 hgrow1 hat1 hlt1; rw [← bv_append, ← HP.out r (by omega)] at hown1; have R := copy_step HI.out hown1 hgrow1 hat1; clear hown1 hgrow1 hat1 hown'))
          go_roundw
          case rel => exact ⟨A + r, 0, k + r, n + r, _, _, (by have := HK.out; omega : _ ∧ _ ∧ _), by go_num, by go_num, by go_num, copy_n R (by omega)⟩
          case measure => simp [intOf]; omega
        · have HLen : Hid ((bv (((cp seg start addr out k).drop (start + (A - sn))).take (n - (start + (A - sn))))).length = n - (start + (A - sn))) := (by rw [bv_len, List.length_take, List.length_drop, HC1.out]; omega : _ = n - (start + (A - sn)))
          clear HK'
          go_wp2_with (first | (at_builtin; refine wpList_append_lies wr rfl (.tmp 55) (.tmp 62) 27 rfl B 5 i0 (.int .u8 0) 1 1 Try.underlying27 hi hz0 hz1 hz2 rfl (by decide) _ _ _ rfl hown' _ _ _ (bv (((cp seg start addr out k).drop (start + (A - sn))).take (n - (start + (A - sn))))) rfl (by rw [HLen.out]; omega) (HN.out (n - (start + (A - sn))) (by omega)) (bv_one _) (by omega) (by unfold maxLen; omega) (by omega) hB' wr.heap.size rfl ?_; intro g1 cap1 w1 hown1 hgrow1 hat1 hlt1; rw [← bv_append, ← HP.out (n - (start + (A - sn))) (by omega)] at hown1; have R := copy_step HI.out hown1 hgrow1 hat1; clear hown1 hgrow1 hat1 hown'))
          go_roundw
          case rel => exact ⟨A + (n - (start + (A - sn))), r - (n - (start + (A - sn))), k + (n - (start + (A - sn))), n + (n - (start + (A - sn))), _, _, (by have := HK.out; omega : _ ∧ _ ∧ _), by go_num, by go_num, by go_num, copy_n R (by omega)⟩
          case measure => simp [intOf]; omega
    · go_wp2
      go_ret
      exact ⟨a, n, c, rfl, by rw [show size = k by have := HK.out; omega]; exact hinv⟩

set_option maxHeartbeats 1000000 in
theorem copy_none (w : World) (B : Nat) (a0 : Option Addr) (n0 c0 : Nat) (out : List Int) (hown : w.ownsRow B 5 1 (.slice a0 n0 c0) n0 (bv out)) (sa : Option Addr) (sn sc : Nat) (seg : List Int)
    (hsl : seg.length = sn) (hs0 : sn ≤ 0) (hB : B ≤ w.heap.size)
    (start addr size : Nat) (h1 : start ≤ n0) (h2 : addr < sn + (n0 - start)) (h3 : n0 ≤ 1048576) (_h4 : sn ≤ 1048576) (h5 : size ≤ 65536) :
    Calls Try.prog 30 #[.slice a0 n0 c0, .slice sa sn sc, .int .i64 start, .int .u64 addr, .int .u64 size] w fun e w' => ∃ a n c, e = .returned (.slice a n c) ∧ CopyInv w w' B (Value.slice a0 n0 c0).ownBlock a n c (cp seg start addr out size) := by
  obtain ⟨i0, hi, hz0, hz1, hz2⟩ := info_parts info5p
  have HL : Hid (seg.length = sn) := hsl
  clear hsl
  go_enter Try.func30, Try.ntmps30
  go_wp2
  go_loopw [0, 3, 4] (fun v i3 i4 wr => ∃ (A r k n : Nat) (a : Option Addr) (c : Nat), Hid (A = addr + k ∧ k + r = size ∧ n = n0 + k) ∧ v = .slice a n c ∧ i3 = .int .u64 A ∧ i4 = .int .u64 r ∧ CopyInv w wr B (Value.slice a0 n0 c0).ownBlock a n c (cp seg start addr out k)) (fun _ _ i4 _ => (intOf i4).toNat)
  case atStart => exact ⟨addr, size, 0, n0, a0, c0, ⟨rfl, by omega, rfl⟩, rfl, rfl, rfl, hown, ⟨rfl, rfl, rfl, Nat.le_refl _, fun _ _ _ => rfl⟩, .inl rfl⟩
  case round =>
    obtain ⟨A, r, k, n, a, c, HK, rfl, rfl, rfl, hinv⟩ := hrel
    have bA : A ≤ 4194304 := by have := HK.out; omega
    have br : r ≤ 65536 := by have := HK.out; omega
    have bn : n ≤ 2097152 := by have := HK.out; omega
    by_cases hr : 0 < r
    · by_cases hA : A < sn
      · omega
      · have hfn : start + (A - sn) < n := by have := HK.out; omega
        obtain ⟨g, cap, hv, hgB, hgw⟩ := hinv.1.form (by omega)
        simp only [Value.slice.injEq, true_and] at hv
        obtain ⟨rfl, rfl⟩ := hv
        obtain ⟨hnc, hcm⟩ := own_cap hinv.1
        unfold maxLen at hcm
        have hcells := own_cells hinv.1
        have HN : Hid (∀ m, start + (A - sn) + m ≤ n → ∀ j u, (bv (((cp seg start addr out k).drop (start + (A - sn))).take m))[j]? = some u → wr.cell? ((⟨g, start + (A - sn), none⟩ : Addr).add j) = some u) :=
          fun m hm => news_tgt wr g n _ hcells.1 hcells.2 _ m hm
        have HP : Hid (∀ m, start + (A - sn) + m ≤ n → cp seg start addr out (k + m) = cp seg start addr out k ++ ((cp seg start addr out k).drop (start + (A - sn))).take m) :=
          fun m hm => cp_tgt _ _ _ _ _ _ _ (by have := HK.out; have := HL.out; omega) (by rw [HK.out.1, HL.out]) (by rw [hcells.1]; exact hm)
        have HC1 : Hid ((cp seg start addr out k).length = n) := hcells.1
        have HI : Hid (CopyInv w wr B _ _ n _ _) := hinv
        have hB' : B ≤ wr.heap.size := by have := hinv.2.1.size; omega
        have hown' := hinv.1
        have HK' := HK.out
        clear hcells hinv
        by_cases hm : r ≤ n - (start + (A - sn))
        · have HLen : Hid ((bv (((cp seg start addr out k).drop (start + (A - sn))).take r)).length = r) := (by rw [bv_len, List.length_take, List.length_drop, HC1.out]; omega : _ = r)
          clear HK'
          go_wp2_with (first | (at_builtin; refine wpList_append_lies wr rfl (.tmp 55) (.tmp 62) 27 rfl B 5 i0 (.int .u8 0) 1 1 Try.underlying27 hi hz0 hz1 hz2 rfl (by decide) _ _ _ rfl hown' _ _ _ (bv (((cp seg start addr out k).drop (start + (A - sn))).take r)) rfl (by rw [HLen.out]; omega) (HN.out r (by omega)) (bv_one _) (by omega) (by unfold maxLen; omega) (by omega) hB' wr.heap.size rfl ?_; intro g1 cap1 w1 hown1 hgrow1 hat1 hlt1; rw [← bv_append, ← HP.out r (by omega)] at hown1; have R := copy_step HI.out hown1 hgrow1 hat1; clear hown1 hgrow1 hat1 hown'))
          go_roundw
          case rel => exact ⟨A + r, 0, k + r, n + r, _, _, (by have := HK.out; omega : _ ∧ _ ∧ _), by go_num, by go_num, by go_num, copy_n R (by omega)⟩
          case measure => simp [intOf]; omega
        · have HLen : Hid ((bv (((cp seg start addr out k).drop (start + (A - sn))).take (n - (start + (A - sn))))).length = n - (start + (A - sn))) := (by rw [bv_len, List.length_take, List.length_drop, HC1.out]; omega : _ = n - (start + (A - sn)))
          clear HK'
          go_wp2_with (first | (at_builtin; refine wpList_append_lies wr rfl (.tmp 55) (.tmp 62) 27 rfl B 5 i0 (.int .u8 0) 1 1 Try.underlying27 hi hz0 hz1 hz2 rfl (by decide) _ _ _ rfl hown' _ _ _ (bv (((cp seg start addr out k).drop (start + (A - sn))).take (n - (start + (A - sn))))) rfl (by rw [HLen.out]; omega) (HN.out (n - (start + (A - sn))) (by omega)) (bv_one _) (by omega) (by unfold maxLen; omega) (by omega) hB' wr.heap.size rfl ?_; intro g1 cap1 w1 hown1 hgrow1 hat1 hlt1; rw [← bv_append, ← HP.out (n - (start + (A - sn))) (by omega)] at hown1; have R := copy_step HI.out hown1 hgrow1 hat1; clear hown1 hgrow1 hat1 hown'))
          go_roundw
          case rel => exact ⟨A + (n - (start + (A - sn))), r - (n - (start + (A - sn))), k + (n - (start + (A - sn))), n + (n - (start + (A - sn))), _, _, (by have := HK.out; omega : _ ∧ _ ∧ _), by go_num, by go_num, by go_num, copy_n R (by omega)⟩
          case measure => simp [intOf]; omega
    · go_wp2
      go_ret
      exact ⟨a, n, c, rfl, by rw [show size = k by have := HK.out; omega]; exact hinv⟩

/-- What an owned slice holds. -/
theorem own_rd {w : World} {B n c : Nat} {a : Option Addr} {zs : List Int} (h : w.ownsRow B 5 1 (.slice a n c) n (bv zs)) : Rd w a n zs := by
  refine ⟨own_len h, fun h0 => ?_⟩
  obtain ⟨g, cap, hv, _, _⟩ := h.form h0
  simp only [Value.slice.injEq, true_and] at hv
  obtain ⟨rfl, rfl⟩ := hv
  exact ⟨g, 0, rfl, fun i hi => by rw [Nat.zero_add]; exact (own_cells h).2 i hi⟩
theorem own_le {w : World} {B n c : Nat} {a : Option Addr} {zs : List Int} (h : w.ownsRow B 5 1 (.slice a n c) n (bv zs)) : n ≤ c := by
  rcases h.2 with ⟨h', h0⟩ | ⟨g', cap', cur, h', _, _, hnc, hcm, _⟩
  · omega
  · simp only [Value.slice.injEq, true_and] at h'
    rw [h'.2]; exact hnc
theorem own_mono {w : World} {B B' n : Nat} {v : Value} {xs : List Value} (h : w.ownsRow B 5 1 v n xs) (hB : B' ≤ B) : w.ownsRow B' 5 1 v n xs := by
  refine ⟨h.1, ?_⟩
  rcases h.2 with h' | ⟨g', cap', cur, h', hb, r⟩
  · exact .inl h'
  · exact .inr ⟨g', cap', cur, h', Nat.le_trans hB hb, r⟩

/-- appendCopy, whatever the segment. -/
theorem copy_any (w : World) (B : Nat) (a0 : Option Addr) (n0 c0 : Nat) (out : List Int) (hown : w.ownsRow B 5 1 (.slice a0 n0 c0) n0 (bv out)) (sa : Option Addr) (sn sc : Nat) (seg : List Int) (hseg : Rd w sa sn seg) (hsc : sn ≤ sc)
    (hne : ∀ x, sa = some x → some x.block ≠ (Value.slice a0 n0 c0).ownBlock) (hB : B ≤ w.heap.size)
    (start addr size : Nat) (h1 : start ≤ n0) (h2 : addr < sn + (n0 - start)) (h3 : n0 ≤ 1048576) (h4 : sn ≤ 1048576) (h5 : size ≤ 65536) :
    Calls Try.prog 30 #[.slice a0 n0 c0, .slice sa sn sc, .int .i64 start, .int .u64 addr, .int .u64 size] w fun e w' => ∃ a n c, e = .returned (.slice a n c) ∧ CopyInv w w' B (Value.slice a0 n0 c0).ownBlock a n c (cp seg start addr out size) := by
  rcases Nat.eq_zero_or_pos sn with h0 | h0
  · exact copy_none w B a0 n0 c0 out hown sa sn sc seg hseg.1 (by omega) hB start addr size h1 h2 h3 h4 h5
  · obtain ⟨b, off, rfl, hc⟩ := hseg.2 h0
    exact copy_row w B a0 n0 c0 out hown b off sn sc seg hseg.1 hsc hc (World.block_lt_of_cell? _ _ (hc 0 h0)) (hne _ rfl) hB start addr size h1 h2 h3 h4 h5

/-- ZZAppendCopy (15) is appendCopy. -/
theorem zzcopy_any (w : World) (B : Nat) (a0 : Option Addr) (n0 c0 : Nat) (out : List Int) (hown : w.ownsRow B 5 1 (.slice a0 n0 c0) n0 (bv out)) (sa : Option Addr) (sn sc : Nat) (seg : List Int) (hseg : Rd w sa sn seg) (hsc : sn ≤ sc)
    (hne : ∀ x, sa = some x → some x.block ≠ (Value.slice a0 n0 c0).ownBlock) (hB : B ≤ w.heap.size)
    (start addr size : Nat) (h1 : start ≤ n0) (h2 : addr < sn + (n0 - start)) (h3 : n0 ≤ 1048576) (h4 : sn ≤ 1048576) (h5 : size ≤ 65536) :
    Calls Try.prog 15 #[.slice a0 n0 c0, .slice sa sn sc, .int .i64 start, .int .u64 addr, .int .u64 size] w fun e w' => ∃ a n c, e = .returned (.slice a n c) ∧ CopyInv w w' B (Value.slice a0 n0 c0).ownBlock a n c (cp seg start addr out size) := by
  have HC := copy_any w B a0 n0 c0 out hown sa sn sc seg hseg hsc hne hB start addr size h1 h2 h3 h4 h5
  have HC' : Hid (Calls _ _ _ _ _) := HC
  clear HC hown hseg hne
  go_enter Try.func15, Try.ntmps15
  go_wp2_with fail
  refine HC'.out.mono ?_
  rintro e w' ⟨a, n, c, rfl, h⟩
  go_wp2
  go_ret
  exact ⟨a, n, c, rfl, h⟩

/-- sameBytes over two slices that hold the same. -/
theorem same_any (a b : Option Addr) (n c d : Nat) (zs : List Int) (w : World) (hn : n ≤ 2097152) (ha : Rd w a n zs) (hb : Rd w b n zs) :
    Calls Try.prog 16 #[.slice a n c, .slice b n d] w fun e w' => e = .returned (.bool true) ∧ ∃ k, w' = w.drewN k := by
  rcases Nat.eq_zero_or_pos n with h0 | h0
  · subst h0; exact same_empty a b c d w
  · obtain ⟨b1, o1, rfl, h1⟩ := ha.2 h0
    obtain ⟨b2, o2, rfl, h2⟩ := hb.2 h0
    exact same_row b1 o1 b2 o2 n c d zs w (by omega) h1 h2

/-- The bound on total length (12, 18): it answers something. -/
theorem zzb12 (a0 a1 : Option Addr) (n0 c0 n1 c1 : Nat) (x2 x3 x4 : Int) (w : World) (h0 : n0 ≤ maxLen) (h1 : n1 ≤ maxLen) :
    Calls Try.prog 12 #[.slice a0 n0 c0, .slice a1 n1 c1, .int .i64 x2, .int .u64 x3, .int .u64 x4] w fun e w' => (∃ b : Bool, e = .returned (.bool b)) ∧ w' = w := by
  unfold maxLen at h0 h1
  go_enter Try.func12, Try.ntmps12
  go_wp2
  all_goals (go_ret; exact ⟨⟨_, rfl⟩, rfl⟩)
theorem zzb18 (a0 a1 : Option Addr) (n0 c0 n1 c1 : Nat) (x2 x3 x4 : Int) (w : World) (h0 : n0 ≤ maxLen) (h1 : n1 ≤ maxLen) :
    Calls Try.prog 18 #[.slice a0 n0 c0, .slice a1 n1 c1, .int .i64 x2, .int .u64 x3, .int .u64 x4] w fun e w' => (∃ b : Bool, e = .returned (.bool b)) ∧ w' = w := by
  unfold maxLen at h0 h1
  go_enter Try.func18, Try.ntmps18
  go_wp2
  all_goals (go_ret; exact ⟨⟨_, rfl⟩, rfl⟩)

/-- copyFits (13). -/
theorem fits_no (a0 a1 : Option Addr) (n0 c0 n1 c1 : Nat) (s ad : Int) (w : World) (h0 : n0 ≤ 1048576) (h1 : n1 ≤ 1048576) (hs : -9223372036854775808 ≤ s ∧ s ≤ 9223372036854775807) (h : s < 0 ∨ (n0 : Int) < s ∨ (n1 : Int) + ((n0 : Int) - s) ≤ ad) :
    Calls Try.prog 13 #[.slice a0 n0 c0, .slice a1 n1 c1, .int .i64 s, .int .u64 ad] w fun e w' => e = .returned (.bool false) ∧ w' = w := by
  by_cases e1 : s < 0
  · go_enter Try.func13, Try.ntmps13
    go_wp2
    go_ret
    exact ⟨rfl, rfl⟩
  · by_cases e2 : (n0 : Int) < s
    · go_enter Try.func13, Try.ntmps13
      go_wp2
      go_ret
      exact ⟨rfl, rfl⟩
    · have e3 : decide (ad < (n1 : Int) + ((n0 : Int) - s)) = false := decide_eq_false (by omega)
      go_enter Try.func13, Try.ntmps13
      go_wp2
      go_ret
      exact ⟨rfl, rfl⟩
theorem fits_yes (a0 a1 : Option Addr) (n0 c0 n1 c1 : Nat) (s ad : Int) (w : World) (h0 : n0 ≤ 1048576) (h1 : n1 ≤ 1048576) (hs : 0 ≤ s) (hs' : s ≤ (n0 : Int)) (h : ad < (n1 : Int) + ((n0 : Int) - s)) :
    Calls Try.prog 13 #[.slice a0 n0 c0, .slice a1 n1 c1, .int .i64 s, .int .u64 ad] w fun e w' => e = .returned (.bool true) ∧ w' = w := by
  have e3 : decide (ad < (n1 : Int) + ((n0 : Int) - s)) = true := decide_eq_true h
  go_enter Try.func13, Try.ntmps13
  go_wp2
  go_ret
  exact ⟨rfl, rfl⟩
end Go.Proofs.Qxb6000601a
