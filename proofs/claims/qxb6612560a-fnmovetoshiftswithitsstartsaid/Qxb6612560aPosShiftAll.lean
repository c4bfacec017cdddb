/-
  THE WALK of FnMoveToShiftsWithItsStart: no byte passed, a nil source, and its ways out ahead of all work; the whole walk.
-/
import Derived.Test.Qxb6612560aPosShift
namespace Go.Proofs.Qxb6612560a
open Go.RowKit

set_option maxHeartbeats 1600000 in
theorem shift_still (x : Addr) (len cap : Nat) (zs : List Int) (L C L2 C2 : Int) (lo : Nat) (hL1 : -9223372036854775808 ≤ L) (hL1' : L ≤ 9223372036854775807) (hC1 : -9223372036854775808 ≤ C) (hC1' : C ≤ 9223372036854775807)
    (hl : len ≤ 65536) (h3 : lo ≤ len) (w : World) (hc : Came w x len zs) :
    Calls Try.prog 6 #[.slice (some x) len cap, .int .i64 L, .int .i64 C, .int .i64 L2, .int .i64 C2, .int .i64 lo, .int .i64 lo] w fun e w' => e = .returned (.bool true) ∧ Below w.heap.size w w' := by
  have HC : Hid (Came w x len zs) := hc
  clear hc
  have HWL : Hid (wrap64 L = L) := wrap_in L hL1 hL1'
  have HWC : Hid (wrap64 C = C) := wrap_in C hC1 hC1'
  have HW0 : Hid (wrap64 (lo : Int) = lo) := wrap_in _ (by omega) (by omega)
  have k0 : (0 : Int) ≤ (lo : Int) := by omega
  have k3 : (lo : Int) ≤ (len : Int) := by omega
  have HP : Hid (∀ a b : Int, advPos lead (a, b) (seg zs lo lo) = (a, b)) := fun a b => by unfold seg; rw [Nat.sub_self]; rfl
  go_enter Try.func6, Try.ntmps6
  go_wp2_with fail
  refine (bytesShift_any _ len cap _ _ _ _ _ _ (by unfold maxLen; omega) _).mono ?_
  rintro e w1 ⟨⟨r, rfl⟩, hw⟩
  obtain rfl : w = w1 := hw.symm
  clear hw
  cases r
  · go_wp2_with fail
    go_ret
    exact ⟨rfl, Below.refl _ _⟩
  go_wp2_with fail
  refine (clone_some x len cap zs (by omega) _ HC.out).mono ?_
  rintro e w' ⟨rfl, cs1, rfl, hl1⟩
  obtain ⟨A, hA⟩ : ∃ A, (if len = lo then some (⟨w.heap.size, 0, none⟩ : Addr) else some ⟨w.heap.size, lo, none⟩) = A := ⟨_, rfl⟩
  clear hl1
  go_wp2_with fail
  refine (clone_some x len cap zs (by omega) _ (HC.out.alloc _)).mono ?_
  rintro e w' ⟨rfl, cs2, rfl, hl2⟩
  have HL2 : Hid (Lies ((w.alloc (.cells cs1 5)).alloc (.cells cs2 5)) (some ⟨w.heap.size + 1, 0, none⟩) zs) := by have := hl2; simp at this; exact this
  clear hl2
  go_wp2_with fail
  clear hA
  refine (end_zero L C lo A (len - lo) _).mono ?_
  rintro e w' ⟨rfl, c1, c2, rfl⟩
  rw [HWL.out, HWC.out, HW0.out]
  simp only [posV]
  go_wp2_with fail
  refine wp_loop_rounds 1 ?_
  rw [rounds_succ]
  go_wp2_with fail
  refine (newScanner_any _ len len L C lo _).mono ?_
  rintro e w' ⟨rfl, rfl⟩
  go_wp2_with fail
  refine (move_some _ (w.heap.size + 1) len lo lo L C (L, C) zs (Nat.le_refl _) h3 (by omega) HC.out.1 (HP.out _ _) _ (by simp) (by simp [go_sem]) (by simp [go_sem]) (by simp [go_sem]) (by simp [go_sem]) (by simp [go_sem]) (by simp [go_sem]) (by simp [go_sem]) ((((((((HL2.out.alloc _).alloc _).alloc _).alloc _).alloc _).alloc _).alloc _))).mono ?_
  rintro e w' ⟨rfl, d0, d1, d2, rfl⟩
  simp only [moved]
  go_wp2_with fail
  refine (newScanner_any _ len len L2 C2 lo _).mono ?_
  rintro e w' ⟨rfl, rfl⟩
  go_wp2_with fail
  refine (move_some _ (w.heap.size + 1) len lo lo L2 C2 (L2, C2) zs (Nat.le_refl _) h3 (by omega) HC.out.1 (HP.out _ _) _ (by simp) (by simp [go_sem]) (by simp [go_sem]) (by simp [go_sem]) (by simp [go_sem]) (by simp [go_sem]) (by simp [go_sem]) (by simp [go_sem]) (((((((((((((HL2.out.alloc _).alloc _).alloc _).alloc _).alloc _).alloc _).alloc _).alloc _).alloc _).alloc _).alloc _).alloc _).drew)).mono ?_
  rintro e w' ⟨rfl, d3, d4, d5, rfl⟩
  simp only [moved]
  go_wp2_with fail
  refine (scannerPos_any _ L C lo _ (by simp) (by simp [go_sem]) (by simp [go_sem]) (by simp [go_sem])).mono ?_
  rintro e w' ⟨rfl, rfl⟩
  go_wp2_with fail
  refine (scannerPos_any _ L2 C2 lo _ (by simp) (by simp [go_sem]) (by simp [go_sem]) (by simp [go_sem])).mono ?_
  rintro e w' ⟨rfl, rfl⟩
  go_wp2
  go_ret
  exact ⟨rfl, (belowMore (belowMore (belowMore (belowMore (belowMore (belowMore (belowMore (belowMore (belowMore (belowMore (belowMore (belowMore (belowMore (belowMore (belowMore (belowMore (belowMore (belowMore (belowMore (belowMore (belowMore (Below.refl _ _) _) _) _) _) _) _) _) _) _) _) _) _) _) _) _) _) _) _) _) _) _).drew.drew⟩

set_option maxHeartbeats 1600000 in
theorem shift_nil (L C L2 C2 : Int) (hL1 : -9223372036854775808 ≤ L) (hL1' : L ≤ 9223372036854775807) (hC1 : -9223372036854775808 ≤ C) (hC1' : C ≤ 9223372036854775807) (w : World) :
    Calls Try.prog 6 #[.slice none 0 0, .int .i64 L, .int .i64 C, .int .i64 L2, .int .i64 C2, .int .i64 0, .int .i64 0] w fun e w' => e = .returned (.bool true) ∧ Below w.heap.size w w' := by
  have HWL : Hid (wrap64 L = L) := wrap_in L hL1 hL1'
  have HWC : Hid (wrap64 C = C) := wrap_in C hC1 hC1'
  have HW0 : Hid (wrap64 (0 : Int) = 0) := wrap_in 0 (by omega) (by omega)
  go_enter Try.func6, Try.ntmps6
  go_wp2_with fail
  refine (bytesShift_any none 0 0 _ _ _ _ _ _ (by unfold maxLen; omega) _).mono ?_
  rintro e w1 ⟨⟨r, rfl⟩, hw⟩
  obtain rfl : w = w1 := hw.symm
  clear hw
  cases r
  · go_wp2_with fail
    go_ret
    exact ⟨rfl, Below.refl _ _⟩
  go_wp2_with fail
  refine (clone_nil _).mono ?_
  rintro e w1 ⟨rfl, hw⟩
  obtain rfl : w = w1 := hw.symm
  clear hw
  go_wp2_with fail
  refine (clone_nil _).mono ?_
  rintro e w1 ⟨rfl, hw⟩
  obtain rfl : w = w1 := hw.symm
  clear hw
  go_wp2_with fail
  refine (end_zero L C 0 none 0 _).mono ?_
  rintro e w' ⟨rfl, c1, c2, rfl⟩
  rw [HWL.out, HWC.out, HW0.out]
  simp only [posV]
  go_wp2_with fail
  refine wp_loop_rounds 1 ?_
  rw [rounds_succ]
  go_wp2_with fail
  refine (newScanner_any none 0 0 L C 0 _).mono ?_
  rintro e w' ⟨rfl, rfl⟩
  go_wp2_with fail
  refine (move_nil _ L C _ (by simp) (by simp [go_sem]) (by simp [go_sem]) (by simp [go_sem]) (by simp [go_sem]) (by simp [go_sem]) (by simp [go_sem]) (by simp [go_sem])).mono ?_
  rintro e w' ⟨rfl, d0, d1, d2, rfl⟩
  simp only [moved]
  go_wp2_with fail
  refine (newScanner_any none 0 0 L2 C2 0 _).mono ?_
  rintro e w' ⟨rfl, rfl⟩
  go_wp2_with fail
  refine (move_nil _ L2 C2 _ (by simp) (by simp [go_sem]) (by simp [go_sem]) (by simp [go_sem]) (by simp [go_sem]) (by simp [go_sem]) (by simp [go_sem]) (by simp [go_sem])).mono ?_
  rintro e w' ⟨rfl, d3, d4, d5, rfl⟩
  simp only [moved]
  go_wp2_with fail
  refine (scannerPos_any _ L C 0 _ (by simp) (by simp [go_sem]) (by simp [go_sem]) (by simp [go_sem])).mono ?_
  rintro e w' ⟨rfl, rfl⟩
  go_wp2_with fail
  refine (scannerPos_any _ L2 C2 0 _ (by simp) (by simp [go_sem]) (by simp [go_sem]) (by simp [go_sem])).mono ?_
  rintro e w' ⟨rfl, rfl⟩
  go_wp2
  go_ret
  exact ⟨rfl, (belowMore (belowMore (belowMore (belowMore (belowMore (belowMore (belowMore (belowMore (belowMore (belowMore (belowMore (belowMore (belowMore (belowMore (belowMore (belowMore (belowMore (belowMore (belowMore (Below.refl _ _) _) _) _) _) _) _) _) _) _) _) _) _) _) _) _) _) _) _) _).drew.drew⟩

set_option maxHeartbeats 1600000 in
/-- Outside the function's own bounds: true at once. -/
theorem shift_out (a : Option Addr) (len cap : Nat) (a1 a2 a3 a4 a5 a6 : Int) (hn : len ≤ maxLen) (h : 65536 < len ∨ a5 < 0 ∨ a6 < a5 ∨ (len : Int) < a6) (w : World) :
    Calls Try.prog 6 #[.slice a len cap, .int .i64 a1, .int .i64 a2, .int .i64 a3, .int .i64 a4, .int .i64 a5, .int .i64 a6] w fun e w' => e = .returned (.bool true) ∧ Below w.heap.size w w' := by
  by_cases h1 : 65536 < len
  · go_enter Try.func6, Try.ntmps6
    go_wp2_with (go_at_call 19; refine (bytesShift_any a len cap _ _ _ _ _ _ hn _).mono ?_; rintro e w' ⟨⟨r, rfl⟩, rfl⟩; cases r)
    all_goals (go_ret; exact ⟨rfl, Below.refl _ _⟩)
  by_cases h2 : a5 < 0
  · go_enter Try.func6, Try.ntmps6
    go_wp2_with (go_at_call 19; refine (bytesShift_any a len cap _ _ _ _ _ _ hn _).mono ?_; rintro e w' ⟨⟨r, rfl⟩, rfl⟩; cases r)
    all_goals (go_ret; exact ⟨rfl, Below.refl _ _⟩)
  by_cases h3 : a6 < a5
  · go_enter Try.func6, Try.ntmps6
    go_wp2_with (go_at_call 19; refine (bytesShift_any a len cap _ _ _ _ _ _ hn _).mono ?_; rintro e w' ⟨⟨r, rfl⟩, rfl⟩; cases r)
    all_goals (go_ret; exact ⟨rfl, Below.refl _ _⟩)
  have h5 : (len : Int) < a6 := by omega
  clear h
  go_enter Try.func6, Try.ntmps6
  go_wp2_with (go_at_call 19; refine (bytesShift_any a len cap _ _ _ _ _ _ hn _).mono ?_; rintro e w' ⟨⟨r, rfl⟩, rfl⟩; cases r)
  all_goals (go_ret; exact ⟨rfl, Below.refl _ _⟩)

/-- The whole walk. -/
theorem shift_any (a : Option Addr) (len cap : Nat) (zs : List Int) (a1 a2 a3 a4 a5 a6 : Int) (hL1 : -9223372036854775808 ≤ a1) (hL1' : a1 ≤ 9223372036854775807) (hC1 : -9223372036854775808 ≤ a2) (hC1' : a2 ≤ 9223372036854775807)
    (hL2 : -9223372036854775808 ≤ a3) (hL2' : a3 ≤ 9223372036854775807) (hC2 : -9223372036854775808 ≤ a4) (hC2' : a4 ≤ 9223372036854775807) (w : World)
    (hn : len ≤ maxLen) (h : (a = none ∧ len = 0 ∧ cap = 0) ∨ ∃ x, a = some x ∧ Came w x len zs) :
    Calls Try.prog 6 #[.slice a len cap, .int .i64 a1, .int .i64 a2, .int .i64 a3, .int .i64 a4, .int .i64 a5, .int .i64 a6] w fun e w' => e = .returned (.bool true) ∧ Below w.heap.size w w' := by
  by_cases ho : 65536 < len ∨ a5 < 0 ∨ a6 < a5 ∨ (len : Int) < a6
  · exact shift_out a len cap a1 a2 a3 a4 a5 a6 hn ho w
  obtain ⟨lo, rfl⟩ := Int.eq_ofNat_of_zero_le (show 0 ≤ a5 by omega)
  obtain ⟨hi, rfl⟩ := Int.eq_ofNat_of_zero_le (show 0 ≤ a6 by omega)
  rcases h with ⟨rfl, rfl, rfl⟩ | ⟨x, rfl, hc⟩
  · obtain rfl : lo = 0 := by omega
    obtain rfl : hi = 0 := by omega
    exact shift_nil a1 a2 a3 a4 hL1 hL1' hC1 hC1' w
  · by_cases hlt : lo < hi
    · exact shift_some x len cap zs a1 a2 a3 a4 lo hi hL1 hL1' hC1 hC1' hL2 hL2' hC2 hC2' (by omega) hlt (by omega) w hc
    · obtain rfl : lo = hi := by omega
      exact shift_still x len cap zs a1 a2 a3 a4 lo hL1 hL1' hC1 hC1' (by omega) (by omega) w hc
end Go.Proofs.Qxb6612560a
