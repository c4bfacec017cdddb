/-
  THE WALK of FnMoveToInTwoStepsAsInOne at a nil source, and its ways out ahead of all work.
-/
import Derived.Test.Qxb6612560aPosTwo
namespace Go.Proofs.Qxb6612560a
open Go.RowKit

set_option maxHeartbeats 1600000 in
theorem two_nil (L C : Int) (hL1 : -9223372036854775808 ≤ L) (hL2 : L ≤ 9223372036854775807) (hC1 : -9223372036854775808 ≤ C) (hC2 : C ≤ 9223372036854775807) (w : World) :
    Calls Try.prog 5 #[.slice none 0 0, .int .i64 L, .int .i64 C, .int .i64 0, .int .i64 0, .int .i64 0] w fun e w' => e = .returned (.bool true) ∧ Below w.heap.size w w' := by
  have HWL : Hid (wrap64 L = L) := wrap_in L hL1 hL2
  have HWC : Hid (wrap64 C = C) := wrap_in C hC1 hC2
  have HW0 : Hid (wrap64 (0 : Int) = 0) := wrap_in 0 (by omega) (by omega)
  go_enter Try.func5, Try.ntmps5
  go_wp2_with fail
  refine (bytesMove_any none 0 0 _ _ _ _ _ (by unfold maxLen; omega) _).mono ?_
  rintro e w1 ⟨⟨r, rfl⟩, hw⟩
  obtain rfl : w = w1 := hw.symm
  clear hw
  cases r
  · go_wp2_with fail
    go_ret
    exact ⟨rfl, Below.refl _ _⟩
  go_wp2_with fail
  refine (clone_nil _).mono ?_
  rintro e w1 ⟨rfl, hw⟩
  obtain rfl : w = w1 := hw.symm
  clear hw
  go_wp2_with fail
  refine (clone_nil _).mono ?_
  rintro e w1 ⟨rfl, hw⟩
  obtain rfl : w = w1 := hw.symm
  clear hw
  go_wp2_with fail
  go_region_held3 (fun w' => w'.cell? ⟨w.heap.size, 0, none⟩ = some (.int .i64 L) ∧ w'.cell? ⟨w.heap.size, 1, none⟩ = some (.int .i64 C) ∧ w'.cell? ⟨w.heap.size, 2, none⟩ = some (.int .i64 0)) (simp [*, go_sem, World.cell?_alloc_past])
    (first | (go_at_call 15; refine (end_zero L C 0 none 0 _).mono ?_; rintro e w' ⟨rfl, c1, c2, rfl⟩; rw [HWL.out, HWC.out, HW0.out]; simp only [posV]))
  · go_wp2_with fail
    refine (newScanner_any none 0 0 L C 0 _).mono ?_
    rintro e w' ⟨rfl, rfl⟩
    go_wp2_with fail
    refine (move_nil _ L C _ (by simp) (by simp [go_sem]) (by simp [go_sem]) (by simp [go_sem]) (by simp [go_sem]) (by simp [go_sem]) (by simp [go_sem]) (by simp [go_sem])).mono ?_
    rintro e w' ⟨rfl, d0, d1, d2, rfl⟩
    simp only [moved]
    go_wp2_with fail
    refine (newScanner_any none 0 0 L C 0 _).mono ?_
    rintro e w' ⟨rfl, rfl⟩
    go_wp2_with fail
    refine (move_nil _ L C _ (by simp) (by simp [go_sem]) (by simp [go_sem]) (by simp [go_sem]) (by simp [go_sem]) (by simp [go_sem]) (by simp [go_sem]) (by simp [go_sem])).mono ?_
    rintro e w' ⟨rfl, d3, d4, d5, rfl⟩
    simp only [moved]
    go_wp2_with fail
    refine (move_nil _ L C _ (by simp) (by simp [go_sem]) (by simp [go_sem]) (by simp [go_sem]) (by simp [go_sem]) (by simp [go_sem]) (by simp [go_sem]) (by simp [go_sem])).mono ?_
    rintro e w' ⟨rfl, d6, d7, d8, rfl⟩
    simp only [moved]
    go_wp2_with fail
    go_region_held3 (fun w' => w'.cell? ⟨w.heap.size + 1 + 1 + 1, 0, none⟩ = some (.int .i64 L) ∧ w'.cell? ⟨w.heap.size + 1 + 1 + 1, 1, none⟩ = some (.int .i64 C) ∧ w'.cell? ⟨w.heap.size + 1 + 1 + 1, 2, none⟩ = some (.int .i64 0)) (simp [*, go_sem, World.cell?_alloc_past])
      (first | (go_at_call 18; refine (scannerPos_any _ L C 0 _ (by simp; try omega) (by simp [go_sem]) (by simp [go_sem]) (by simp [go_sem])).mono ?_; rintro e w' ⟨rfl, rfl⟩))
    go_wp2
    go_ret
    exact ⟨rfl, (belowMore (belowMore (belowMore (belowMore (belowMore (belowMore (belowMore (belowMore (belowMore (belowMore (belowMore (belowMore (belowMore (belowMore (belowMore (belowMore (belowMore (belowMore (belowMore (Below.refl _ _) _) _) _) _) _) _) _) _) _) _) _) _) _) _) _) _) _) _) _).drew.drew.drew.drew.drew⟩
  · go_wp2_with fail
    refine (newScanner_any none 0 0 L C 0 _).mono ?_
    rintro e w' ⟨rfl, rfl⟩
    go_wp2_with fail
    refine (move_nil _ L C _ (by simp) (by simp [go_sem]) (by simp [go_sem]) (by simp [go_sem]) (by simp [go_sem]) (by simp [go_sem]) (by simp [go_sem]) (by simp [go_sem])).mono ?_
    rintro e w' ⟨rfl, d0, d1, d2, rfl⟩
    simp only [moved]
    go_wp2_with fail
    refine (newScanner_any none 0 0 L C 0 _).mono ?_
    rintro e w' ⟨rfl, rfl⟩
    go_wp2_with fail
    refine (move_nil _ L C _ (by simp) (by simp [go_sem]) (by simp [go_sem]) (by simp [go_sem]) (by simp [go_sem]) (by simp [go_sem]) (by simp [go_sem]) (by simp [go_sem])).mono ?_
    rintro e w' ⟨rfl, d3, d4, d5, rfl⟩
    simp only [moved]
    go_wp2_with fail
    refine (move_nil _ L C _ (by simp) (by simp [go_sem]) (by simp [go_sem]) (by simp [go_sem]) (by simp [go_sem]) (by simp [go_sem]) (by simp [go_sem]) (by simp [go_sem])).mono ?_
    rintro e w' ⟨rfl, d6, d7, d8, rfl⟩
    simp only [moved]
    go_wp2_with fail
    go_region_held3 (fun w' => w'.cell? ⟨w.heap.size + 1, 0, none⟩ = some (.int .i64 L) ∧ w'.cell? ⟨w.heap.size + 1, 1, none⟩ = some (.int .i64 C) ∧ w'.cell? ⟨w.heap.size + 1, 2, none⟩ = some (.int .i64 0)) (simp [*, go_sem, World.cell?_alloc_past])
      (first | (go_at_call 18; refine (scannerPos_any _ L C 0 _ (by simp; try omega) (by simp [go_sem]) (by simp [go_sem]) (by simp [go_sem])).mono ?_; rintro e w' ⟨rfl, rfl⟩))
    go_wp2
    go_ret
    exact ⟨rfl, (belowMore (belowMore (belowMore (belowMore (belowMore (belowMore (belowMore (belowMore (belowMore (belowMore (belowMore (belowMore (belowMore (belowMore (belowMore (belowMore (belowMore (belowMore (belowMore (Below.refl _ _) _) _) _) _) _) _) _) _) _) _) _) _) _) _) _) _) _) _) _).drew.drew.drew.drew.drew⟩

set_option maxHeartbeats 1600000 in
/-- Outside the function's own bounds: true at once. -/
theorem two_out (a : Option Addr) (len cap : Nat) (a1 a2 a3 a4 a5 : Int) (hn : len ≤ maxLen) (h : 65536 < len ∨ a3 < 0 ∨ a4 < a3 ∨ a5 < a4 ∨ (len : Int) < a5) (w : World) :
    Calls Try.prog 5 #[.slice a len cap, .int .i64 a1, .int .i64 a2, .int .i64 a3, .int .i64 a4, .int .i64 a5] w fun e w' => e = .returned (.bool true) ∧ Below w.heap.size w w' := by
  by_cases h1 : 65536 < len
  · go_enter Try.func5, Try.ntmps5
    go_wp2_with (go_at_call 13; refine (bytesMove_any a len cap _ _ _ _ _ hn _).mono ?_; rintro e w' ⟨⟨r, rfl⟩, rfl⟩; cases r)
    all_goals (go_ret; exact ⟨rfl, Below.refl _ _⟩)
  by_cases h2 : a3 < 0
  · go_enter Try.func5, Try.ntmps5
    go_wp2_with (go_at_call 13; refine (bytesMove_any a len cap _ _ _ _ _ hn _).mono ?_; rintro e w' ⟨⟨r, rfl⟩, rfl⟩; cases r)
    all_goals (go_ret; exact ⟨rfl, Below.refl _ _⟩)
  by_cases h3 : a4 < a3
  · go_enter Try.func5, Try.ntmps5
    go_wp2_with (go_at_call 13; refine (bytesMove_any a len cap _ _ _ _ _ hn _).mono ?_; rintro e w' ⟨⟨r, rfl⟩, rfl⟩; cases r)
    all_goals (go_ret; exact ⟨rfl, Below.refl _ _⟩)
  by_cases h4 : a5 < a4
  · go_enter Try.func5, Try.ntmps5
    go_wp2_with (go_at_call 13; refine (bytesMove_any a len cap _ _ _ _ _ hn _).mono ?_; rintro e w' ⟨⟨r, rfl⟩, rfl⟩; cases r)
    all_goals (go_ret; exact ⟨rfl, Below.refl _ _⟩)
  have h5 : (len : Int) < a5 := by omega
  clear h
  go_enter Try.func5, Try.ntmps5
  go_wp2_with (go_at_call 13; refine (bytesMove_any a len cap _ _ _ _ _ hn _).mono ?_; rintro e w' ⟨⟨r, rfl⟩, rfl⟩; cases r)
  all_goals (go_ret; exact ⟨rfl, Below.refl _ _⟩)

/-- The whole walk. -/
theorem two_any (a : Option Addr) (len cap : Nat) (zs : List Int) (a1 a2 a3 a4 a5 : Int) (hL1 : -9223372036854775808 ≤ a1) (hL2 : a1 ≤ 9223372036854775807) (hC1 : -9223372036854775808 ≤ a2) (hC2 : a2 ≤ 9223372036854775807) (w : World)
    (hn : len ≤ maxLen) (h : (a = none ∧ len = 0 ∧ cap = 0) ∨ ∃ x, a = some x ∧ Came w x len zs) :
    Calls Try.prog 5 #[.slice a len cap, .int .i64 a1, .int .i64 a2, .int .i64 a3, .int .i64 a4, .int .i64 a5] w fun e w' => e = .returned (.bool true) ∧ Below w.heap.size w w' := by
  by_cases ho : 65536 < len ∨ a3 < 0 ∨ a4 < a3 ∨ a5 < a4 ∨ (len : Int) < a5
  · exact two_out a len cap a1 a2 a3 a4 a5 hn ho w
  obtain ⟨lo, rfl⟩ := Int.eq_ofNat_of_zero_le (show 0 ≤ a3 by omega)
  obtain ⟨mi, rfl⟩ := Int.eq_ofNat_of_zero_le (show 0 ≤ a4 by omega)
  obtain ⟨hi, rfl⟩ := Int.eq_ofNat_of_zero_le (show 0 ≤ a5 by omega)
  rcases h with ⟨rfl, rfl, rfl⟩ | ⟨x, rfl, hc⟩
  · obtain rfl : lo = 0 := by omega
    obtain rfl : mi = 0 := by omega
    obtain rfl : hi = 0 := by omega
    exact two_nil a1 a2 hL1 hL2 hC1 hC2 w
  · exact two_some x len cap zs a1 a2 lo mi hi hL1 hL2 hC1 hC2 (by omega) (by omega) (by omega) (by omega) w hc
end Go.Proofs.Qxb6612560a
