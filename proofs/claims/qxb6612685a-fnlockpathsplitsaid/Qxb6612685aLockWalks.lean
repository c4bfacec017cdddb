/-
  THE WALKS shared by the two statements on LockPath: LockPath itself, the two bounds on lengths; and the plain laws on byte strings.
-/
import Derived.Test.Qxb6612685aProg
import Derived.WalkKit
import Derived.WalkSpells
import Derived.WalkLawsBesides
import Derived.Deep.RegionWith
namespace Go.Proofs.Qxb6612685a
open Go.RowKit

set_option maxHeartbeats 400000 in
theorem bytes10_any (a b : ByteArray) (w : World) (ha : a.size ≤ maxLen) (hb : b.size ≤ maxLen) :
    Calls Try.prog 10 #[.string a, .string b] w fun e w' => (∃ r : Bool, Hid (e = .returned (.bool r))) ∧ w' = w := by
  unfold maxLen at ha hb
  go_enter Try.func10, Try.ntmps10
  go_wp2
  all_goals (go_ret; exact ⟨⟨_, rfl⟩, rfl⟩)

set_option maxHeartbeats 400000 in
theorem bytes12_any (a b : ByteArray) (w : World) (ha : a.size ≤ maxLen) (hb : b.size ≤ maxLen) :
    Calls Try.prog 12 #[.string a, .string b] w fun e w' => (∃ r : Bool, Hid (e = .returned (.bool r))) ∧ w' = w := by
  unfold maxLen at ha hb
  go_enter Try.func12, Try.ntmps12
  go_wp2
  all_goals (go_ret; exact ⟨⟨_, rfl⟩, rfl⟩)

/-- The lock path: the path and the five bytes behind it. -/
def lockOf (a : ByteArray) : ByteArray := a ++ ⟨#[46, 108, 111, 99, 107]⟩

set_option maxHeartbeats 400000 in
theorem lock_any (a : ByteArray) (w : World) (ha : a.size ≤ 2097152) :
    Calls Try.prog 11 #[.string a] w fun e w' => e = .returned (.string (lockOf a)) ∧ w' = w := by
  go_enter Try.func11, Try.ntmps11
  go_wp2
  go_ret
  exact ⟨rfl, rfl⟩

/-! ### THE PLAIN LAWS: byte strings, no Go in sight -/
theorem lock_list (a : ByteArray) : (lockOf a).toList = a.toList ++ [46, 108, 111, 99, 107] := by
  rw [ByteArray.toList_eq, ByteArray.toList_eq]
  unfold lockOf
  rw [ByteArray.data_append]
  simp
theorem lock_size (a : ByteArray) : (lockOf a).size = a.size + 5 := by
  unfold lockOf
  rw [ByteArray.size_append]
  rfl
theorem lock_eq (a b : ByteArray) : ((lockOf a).toList == (lockOf b).toList) = (a.toList == b.toList) := by
  rw [lock_list, lock_list, Bool.eq_iff_iff]
  simp
theorem lock_ne (a : ByteArray) : ((lockOf a).toList == a.toList) = false := by
  rw [lock_list, beq_eq_false_iff_ne]
  intro h
  have := congrArg List.length h
  simp at this
theorem lock_pre (a : ByteArray) : (((lockOf a).extract 0 a.size).toList == a.toList) = true := by
  rw [ByteArray.toList_eq, ByteArray.toList_eq]
  unfold lockOf
  simp
  exact List.take_of_length_le (by simp)
theorem lock_split (a b : ByteArray) : ((lockOf (a ++ b)).toList == (a ++ lockOf b).toList) = true := by
  unfold lockOf
  rw [ByteArray.append_assoc]
  simp

set_option maxHeartbeats 400000 in
theorem inj_any (a b : ByteArray) (w : World) (ha : a.size ≤ maxLen) (hb : b.size ≤ maxLen) :
    Calls Try.prog 4 #[.string a, .string b] w fun e w' => e = .returned (.bool true) ∧ w' = w := by
  have e1 := lock_eq a b
  have e2 := lock_ne a
  have e3 := lock_size a
  have e4 := lock_pre a
  by_cases h1 : a.size ≤ 524288
  · by_cases h2 : b.size ≤ 524288
    · go_enter Try.func4, Try.ntmps4
      go_wp2_with (first | (go_at_call 10; refine (bytes10_any a b _ ha hb).mono ?_; rintro e w' ⟨⟨r, rfl⟩, rfl⟩; cases r) | (go_at_call_of 11 a; refine (lock_any a _ (by omega)).mono ?_; rintro e w' ⟨rfl, rfl⟩) | (go_at_call_of 11 b; refine (lock_any b _ (by omega)).mono ?_; rintro e w' ⟨rfl, rfl⟩))
      all_goals (go_ret; exact ⟨rfl, rfl⟩)
    · go_enter Try.func4, Try.ntmps4
      go_wp2_with (first | (go_at_call 10; refine (bytes10_any a b _ ha hb).mono ?_; rintro e w' ⟨⟨r, rfl⟩, rfl⟩; cases r))
      all_goals (go_ret; exact ⟨rfl, rfl⟩)
  · go_enter Try.func4, Try.ntmps4
    go_wp2_with (first | (go_at_call 10; refine (bytes10_any a b _ ha hb).mono ?_; rintro e w' ⟨⟨r, rfl⟩, rfl⟩; cases r))
    all_goals (go_ret; exact ⟨rfl, rfl⟩)

set_option maxHeartbeats 400000 in
theorem split_any (a b : ByteArray) (w : World) (ha : a.size ≤ maxLen) (hb : b.size ≤ maxLen) :
    Calls Try.prog 5 #[.string a, .string b] w fun e w' => e = .returned (.bool true) ∧ w' = w := by
  have e1 := lock_split a b
  have e2 := lock_ne b
  have e3 := lock_size b
  by_cases h1 : a.size ≤ 524288
  · by_cases h2 : b.size ≤ 524288
    · have hs : (a ++ b).size ≤ 2097152 := by rw [ByteArray.size_append]; omega
      go_enter Try.func5, Try.ntmps5
      go_wp2_with (first | (go_at_call 12; refine (bytes12_any a b _ ha hb).mono ?_; rintro e w' ⟨⟨r, rfl⟩, rfl⟩; cases r) | (go_at_call_of 11 (a ++ b); refine (lock_any (a ++ b) _ hs).mono ?_; rintro e w' ⟨rfl, rfl⟩) | (go_at_call_of 11 b; refine (lock_any b _ (by omega)).mono ?_; rintro e w' ⟨rfl, rfl⟩))
      all_goals (go_ret; exact ⟨rfl, rfl⟩)
    · go_enter Try.func5, Try.ntmps5
      go_wp2_with (first | (go_at_call 12; refine (bytes12_any a b _ ha hb).mono ?_; rintro e w' ⟨⟨r, rfl⟩, rfl⟩; cases r))
      all_goals (go_ret; exact ⟨rfl, rfl⟩)
  · go_enter Try.func5, Try.ntmps5
    go_wp2_with (first | (go_at_call 12; refine (bytes12_any a b _ ha hb).mono ?_; rintro e w' ⟨⟨r, rfl⟩, rfl⟩; cases r))
    all_goals (go_ret; exact ⟨rfl, rfl⟩)
end Go.Proofs.Qxb6612685a
