/-
  THE WALKS of the two namespace statements, out of their callees' contracts.
-/
import Derived.Test.Qxb6612560aNsCall
import Derived.Deep.RegionWith
namespace Go.Proofs.Qxb6612560a
open Go.RowKit

theorem cat_list (x c : ByteArray) : (x ++ ⟨#[58, 58]⟩ ++ c).data.toList = x.data.toList ++ (58 :: 58 :: c.data.toList) := by
  simp [ByteArray.data_append]
theorem cat_size (x c : ByteArray) : (x ++ ⟨#[58, 58]⟩ ++ c).size = x.size + 2 + c.size := by
  rw [ByteArray.size_append, ByteArray.size_append]
  rfl
theorem cat_last (x c : ByteArray) (h0 : c.data.toList[0]? ≠ some 58) (hp : NoPair c.data.toList) : Lib.lastIndex (x ++ ⟨#[58, 58]⟩ ++ c).data.toList [58, 58] = x.size := by
  rw [cat_list, last_ns _ _ h0 hp]
  simp
theorem cat_pre (x c : ByteArray) : (x ++ ⟨#[58, 58]⟩ ++ c).extract 0 x.size = x := by
  apply ByteArray.ext
  apply Array.toList_inj.1
  simp [ByteArray.data_append]
  exact List.take_of_length_le (by simp)

set_option maxHeartbeats 400000 in
theorem bareName_any (x c : ByteArray) (w : World) (hx : x.size ≤ maxLen) (hc : c.size ≤ maxLen) :
    Calls Try.prog 3 #[.string x, .string c] w fun e w' => e = .returned (.bool true) ∧ Grown w w' := by
  by_cases h1 : x.size ≤ 65536
  · by_cases h2 : c.size ≤ 65536
    · go_enter Try.func3, Try.ntmps3
      go_wp2_with fail
      refine (bytes2_any x c _ hx hc).mono ?_
      rintro e w' ⟨⟨r, rfl⟩, rfl⟩
      cases r
      · go_wp2_with fail
        go_ret
        exact ⟨rfl, Grown.refl _⟩
      go_wp2_with fail
      refine (bare_any c _ (by omega)).mono ?_
      rintro e w' ⟨⟨r, rfl, hr⟩, rfl⟩
      cases r
      · go_wp2_with fail
        go_ret
        exact ⟨rfl, Grown.refl _⟩
      obtain ⟨h0, hp⟩ := hr rfl
      clear hr
      have HL : Hid (Lib.lastIndex (x ++ ⟨#[58, 58]⟩ ++ c).data.toList [58, 58] = x.size) := cat_last x c h0 hp
      have HN : Hid (Lib.lastIndex c.data.toList [58, 58] = -1) := last_none _ hp
      have hz : (x ++ ⟨#[58, 58]⟩).size = x.size + 2 := by rw [ByteArray.size_append]; rfl
      clear h0 hp
      go_wp2_with fail
      refine (ns_none c _ (by omega) HN.out _ (by simp [go_sem])).mono ?_
      rintro e w' ⟨rfl, rfl⟩
      go_wp2_with fail
      refine (ns_some (x ++ ⟨#[58, 58]⟩ ++ c) _ x.size (by rw [cat_size]; omega) (by rw [cat_size]; omega) HL.out _ (by simp [go_sem])).mono ?_
      rintro e w' ⟨rfl, rfl⟩
      rw [cat_pre]
      go_wp2
      go_ret
      exact ⟨rfl, ((Grown.refl _).alloc _ _).alloc _ _⟩
    · go_enter Try.func3, Try.ntmps3
      go_wp2_with (go_at_call 9; refine (bytes2_any x c _ hx hc).mono ?_; rintro e w' ⟨⟨r, rfl⟩, rfl⟩; cases r)
      all_goals (go_ret; exact ⟨rfl, Grown.refl _⟩)
  · go_enter Try.func3, Try.ntmps3
    go_wp2_with (go_at_call 9; refine (bytes2_any x c _ hx hc).mono ?_; rintro e w' ⟨⟨r, rfl⟩, rfl⟩; cases r)
    all_goals (go_ret; exact ⟨rfl, Grown.refl _⟩)

set_option maxHeartbeats 400000 in
theorem grows_any (x y c : ByteArray) (w : World) (hx : x.size ≤ maxLen) (hy : y.size ≤ maxLen) (hc : c.size ≤ maxLen) :
    Calls Try.prog 4 #[.string x, .string y, .string c] w fun e w' => e = .returned (.bool true) ∧ Grown w w' := by
  by_cases h1 : x.size ≤ 65536
  · by_cases h3 : y.size ≤ 65536
    · by_cases h2 : c.size ≤ 65536
      · go_enter Try.func4, Try.ntmps4
        go_wp2_with fail
        refine (bytes3_any x y c _ hx hy hc).mono ?_
        rintro e w' ⟨⟨r, rfl⟩, rfl⟩
        cases r
        · go_wp2_with fail
          go_ret
          exact ⟨rfl, Grown.refl _⟩
        go_wp2_with fail
        refine (bare_any c _ (by omega)).mono ?_
        rintro e w' ⟨⟨r, rfl, hr⟩, rfl⟩
        cases r
        · go_wp2_with fail
          go_ret
          exact ⟨rfl, Grown.refl _⟩
        obtain ⟨h0, hp⟩ := hr rfl
        clear hr
        have HL : Hid (∀ z : ByteArray, Lib.lastIndex (z ++ ⟨#[58, 58]⟩ ++ c).data.toList [58, 58] = z.size) := fun z => cat_last z c h0 hp
        have hz : ∀ z : ByteArray, (z ++ ⟨#[58, 58]⟩).size = z.size + 2 := fun z => by rw [ByteArray.size_append]; rfl
        have hz2 : (x ++ ⟨#[58, 58]⟩ ++ y).size = x.size + 2 + y.size := cat_size x y
        clear h0 hp
        go_wp2_with fail
        refine (ns_some (x ++ ⟨#[58, 58]⟩ ++ c) _ x.size (by rw [cat_size]; omega) (by rw [cat_size]; omega) (HL.out x) _ (by simp [go_sem])).mono ?_
        rintro e w' ⟨rfl, rfl⟩
        rw [cat_pre]
        go_wp2_with fail
        refine (ns_some ((x ++ ⟨#[58, 58]⟩ ++ y) ++ ⟨#[58, 58]⟩ ++ c) _ (x ++ ⟨#[58, 58]⟩ ++ y).size (by rw [cat_size (x ++ ⟨#[58, 58]⟩ ++ y) c]; omega) (by rw [cat_size (x ++ ⟨#[58, 58]⟩ ++ y) c]; omega) (HL.out _) _ (by simp [go_sem])).mono ?_
        rintro e w' ⟨rfl, rfl⟩
        rw [cat_pre]
        go_wp2
        go_ret
        exact ⟨rfl, ((Grown.refl _).alloc _ _).alloc _ _⟩
      · go_enter Try.func4, Try.ntmps4
        go_wp2_with (go_at_call 12; refine (bytes3_any x y c _ hx hy hc).mono ?_; rintro e w' ⟨⟨r, rfl⟩, rfl⟩; cases r)
        all_goals (go_ret; exact ⟨rfl, Grown.refl _⟩)
    · go_enter Try.func4, Try.ntmps4
      go_wp2_with (go_at_call 12; refine (bytes3_any x y c _ hx hy hc).mono ?_; rintro e w' ⟨⟨r, rfl⟩, rfl⟩; cases r)
      all_goals (go_ret; exact ⟨rfl, Grown.refl _⟩)
  · go_enter Try.func4, Try.ntmps4
    go_wp2_with (go_at_call 12; refine (bytes3_any x y c _ hx hy hc).mono ?_; rintro e w' ⟨⟨r, rfl⟩, rfl⟩; cases r)
    all_goals (go_ret; exact ⟨rfl, Grown.refl _⟩)
end Go.Proofs.Qxb6612560a
