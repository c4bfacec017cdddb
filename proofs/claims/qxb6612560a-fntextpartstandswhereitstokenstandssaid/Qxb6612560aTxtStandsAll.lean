/-
  FnTextPartStandsWhereItsTokenStands: its ways out ahead of all work; the whole walk.
-/
import Derived.Test.Qxb6612560aTxtStands
namespace Go.Proofs.Qxb6612560a
open Go.RowKit

set_option maxHeartbeats 800000 in
theorem out_0 (n t : ByteArray) (b1 b2 : Bool) (a3 a4 a5 a6 a7 a8 : Int) (hn : n.size ≤ maxLen) (ht : t.size ≤ maxLen) (h0 : 65536 < n.size) (w : World) :
    Calls Try.prog 7 #[.string n, .bool b1, .string t, .int .i64 a3, .int .i64 a4, .int .i64 a5, .int .i64 a6, .int .i64 a7, .int .i64 a8, .bool b2] w fun e w' => e = .returned (.bool true) ∧ Below w.heap.size w w' := by
  go_enter Try.func7, Try.ntmps7
  go_wp2_with (go_at_call 20; refine (bytesText_any n t b1 b2 a3 a4 a5 a6 a7 a8 hn ht _).mono ?_; rintro e w' ⟨⟨r, rfl⟩, rfl⟩; cases r)
  all_goals (go_ret; exact ⟨rfl, Below.refl _ _⟩)

set_option maxHeartbeats 800000 in
theorem out_1 (n t : ByteArray) (b1 b2 : Bool) (a3 a4 a5 a6 a7 a8 : Int) (hn : n.size ≤ maxLen) (ht : t.size ≤ maxLen) (h0 : ¬ 65536 < n.size) (h1 : 65536 < t.size) (w : World) :
    Calls Try.prog 7 #[.string n, .bool b1, .string t, .int .i64 a3, .int .i64 a4, .int .i64 a5, .int .i64 a6, .int .i64 a7, .int .i64 a8, .bool b2] w fun e w' => e = .returned (.bool true) ∧ Below w.heap.size w w' := by
  go_enter Try.func7, Try.ntmps7
  go_wp2_with (go_at_call 20; refine (bytesText_any n t b1 b2 a3 a4 a5 a6 a7 a8 hn ht _).mono ?_; rintro e w' ⟨⟨r, rfl⟩, rfl⟩; cases r)
  all_goals (go_ret; exact ⟨rfl, Below.refl _ _⟩)

set_option maxHeartbeats 800000 in
theorem out_2 (n t : ByteArray) (b1 b2 : Bool) (a3 a4 a5 a6 a7 a8 : Int) (hn : n.size ≤ maxLen) (ht : t.size ≤ maxLen) (h0 : ¬ 65536 < n.size) (h1 : ¬ 65536 < t.size) (h2 : a3 < 1) (w : World) :
    Calls Try.prog 7 #[.string n, .bool b1, .string t, .int .i64 a3, .int .i64 a4, .int .i64 a5, .int .i64 a6, .int .i64 a7, .int .i64 a8, .bool b2] w fun e w' => e = .returned (.bool true) ∧ Below w.heap.size w w' := by
  go_enter Try.func7, Try.ntmps7
  go_wp2_with (go_at_call 20; refine (bytesText_any n t b1 b2 a3 a4 a5 a6 a7 a8 hn ht _).mono ?_; rintro e w' ⟨⟨r, rfl⟩, rfl⟩; cases r)
  all_goals (go_ret; exact ⟨rfl, Below.refl _ _⟩)

set_option maxHeartbeats 800000 in
theorem out_3 (n t : ByteArray) (b1 b2 : Bool) (a3 a4 a5 a6 a7 a8 : Int) (hn : n.size ≤ maxLen) (ht : t.size ≤ maxLen) (h0 : ¬ 65536 < n.size) (h1 : ¬ 65536 < t.size) (h2 : ¬ a3 < 1) (h3 : 2147483647 < a3) (w : World) :
    Calls Try.prog 7 #[.string n, .bool b1, .string t, .int .i64 a3, .int .i64 a4, .int .i64 a5, .int .i64 a6, .int .i64 a7, .int .i64 a8, .bool b2] w fun e w' => e = .returned (.bool true) ∧ Below w.heap.size w w' := by
  go_enter Try.func7, Try.ntmps7
  go_wp2_with (go_at_call 20; refine (bytesText_any n t b1 b2 a3 a4 a5 a6 a7 a8 hn ht _).mono ?_; rintro e w' ⟨⟨r, rfl⟩, rfl⟩; cases r)
  all_goals (go_ret; exact ⟨rfl, Below.refl _ _⟩)

set_option maxHeartbeats 800000 in
theorem out_4 (n t : ByteArray) (b1 b2 : Bool) (a3 a4 a5 a6 a7 a8 : Int) (hn : n.size ≤ maxLen) (ht : t.size ≤ maxLen) (h0 : ¬ 65536 < n.size) (h1 : ¬ 65536 < t.size) (h2 : ¬ a3 < 1) (h3 : ¬ 2147483647 < a3) (h4 : a4 < 1) (w : World) :
    Calls Try.prog 7 #[.string n, .bool b1, .string t, .int .i64 a3, .int .i64 a4, .int .i64 a5, .int .i64 a6, .int .i64 a7, .int .i64 a8, .bool b2] w fun e w' => e = .returned (.bool true) ∧ Below w.heap.size w w' := by
  go_enter Try.func7, Try.ntmps7
  go_wp2_with (go_at_call 20; refine (bytesText_any n t b1 b2 a3 a4 a5 a6 a7 a8 hn ht _).mono ?_; rintro e w' ⟨⟨r, rfl⟩, rfl⟩; cases r)
  all_goals (go_ret; exact ⟨rfl, Below.refl _ _⟩)

set_option maxHeartbeats 800000 in
theorem out_5 (n t : ByteArray) (b1 b2 : Bool) (a3 a4 a5 a6 a7 a8 : Int) (hn : n.size ≤ maxLen) (ht : t.size ≤ maxLen) (h0 : ¬ 65536 < n.size) (h1 : ¬ 65536 < t.size) (h2 : ¬ a3 < 1) (h3 : ¬ 2147483647 < a3) (h4 : ¬ a4 < 1) (h5 : 2147483647 < a4) (w : World) :
    Calls Try.prog 7 #[.string n, .bool b1, .string t, .int .i64 a3, .int .i64 a4, .int .i64 a5, .int .i64 a6, .int .i64 a7, .int .i64 a8, .bool b2] w fun e w' => e = .returned (.bool true) ∧ Below w.heap.size w w' := by
  go_enter Try.func7, Try.ntmps7
  go_wp2_with (go_at_call 20; refine (bytesText_any n t b1 b2 a3 a4 a5 a6 a7 a8 hn ht _).mono ?_; rintro e w' ⟨⟨r, rfl⟩, rfl⟩; cases r)
  all_goals (go_ret; exact ⟨rfl, Below.refl _ _⟩)

set_option maxHeartbeats 800000 in
theorem out_6 (n t : ByteArray) (b1 b2 : Bool) (a3 a4 a5 a6 a7 a8 : Int) (hn : n.size ≤ maxLen) (ht : t.size ≤ maxLen) (h0 : ¬ 65536 < n.size) (h1 : ¬ 65536 < t.size) (h2 : ¬ a3 < 1) (h3 : ¬ 2147483647 < a3) (h4 : ¬ a4 < 1) (h5 : ¬ 2147483647 < a4) (h6 : a5 < 0) (w : World) :
    Calls Try.prog 7 #[.string n, .bool b1, .string t, .int .i64 a3, .int .i64 a4, .int .i64 a5, .int .i64 a6, .int .i64 a7, .int .i64 a8, .bool b2] w fun e w' => e = .returned (.bool true) ∧ Below w.heap.size w w' := by
  go_enter Try.func7, Try.ntmps7
  go_wp2_with (go_at_call 20; refine (bytesText_any n t b1 b2 a3 a4 a5 a6 a7 a8 hn ht _).mono ?_; rintro e w' ⟨⟨r, rfl⟩, rfl⟩; cases r)
  all_goals (go_ret; exact ⟨rfl, Below.refl _ _⟩)

set_option maxHeartbeats 800000 in
theorem out_7 (n t : ByteArray) (b1 b2 : Bool) (a3 a4 a5 a6 a7 a8 : Int) (hn : n.size ≤ maxLen) (ht : t.size ≤ maxLen) (h0 : ¬ 65536 < n.size) (h1 : ¬ 65536 < t.size) (h2 : ¬ a3 < 1) (h3 : ¬ 2147483647 < a3) (h4 : ¬ a4 < 1) (h5 : ¬ 2147483647 < a4) (h6 : ¬ a5 < 0) (h7 : 2147483647 < a5) (w : World) :
    Calls Try.prog 7 #[.string n, .bool b1, .string t, .int .i64 a3, .int .i64 a4, .int .i64 a5, .int .i64 a6, .int .i64 a7, .int .i64 a8, .bool b2] w fun e w' => e = .returned (.bool true) ∧ Below w.heap.size w w' := by
  go_enter Try.func7, Try.ntmps7
  go_wp2_with (go_at_call 20; refine (bytesText_any n t b1 b2 a3 a4 a5 a6 a7 a8 hn ht _).mono ?_; rintro e w' ⟨⟨r, rfl⟩, rfl⟩; cases r)
  all_goals (go_ret; exact ⟨rfl, Below.refl _ _⟩)

set_option maxHeartbeats 800000 in
theorem out_8 (n t : ByteArray) (b1 b2 : Bool) (a3 a4 a5 a6 a7 a8 : Int) (hn : n.size ≤ maxLen) (ht : t.size ≤ maxLen) (h0 : ¬ 65536 < n.size) (h1 : ¬ 65536 < t.size) (h2 : ¬ a3 < 1) (h3 : ¬ 2147483647 < a3) (h4 : ¬ a4 < 1) (h5 : ¬ 2147483647 < a4) (h6 : ¬ a5 < 0) (h7 : ¬ 2147483647 < a5) (h8 : a6 < 1) (w : World) :
    Calls Try.prog 7 #[.string n, .bool b1, .string t, .int .i64 a3, .int .i64 a4, .int .i64 a5, .int .i64 a6, .int .i64 a7, .int .i64 a8, .bool b2] w fun e w' => e = .returned (.bool true) ∧ Below w.heap.size w w' := by
  go_enter Try.func7, Try.ntmps7
  go_wp2_with (go_at_call 20; refine (bytesText_any n t b1 b2 a3 a4 a5 a6 a7 a8 hn ht _).mono ?_; rintro e w' ⟨⟨r, rfl⟩, rfl⟩; cases r)
  all_goals (go_ret; exact ⟨rfl, Below.refl _ _⟩)

set_option maxHeartbeats 800000 in
theorem out_9 (n t : ByteArray) (b1 b2 : Bool) (a3 a4 a5 a6 a7 a8 : Int) (hn : n.size ≤ maxLen) (ht : t.size ≤ maxLen) (h0 : ¬ 65536 < n.size) (h1 : ¬ 65536 < t.size) (h2 : ¬ a3 < 1) (h3 : ¬ 2147483647 < a3) (h4 : ¬ a4 < 1) (h5 : ¬ 2147483647 < a4) (h6 : ¬ a5 < 0) (h7 : ¬ 2147483647 < a5) (h8 : ¬ a6 < 1) (h9 : 2147483647 < a6) (w : World) :
    Calls Try.prog 7 #[.string n, .bool b1, .string t, .int .i64 a3, .int .i64 a4, .int .i64 a5, .int .i64 a6, .int .i64 a7, .int .i64 a8, .bool b2] w fun e w' => e = .returned (.bool true) ∧ Below w.heap.size w w' := by
  go_enter Try.func7, Try.ntmps7
  go_wp2_with (go_at_call 20; refine (bytesText_any n t b1 b2 a3 a4 a5 a6 a7 a8 hn ht _).mono ?_; rintro e w' ⟨⟨r, rfl⟩, rfl⟩; cases r)
  all_goals (go_ret; exact ⟨rfl, Below.refl _ _⟩)

set_option maxHeartbeats 800000 in
theorem out_10 (n t : ByteArray) (b1 b2 : Bool) (a3 a4 a5 a6 a7 a8 : Int) (hn : n.size ≤ maxLen) (ht : t.size ≤ maxLen) (h0 : ¬ 65536 < n.size) (h1 : ¬ 65536 < t.size) (h2 : ¬ a3 < 1) (h3 : ¬ 2147483647 < a3) (h4 : ¬ a4 < 1) (h5 : ¬ 2147483647 < a4) (h6 : ¬ a5 < 0) (h7 : ¬ 2147483647 < a5) (h8 : ¬ a6 < 1) (h9 : ¬ 2147483647 < a6) (h10 : a7 < 1) (w : World) :
    Calls Try.prog 7 #[.string n, .bool b1, .string t, .int .i64 a3, .int .i64 a4, .int .i64 a5, .int .i64 a6, .int .i64 a7, .int .i64 a8, .bool b2] w fun e w' => e = .returned (.bool true) ∧ Below w.heap.size w w' := by
  go_enter Try.func7, Try.ntmps7
  go_wp2_with (go_at_call 20; refine (bytesText_any n t b1 b2 a3 a4 a5 a6 a7 a8 hn ht _).mono ?_; rintro e w' ⟨⟨r, rfl⟩, rfl⟩; cases r)
  all_goals (go_ret; exact ⟨rfl, Below.refl _ _⟩)

set_option maxHeartbeats 800000 in
theorem out_11 (n t : ByteArray) (b1 b2 : Bool) (a3 a4 a5 a6 a7 a8 : Int) (hn : n.size ≤ maxLen) (ht : t.size ≤ maxLen) (h0 : ¬ 65536 < n.size) (h1 : ¬ 65536 < t.size) (h2 : ¬ a3 < 1) (h3 : ¬ 2147483647 < a3) (h4 : ¬ a4 < 1) (h5 : ¬ 2147483647 < a4) (h6 : ¬ a5 < 0) (h7 : ¬ 2147483647 < a5) (h8 : ¬ a6 < 1) (h9 : ¬ 2147483647 < a6) (h10 : ¬ a7 < 1) (h11 : 2147483647 < a7) (w : World) :
    Calls Try.prog 7 #[.string n, .bool b1, .string t, .int .i64 a3, .int .i64 a4, .int .i64 a5, .int .i64 a6, .int .i64 a7, .int .i64 a8, .bool b2] w fun e w' => e = .returned (.bool true) ∧ Below w.heap.size w w' := by
  go_enter Try.func7, Try.ntmps7
  go_wp2_with (go_at_call 20; refine (bytesText_any n t b1 b2 a3 a4 a5 a6 a7 a8 hn ht _).mono ?_; rintro e w' ⟨⟨r, rfl⟩, rfl⟩; cases r)
  all_goals (go_ret; exact ⟨rfl, Below.refl _ _⟩)

set_option maxHeartbeats 800000 in
theorem out_12 (n t : ByteArray) (b1 b2 : Bool) (a3 a4 a5 a6 a7 a8 : Int) (hn : n.size ≤ maxLen) (ht : t.size ≤ maxLen) (h0 : ¬ 65536 < n.size) (h1 : ¬ 65536 < t.size) (h2 : ¬ a3 < 1) (h3 : ¬ 2147483647 < a3) (h4 : ¬ a4 < 1) (h5 : ¬ 2147483647 < a4) (h6 : ¬ a5 < 0) (h7 : ¬ 2147483647 < a5) (h8 : ¬ a6 < 1) (h9 : ¬ 2147483647 < a6) (h10 : ¬ a7 < 1) (h11 : ¬ 2147483647 < a7) (h12 : a8 < 0) (w : World) :
    Calls Try.prog 7 #[.string n, .bool b1, .string t, .int .i64 a3, .int .i64 a4, .int .i64 a5, .int .i64 a6, .int .i64 a7, .int .i64 a8, .bool b2] w fun e w' => e = .returned (.bool true) ∧ Below w.heap.size w w' := by
  go_enter Try.func7, Try.ntmps7
  go_wp2_with (go_at_call 20; refine (bytesText_any n t b1 b2 a3 a4 a5 a6 a7 a8 hn ht _).mono ?_; rintro e w' ⟨⟨r, rfl⟩, rfl⟩; cases r)
  all_goals (go_ret; exact ⟨rfl, Below.refl _ _⟩)

set_option maxHeartbeats 800000 in
theorem out_13 (n t : ByteArray) (b1 b2 : Bool) (a3 a4 a5 a6 a7 a8 : Int) (hn : n.size ≤ maxLen) (ht : t.size ≤ maxLen) (h0 : ¬ 65536 < n.size) (h1 : ¬ 65536 < t.size) (h2 : ¬ a3 < 1) (h3 : ¬ 2147483647 < a3) (h4 : ¬ a4 < 1) (h5 : ¬ 2147483647 < a4) (h6 : ¬ a5 < 0) (h7 : ¬ 2147483647 < a5) (h8 : ¬ a6 < 1) (h9 : ¬ 2147483647 < a6) (h10 : ¬ a7 < 1) (h11 : ¬ 2147483647 < a7) (h12 : ¬ a8 < 0) (h13 : 2147483647 < a8) (w : World) :
    Calls Try.prog 7 #[.string n, .bool b1, .string t, .int .i64 a3, .int .i64 a4, .int .i64 a5, .int .i64 a6, .int .i64 a7, .int .i64 a8, .bool b2] w fun e w' => e = .returned (.bool true) ∧ Below w.heap.size w w' := by
  go_enter Try.func7, Try.ntmps7
  go_wp2_with (go_at_call 20; refine (bytesText_any n t b1 b2 a3 a4 a5 a6 a7 a8 hn ht _).mono ?_; rintro e w' ⟨⟨r, rfl⟩, rfl⟩; cases r)
  all_goals (go_ret; exact ⟨rfl, Below.refl _ _⟩)

/-- The whole walk. -/
theorem stands_any (n t : ByteArray) (b1 b2 : Bool) (a3 a4 a5 a6 a7 a8 : Int) (hn : n.size ≤ maxLen) (ht : t.size ≤ maxLen) (w : World) :
    Calls Try.prog 7 #[.string n, .bool b1, .string t, .int .i64 a3, .int .i64 a4, .int .i64 a5, .int .i64 a6, .int .i64 a7, .int .i64 a8, .bool b2] w fun e w' => e = .returned (.bool true) ∧ Below w.heap.size w w' := by
  by_cases h0 : 65536 < n.size
  · exact out_0 n t b1 b2 a3 a4 a5 a6 a7 a8 hn ht h0 w
  by_cases h1 : 65536 < t.size
  · exact out_1 n t b1 b2 a3 a4 a5 a6 a7 a8 hn ht h0 h1 w
  by_cases h2 : a3 < 1
  · exact out_2 n t b1 b2 a3 a4 a5 a6 a7 a8 hn ht h0 h1 h2 w
  by_cases h3 : 2147483647 < a3
  · exact out_3 n t b1 b2 a3 a4 a5 a6 a7 a8 hn ht h0 h1 h2 h3 w
  by_cases h4 : a4 < 1
  · exact out_4 n t b1 b2 a3 a4 a5 a6 a7 a8 hn ht h0 h1 h2 h3 h4 w
  by_cases h5 : 2147483647 < a4
  · exact out_5 n t b1 b2 a3 a4 a5 a6 a7 a8 hn ht h0 h1 h2 h3 h4 h5 w
  by_cases h6 : a5 < 0
  · exact out_6 n t b1 b2 a3 a4 a5 a6 a7 a8 hn ht h0 h1 h2 h3 h4 h5 h6 w
  by_cases h7 : 2147483647 < a5
  · exact out_7 n t b1 b2 a3 a4 a5 a6 a7 a8 hn ht h0 h1 h2 h3 h4 h5 h6 h7 w
  by_cases h8 : a6 < 1
  · exact out_8 n t b1 b2 a3 a4 a5 a6 a7 a8 hn ht h0 h1 h2 h3 h4 h5 h6 h7 h8 w
  by_cases h9 : 2147483647 < a6
  · exact out_9 n t b1 b2 a3 a4 a5 a6 a7 a8 hn ht h0 h1 h2 h3 h4 h5 h6 h7 h8 h9 w
  by_cases h10 : a7 < 1
  · exact out_10 n t b1 b2 a3 a4 a5 a6 a7 a8 hn ht h0 h1 h2 h3 h4 h5 h6 h7 h8 h9 h10 w
  by_cases h11 : 2147483647 < a7
  · exact out_11 n t b1 b2 a3 a4 a5 a6 a7 a8 hn ht h0 h1 h2 h3 h4 h5 h6 h7 h8 h9 h10 h11 w
  by_cases h12 : a8 < 0
  · exact out_12 n t b1 b2 a3 a4 a5 a6 a7 a8 hn ht h0 h1 h2 h3 h4 h5 h6 h7 h8 h9 h10 h11 h12 w
  by_cases h13 : 2147483647 < a8
  · exact out_13 n t b1 b2 a3 a4 a5 a6 a7 a8 hn ht h0 h1 h2 h3 h4 h5 h6 h7 h8 h9 h10 h11 h12 h13 w
  have hs : Fits a3 a4 a5 := ⟨by omega, by omega, by omega, by omega, by omega, by omega⟩
  have he : Fits a6 a7 a8 := ⟨by omega, by omega, by omega, by omega, by omega, by omega⟩
  cases b1
  · cases b2
    · exact stands_bare_plain n t a3 a4 a5 a6 a7 a8 (by omega) (by omega) hs he w
    · exact stands_bare_ind n t a3 a4 a5 a6 a7 a8 (by omega) (by omega) hs he w
  · cases b2
    · exact stands_named_plain n t a3 a4 a5 a6 a7 a8 (by omega) (by omega) hs he w
    · exact stands_named_ind n t a3 a4 a5 a6 a7 a8 (by omega) (by omega) hs he w
end Go.Proofs.Qxb6612560a
