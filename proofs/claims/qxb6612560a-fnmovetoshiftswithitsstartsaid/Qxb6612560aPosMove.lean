/-
  THE WALKS of moveTo, ZZscannerMoveTo, ZZscannerPos.
-/
import Derived.Test.Qxb6612560aPosScan
namespace Go.Proofs.Qxb6612560a
open Go.RowKit

/-- The world behind a move: the three numbers of the position are turned, and three blocks are laid. -/
def moved (w : World) (S : Nat) (s : Int × Int) (hi : Int) (c0 c1 c2 : Array Value) : World :=
  ((((((w.setCell ⟨S, 2, none⟩ (.int .i64 s.1)).setCell ⟨S, 3, none⟩ (.int .i64 s.2)).setCell ⟨S, 4, none⟩ (.int .i64 hi)).alloc (.cells c0 40)).alloc (.cells c1 40)).alloc (.cells c2 40)).drew

set_option maxHeartbeats 800000 in
/-- moveTo, where posAt is known. -/
theorem moveTo_of (S : Nat) (hi : Int) (s : Int × Int) (v2 v3 v4 : Value) (w : World) (hS : S < w.heap.size)
    (h2 : w.cell? ⟨S, 2, none⟩ = some v2) (h3 : w.cell? ⟨S, 3, none⟩ = some v3) (h4 : w.cell? ⟨S, 4, none⟩ = some v4)
    (f2 : w.frozen? ⟨S, 2, none⟩ = false) (f3 : w.frozen? ⟨S, 3, none⟩ = false) (f4 : w.frozen? ⟨S, 4, none⟩ = false)
    (hp : Calls Try.prog 35 #[.pointer (some ⟨S, 0, none⟩), .int .i64 hi] w fun e w' => e = .returned (.agg (posV s hi)) ∧ ∃ c0 c1 c2 : Array Value, w' = (((w.alloc (.cells c0 40)).alloc (.cells c1 40)).alloc (.cells c2 40)).drew) :
    Calls Try.prog 30 #[.pointer (some ⟨S, 0, none⟩), .int .i64 hi] w fun e w' => e = .returned (.tuple #[]) ∧ ∃ c0 c1 c2 : Array Value, w' = moved w S s hi c0 c1 c2 := by
  have HP : Hid _ := hp
  clear hp
  have s1 : S < w.heap.size + 1 := by omega
  have s2 : S < w.heap.size + 1 + 1 := by omega
  have s3 : S < w.heap.size + 1 + 1 + 1 := by omega
  go_enter Try.func30, Try.ntmps30
  go_wp2_with fail
  refine Calls.mono HP.out ?_
  rintro e w' ⟨rfl, c0, c1, c2, rfl⟩
  simp only [posV]
  go_wp2
  go_end0
  exact ⟨rfl, c0, c1, c2, rfl⟩

set_option maxHeartbeats 800000 in
/-- ZZscannerMoveTo, where posAt is known. -/
theorem zzMoveTo_of (S : Nat) (hi : Int) (s : Int × Int) (v2 v3 v4 : Value) (w : World) (hS : S < w.heap.size)
    (h2 : w.cell? ⟨S, 2, none⟩ = some v2) (h3 : w.cell? ⟨S, 3, none⟩ = some v3) (h4 : w.cell? ⟨S, 4, none⟩ = some v4)
    (f2 : w.frozen? ⟨S, 2, none⟩ = false) (f3 : w.frozen? ⟨S, 3, none⟩ = false) (f4 : w.frozen? ⟨S, 4, none⟩ = false)
    (hp : Calls Try.prog 35 #[.pointer (some ⟨S, 0, none⟩), .int .i64 hi] w fun e w' => e = .returned (.agg (posV s hi)) ∧ ∃ c0 c1 c2 : Array Value, w' = (((w.alloc (.cells c0 40)).alloc (.cells c1 40)).alloc (.cells c2 40)).drew) :
    Calls Try.prog 17 #[.pointer (some ⟨S, 0, none⟩), .int .i64 hi] w fun e w' => e = .returned (.tuple #[]) ∧ ∃ c0 c1 c2 : Array Value, w' = moved w S s hi c0 c1 c2 := by
  have HM : Hid _ := moveTo_of S hi s v2 v3 v4 w hS h2 h3 h4 f2 f3 f4 hp
  clear hp h2 h3 h4 f2 f3 f4
  go_enter Try.func17, Try.ntmps17
  go_wp2_with fail
  refine Calls.mono HM.out ?_
  rintro e w' ⟨rfl, c0, c1, c2, rfl⟩
  go_wp2_with fail
  go_end0
  exact ⟨rfl, c0, c1, c2, rfl⟩

/-- ZZscannerMoveTo over a source that is not nil. -/
theorem move_some (S b n lo hi : Nat) (L C : Int) (P : Int × Int) (zs : List Int) (hlo : lo ≤ hi) (hhi : hi ≤ n) (hn : n ≤ 1048576) (hz : zs.length = n) (hP : advPos lead (L, C) (seg zs lo hi) = P) (w : World) (hS : S < w.heap.size)
    (h0 : w.cell? ⟨S, 0, none⟩ = some (.slice (some ⟨b, 0, none⟩) n n)) (h2 : w.cell? ⟨S, 2, none⟩ = some (.int .i64 L)) (h3 : w.cell? ⟨S, 3, none⟩ = some (.int .i64 C)) (h4 : w.cell? ⟨S, 4, none⟩ = some (.int .i64 lo))
    (f2 : w.frozen? ⟨S, 2, none⟩ = false) (f3 : w.frozen? ⟨S, 3, none⟩ = false) (f4 : w.frozen? ⟨S, 4, none⟩ = false) (hc : Lies w (some ⟨b, 0, none⟩) zs) :
    Calls Try.prog 17 #[.pointer (some ⟨S, 0, none⟩), .int .i64 hi] w fun e w' => e = .returned (.tuple #[]) ∧ ∃ c0 c1 c2 : Array Value, w' = moved w S P hi c0 c1 c2 := by
  subst hP
  exact zzMoveTo_of S hi _ _ _ _ w hS h2 h3 h4 f2 f3 f4 (posAt_pos S b n lo hi L C zs hlo hhi hn hz w hS h0 h2 h3 h4 hc)
/-- ZZscannerMoveTo over a nil source. -/
theorem move_nil (S : Nat) (L C : Int) (w : World) (hS : S < w.heap.size)
    (h0 : w.cell? ⟨S, 0, none⟩ = some (.slice none 0 0)) (h2 : w.cell? ⟨S, 2, none⟩ = some (.int .i64 L)) (h3 : w.cell? ⟨S, 3, none⟩ = some (.int .i64 C)) (h4 : w.cell? ⟨S, 4, none⟩ = some (.int .i64 0))
    (f2 : w.frozen? ⟨S, 2, none⟩ = false) (f3 : w.frozen? ⟨S, 3, none⟩ = false) (f4 : w.frozen? ⟨S, 4, none⟩ = false) :
    Calls Try.prog 17 #[.pointer (some ⟨S, 0, none⟩), .int .i64 0] w fun e w' => e = .returned (.tuple #[]) ∧ ∃ c0 c1 c2 : Array Value, w' = moved w S (L, C) 0 c0 c1 c2 :=
  zzMoveTo_of S 0 _ _ _ _ w hS h2 h3 h4 f2 f3 f4 (posAt_nil S L C w hS h0 h2 h3 h4)

set_option maxHeartbeats 800000 in
theorem scannerPos_any (S : Nat) (L C B : Int) (w : World) (hS : S < w.heap.size)
    (h2 : w.cell? ⟨S, 2, none⟩ = some (.int .i64 L)) (h3 : w.cell? ⟨S, 3, none⟩ = some (.int .i64 C)) (h4 : w.cell? ⟨S, 4, none⟩ = some (.int .i64 B)) :
    Calls Try.prog 18 #[.pointer (some ⟨S, 0, none⟩)] w fun e w' => e = .returned (.agg #[.int .i64 L, .int .i64 C, .int .i64 B]) ∧ w' = w.alloc (.cells #[.int .i64 L, .int .i64 C, .int .i64 B] 40) := by
  go_enter Try.func18, Try.ntmps18
  go_wp2
  exact bodyPost_ret (v := .agg #[.int .i64 L, .int .i64 C, .int .i64 B]) (by simp [results, Try.results18, go_sem]) rfl ⟨rfl, rfl⟩

set_option maxHeartbeats 800000 in
theorem bytesMove_any (a : Option Addr) (n c : Nat) (a1 a2 a3 a4 a5 : Int) (hn : n ≤ maxLen) (w : World) :
    Calls Try.prog 13 #[.slice a n c, .int .i64 a1, .int .i64 a2, .int .i64 a3, .int .i64 a4, .int .i64 a5] w fun e w' => (∃ r : Bool, Hid (e = .returned (.bool r))) ∧ w' = w := by
  unfold maxLen at hn
  go_enter Try.func13, Try.ntmps13
  go_wp2
  all_goals (go_ret; exact ⟨⟨_, rfl⟩, rfl⟩)

set_option maxHeartbeats 800000 in
theorem bytesShift_any (a : Option Addr) (n c : Nat) (a1 a2 a3 a4 a5 a6 : Int) (hn : n ≤ maxLen) (w : World) :
    Calls Try.prog 19 #[.slice a n c, .int .i64 a1, .int .i64 a2, .int .i64 a3, .int .i64 a4, .int .i64 a5, .int .i64 a6] w fun e w' => (∃ r : Bool, Hid (e = .returned (.bool r))) ∧ w' = w := by
  unfold maxLen at hn
  go_enter Try.func19, Try.ntmps19
  go_wp2
  all_goals (go_ret; exact ⟨⟨_, rfl⟩, rfl⟩)
end Go.Proofs.Qxb6612560a
