/-
  THE WALK of zzCloneBytes: a nil slice comes back nil; another is copied into a new block, cell by cell.
-/
import Derived.Test.Qxb6612560aProg
import Derived.Test.Qxb6612560aPosPlain
import Derived.WalkKit
import Derived.WalkSpells
import Derived.WalkLawsBesides
import Derived.Deep.OwnRows
namespace Go.Proofs.Qxb6612560a
open Go.RowKit

/-- The new row behind k rounds: the first k cells are copied, the rest are still zero. -/
def cl (zs : List Int) (n k : Nat) : Array Value := ((List.range n).map fun i => if i < k then Value.int .u8 (zs.getD i 0) else Value.int .u8 0).toArray
theorem cl_get (zs : List Int) (n k i : Nat) (h : i < n) : (cl zs n k)[i]? = some (if i < k then Value.int .u8 (zs.getD i 0) else Value.int .u8 0) := by
  simp [cl, h]
theorem cl_size (zs : List Int) (n k : Nat) : (cl zs n k).size = n := by simp [cl]
theorem cl_zero (zs : List Int) (n : Nat) : madeCells #[Value.int .u8 0] n = cl zs n 0 := by
  apply Array.ext'
  rw [toList_madeCells_one]
  apply List.ext_getElem <;> simp [cl]
theorem cl_set (zs : List Int) (n k : Nat) : (cl zs n k).setIfInBounds k (.int .u8 (zs.getD k 0)) = cl zs n (k + 1) := by
  apply Array.ext
  · simp [cl]
  · intro i h1 h2
    rw [Array.getElem_setIfInBounds (by simpa using h1)]
    simp only [cl, List.getElem_toArray, List.getElem_map, List.getElem_range]
    by_cases e : k = i
    · subst e; simp
    · rw [if_neg e]
      by_cases h : i < k
      · rw [if_pos h, if_pos (by omega)]
      · rw [if_neg h, if_neg (by omega)]

theorem Try.info5 : (Try.prog.info? 5).map (fun i => (i.zero, i.size, i.bytes)) = some (some (.int .u8 0), 1, 1) := by kernel_rfl

theorem make_bytes (zs : List Int) (n : Nat) (hn : n ≤ 1048576) (w : World) :
    (Instr.makeSlice 36 (.int .i64 (n : Int)) (.int .i64 (n : Int))).run Try.prog w = .ok (.slice (some ⟨w.heap.size, 0, none⟩) n n) (w.alloc (.cells (cl zs n 0) 5)) := by
  rw [← cl_zero zs n]
  exact run_make_row' (P := Try.prog) 36 5 (.int .u8 0) 1 Try.underlying36 Try.info5 rfl .i64 .i64 n (by omega) (by omega) w

theorem eql_nil (w : World) : (binOp .eql 36 (.slice none 0 0) (.slice none 0 0)).run Try.prog w = .ok (.bool true) w := by kernel_rfl
theorem eql_some (x : Addr) (n c : Nat) (w : World) : (binOp .eql 36 (.slice (some x) n c) (.slice none 0 0)).run Try.prog w = .ok (.bool false) w := by kernel_rfl

set_option maxHeartbeats 400000 in
theorem clone_nil (w : World) : Calls Try.prog 14 #[.slice none 0 0] w fun e w' => e = .returned (.slice none 0 0) ∧ w' = w := by
  have hq := eql_nil
  go_enter Try.func14, Try.ntmps14
  go_wp2
  go_ret
  exact ⟨rfl, rfl⟩

theorem make_none (w : World) : (Instr.makeSlice 36 (.int .i64 0) (.int .i64 0)).run Try.prog w = .ok (.slice (some ⟨w.heap.size, 0, none⟩) 0 0) (w.alloc (.cells #[] 5)) := by kernel_rfl

set_option maxHeartbeats 400000 in
theorem clone_zero (x : Addr) (cap : Nat) (w : World) : Calls Try.prog 14 #[.slice (some x) 0 cap] w fun e w' => e = .returned (.slice (some ⟨w.heap.size, 0, none⟩) 0 0) ∧ w' = w.alloc (.cells #[] 5) := by
  have hq := eql_some x 0 cap
  have hmk := make_none
  go_enter Try.func14, Try.ntmps14
  go_wp2
  refine wp_loop_rounds 1 ?_
  rw [rounds_succ]
  go_wp2
  go_ret
  exact ⟨rfl, rfl⟩

set_option maxHeartbeats 400000 in
theorem clone_pos (b off len cap : Nat) (zs : List Int) (hl : len ≤ 1048576) (w : World) (hb : b < w.heap.size) (hc : ∀ i, i < len → w.cell? ⟨b, off + i, none⟩ = some (.int .u8 (zs.getD i 0))) :
    Calls Try.prog 14 #[.slice (some ⟨b, off, none⟩) len cap] w fun e w' => e = .returned (.slice (some ⟨w.heap.size, 0, none⟩) len len) ∧ w' = w.alloc (.cells (cl zs len len) 5) := by
  have hq := eql_some ⟨b, off, none⟩ len cap
  have hmk := make_bytes zs len hl
  go_enter Try.func14, Try.ntmps14
  go_wp2
  clear hmk hq
  go_loopw [4] (fun i wr => ∃ k : Nat, k ≤ len ∧ i = .int .i64 k ∧ wr = w.alloc (.cells (cl zs len k) 5)) (fun i _ => len - (intOf i).toNat)
  case atStart => exact ⟨0, Nat.zero_le _, rfl, rfl⟩
  case round =>
    obtain ⟨k, hk, rfl, rfl⟩ := hrel
    by_cases hlt : k < len
    · have hck := hc k hlt
      have hcl : (cl zs len k)[k]? = some (Value.int .u8 0) := by rw [cl_get _ _ _ _ hlt, if_neg (by omega)]
      clear hc
      go_wp2
      go_roundw
      case rel => exact ⟨k + 1, by omega, by go_num, by rw [← cl_set, List.getD_eq_getElem?_getD]⟩
      case measure => simp [intOf]; omega
    · have hkl : k = len := by omega
      subst hkl
      clear hc
      go_wp2
      go_ret
      exact ⟨rfl, rfl⟩
end Go.Proofs.Qxb6612560a
