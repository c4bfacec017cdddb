/-
  FnTextPartGathersIndentedPartsInOrder: no text at all, more texts than it looks at, and the whole walk.
-/
import Derived.Test.Qxb6612560aGatInd
namespace Go.Proofs.Qxb6612560a
open Go.RowKit

theorem make_no_ptrs (w : World) : (Instr.makeSlice 63 (.int .i64 0) (.int .i64 0)).run Try.prog w = .ok (.slice (some ⟨w.heap.size, 0, none⟩) 0 0) (w.alloc (.cells #[] 52)) := by kernel_rfl

set_option maxRecDepth 20000 in
set_option maxHeartbeats 1600000 in
theorem gather_zero (a : Option Addr) (cap : Nat) (ind : Bool) (w : World) :
    Calls Try.prog 8 #[.slice a 0 cap, .bool ind] w fun e w' => e = .returned (.bool true) ∧ Below w.heap.size w w' := by
  cases ind
  all_goals
    have hmk := make_no_ptrs
    go_enter Try.func8, Try.ntmps8
    go_wp2_with fail
    refine (bytesGather_zero a cap (fun _ => ⟨#[]⟩) _ _).mono ?_
    rintro e w1 ⟨⟨r, rfl, hr⟩, hw⟩
    obtain rfl : w = w1 := hw.symm
    clear hw hr
    cases r
    · go_wp2_with fail
      go_ret
      exact ⟨rfl, Below.refl _ _⟩
    go_wp2_with fail
    refine wp_loop_rounds 1 ?_
    rw [rounds_succ]
    go_wp2_with fail
    refine (newParser_any _ _).mono ?_
    rintro e w' ⟨rfl, rfl⟩
    simp only [World.size_alloc, parserV]
    go_wp2_with fail
    refine (newScan_any _ _).mono ?_
    rintro e w' ⟨rfl, rfl⟩
    simp only [World.size_alloc, scanV]
    go_wp2_with fail
    refine wp_loop_rounds 1 ?_
    rw [rounds_succ]
    go_wp2_with fail
    refine (scanTexts_any _ (.slice none 0 0) _ (by simp [go_sem])).mono ?_
    rintro e w' ⟨rfl, rfl⟩
    go_wp2_with fail
  · go_ret
    exact ⟨rfl, belowOn (belowOn (belowOn (belowOn (belowOn (Below.refl _ _) _) _) _) _) _⟩
  · refine wp_loop_rounds 1 ?_
    rw [rounds_succ]
    go_wp2_with fail
    go_ret
    exact ⟨rfl, belowOn (belowOn (belowOn (belowOn (belowOn (Below.refl _ _) _) _) _) _) _⟩

set_option maxHeartbeats 800000 in
theorem gather_out (b off len cap : Nat) (S : Nat → ByteArray) (ind : Bool) (hl : 65536 < len) (hm : len ≤ maxLen) (w : World) (hc : ∀ i, i < len → w.cell? ⟨b, off + i, none⟩ = some (.string (S i))) :
    Calls Try.prog 8 #[.slice (some ⟨b, off, none⟩) len cap, .bool ind] w fun e w' => e = .returned (.bool true) ∧ Below w.heap.size w w' := by
  have HC : Hid (∀ i, i < len → w.cell? ⟨b, off + i, none⟩ = some (.string (S i))) := hc
  clear hc
  go_enter Try.func8, Try.ntmps8
  go_wp2_with fail
  refine (bytesGather_any b off len cap S ind hm _ HC.out).mono ?_
  rintro e w1 ⟨⟨r, rfl, hr⟩, hw⟩
  obtain rfl : w = w1 := hw.symm
  clear hw hr
  cases r
  all_goals
    go_wp2_with fail
    go_ret
    exact ⟨rfl, Below.refl _ _⟩

/-- WHAT THE WALK IS TOLD OF THE TEXTS THAT CAME IN: the first len of them. -/
def CameTexts (w : World) (a : Option Addr) (len : Nat) (S : Nat → ByteArray) : Prop := ∀ i, i < len → ∃ b off, a = some ⟨b, off, none⟩ ∧ b < w.heap.size ∧ w.cell? ⟨b, off + i, none⟩ = some (.string (S i))

/-- The whole walk. -/
theorem gather_any (a : Option Addr) (len cap : Nat) (S : Nat → ByteArray) (ind : Bool) (hm : len ≤ maxLen) (w : World) (h : CameTexts w a len S) :
    Calls Try.prog 8 #[.slice a len cap, .bool ind] w fun e w' => e = .returned (.bool true) ∧ Below w.heap.size w w' := by
  by_cases h0 : len = 0
  · subst h0
    exact gather_zero a cap ind w
  obtain ⟨b, off, rfl, hb, _⟩ := h 0 (by omega)
  have hc : ∀ i, i < len → w.cell? ⟨b, off + i, none⟩ = some (.string (S i)) := fun i hi => by
    obtain ⟨b', off', e, _, hc⟩ := h i hi
    simp only [Option.some.injEq, Addr.mk.injEq] at e
    obtain ⟨rfl, rfl, _⟩ := e
    exact hc
  by_cases hl : 65536 < len
  · exact gather_out b off len cap S ind hl hm w hc
  cases ind
  · exact gather_plain b off len cap S (by omega) w hb hc
  · exact gather_ind b off len cap S (by omega) (by omega) w hb hc
end Go.Proofs.Qxb6612560a
