/-
  THE WALKS of Advance and zzEndOf.
-/
import Derived.Test.Qxb6612560aProg
import Derived.Test.Qxb6612560aPosPlain
import Derived.WalkKit
import Derived.WalkSpells
import Derived.WalkLawsBesides
namespace Go.Proofs.Qxb6612560a
open Go.RowKit

/-- Not a continuation byte. -/
def lead (c : Int) : Bool := bits .and .u8 c 192 != 128
/-- The three numbers of a position. -/
def posV (s : Int × Int) (B : Int) : Array Value := #[.int .i64 s.1, .int .i64 s.2, .int .i64 B]

theorem take_snoc (zs : List Int) (k : Nat) (h : k < zs.length) : zs.take (k + 1) = zs.take k ++ [zs[k]] := List.take_succ_eq_append_getElem h

theorem adv_feed (L C : Int) (zs : List Int) (k : Nat) (h : k < zs.length) (s : Int × Int) (hs : advPos lead (L, C) (zs.take k) = s) (h1 : (zs[k] == 10) = true) : advPos lead (L, C) (zs.take (k + 1)) = (wrap64 (s.1 + 1), 1) := by
  rw [take_snoc zs k h, advPos_snoc, hs]
  unfold stepPos
  rw [if_pos (by simpa using h1)]
theorem adv_lead (L C : Int) (zs : List Int) (k : Nat) (h : k < zs.length) (s : Int × Int) (hs : advPos lead (L, C) (zs.take k) = s) (h1 : (zs[k] == 10) = false) (h2 : (bits BinOp.and IntKind.u8 zs[k] 192 != 128) = true) : advPos lead (L, C) (zs.take (k + 1)) = (s.1, wrap64 (s.2 + 1)) := by
  rw [take_snoc zs k h, advPos_snoc, hs]
  unfold stepPos
  rw [if_neg (by simpa using h1), if_pos (by exact h2)]
theorem adv_rest (L C : Int) (zs : List Int) (k : Nat) (h : k < zs.length) (s : Int × Int) (hs : advPos lead (L, C) (zs.take k) = s) (h1 : (zs[k] == 10) = false) (h2 : (bits BinOp.and IntKind.u8 zs[k] 192 != 128) = false) : advPos lead (L, C) (zs.take (k + 1)) = (s.1, s.2) := by
  rw [take_snoc zs k h, advPos_snoc, hs]
  unfold stepPos
  rw [if_neg (by simpa using h1), if_neg (by unfold lead; rw [h2]; decide)]

set_option maxHeartbeats 400000 in
theorem adv_pos (L C B : Int) (b off len cap : Nat) (zs : List Int) (hl : len ≤ 1048576) (hz : zs.length = len) (w : World) (hb : b < w.heap.size) (hc : ∀ i, i < len → w.cell? ⟨b, off + i, none⟩ = some (.int .u8 (zs.getD i 0))) :
    Calls Try.prog 39 #[.agg #[.int .i64 L, .int .i64 C, .int .i64 B], .slice (some ⟨b, off, none⟩) len cap] w fun e w' =>
      e = .returned (.agg (posV (advPos lead (L, C) zs) (wrap64 (B + len)))) ∧ ∃ c1 c2 : Array Value, w' = (w.alloc (.cells c1 40)).alloc (.cells c2 40) := by
  go_enter Try.func39, Try.ntmps39
  go_wp2
  go_loopw [9] (fun i wr => ∃ k : Nat, k ≤ len ∧ i = .int .i64 k ∧ wr = (w.alloc (.cells #[.int .i64 (advPos lead (L, C) (zs.take k)).1, .int .i64 (advPos lead (L, C) (zs.take k)).2, .int .i64 B] 40)).alloc (.cells #[.int .i64 0, .int .i64 0, .int .i64 0] 40)) (fun i _ => len - (intOf i).toNat)
  case atStart => exact ⟨0, Nat.zero_le _, rfl, rfl⟩
  case round =>
    obtain ⟨k, hk, rfl, rfl⟩ := hrel
    by_cases hlt : k < len
    · have hck := hc k hlt
      clear hc
      generalize hs : advPos lead (L, C) (zs.take k) = s
      have HS : Hid (advPos lead (L, C) (zs.take k) = s) := hs
      clear hs
      have hkz : k < zs.length := by omega
      go_wp2
      · go_roundw
        case rel => exact ⟨k + 1, by omega, by go_num, by rw [adv_feed L C zs k hkz s HS.out ‹_›]⟩
        case measure => simp [intOf]; omega
      · go_roundw
        case rel => exact ⟨k + 1, by omega, by go_num, by rw [adv_lead L C zs k hkz s HS.out ‹_› ‹_›]⟩
        case measure => simp [intOf]; omega
      · go_roundw
        case rel => exact ⟨k + 1, by omega, by go_num, by rw [adv_rest L C zs k hkz s HS.out ‹_› ‹_›]⟩
        case measure => simp [intOf]; omega
    · clear hc
      have hkl : k = len := by omega
      subst hkl
      generalize hs : advPos lead (L, C) (zs.take k) = s
      have HS : Hid (advPos lead (L, C) zs = s) := by rw [List.take_of_length_le (by omega)] at hs; exact hs
      clear hs
      go_wp2
      exact bodyPost_ret (v := .agg (posV s (wrap64 (B + k)))) (by simp [results, Try.results39, go_sem, posV]) rfl ⟨by rw [HS.out], _, _, rfl⟩

set_option maxHeartbeats 400000 in
theorem adv_zero (L C B : Int) (ad : Option Addr) (cap : Nat) (w : World) :
    Calls Try.prog 39 #[.agg #[.int .i64 L, .int .i64 C, .int .i64 B], .slice ad 0 cap] w fun e w' =>
      e = .returned (.agg (posV (L, C) (wrap64 B))) ∧ ∃ c1 c2 : Array Value, w' = (w.alloc (.cells c1 40)).alloc (.cells c2 40) := by
  go_enter Try.func39, Try.ntmps39
  go_wp2
  refine wp_loop_rounds 1 ?_
  rw [rounds_succ]
  go_wp2
  exact bodyPost_ret (v := .agg (posV (L, C) (wrap64 B))) (by simp [results, Try.results39, go_sem, posV]) rfl ⟨rfl, _, _, rfl⟩
end Go.Proofs.Qxb6612560a
