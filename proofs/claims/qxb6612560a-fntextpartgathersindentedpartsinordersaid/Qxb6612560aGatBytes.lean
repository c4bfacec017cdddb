/-
  THE WALK of the bound on lengths of the gathering statement: where it says yes, every text is short.
-/
import Derived.Test.Qxb6612560aProg
import Derived.WalkKit
import Derived.WalkSpells
import Derived.WalkLawsBesides
namespace Go.Proofs.Qxb6612560a
open Go.RowKit

/-- The first n texts are short. -/
def Short (S : Nat → ByteArray) (n : Nat) : Prop := ∀ i, i < n → (S i).size ≤ 1048576
/-- What the bound's function hands back. -/
def BytesEnd (S : Nat → ByteArray) (n : Nat) (e : Ending) : Prop := ∃ r : Bool, e = .returned (.bool r) ∧ (r = true → Short S n)

theorem short_step {S : Nat → ByteArray} {k : Nat} (h : Short S k) (hk : (S k).size ≤ 1048576) : Short S (k + 1) := fun i hi => by
  rcases Nat.lt_succ_iff_lt_or_eq.1 hi with h1 | rfl
  · exact h i h1
  · exact hk

set_option maxHeartbeats 800000 in
theorem bytesGather_zero (a : Option Addr) (cap : Nat) (S : Nat → ByteArray) (ind : Bool) (w : World) :
    Calls Try.prog 27 #[.slice a 0 cap, .bool ind] w fun e w' => BytesEnd S 0 e ∧ w' = w := by
  go_enter Try.func27, Try.ntmps27
  go_wp2
  refine wp_loop_rounds 1 ?_
  rw [rounds_succ]
  go_wp2
  go_ret
  exact ⟨⟨true, rfl, fun _ i hi => absurd hi (Nat.not_lt_zero _)⟩, rfl⟩

set_option maxHeartbeats 800000 in
theorem bytesGather_any (b off len cap : Nat) (S : Nat → ByteArray) (ind : Bool) (hl : len ≤ maxLen) (w : World) (hc : ∀ i, i < len → w.cell? ⟨b, off + i, none⟩ = some (.string (S i))) :
    Calls Try.prog 27 #[.slice (some ⟨b, off, none⟩) len cap, .bool ind] w fun e w' => BytesEnd S len e ∧ w' = w := by
  unfold maxLen at hl
  by_cases h1 : 1048576 < len
  · go_enter Try.func27, Try.ntmps27
    go_wp2
    go_ret
    exact ⟨⟨false, rfl, fun h => by cases h⟩, rfl⟩
  go_enter Try.func27, Try.ntmps27
  go_wp2
  go_loop [5, 6] (fun z i => ∃ (k : Nat) (q : Int), k ≤ len ∧ i = .int .i64 k ∧ z = .int .i64 q ∧ 0 ≤ q ∧ q ≤ 1048576 ∧ Short S k) (fun _ i => len - (intOf i).toNat)
  case atStart => exact ⟨0, len, Nat.zero_le _, rfl, rfl, by omega, by omega, fun i hi => absurd hi (Nat.not_lt_zero _)⟩
  case round =>
    obtain ⟨k, q, hk, rfl, rfl, hq0, hq1, hsh⟩ := hrel
    have HS : Hid (Short S k) := hsh
    clear hsh
    by_cases hlt : k < len
    · have hck := hc k hlt
      obtain ⟨s, hs⟩ : ∃ s, S k = s := ⟨_, rfl⟩
      rw [hs] at hck
      have HK : Hid (S k = s) := hs
      clear hs hc
      by_cases h2 : 1048576 < s.size
      · go_wp2
        go_ret
        exact ⟨⟨false, rfl, fun h => by cases h⟩, rfl⟩
      by_cases h3 : 1048576 < q + s.size
      · go_wp2
        go_ret
        exact ⟨⟨false, rfl, fun h => by cases h⟩, rfl⟩
      go_wp2
      go_round
      case rel => exact ⟨k + 1, q + s.size, by omega, by go_num, rfl, by omega, by omega, short_step HS.out (by rw [HK.out]; omega)⟩
      case measure => simp [intOf]; omega
    · have hkl : k = len := by omega
      subst hkl
      clear hc
      go_wp2
      go_ret
      exact ⟨⟨true, rfl, fun _ => HS.out⟩, rfl⟩
end Go.Proofs.Qxb6612560a
