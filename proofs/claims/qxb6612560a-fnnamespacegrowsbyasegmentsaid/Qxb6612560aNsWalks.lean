/-
  THE WALKS shared by the two namespace statements: zzHasColonPair, zzBareLast, the two bounds on lengths.
-/
import Derived.Test.Qxb6612560aProg
import Derived.Test.Qxb6612560aNsPlain
import Derived.WalkKit
import Derived.WalkSpells
import Derived.WalkLawsBesides
namespace Go.Proofs.Qxb6612560a
open Go.RowKit

/-- No two colons side by side among the first n places, as the walk reads bytes. -/
def PairFree (s : ByteArray) (n : Nat) : Prop := ∀ j : Nat, j < n → ∀ h : j + 1 < s.size, ¬ ((s[j]'(by omega)).toNat = 58 ∧ (s[j + 1]'h).toNat = 58)
/-- What zzHasColonPair hands back. -/
def PairEnd (s : ByteArray) (e : Ending) : Prop := ∃ b : Bool, e = .returned (.bool b) ∧ (b = false → PairFree s s.size)
/-- What zzBareLast hands back. -/
def BareEnd (s : ByteArray) (e : Ending) : Prop := ∃ b : Bool, e = .returned (.bool b) ∧ (b = true → s.data.toList[0]? ≠ some 58 ∧ NoPair s.data.toList)

theorem pairFree_step (s : ByteArray) (k : Nat) (h : PairFree s k) (hk : k + 1 < s.size) (hn : ¬ (((s[k]'(by omega)).toNat : Int) = 58 ∧ ((s[k + 1]'hk).toNat : Int) = 58)) : PairFree s (k + 1) := by
  intro j hj hj1
  rcases Nat.lt_succ_iff_lt_or_eq.1 hj with h1 | rfl
  · exact h j h1 hj1
  · intro ⟨a, b⟩; exact hn ⟨by omega, by omega⟩

theorem pairFree_end (s : ByteArray) (k : Nat) (h : PairFree s k) (hk : s.size ≤ k + 1) : PairFree s s.size := by
  intro j hj hj1
  exact h j (by omega) hj1

theorem byte_of (s : ByteArray) (j : Nat) (c : UInt8) (h : s.data.toList[j]? = some c) : ∃ hj : j < s.size, s[j] = c := by
  rw [List.getElem?_eq_some_iff] at h
  obtain ⟨hj, e⟩ := h
  exact ⟨by simpa using hj, by rw [← e]; rfl⟩

theorem noPair_of (s : ByteArray) (h : PairFree s s.size) : NoPair s.data.toList := by
  intro j ⟨h1, h2⟩
  obtain ⟨a1, b1⟩ := byte_of s j 58 h1
  obtain ⟨a2, b2⟩ := byte_of s (j + 1) 58 h2
  exact h j a1 a2 ⟨by rw [b1]; rfl, by rw [b2]; rfl⟩

theorem bare_of (s : ByteArray) (b : Bool) (hq : b = false → PairFree s s.size) (hb : (!b) = true) (h0 : ∀ h : 0 < s.size, ¬ ((s[0]'h).toNat : Int) = 58) : s.data.toList[0]? ≠ some 58 ∧ NoPair s.data.toList := by
  refine ⟨fun h => ?_, noPair_of s (hq (by simpa using hb))⟩
  obtain ⟨a, e⟩ := byte_of s 0 58 h
  exact h0 a (by rw [e]; rfl)

set_option maxHeartbeats 400000 in
theorem pair_any (s : ByteArray) (w : World) (hs : s.size ≤ 1048576) :
    Calls Try.prog 28 #[.string s] w fun e w' => PairEnd s e ∧ w' = w := by
  go_enter Try.func28, Try.ntmps28
  go_wp2
  go_loop [3] (fun i => ∃ k : Nat, k ≤ s.size ∧ i = .int .i64 k ∧ PairFree s k) (fun i => s.size - (intOf i).toNat)
  case atStart => exact ⟨0, Nat.zero_le _, rfl, fun j hj => absurd hj (Nat.not_lt_zero _)⟩
  case round =>
    obtain ⟨k, hk, rfl, hp⟩ := hrel
    have HP : Hid (PairFree s k) := hp
    clear hp
    by_cases hlt : k + 1 < s.size
    · go_wp2
      · go_ret
        exact ⟨⟨true, rfl, fun h => by cases h⟩, rfl⟩
      · have hb : ((s[k + 1].toNat : Int) == 58) = false := by assumption
        go_round
        case rel => exact ⟨k + 1, by omega, by go_num, pairFree_step s k HP.out hlt (fun h => by simp [h.2] at hb)⟩
        case measure => simp [intOf]; omega
      · have hb : ¬ (s[k].toNat : Int) = 58 := by assumption
        go_round
        case rel => exact ⟨k + 1, by omega, by go_num, pairFree_step s k HP.out hlt (fun h => hb h.1)⟩
        case measure => simp [intOf]; omega
    · go_wp2
      go_ret
      exact ⟨⟨false, rfl, fun _ => pairFree_end s k HP.out (by omega)⟩, rfl⟩

set_option maxHeartbeats 400000 in
theorem bare_any (s : ByteArray) (w : World) (hs : s.size ≤ 1048576) :
    Calls Try.prog 10 #[.string s] w fun e w' => BareEnd s e ∧ w' = w := by
  by_cases h0 : 0 < s.size
  · go_enter Try.func10, Try.ntmps10
    go_wp2_with (go_at_call 28; refine (pair_any s _ hs).mono ?_; rintro e w' ⟨⟨b, rfl, hb⟩, rfl⟩)
    · go_ret
      exact ⟨⟨false, rfl, fun h => by cases h⟩, rfl⟩
    · have hc : ((s[0].toNat : Int) == 58) = false := by assumption
      have hq : b = false → PairFree s s.size := by assumption
      go_ret
      exact ⟨⟨!b, rfl, fun h => bare_of s b hq h (fun _ h1 => by simp [h1] at hc)⟩, rfl⟩
  · go_enter Try.func10, Try.ntmps10
    go_wp2_with (go_at_call 28; refine (pair_any s _ hs).mono ?_; rintro e w' ⟨⟨b, rfl, hb⟩, rfl⟩)
    have hq : b = false → PairFree s s.size := by assumption
    go_ret
    exact ⟨⟨!b, rfl, fun h => bare_of s b hq h (fun h1 _ => h0 h1)⟩, rfl⟩

set_option maxHeartbeats 400000 in
theorem bytes2_any (a b : ByteArray) (w : World) (ha : a.size ≤ maxLen) (hb : b.size ≤ maxLen) :
    Calls Try.prog 9 #[.string a, .string b] w fun e w' => (∃ r : Bool, Hid (e = .returned (.bool r))) ∧ w' = w := by
  unfold maxLen at ha hb
  go_enter Try.func9, Try.ntmps9
  go_wp2
  all_goals (go_ret; exact ⟨⟨_, rfl⟩, rfl⟩)

set_option maxHeartbeats 400000 in
theorem bytes3_any (a b c : ByteArray) (w : World) (ha : a.size ≤ maxLen) (hb : b.size ≤ maxLen) (hc : c.size ≤ maxLen) :
    Calls Try.prog 12 #[.string a, .string b, .string c] w fun e w' => (∃ r : Bool, Hid (e = .returned (.bool r))) ∧ w' = w := by
  unfold maxLen at ha hb hc
  go_enter Try.func12, Try.ntmps12
  go_wp2
  all_goals (go_ret; exact ⟨⟨_, rfl⟩, rfl⟩)
end Go.Proofs.Qxb6612560a
