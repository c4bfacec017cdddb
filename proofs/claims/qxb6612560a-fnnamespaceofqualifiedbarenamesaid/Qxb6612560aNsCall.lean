/-
  THE WALK of Namespace, through the shelf's contract for strings.LastIndex.
-/
import Derived.Test.Qxb6612560aShelf
import Derived.Test.Qxb6612560aNsWalks
namespace Go.Proofs.Qxb6612560a
open Go.RowKit

set_option maxHeartbeats 400000 in
/-- A name that holds no pair of colons: no namespace. -/
theorem ns_none (s : ByteArray) (B : Nat) (hs : s.size ≤ 4194304) (hn : Lib.lastIndex s.data.toList [58, 58] = -1) (w : World) (hc : w.cell? ⟨B, 0, none⟩ = some (.string s)) :
    Calls Try.prog 11 #[.pointer (some ⟨B, 0, none⟩)] w fun e w' => e = .returned (.string ⟨#[]⟩) ∧ w' = w := by
  have HN : Hid (Lib.lastIndex s.data.toList [58, 58] = -1) := hn
  clear hn
  go_enter Try.func11, Try.ntmps11
  go_wp2_with fail
  refine (lastIndex_any s _ (by omega) _).mono ?_
  rintro e w' ⟨rfl, rfl⟩
  rw [show (Lib.lastIndex s.data.toList (ByteArray.mk #[58, 58]).data.toList) = -1 from HN.out]
  go_wp2
  go_ret
  exact ⟨rfl, rfl⟩

set_option maxHeartbeats 400000 in
/-- A name whose last pair of colons stands at k: the namespace is what stands before it. -/
theorem ns_some (s : ByteArray) (B k : Nat) (hs : s.size ≤ 4194304) (hk : k ≤ s.size) (hn : Lib.lastIndex s.data.toList [58, 58] = k) (w : World) (hc : w.cell? ⟨B, 0, none⟩ = some (.string s)) :
    Calls Try.prog 11 #[.pointer (some ⟨B, 0, none⟩)] w fun e w' => e = .returned (.string (s.extract 0 k)) ∧ w' = w := by
  have HN : Hid (Lib.lastIndex s.data.toList [58, 58] = k) := hn
  clear hn
  go_enter Try.func11, Try.ntmps11
  go_wp2_with fail
  refine (lastIndex_any s _ (by omega) _).mono ?_
  rintro e w' ⟨rfl, rfl⟩
  rw [show (Lib.lastIndex s.data.toList (ByteArray.mk #[58, 58]).data.toList) = k from HN.out]
  go_wp2
  go_ret
  exact ⟨rfl, rfl⟩
end Go.Proofs.Qxb6612560a
