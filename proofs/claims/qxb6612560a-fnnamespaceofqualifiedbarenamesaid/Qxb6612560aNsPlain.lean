/-
  THE PLAIN LAW of the two namespace statements: the last place of the two colons in 'x::c' is len(x) where c opens with no colon and holds no pair of them; in such a c itself there is none. No Go in sight.
-/
import Derived.Lib.LastIndexLaws
namespace Go.Proofs.Qxb6612560a
open Go.Lib

theorem occ2 (s : List UInt8) (j : Nat) : occAt s [58, 58] j = true ↔ (s[j]? = some 58 ∧ s[j + 1]? = some 58) := by
  unfold occAt
  rw [List.isPrefixOf_iff_prefix]
  have e0 : s[j]? = (s.drop j)[0]? := by simp
  have e1 : s[j + 1]? = (s.drop j)[1]? := by simp
  rw [e0, e1]
  generalize s.drop j = t
  match t with
  | [] => simp
  | [a] => simp
  | a :: b :: r => simp; exact ⟨fun ⟨h1, h2⟩ => ⟨h1.symm, h2.symm⟩, fun ⟨h1, h2⟩ => ⟨h1.symm, h2.symm⟩⟩

/-- c holds no two colons side by side. -/
def NoPair (c : List UInt8) : Prop := ∀ j : Nat, ¬ (c[j]? = some 58 ∧ c[j + 1]? = some 58)

theorem last_none (c : List UInt8) (hp : NoPair c) : lastIndex c [58, 58] = -1 := by
  unfold lastIndex
  split
  · rcases lastOcc_spec c [58, 58] (c.length - ([58, 58] : List UInt8).length + 1) with ⟨e, _⟩ | ⟨i, _, _, h, _⟩
    · exact e
    · exact absurd ((occ2 _ _).1 h) (hp i)
  · rfl

theorem last_ns (x c : List UInt8) (h0 : c[0]? ≠ some 58) (hp : NoPair c) : lastIndex (x ++ (58 :: 58 :: c)) [58, 58] = x.length := by
  have hx : occAt (x ++ (58 :: 58 :: c)) [58, 58] x.length = true := by
    rw [occ2, List.getElem?_append_right (Nat.le_refl _), List.getElem?_append_right (by omega)]
    simp [show x.length + 1 - x.length = 1 by omega]
  have hy : ∀ j, x.length < j → occAt (x ++ (58 :: 58 :: c)) [58, 58] j = false := by
    intro j hj
    rw [Bool.eq_false_iff]
    intro h
    rw [Ne, occ2, List.getElem?_append_right (by omega), List.getElem?_append_right (by omega)] at *
    obtain ⟨m, rfl⟩ : ∃ m, j = x.length + 1 + m := ⟨j - x.length - 1, by omega⟩
    rw [show x.length + 1 + m - x.length = m + 1 by omega, show x.length + 1 + m + 1 - x.length = m + 2 by omega] at h
    obtain ⟨h1, h2⟩ := h
    match m with
    | 0 => simp at h2; exact h0 (by simpa using h2)
    | m + 1 => exact hp m ⟨by simpa using h1, by simpa using h2⟩
  unfold lastIndex
  rw [if_pos (by simp; omega)]
  rcases lastOcc_spec (x ++ (58 :: 58 :: c)) [58, 58] ((x ++ (58 :: 58 :: c)).length - ([58, 58] : List UInt8).length + 1) with ⟨_, h⟩ | ⟨i, hi, e, h, hn⟩
  · exact absurd hx (by rw [h x.length (by simp; omega)]; decide)
  · rw [e]
    have h1 : ¬ x.length < i := fun hc => by rw [hy i hc] at h; exact absurd h (by decide)
    have h2 : ¬ i < x.length := fun hc => by rw [hn x.length hc (by simp; omega)] at hx; exact absurd hx (by decide)
    omega
end Go.Proofs.Qxb6612560a
