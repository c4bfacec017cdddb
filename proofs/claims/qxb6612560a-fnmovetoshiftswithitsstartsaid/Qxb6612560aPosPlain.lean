/-
  THE PLAIN LAW of the moveTo statements: Advance as a fold over the bytes, and its closed form, which zzEndOf computes. No Go in sight.
-/
import Derived.IntWalk
namespace Go.Proofs.Qxb6612560a
open Go.RowKit (wrap64)

section
variable (p : Int → Bool)
/-- One byte of Advance: the line and the column behind it. -/
def stepPos (s : Int × Int) (c : Int) : Int × Int := if c = 10 then (wrap64 (s.1 + 1), 1) else if p c = true then (s.1, wrap64 (s.2 + 1)) else s
/-- Advance over all bytes. -/
def advPos (s : Int × Int) (l : List Int) : Int × Int := l.foldl (stepPos p) s
theorem advPos_append (s : Int × Int) (a b : List Int) : advPos p s (a ++ b) = advPos p (advPos p s a) b := by
  unfold advPos; rw [List.foldl_append]
theorem advPos_snoc (s : Int × Int) (a : List Int) (c : Int) : advPos p s (a ++ [c]) = stepPos p (advPos p s a) c := by
  rw [advPos_append]; rfl
theorem advPos_nil (s : Int × Int) : advPos p s [] = s := rfl

/-- How many line feeds. -/
def feeds (l : List Int) : Nat := (l.filter (fun c => c == 10)).length
/-- The last line feed's place, or -1. -/
def lastFeed : List Int → Int
  | [] => -1
  | c :: r => if 0 ≤ lastFeed r then lastFeed r + 1 else if c = 10 then 0 else -1
/-- How many lead bytes. -/
def leads (l : List Int) : Nat := (l.filter p).length

theorem feeds_snoc (l : List Int) (c : Int) : feeds (l ++ [c]) = feeds l + if c = 10 then 1 else 0 := by
  unfold feeds; by_cases h : c = 10 <;> simp [List.filter_append, h]
theorem feeds_le (l : List Int) : feeds l ≤ l.length := List.length_filter_le _ _
theorem leads_snoc (l : List Int) (c : Int) : leads p (l ++ [c]) = leads p l + if p c = true then 1 else 0 := by
  unfold leads; by_cases h : p c = true <;> simp [List.filter_append, h]
theorem leads_le (l : List Int) : leads p l ≤ l.length := List.length_filter_le _ _
theorem lastFeed_ge (l : List Int) : -1 ≤ lastFeed l := by
  induction l with
  | nil => simp [lastFeed]
  | cons c r ih => unfold lastFeed; split; omega; split <;> omega
theorem lastFeed_snoc (l : List Int) (c : Int) : lastFeed (l ++ [c]) = if c = 10 then (l.length : Int) else lastFeed l := by
  induction l with
  | nil => simp [lastFeed]
  | cons d r ih =>
    rw [List.cons_append, lastFeed, ih]
    by_cases h : c = 10
    · simp only [h, if_true, List.length_cons]; rw [if_pos (by omega)]; omega
    · simp only [h, if_false]; rw [lastFeed]
theorem lastFeed_lt (l : List Int) : lastFeed l < l.length := by
  induction l with
  | nil => simp [lastFeed]
  | cons c r ih => unfold lastFeed; simp only [List.length_cons]; split; omega; split <;> omega

theorem wrap_wrap (a b : Int) : wrap64 (wrap64 a + b) = wrap64 (a + b) := by unfold wrap64; omega
theorem wrap_in (n : Int) (h1 : -9223372036854775808 ≤ n) (h2 : n ≤ 9223372036854775807) : wrap64 n = n := by unfold wrap64; omega

/-- Advance in closed form: what zzEndOf computes. By induction on the length, from the right. -/
theorem advPos_closed (L C : Int) (hL1 : -9223372036854775808 ≤ L) (hL2 : L ≤ 9223372036854775807) (hC1 : -9223372036854775808 ≤ C) (hC2 : C ≤ 9223372036854775807) :
    ∀ (n : Nat) (l : List Int), l.length = n → n ≤ 1048576 →
      advPos p (L, C) l = (wrap64 (L + feeds l), if 0 ≤ lastFeed l then 1 + (leads p (l.drop (lastFeed l + 1).toNat) : Int) else wrap64 (C + leads p (l.drop (lastFeed l + 1).toNat)))
  | 0, l, hl, _ => by
    have : l = [] := List.eq_nil_of_length_eq_zero hl
    subst this
    simp [advPos, feeds, leads, lastFeed, wrap_in L hL1 hL2, wrap_in C hC1 hC2]
  | n + 1, l, hl, hn => by
    obtain ⟨a, c, rfl⟩ : ∃ a c, l = a ++ [c] := ⟨l.dropLast, l.getLast (by intro h; simp [h] at hl), (List.dropLast_concat_getLast _).symm⟩
    have hla : a.length = n := by simpa using hl
    rw [advPos_snoc, advPos_closed L C hL1 hL2 hC1 hC2 n a hla (by omega), feeds_snoc, lastFeed_snoc]
    have hlt := lastFeed_lt a
    have hge := lastFeed_ge a
    have hd : (a ++ [c]).drop (lastFeed a + 1).toNat = a.drop (lastFeed a + 1).toNat ++ [c] := List.drop_append_of_le_length (by omega)
    have hle := leads_le p (a.drop (lastFeed a + 1).toNat)
    have hdl : (a.drop (lastFeed a + 1).toNat).length ≤ a.length := by simp
    unfold stepPos
    by_cases h : c = 10
    · simp only [h, if_true]
      rw [if_pos (by omega), List.drop_eq_nil_of_le (by simp), wrap_wrap]
      simp [leads, Int.add_assoc]
    · simp only [h, if_false, hd, leads_snoc]
      by_cases hp : p c = true
      · simp only [hp, if_true]
        by_cases h0 : 0 ≤ lastFeed a
        · simp only [h0, if_true]
          rw [wrap_in (1 + (leads p (a.drop (lastFeed a + 1).toNat) : Int) + 1) (by omega) (by omega)]
          simp [Int.add_assoc]
        · simp only [h0, if_false, wrap_wrap]
          simp [Int.add_assoc]
      · simp [hp]

end
end Go.Proofs.Qxb6612560a
