/-
  THE PLAIN LAW of the shift statement: two positions that pass the same bytes stay apart by the same lines; by the same columns unless a line feed lies between, and then their columns agree. No Go in sight.
-/
import Derived.Test.Qxb6612560aPosPlain
namespace Go.Proofs.Qxb6612560a
open Go.RowKit (wrap64)

theorem wrap_sub (a b f : Int) : wrap64 (wrap64 (a + f) - wrap64 (b + f)) = wrap64 (a - b) := by unfold wrap64; omega

section
variable (p : Int → Bool) (L1 C1 L2 C2 : Int) (l : List Int)

theorem shift_line (hL1 : -9223372036854775808 ≤ L1) (hL1' : L1 ≤ 9223372036854775807) (hC1 : -9223372036854775808 ≤ C1) (hC1' : C1 ≤ 9223372036854775807)
    (hL2 : -9223372036854775808 ≤ L2) (hL2' : L2 ≤ 9223372036854775807) (hC2 : -9223372036854775808 ≤ C2) (hC2' : C2 ≤ 9223372036854775807) (hl : l.length ≤ 1048576) :
    wrap64 ((advPos p (L2, C2) l).1 - (advPos p (L1, C1) l).1) = wrap64 (L2 - L1) := by
  rw [advPos_closed p L1 C1 hL1 hL1' hC1 hC1' _ l rfl hl, advPos_closed p L2 C2 hL2 hL2' hC2 hC2' _ l rfl hl]
  exact wrap_sub _ _ _

theorem shift_feed (hL1 : -9223372036854775808 ≤ L1) (hL1' : L1 ≤ 9223372036854775807) (hC1 : -9223372036854775808 ≤ C1) (hC1' : C1 ≤ 9223372036854775807)
    (hL2 : -9223372036854775808 ≤ L2) (hL2' : L2 ≤ 9223372036854775807) (hC2 : -9223372036854775808 ≤ C2) (hC2' : C2 ≤ 9223372036854775807) (hl : l.length ≤ 1048576) (h : 0 ≤ lastFeed l) :
    (advPos p (L2, C2) l).2 = (advPos p (L1, C1) l).2 := by
  rw [advPos_closed p L1 C1 hL1 hL1' hC1 hC1' _ l rfl hl, advPos_closed p L2 C2 hL2 hL2' hC2 hC2' _ l rfl hl]
  simp only [h, if_true]

theorem shift_none (hL1 : -9223372036854775808 ≤ L1) (hL1' : L1 ≤ 9223372036854775807) (hC1 : -9223372036854775808 ≤ C1) (hC1' : C1 ≤ 9223372036854775807)
    (hL2 : -9223372036854775808 ≤ L2) (hL2' : L2 ≤ 9223372036854775807) (hC2 : -9223372036854775808 ≤ C2) (hC2' : C2 ≤ 9223372036854775807) (hl : l.length ≤ 1048576) (h : ¬ 0 ≤ lastFeed l) :
    wrap64 ((advPos p (L2, C2) l).2 - (advPos p (L1, C1) l).2) = wrap64 (C2 - C1) := by
  rw [advPos_closed p L1 C1 hL1 hL1' hC1 hC1' _ l rfl hl, advPos_closed p L2 C2 hL2 hL2' hC2 hC2' _ l rfl hl]
  simp only [h, if_false]
  exact wrap_sub _ _ _
end
end Go.Proofs.Qxb6612560a
