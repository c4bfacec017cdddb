/-
  THE WALK of FnMoveToInTwoStepsAsInOne, out of its callees' contracts.
-/
import Derived.Test.Qxb6612560aPosMove
import Derived.Test.Qxb6612560aPosClone
namespace Go.Proofs.Qxb6612560a
open Go.RowKit

/-- WHAT THE WALK IS TOLD OF THE BYTES THAT CAME IN: the first len of them. -/
def Came (w : World) (x : Addr) (len : Nat) (zs : List Int) : Prop := zs.length = len ∧ (∀ i, i < len → ∃ b off, x = ⟨b, off, none⟩ ∧ b < w.heap.size ∧ w.cell? ⟨b, off + i, none⟩ = some (.int .u8 (zs.getD i 0)))
theorem Came.alloc {w : World} {x : Addr} {len : Nat} {zs : List Int} (h : Came w x len zs) (o : Obj) : Came (w.alloc o) x len zs := ⟨h.1, fun i hi => by
  obtain ⟨b, off, e, hb, hc⟩ := h.2 i hi
  exact ⟨b, off, e, by simp; omega, by rw [World.cell?_alloc_past o b _ hb]; exact hc⟩⟩

theorem belowMore {w w1 : World} (h : Below w.heap.size w w1) (o : Obj) : Below w.heap.size w (w1.alloc o) := h.alloc h.size o

/-- zzCloneBytes of a slice that is not nil. -/
theorem clone_some (x : Addr) (len cap : Nat) (zs : List Int) (hl : len ≤ 1048576) (w : World) (h : Came w x len zs) :
    Calls Try.prog 14 #[.slice (some x) len cap] w fun e w' => e = .returned (.slice (some ⟨w.heap.size, 0, none⟩) len len) ∧ ∃ cs : Array Value, w' = w.alloc (.cells cs 5) ∧ Lies (w.alloc (.cells cs 5)) (some ⟨w.heap.size, 0, none⟩) zs := by
  obtain ⟨hz, h⟩ := h
  by_cases h0 : len = 0
  · subst h0
    refine (clone_zero x cap w).mono fun e w' ⟨he, hw⟩ => ⟨he, _, hw, fun i hi => by omega⟩
  · obtain ⟨b, off, rfl, hb, _⟩ := h 0 (by omega)
    refine (clone_pos b off len cap zs hl w hb fun i hi => ?_).mono fun e w' ⟨he, hw⟩ => ⟨he, _, hw, fun i hi => ⟨w.heap.size, 0, rfl, by simp, ?_⟩⟩
    · obtain ⟨b', off', e, _, hc⟩ := h i hi
      simp only [Addr.mk.injEq] at e
      obtain ⟨rfl, rfl, _⟩ := e
      exact hc
    · rw [World.cell?_alloc_at _ _ _ _ rfl, Nat.zero_add, cl_get _ _ _ _ (by omega), if_pos (by omega)]

set_option maxHeartbeats 1600000 in
theorem two_some (x : Addr) (len cap : Nat) (zs : List Int) (L C : Int) (lo mi hi : Nat) (hL1 : -9223372036854775808 ≤ L) (hL2 : L ≤ 9223372036854775807) (hC1 : -9223372036854775808 ≤ C) (hC2 : C ≤ 9223372036854775807)
    (hl : len ≤ 65536) (h1 : lo ≤ mi) (h2 : mi ≤ hi) (h3 : hi ≤ len) (w : World) (hc : Came w x len zs) :
    Calls Try.prog 5 #[.slice (some x) len cap, .int .i64 L, .int .i64 C, .int .i64 lo, .int .i64 mi, .int .i64 hi] w fun e w' => e = .returned (.bool true) ∧ Below w.heap.size w w' := by
  have HC : Hid (Came w x len zs) := hc
  clear hc
  have k0 : (0 : Int) ≤ (lo : Int) := by omega
  have k1 : (lo : Int) ≤ (mi : Int) := by omega
  have k2 : (mi : Int) ≤ (hi : Int) := by omega
  have k3 : (hi : Int) ≤ (len : Int) := by omega
  have k4 : (lo : Int) ≤ (hi : Int) := by omega
  go_enter Try.func5, Try.ntmps5
  go_wp2_with fail
  refine (bytesMove_any _ len cap _ _ _ _ _ (by unfold maxLen; omega) _).mono ?_
  rintro e w1 ⟨⟨r, rfl⟩, hw⟩
  obtain rfl : w = w1 := hw.symm
  clear hw
  cases r
  · go_wp2_with fail
    go_ret
    exact ⟨rfl, Below.refl _ _⟩
  go_wp2_with fail
  refine (clone_some x len cap zs (by omega) _ HC.out).mono ?_
  rintro e w' ⟨rfl, cs1, rfl, hl1⟩
  obtain ⟨A, hA⟩ : ∃ A, (if len = lo then some (⟨w.heap.size, 0, none⟩ : Addr) else some ⟨w.heap.size, lo, none⟩) = A := ⟨_, rfl⟩
  have HLA : Hid (Lies (w.alloc (.cells cs1 5)) A (seg zs lo hi)) := by rw [← hA]; exact lies_seg hl1 HC.out.1 (by omega) h3
  clear hl1
  go_wp2_with fail
  refine (clone_some x len cap zs (by omega) _ (HC.out.alloc _)).mono ?_
  rintro e w' ⟨rfl, cs2, rfl, hl2⟩
  have HL2 : Hid (Lies ((w.alloc (.cells cs1 5)).alloc (.cells cs2 5)) (some ⟨w.heap.size + 1, 0, none⟩) zs) := by have := hl2; simp at this; exact this
  obtain ⟨P1, hP1⟩ : ∃ P1, advPos lead (L, C) (seg zs lo mi) = P1 := ⟨_, rfl⟩
  have HP1 : Hid (advPos lead (L, C) (seg zs lo mi) = P1) := hP1
  have HM : Hid (advPos lead (P1.1, P1.2) (seg zs mi hi) = advPos lead (L, C) (seg zs lo hi)) := by show _ = _; rw [seg_append zs lo mi hi h1 h2, advPos_append, hP1]
  clear hP1
  clear hl2
  have HZ : Hid ((seg zs lo hi).length = hi - lo) := seg_length _ _ _ (by rw [HC.out.1]; exact h3)
  obtain ⟨P, hP⟩ : ∃ P, advPos lead (L, C) (seg zs lo hi) = P := ⟨_, rfl⟩
  have HP : Hid (advPos lead (L, C) (seg zs lo hi) = P) := hP
  have HW : Hid (wrap64 ((lo : Int) + ((hi - lo : Nat) : Int)) = (hi : Int)) := by show _ = _; rw [wrap_in _ (by omega) (by omega)]; omega
  clear hP
  go_wp2_with fail
  go_region_held3 (fun w' => w'.cell? ⟨w.heap.size + 1 + 1, 0, none⟩ = some (.int .i64 L) ∧ w'.cell? ⟨w.heap.size + 1 + 1, 1, none⟩ = some (.int .i64 C) ∧ w'.cell? ⟨w.heap.size + 1 + 1, 2, none⟩ = some (.int .i64 lo)) (simp [*, go_sem, World.cell?_alloc_past])
    (first | (go_at_call 15; refine (end_any L C lo A (hi - lo) (len - lo) (seg zs lo hi) hL1 hL2 hC1 hC2 (by omega) HZ.out _ (by repeat (first | exact HLA.out | apply Lies.drew | apply Lies.alloc))).mono ?_; rintro e w' ⟨rfl, c1, c2, rfl⟩; rw [HW.out, HP.out]; simp only [posV]))
  all_goals clear hA
  · go_wp2_with fail
    refine (newScanner_any _ len len L C lo _).mono ?_
    rintro e w' ⟨rfl, rfl⟩
    go_wp2_with fail
    refine (move_some _ (w.heap.size + 1) len lo hi L C P zs (by omega) h3 (by omega) HC.out.1 HP.out _ (by simp) (by simp [go_sem]) (by simp [go_sem]) (by simp [go_sem]) (by simp [go_sem]) (by simp [go_sem]) (by simp [go_sem]) (by simp [go_sem]) (((((((HL2.out.alloc _).alloc _).alloc _).alloc _).alloc _).alloc _).drew)).mono ?_
    rintro e w' ⟨rfl, d0, d1, d2, rfl⟩
    simp only [moved]
    go_wp2_with fail
    refine (newScanner_any _ len len L C lo _).mono ?_
    rintro e w' ⟨rfl, rfl⟩
    go_wp2_with fail
    refine (move_some _ (w.heap.size + 1) len lo mi L C P1 zs h1 (by omega) (by omega) HC.out.1 HP1.out _ (by simp) (by simp [go_sem]) (by simp [go_sem]) (by simp [go_sem]) (by simp [go_sem]) (by simp [go_sem]) (by simp [go_sem]) (by simp [go_sem]) ((((((((((((HL2.out.alloc _).alloc _).alloc _).alloc _).alloc _).alloc _).alloc _).alloc _).alloc _).alloc _).alloc _).drew.drew)).mono ?_
    rintro e w' ⟨rfl, d3, d4, d5, rfl⟩
    simp only [moved]
    go_wp2_with fail
    refine (move_some _ (w.heap.size + 1) len mi hi P1.1 P1.2 P zs h2 h3 (by omega) HC.out.1 (HM.out.trans HP.out) _ (by simp) (by simp [go_sem]) (by simp [go_sem]) (by simp [go_sem]) (by simp [go_sem]) (by simp [go_sem]) (by simp [go_sem]) (by simp [go_sem]) (((((((((((((((HL2.out.alloc _).alloc _).alloc _).alloc _).alloc _).alloc _).alloc _).alloc _).alloc _).alloc _).alloc _).alloc _).alloc _).alloc _).drew.drew.drew)).mono ?_
    rintro e w' ⟨rfl, d6, d7, d8, rfl⟩
    simp only [moved]
    go_wp2_with fail
    go_region_held3 (fun w' => w'.cell? ⟨w.heap.size + 1 + 1 + 1 + 1 + 1, 0, none⟩ = some (.int .i64 P.1) ∧ w'.cell? ⟨w.heap.size + 1 + 1 + 1 + 1 + 1, 1, none⟩ = some (.int .i64 P.2) ∧ w'.cell? ⟨w.heap.size + 1 + 1 + 1 + 1 + 1, 2, none⟩ = some (.int .i64 hi)) (simp [*, go_sem, World.cell?_alloc_past])
      (first | (go_at_call 18; refine (scannerPos_any _ P.1 P.2 hi _ (by simp; try omega) (by simp [go_sem]) (by simp [go_sem]) (by simp [go_sem])).mono ?_; rintro e w' ⟨rfl, rfl⟩))
    go_wp2
    go_ret
    exact ⟨rfl, (belowMore (belowMore (belowMore (belowMore (belowMore (belowMore (belowMore (belowMore (belowMore (belowMore (belowMore (belowMore (belowMore (belowMore (belowMore (belowMore (belowMore (belowMore (belowMore (belowMore (belowMore (Below.refl _ _) _) _) _) _) _) _) _) _) _) _) _) _) _) _) _) _) _) _) _) _) _).drew.drew.drew.drew.drew⟩
  · go_wp2_with fail
    refine (newScanner_any _ len len L C lo _).mono ?_
    rintro e w' ⟨rfl, rfl⟩
    go_wp2_with fail
    refine (move_some _ (w.heap.size + 1) len lo hi L C P zs (by omega) h3 (by omega) HC.out.1 HP.out _ (by simp) (by simp [go_sem]) (by simp [go_sem]) (by simp [go_sem]) (by simp [go_sem]) (by simp [go_sem]) (by simp [go_sem]) (by simp [go_sem]) (((((((HL2.out.alloc _).alloc _).alloc _).alloc _).alloc _).alloc _).drew)).mono ?_
    rintro e w' ⟨rfl, d0, d1, d2, rfl⟩
    simp only [moved]
    go_wp2_with fail
    refine (newScanner_any _ len len L C lo _).mono ?_
    rintro e w' ⟨rfl, rfl⟩
    go_wp2_with fail
    refine (move_some _ (w.heap.size + 1) len lo mi L C P1 zs h1 (by omega) (by omega) HC.out.1 HP1.out _ (by simp) (by simp [go_sem]) (by simp [go_sem]) (by simp [go_sem]) (by simp [go_sem]) (by simp [go_sem]) (by simp [go_sem]) (by simp [go_sem]) ((((((((((((HL2.out.alloc _).alloc _).alloc _).alloc _).alloc _).alloc _).alloc _).alloc _).alloc _).alloc _).alloc _).drew.drew)).mono ?_
    rintro e w' ⟨rfl, d3, d4, d5, rfl⟩
    simp only [moved]
    go_wp2_with fail
    refine (move_some _ (w.heap.size + 1) len mi hi P1.1 P1.2 P zs h2 h3 (by omega) HC.out.1 (HM.out.trans HP.out) _ (by simp) (by simp [go_sem]) (by simp [go_sem]) (by simp [go_sem]) (by simp [go_sem]) (by simp [go_sem]) (by simp [go_sem]) (by simp [go_sem]) (((((((((((((((HL2.out.alloc _).alloc _).alloc _).alloc _).alloc _).alloc _).alloc _).alloc _).alloc _).alloc _).alloc _).alloc _).alloc _).alloc _).drew.drew.drew)).mono ?_
    rintro e w' ⟨rfl, d6, d7, d8, rfl⟩
    simp only [moved]
    go_wp2_with fail
    go_region_held3 (fun w' => w'.cell? ⟨w.heap.size + 1 + 1 + 1, 0, none⟩ = some (.int .i64 P.1) ∧ w'.cell? ⟨w.heap.size + 1 + 1 + 1, 1, none⟩ = some (.int .i64 P.2) ∧ w'.cell? ⟨w.heap.size + 1 + 1 + 1, 2, none⟩ = some (.int .i64 hi)) (simp [*, go_sem, World.cell?_alloc_past])
      (first | (go_at_call 18; refine (scannerPos_any _ P.1 P.2 hi _ (by simp; try omega) (by simp [go_sem]) (by simp [go_sem]) (by simp [go_sem])).mono ?_; rintro e w' ⟨rfl, rfl⟩))
    go_wp2
    go_ret
    exact ⟨rfl, (belowMore (belowMore (belowMore (belowMore (belowMore (belowMore (belowMore (belowMore (belowMore (belowMore (belowMore (belowMore (belowMore (belowMore (belowMore (belowMore (belowMore (belowMore (belowMore (belowMore (belowMore (Below.refl _ _) _) _) _) _) _) _) _) _) _) _) _) _) _) _) _) _) _) _) _) _) _).drew.drew.drew.drew.drew⟩
end Go.Proofs.Qxb6612560a
