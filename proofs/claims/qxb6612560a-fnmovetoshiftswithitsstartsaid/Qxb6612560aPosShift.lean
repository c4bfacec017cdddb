/-
  THE WALK of FnMoveToShiftsWithItsStart, out of its callees' contracts: a source that is not nil, at least one byte passed.
-/
import Derived.Test.Qxb6612560aPosTwo
import Derived.Test.Qxb6612560aPosShiftPlain
namespace Go.Proofs.Qxb6612560a
open Go.RowKit

theorem feed_hit (sg : List Int) (k : Nat) (h : k < sg.length) (h1 : (sg[k] == 10) = true) : decide (0 ≤ lastFeed (sg.take (k + 1))) = true := by
  rw [(feeds_hit sg k h h1).2]; simp
theorem feed_miss (sg : List Int) (k : Nat) (h : k < sg.length) (h1 : (sg[k] == 10) = false) : decide (0 ≤ lastFeed (sg.take (k + 1))) = decide (0 ≤ lastFeed (sg.take k)) := by
  rw [(feeds_miss sg k h h1).2]

set_option maxHeartbeats 1600000 in
theorem shift_some (x : Addr) (len cap : Nat) (zs : List Int) (L C L2 C2 : Int) (lo hi : Nat) (hL1 : -9223372036854775808 ≤ L) (hL1' : L ≤ 9223372036854775807) (hC1 : -9223372036854775808 ≤ C) (hC1' : C ≤ 9223372036854775807)
    (hL2 : -9223372036854775808 ≤ L2) (hL2' : L2 ≤ 9223372036854775807) (hC2 : -9223372036854775808 ≤ C2) (hC2' : C2 ≤ 9223372036854775807)
    (hl : len ≤ 65536) (h1 : lo < hi) (h3 : hi ≤ len) (w : World) (hc : Came w x len zs) :
    Calls Try.prog 6 #[.slice (some x) len cap, .int .i64 L, .int .i64 C, .int .i64 L2, .int .i64 C2, .int .i64 lo, .int .i64 hi] w fun e w' => e = .returned (.bool true) ∧ Below w.heap.size w w' := by
  have HC : Hid (Came w x len zs) := hc
  clear hc
  have k0 : (0 : Int) ≤ (lo : Int) := by omega
  have k3 : (hi : Int) ≤ (len : Int) := by omega
  have k4 : (lo : Int) ≤ (hi : Int) := by omega
  have hnl : ¬ len = lo := by omega
  go_enter Try.func6, Try.ntmps6
  go_wp2_with fail
  refine (bytesShift_any _ len cap _ _ _ _ _ _ (by unfold maxLen; omega) _).mono ?_
  rintro e w1 ⟨⟨r, rfl⟩, hw⟩
  obtain rfl : w = w1 := hw.symm
  clear hw
  cases r
  · go_wp2_with fail
    go_ret
    exact ⟨rfl, Below.refl _ _⟩
  go_wp2_with fail
  refine (clone_some x len cap zs (by omega) _ HC.out).mono ?_
  rintro e w' ⟨rfl, cs1, rfl, hl1⟩
  have HLA : Hid (Lies (w.alloc (.cells cs1 5)) (some ⟨w.heap.size, lo, none⟩) (seg zs lo hi)) := by have h := lies_seg hl1 HC.out.1 (Nat.le_of_lt h1) h3; rw [if_neg hnl] at h; exact h
  clear hl1
  go_wp2_with fail
  refine (clone_some x len cap zs (by omega) _ (HC.out.alloc _)).mono ?_
  rintro e w' ⟨rfl, cs2, rfl, hl2⟩
  have HL2 : Hid (Lies ((w.alloc (.cells cs1 5)).alloc (.cells cs2 5)) (some ⟨w.heap.size + 1, 0, none⟩) zs) := by have := hl2; simp at this; exact this
  clear hl2
  obtain ⟨sg, hsg⟩ : ∃ sg, seg zs lo hi = sg := ⟨_, rfl⟩
  have HSG : Hid (seg zs lo hi = sg) := hsg
  have hz : sg.length = hi - lo := by rw [← hsg]; exact seg_length _ _ _ (by rw [HC.out.1]; exact h3)
  rw [hsg] at HLA
  have HZ : Hid (sg.length = hi - lo) := hz
  have hbd : sg.length ≤ 1048576 := by omega
  obtain ⟨P, hP⟩ : ∃ P, advPos lead (L, C) sg = P := ⟨_, rfl⟩
  obtain ⟨Q, hQ⟩ : ∃ Q, advPos lead (L2, C2) sg = Q := ⟨_, rfl⟩
  have HP : Hid (advPos lead (L, C) sg = P) := hP
  have HQ : Hid (advPos lead (L2, C2) sg = Q) := hQ
  have HW : Hid (wrap64 ((lo : Int) + ((hi - lo : Nat) : Int)) = (hi : Int)) := by show _ = _; rw [wrap_in _ (by omega) (by omega)]; omega
  have HLN : Hid (wrap64 (Q.1 - P.1) = wrap64 (L2 - L)) := by rw [← hP, ← hQ]; exact shift_line lead L C L2 C2 sg hL1 hL1' hC1 hC1' hL2 hL2' hC2 hC2' hbd
  have HFD : Hid (0 ≤ lastFeed sg → Q.2 = P.2) := by rw [← hP, ← hQ]; exact shift_feed lead L C L2 C2 sg hL1 hL1' hC1 hC1' hL2 hL2' hC2 hC2' hbd
  have HND : Hid (¬ 0 ≤ lastFeed sg → wrap64 (Q.2 - P.2) = wrap64 (C2 - C)) := by rw [← hP, ← hQ]; exact shift_none lead L C L2 C2 sg hL1 hL1' hC1 hC1' hL2 hL2' hC2 hC2' hbd
  clear hsg hz hP hQ hbd
  go_wp2_with fail
  refine (end_any L C lo _ (hi - lo) (len - lo) sg hL1 hL1' hC1 hC1' (by omega) HZ.out _ ((((HLA.out.alloc _).alloc _).alloc _))).mono ?_
  rintro e w' ⟨rfl, c1, c2, rfl⟩
  rw [HW.out, HP.out]
  simp only [posV]
  go_wp2_with fail
  go_loop [20, 21] (fun f i => ∃ k : Nat, k ≤ hi - lo ∧ i = .int .i64 k ∧ f = .bool (decide (0 ≤ lastFeed (sg.take k)))) (fun _ i => (hi - lo) - (intOf i).toNat)
  case atStart => exact ⟨0, Nat.zero_le _, rfl, rfl⟩
  case round =>
    obtain ⟨k, hk, rfl, rfl⟩ := hrel
    by_cases hlt : k < hi - lo
    · have hkz : k < sg.length := by rw [HZ.out]; exact hlt
      have hcs : cs1[lo + k]? = some (.int .u8 (sg.getD k 0)) := by
        obtain ⟨b, off, e, _, h⟩ := HLA.out k hkz
        simp only [Option.some.injEq, Addr.mk.injEq] at e
        obtain ⟨rfl, rfl, _⟩ := e
        rw [World.cell?_alloc_at _ _ _ _ rfl] at h
        exact h
      generalize hfb : decide (0 ≤ lastFeed (sg.take k)) = fb
      have HFB : Hid (decide (0 ≤ lastFeed (sg.take k)) = fb) := hfb
      clear hfb
      go_wp2
      · have h10 : (sg[k] == 10) = true := by assumption
        go_round
        case rel => exact ⟨k + 1, by omega, by go_num, by rw [feed_hit sg k hkz h10]⟩
        case measure => simp [intOf]; omega
      · have h10 : (sg[k] == 10) = false := by assumption
        go_round
        case rel => exact ⟨k + 1, by omega, by go_num, by rw [feed_miss sg k hkz h10, HFB.out]⟩
        case measure => simp [intOf]; omega
    · have hkl : k = hi - lo := by omega
      subst hkl
      have HP2 : Hid (advPos lead (L, C) (seg zs lo hi) = P) := by rw [HSG.out]; exact HP.out
      have HQ2 : Hid (advPos lead (L2, C2) (seg zs lo hi) = Q) := by rw [HSG.out]; exact HQ.out
      rw [show sg.take (hi - lo) = sg from List.take_of_length_le (by rw [HZ.out]; exact Nat.le_refl _)]
      by_cases hf : 0 ≤ lastFeed sg
      all_goals (first | rw [show decide (0 ≤ lastFeed sg) = true from decide_eq_true hf] | rw [show decide (0 ≤ lastFeed sg) = false from decide_eq_false hf])
      · go_wp2_with fail
        refine (newScanner_any _ len len L C lo _).mono ?_
        rintro e w' ⟨rfl, rfl⟩
        go_wp2_with fail
        refine (move_some _ (w.heap.size + 1) len lo hi L C P zs (by omega) h3 (by omega) HC.out.1 HP2.out _ (by simp) (by simp [go_sem]) (by simp [go_sem]) (by simp [go_sem]) (by simp [go_sem]) (by simp [go_sem]) (by simp [go_sem]) (by simp [go_sem]) ((((((((HL2.out.alloc _).alloc _).alloc _).alloc _).alloc _).alloc _).alloc _))).mono ?_
        rintro e w' ⟨rfl, d0, d1, d2, rfl⟩
        simp only [moved]
        go_wp2_with fail
        refine (newScanner_any _ len len L2 C2 lo _).mono ?_
        rintro e w' ⟨rfl, rfl⟩
        go_wp2_with fail
        refine (move_some _ (w.heap.size + 1) len lo hi L2 C2 Q zs (by omega) h3 (by omega) HC.out.1 HQ2.out _ (by simp) (by simp [go_sem]) (by simp [go_sem]) (by simp [go_sem]) (by simp [go_sem]) (by simp [go_sem]) (by simp [go_sem]) (by simp [go_sem]) (((((((((((((HL2.out.alloc _).alloc _).alloc _).alloc _).alloc _).alloc _).alloc _).alloc _).alloc _).alloc _).alloc _).alloc _).drew)).mono ?_
        rintro e w' ⟨rfl, d3, d4, d5, rfl⟩
        simp only [moved]
        go_wp2_with fail
        refine (scannerPos_any _ P.1 P.2 hi _ (by simp) (by simp [go_sem]) (by simp [go_sem]) (by simp [go_sem])).mono ?_
        rintro e w' ⟨rfl, rfl⟩
        go_wp2_with fail
        refine (scannerPos_any _ Q.1 Q.2 hi _ (by simp) (by simp [go_sem]) (by simp [go_sem]) (by simp [go_sem])).mono ?_
        rintro e w' ⟨rfl, rfl⟩
        have hln := HLN.out
        have hfd := HFD.out hf
        go_wp2
        go_ret
        exact ⟨rfl, (belowMore (belowMore (belowMore (belowMore (belowMore (belowMore (belowMore (belowMore (belowMore (belowMore (belowMore (belowMore (belowMore (belowMore (belowMore (belowMore (belowMore (belowMore (belowMore (belowMore (belowMore (Below.refl _ _) _) _) _) _) _) _) _) _) _) _) _) _) _) _) _) _) _) _) _) _) _).drew.drew⟩
      · go_wp2_with fail
        refine (newScanner_any _ len len L C lo _).mono ?_
        rintro e w' ⟨rfl, rfl⟩
        go_wp2_with fail
        refine (move_some _ (w.heap.size + 1) len lo hi L C P zs (by omega) h3 (by omega) HC.out.1 HP2.out _ (by simp) (by simp [go_sem]) (by simp [go_sem]) (by simp [go_sem]) (by simp [go_sem]) (by simp [go_sem]) (by simp [go_sem]) (by simp [go_sem]) ((((((((HL2.out.alloc _).alloc _).alloc _).alloc _).alloc _).alloc _).alloc _))).mono ?_
        rintro e w' ⟨rfl, d0, d1, d2, rfl⟩
        simp only [moved]
        go_wp2_with fail
        refine (newScanner_any _ len len L2 C2 lo _).mono ?_
        rintro e w' ⟨rfl, rfl⟩
        go_wp2_with fail
        refine (move_some _ (w.heap.size + 1) len lo hi L2 C2 Q zs (by omega) h3 (by omega) HC.out.1 HQ2.out _ (by simp) (by simp [go_sem]) (by simp [go_sem]) (by simp [go_sem]) (by simp [go_sem]) (by simp [go_sem]) (by simp [go_sem]) (by simp [go_sem]) (((((((((((((HL2.out.alloc _).alloc _).alloc _).alloc _).alloc _).alloc _).alloc _).alloc _).alloc _).alloc _).alloc _).alloc _).drew)).mono ?_
        rintro e w' ⟨rfl, d3, d4, d5, rfl⟩
        simp only [moved]
        go_wp2_with fail
        refine (scannerPos_any _ P.1 P.2 hi _ (by simp) (by simp [go_sem]) (by simp [go_sem]) (by simp [go_sem])).mono ?_
        rintro e w' ⟨rfl, rfl⟩
        go_wp2_with fail
        refine (scannerPos_any _ Q.1 Q.2 hi _ (by simp) (by simp [go_sem]) (by simp [go_sem]) (by simp [go_sem])).mono ?_
        rintro e w' ⟨rfl, rfl⟩
        have hln := HLN.out
        have hfd := HND.out hf
        go_wp2
        go_ret
        exact ⟨rfl, (belowMore (belowMore (belowMore (belowMore (belowMore (belowMore (belowMore (belowMore (belowMore (belowMore (belowMore (belowMore (belowMore (belowMore (belowMore (belowMore (belowMore (belowMore (belowMore (belowMore (belowMore (Below.refl _ _) _) _) _) _) _) _) _) _) _) _) _) _) _) _) _) _) _) _) _) _) _).drew.drew⟩
end Go.Proofs.Qxb6612560a
