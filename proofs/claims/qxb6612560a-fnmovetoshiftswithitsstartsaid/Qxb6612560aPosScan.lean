/-
  THE WALKS of the scanner's small functions.
-/
import Derived.Test.Qxb6612560aPosEnd
import Derived.Deep.RegionHeld3
import Derived.Deep.DeepMust
import Derived.Deep.DeepFit
namespace Go.Proofs.Qxb6612560a
open Go.RowKit

/-- The bytes zs lie in w from the address on. -/
def Lies (w : World) (ad : Option Addr) (zs : List Int) : Prop := ∀ i, i < zs.length → ∃ b off, ad = some ⟨b, off, none⟩ ∧ b < w.heap.size ∧ w.cell? ⟨b, off + i, none⟩ = some (.int .u8 (zs.getD i 0))
theorem Lies.drew {w : World} {ad : Option Addr} {zs : List Int} (h : Lies w ad zs) : Lies w.drew ad zs := h
theorem Lies.alloc {w : World} {ad : Option Addr} {zs : List Int} (h : Lies w ad zs) (o : Obj) : Lies (w.alloc o) ad zs := fun i hi => by
  obtain ⟨b, off, e, hb, hc⟩ := h i hi
  exact ⟨b, off, e, by simp; omega, by rw [World.cell?_alloc_past o b _ hb]; exact hc⟩
theorem Lies.setCell {w : World} {ad : Option Addr} {zs : List Int} (h : Lies w ad zs) (a : Addr) (v : Value) (ha : ∀ x, ad = some x → x.block ≠ a.block) : Lies (w.setCell a v) ad zs := fun i hi => by
  obtain ⟨b, off, e, hb, hc⟩ := h i hi
  refine ⟨b, off, e, by simpa [World.setCell] using hb, ?_⟩
  rw [World.cell?_of_block (w := w) (a := ⟨b, off + i, none⟩) (Below.heap_setCell w a v b (ha _ e))]
  exact hc
/-- The bytes from lo up to hi. -/
def seg (zs : List Int) (lo hi : Nat) : List Int := (zs.drop lo).take (hi - lo)
theorem seg_length (zs : List Int) (lo hi : Nat) (h : hi ≤ zs.length) : (seg zs lo hi).length = hi - lo := by
  simp [seg]; omega
theorem seg_append (zs : List Int) (lo mid hi : Nat) (h1 : lo ≤ mid) (h2 : mid ≤ hi) : seg zs lo hi = seg zs lo mid ++ seg zs mid hi := by
  unfold seg
  rw [show hi - lo = (mid - lo) + (hi - mid) by omega, List.take_add, List.drop_drop, show lo + (mid - lo) = mid by omega]
theorem lies_seg {w : World} {b n lo hi : Nat} {zs : List Int} (h : Lies w (some ⟨b, 0, none⟩) zs) (hz : zs.length = n) (h1 : lo ≤ hi) (h2 : hi ≤ n) : Lies w (if n = lo then some ⟨b, 0, none⟩ else some ⟨b, lo, none⟩) (seg zs lo hi) := by
  intro i hi'
  rw [seg_length _ _ _ (by omega)] at hi'
  obtain ⟨b', off, e, hb, hc⟩ := h (lo + i) (by omega)
  simp only [Option.some.injEq, Addr.mk.injEq] at e
  obtain ⟨rfl, rfl, _⟩ := e
  refine ⟨b, lo, by rw [if_neg (by omega)], hb, ?_⟩
  rw [Nat.zero_add] at hc
  rw [hc]
  congr 2
  unfold seg
  rw [List.getD_eq_getElem?_getD, List.getD_eq_getElem?_getD, List.getElem?_take, if_pos (by omega), List.getElem?_drop]

/-- Advance, wherever its bytes lie. -/
theorem adv_any (L C B : Int) (ad : Option Addr) (len cap : Nat) (zs : List Int) (hl : len ≤ 1048576) (hz : zs.length = len) (w : World) (h : Lies w ad zs) :
    Calls Try.prog 39 #[.agg #[.int .i64 L, .int .i64 C, .int .i64 B], .slice ad len cap] w fun e w' =>
      e = .returned (.agg (posV (advPos lead (L, C) zs) (wrap64 (B + len)))) ∧ ∃ c1 c2 : Array Value, w' = (w.alloc (.cells c1 40)).alloc (.cells c2 40) := by
  by_cases h0 : len = 0
  · subst h0
    have e0 : zs = [] := List.eq_nil_of_length_eq_zero hz
    subst e0
    have := adv_zero L C B ad cap w
    simpa [advPos_nil] using this
  · obtain ⟨b, off, rfl, hb, _⟩ := h 0 (by omega)
    refine adv_pos L C B b off len cap zs hl hz w hb fun i hi => ?_
    obtain ⟨b', off', e, _, hc⟩ := h i (by omega)
    simp only [Option.some.injEq, Addr.mk.injEq] at e
    obtain ⟨rfl, rfl, _⟩ := e
    exact hc

/-- zzEndOf hands back what Advance would. -/
theorem end_any (L C B : Int) (ad : Option Addr) (len cap : Nat) (zs : List Int) (hL1 : -9223372036854775808 ≤ L) (hL2 : L ≤ 9223372036854775807) (hC1 : -9223372036854775808 ≤ C) (hC2 : C ≤ 9223372036854775807)
    (hl : len ≤ 1048576) (hz : zs.length = len) (w : World) (h : Lies w ad zs) :
    Calls Try.prog 15 #[.agg #[.int .i64 L, .int .i64 C, .int .i64 B], .slice ad len cap] w fun e w' =>
      e = .returned (.agg (posV (advPos lead (L, C) zs) (wrap64 (B + len)))) ∧ ∃ c1 c2 : Array Value, w' = (w.alloc (.cells c1 40)).alloc (.cells c2 40) := by
  rw [advPos_closed lead L C hL1 hL2 hC1 hC2 len zs hz hl]
  by_cases h0 : len = 0
  · subst h0
    have e0 : zs = [] := List.eq_nil_of_length_eq_zero hz
    subst e0
    have := end_zero L C B ad cap w
    simpa [feeds, leads, lastFeed] using this
  · obtain ⟨b, off, rfl, hb, _⟩ := h 0 (by omega)
    refine end_pos L C B b off len cap zs hl hz w hb fun i hi => ?_
    obtain ⟨b', off', e, _, hc⟩ := h i (by omega)
    simp only [Option.some.injEq, Addr.mk.injEq] at e
    obtain ⟨rfl, rfl, _⟩ := e
    exact hc

set_option maxHeartbeats 800000 in
theorem newScanner_any (v : Option Addr) (n c : Nat) (L C B : Int) (w : World) :
    Calls Try.prog 16 #[.slice v n c, .agg #[.int .i64 L, .int .i64 C, .int .i64 B]] w fun e w' => e = .returned (.pointer (some ⟨w.heap.size + 1, 0, none⟩)) ∧
      w' = (w.alloc (.cells #[.int .i64 L, .int .i64 C, .int .i64 B] 40)).alloc (.cells #[.slice v n c, .pointer none, .int .i64 L, .int .i64 C, .int .i64 B] 69) := by
  go_enter Try.func16, Try.ntmps16
  go_wp2
  go_ret
  exact ⟨rfl, rfl⟩

set_option maxHeartbeats 800000 in
theorem posAt_pos (S b n lo hi : Nat) (L C : Int) (zs : List Int) (hlo : lo ≤ hi) (hhi : hi ≤ n) (hn : n ≤ 1048576) (hz : zs.length = n) (w : World) (hS : S < w.heap.size)
    (h0 : w.cell? ⟨S, 0, none⟩ = some (.slice (some ⟨b, 0, none⟩) n n)) (h2 : w.cell? ⟨S, 2, none⟩ = some (.int .i64 L)) (h3 : w.cell? ⟨S, 3, none⟩ = some (.int .i64 C)) (h4 : w.cell? ⟨S, 4, none⟩ = some (.int .i64 lo))
    (hc : Lies w (some ⟨b, 0, none⟩) zs) :
    Calls Try.prog 35 #[.pointer (some ⟨S, 0, none⟩), .int .i64 hi] w fun e w' =>
      e = .returned (.agg (posV (advPos lead (L, C) (seg zs lo hi)) hi)) ∧ ∃ c0 c1 c2 : Array Value, w' = (((w.alloc (.cells c0 40)).alloc (.cells c1 40)).alloc (.cells c2 40)).drew := by
  have s1 : S < w.heap.size + 1 := by omega
  have s2 : S < w.heap.size + 1 + 1 := by omega
  have s3 : S < w.heap.size + 1 + 1 + 1 := by omega
  have k1 : (0 : Int) ≤ (lo : Int) := by omega
  have k2 : (lo : Int) ≤ (hi : Int) := by omega
  have k3 : (hi : Int) ≤ (n : Int) := by omega
  have HC : Hid (Lies w (if n = lo then some ⟨b, 0, none⟩ else some ⟨b, lo, none⟩) (seg zs lo hi)) := lies_seg hc hz hlo hhi
  have HZ : Hid ((seg zs lo hi).length = hi - lo) := seg_length _ _ _ (by omega)
  have hw : wrap64 ((lo : Int) + ((hi - lo : Nat) : Int)) = (hi : Int) := by rw [wrap_in _ (by omega) (by omega)]; omega
  have HW : Hid (wrap64 ((lo : Int) + ((hi - lo : Nat) : Int)) = (hi : Int)) := hw
  clear hc hz hw
  obtain ⟨sg, hsg⟩ : ∃ sg, seg zs lo hi = sg := ⟨_, rfl⟩
  rw [hsg] at HC HZ ⊢
  clear hsg
  by_cases hnl : n = lo
  · subst hnl
    have e : hi = n := by omega
    subst e
    have e0 : sg = [] := List.eq_nil_of_length_eq_zero (HZ.out.trans (by omega))
    subst e0
    have HW2 : Hid (wrap64 (hi : Int) = (hi : Int)) := wrap_in _ (by omega) (by omega)
    clear HC HZ HW
    go_enter Try.func35, Try.ntmps35
    go_wp2
    go_region_held3 (fun w' => w'.cell? ⟨S, 0, none⟩ = some (.slice (some ⟨b, 0, none⟩) hi hi) ∧ w'.cell? ⟨S, 2, none⟩ = some (.int .i64 L) ∧ w'.cell? ⟨S, 3, none⟩ = some (.int .i64 C) ∧ w'.cell? ⟨S, 4, none⟩ = some (.int .i64 hi)) (simp [*, go_sem, World.cell?_alloc_past])
      (first | (go_at_call 39; refine (adv_zero L C hi (some ⟨b, 0, none⟩) 0 _).mono ?_; rintro e w' ⟨rfl, c1, c2, rfl⟩; rw [HW2.out]; simp only [posV]))
    go_wp2
    exact bodyPost_ret (v := .agg (posV (L, C) hi)) (by simp [results, Try.results35, go_sem, posV]) rfl ⟨rfl, _, _, _, rfl⟩
  · rw [if_neg hnl] at HC
    go_enter Try.func35, Try.ntmps35
    go_wp2
    go_region_held3 (fun w' => w'.cell? ⟨S, 0, none⟩ = some (.slice (some ⟨b, 0, none⟩) n n) ∧ w'.cell? ⟨S, 2, none⟩ = some (.int .i64 L) ∧ w'.cell? ⟨S, 3, none⟩ = some (.int .i64 C) ∧ w'.cell? ⟨S, 4, none⟩ = some (.int .i64 lo)) (simp [*, go_sem, World.cell?_alloc_past])
      (first | (go_at_call 39; refine (adv_any L C lo _ (hi - lo) (n - lo) sg (by omega) HZ.out _ (HC.out.alloc _).drew).mono ?_; rintro e w' ⟨rfl, c1, c2, rfl⟩; rw [HW.out]; simp only [posV]))
    go_wp2
    exact bodyPost_ret (v := .agg (posV (advPos lead (L, C) sg) hi)) (by simp [results, Try.results35, go_sem, posV]) rfl ⟨rfl, _, _, _, rfl⟩

set_option maxHeartbeats 800000 in
/-- posAt over a nil source. -/
theorem posAt_nil (S : Nat) (L C : Int) (w : World) (hS : S < w.heap.size)
    (h0 : w.cell? ⟨S, 0, none⟩ = some (.slice none 0 0)) (h2 : w.cell? ⟨S, 2, none⟩ = some (.int .i64 L)) (h3 : w.cell? ⟨S, 3, none⟩ = some (.int .i64 C)) (h4 : w.cell? ⟨S, 4, none⟩ = some (.int .i64 0)) :
    Calls Try.prog 35 #[.pointer (some ⟨S, 0, none⟩), .int .i64 0] w fun e w' =>
      e = .returned (.agg (posV (L, C) 0)) ∧ ∃ c0 c1 c2 : Array Value, w' = (((w.alloc (.cells c0 40)).alloc (.cells c1 40)).alloc (.cells c2 40)).drew := by
  have s1 : S < w.heap.size + 1 := by omega
  have s2 : S < w.heap.size + 1 + 1 := by omega
  have s3 : S < w.heap.size + 1 + 1 + 1 := by omega
  have HW2 : Hid (wrap64 (0 : Int) = (0 : Int)) := wrap_in _ (by omega) (by omega)
  go_enter Try.func35, Try.ntmps35
  go_wp2
  go_region_held3 (fun w' => w'.cell? ⟨S, 0, none⟩ = some (.slice none 0 0) ∧ w'.cell? ⟨S, 2, none⟩ = some (.int .i64 L) ∧ w'.cell? ⟨S, 3, none⟩ = some (.int .i64 C) ∧ w'.cell? ⟨S, 4, none⟩ = some (.int .i64 0)) (simp [*, go_sem, World.cell?_alloc_past])
    (first | (go_at_call 39; refine (adv_zero L C 0 none 0 _).mono ?_; rintro e w' ⟨rfl, c1, c2, rfl⟩; rw [HW2.out]; simp only [posV]))
  go_wp2
  exact bodyPost_ret (v := .agg (posV (L, C) 0)) (by simp [results, Try.results35, go_sem, posV]) rfl ⟨rfl, _, _, _, rfl⟩
end Go.Proofs.Qxb6612560a
