/-
  THE WALK of zzEndOf: it computes what Advance does.
-/
import Derived.Test.Qxb6612560aPosAdv
namespace Go.Proofs.Qxb6612560a
open Go.RowKit

/-- The column that zzEndOf hands back. -/
def endCol (C : Int) (zs : List Int) : Int := if 0 ≤ lastFeed zs then 1 + (leads lead (zs.drop (lastFeed zs + 1).toNat) : Int) else wrap64 (C + leads lead (zs.drop (lastFeed zs + 1).toNat))

theorem feeds_hit (zs : List Int) (k : Nat) (h : k < zs.length) (h1 : (zs[k] == 10) = true) : feeds (zs.take (k + 1)) = feeds (zs.take k) + 1 ∧ lastFeed (zs.take (k + 1)) = k := by
  rw [take_snoc zs k h, feeds_snoc, lastFeed_snoc, if_pos (by simpa using h1), if_pos (by simpa using h1)]
  simp; omega
theorem feeds_miss (zs : List Int) (k : Nat) (h : k < zs.length) (h1 : (zs[k] == 10) = false) : feeds (zs.take (k + 1)) = feeds (zs.take k) ∧ lastFeed (zs.take (k + 1)) = lastFeed (zs.take k) := by
  rw [take_snoc zs k h, feeds_snoc, lastFeed_snoc, if_neg (by simpa using h1), if_neg (by simpa using h1)]
  simp
theorem leads_hit (zs : List Int) (m K : Nat) (hm : m ≤ K) (h : K < zs.length) (h1 : (bits BinOp.and IntKind.u8 zs[K] 192 != 128) = true) : leads lead ((zs.drop m).take (K + 1 - m)) = leads lead ((zs.drop m).take (K - m)) + 1 := by
  obtain ⟨j, rfl⟩ : ∃ j, K = m + j := ⟨K - m, by omega⟩
  rw [show m + j + 1 - m = j + 1 by omega, show m + j - m = j by omega, take_snoc _ j (by simp; omega), leads_snoc, List.getElem_drop, if_pos (by exact h1)]
theorem leads_miss (zs : List Int) (m K : Nat) (hm : m ≤ K) (h : K < zs.length) (h1 : (bits BinOp.and IntKind.u8 zs[K] 192 != 128) = false) : leads lead ((zs.drop m).take (K + 1 - m)) = leads lead ((zs.drop m).take (K - m)) := by
  obtain ⟨j, rfl⟩ : ∃ j, K = m + j := ⟨K - m, by omega⟩
  rw [show m + j + 1 - m = j + 1 by omega, show m + j - m = j by omega, take_snoc _ j (by simp; omega), leads_snoc, List.getElem_drop, if_neg (by unfold lead; rw [h1]; decide)]
  rfl
theorem endCol_pos (C : Int) (zs : List Int) (m q : Nat) (hm : lastFeed zs + 1 = m) (h1 : 1 ≤ m) (hq : leads lead (zs.drop m) = q) : endCol C zs = 1 + q := by
  unfold endCol
  rw [if_pos (by omega), hm, Int.toNat_natCast, hq]
theorem endCol_neg (C : Int) (zs : List Int) (q : Nat) (hm : lastFeed zs + 1 = (0 : Nat)) (hq : leads lead (zs.drop 0) = q) : endCol C zs = wrap64 (C + q) := by
  unfold endCol
  rw [if_neg (by omega), hm, Int.toNat_natCast, hq]

set_option maxHeartbeats 800000 in
theorem end_pos (L C B : Int) (b off len cap : Nat) (zs : List Int) (hl : len ≤ 1048576) (hz : zs.length = len) (w : World) (hb : b < w.heap.size) (hc : ∀ i, i < len → w.cell? ⟨b, off + i, none⟩ = some (.int .u8 (zs.getD i 0))) :
    Calls Try.prog 15 #[.agg #[.int .i64 L, .int .i64 C, .int .i64 B], .slice (some ⟨b, off, none⟩) len cap] w fun e w' =>
      e = .returned (.agg (posV (wrap64 (L + feeds zs), endCol C zs) (wrap64 (B + len)))) ∧ ∃ c1 c2 : Array Value, w' = (w.alloc (.cells c1 40)).alloc (.cells c2 40) := by
  go_enter Try.func15, Try.ntmps15
  go_wp2
  go_loop [5, 6, 7] (fun f l i => ∃ k : Nat, k ≤ len ∧ i = .int .i64 k ∧ f = .int .i64 (feeds (zs.take k)) ∧ l = .int .i64 (lastFeed (zs.take k))) (fun _ _ i => len - (intOf i).toNat)
  case atStart => exact ⟨0, Nat.zero_le _, rfl, rfl, rfl⟩
  case round =>
    obtain ⟨k, hk, rfl, rfl, rfl⟩ := hrel
    by_cases hlt : k < len
    · have hck := hc k hlt
      have hkz : k < zs.length := by omega
      have hf1 := feeds_le (zs.take k)
      have hf2 : (zs.take k).length ≤ k := List.length_take_le _ _
      clear hc
      go_wp2
      · have h1 : (zs[k] == 10) = true := by assumption
        obtain ⟨e1, e2⟩ := feeds_hit zs k hkz h1
        go_round
        case rel => exact ⟨k + 1, by omega, by go_num, by rw [e1]; go_num, by rw [e2]⟩
        case measure => simp [intOf]; omega
      · have h1 : (zs[k] == 10) = false := by assumption
        obtain ⟨e1, e2⟩ := feeds_miss zs k hkz h1
        go_round
        case rel => exact ⟨k + 1, by omega, by go_num, by rw [e1], by rw [e2]⟩
        case measure => simp [intOf]; omega
    · have hkl : k = len := by omega
      subst hkl
      have HT : Hid (zs.take k = zs) := List.take_of_length_le (by omega)
      have hlf := lastFeed_lt zs
      have hlg := lastFeed_ge zs
      obtain ⟨m, hm⟩ : ∃ m : Nat, lastFeed zs + 1 = m := ⟨(lastFeed zs + 1).toNat, by omega⟩
      obtain ⟨f, hf⟩ : ∃ f : Nat, feeds zs = f := ⟨_, rfl⟩
      rw [HT.out, hf, show lastFeed zs = (m : Int) - 1 by omega]
      have HM : Hid (lastFeed zs + 1 = m) := hm
      have HF : Hid (feeds zs = f) := hf
      have hmk : m ≤ k := by omega
      have hfk : f ≤ k := by rw [← hf, ← hz]; exact feeds_le zs
      clear hlf hlg hf hm
      go_wp2
      go_loop [8, 9] (fun c i => ∃ K : Nat, m ≤ K ∧ K ≤ k ∧ i = .int .i64 K ∧ c = .int .i64 (leads lead ((zs.drop m).take (K - m)))) (fun _ i => k - (intOf i).toNat)
      case atStart => exact ⟨m, Nat.le_refl _, hmk, rfl, by rw [Nat.sub_self]; rfl⟩
      case round =>
        obtain ⟨K, hmK, hK, rfl, rfl⟩ := hrel
        have hg1 := leads_le lead ((zs.drop m).take (K - m))
        have hg2 : ((zs.drop m).take (K - m)).length ≤ K - m := List.length_take_le _ _
        by_cases hlt2 : K < k
        · have hck := hc K hlt2
          have hkz : K < zs.length := by omega
          clear hc
          go_wp2
          · have h1 : (bits BinOp.and IntKind.u8 zs[K] 192 != 128) = true := by assumption
            have e1 := leads_hit zs m K hmK hkz h1
            go_round
            case rel => exact ⟨K + 1, by omega, by omega, by go_num, by rw [e1]; go_num⟩
            case measure => simp [intOf]; omega
          · have h1 : (bits BinOp.and IntKind.u8 zs[K] 192 != 128) = false := by assumption
            have e1 := leads_miss zs m K hmK hkz h1
            go_round
            case rel => exact ⟨K + 1, by omega, by omega, by go_num, by rw [e1]⟩
            case measure => simp [intOf]; omega
        · have hKk : K = k := by omega
          subst hKk
          obtain ⟨q, hq⟩ : ∃ q : Nat, leads lead (zs.drop m) = q := ⟨_, rfl⟩
          have hq2 : leads lead ((zs.drop m).take (K - m)) = q := by rw [List.take_of_length_le (by simp; omega)]; exact hq
          rw [hq2] at hg1 ⊢
          have HQ : Hid (leads lead (zs.drop m) = q) := hq
          clear hc hq hq2
          by_cases h0 : 1 ≤ m
          · go_wp2
            exact bodyPost_ret (v := .agg (posV (wrap64 (L + f), 1 + q) (wrap64 (B + K)))) (by simp [results, Try.results15, go_sem, posV]) rfl ⟨by rw [HF.out, endCol_pos C zs m q HM.out h0 HQ.out], _, _, rfl⟩
          · have hm0 : m = 0 := by omega
            subst hm0
            go_wp2
            exact bodyPost_ret (v := .agg (posV (wrap64 (L + f), wrap64 (C + q)) (wrap64 (B + K)))) (by simp [results, Try.results15, go_sem, posV]) rfl ⟨by rw [HF.out, endCol_neg C zs q HM.out HQ.out], _, _, rfl⟩

set_option maxHeartbeats 800000 in
theorem end_zero (L C B : Int) (ad : Option Addr) (cap : Nat) (w : World) :
    Calls Try.prog 15 #[.agg #[.int .i64 L, .int .i64 C, .int .i64 B], .slice ad 0 cap] w fun e w' =>
      e = .returned (.agg (posV (wrap64 L, wrap64 C) (wrap64 B))) ∧ ∃ c1 c2 : Array Value, w' = (w.alloc (.cells c1 40)).alloc (.cells c2 40) := by
  go_enter Try.func15, Try.ntmps15
  go_wp2
  refine wp_loop_rounds 1 ?_
  rw [rounds_succ]
  go_wp2
  refine wp_loop_rounds 1 ?_
  rw [rounds_succ]
  go_wp2
  exact bodyPost_ret (v := .agg (posV (wrap64 L, wrap64 C) (wrap64 B))) (by simp [results, Try.results15, go_sem, posV]) rfl ⟨rfl, _, _, rfl⟩
end Go.Proofs.Qxb6612560a
