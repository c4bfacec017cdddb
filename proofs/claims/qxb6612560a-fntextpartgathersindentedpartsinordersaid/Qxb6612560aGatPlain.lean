/-
  THE WALK of FnTextPartGathersIndentedPartsInOrder: a template that is not indented.
-/
import Derived.Test.Qxb6612560aGatBytes
import Derived.Test.Qxb6612560aTxtPart
import Derived.Deep.OwnRows
import Derived.LaidEqlPtr
namespace Go.Proofs.Qxb6612560a
open Go.RowKit

theorem make_ptrs (n : Nat) (hn : n ≤ 65536) (w : World) :
    (Instr.makeSlice 63 (.int .i64 (n : Int)) (.int .i64 (n : Int))).run Try.prog w = .ok (.slice (some ⟨w.heap.size, 0, none⟩) n n) (w.alloc (.cells (madeCells #[.pointer none] n) 52)) :=
  run_make_row' (P := Try.prog) 63 52 (.pointer none) 8 Try.underlying63 Try.info52 rfl .i64 .i64 n (by omega) (by omega) w

/-- The world ahead of the gathering loop: the file's name, the parser, the scan, the position, the row of made parts. -/
def setup (w : World) (ind : Bool) (len : Nat) : World :=
  ((((w.alloc (.cells #[.string ⟨#[109, 97, 105, 110, 46, 98, 119]⟩] 9)).alloc (.cells (parserV (some ⟨w.heap.size, 0, none⟩)) 84)).alloc (.cells (scanV ind (.slice none 0 0)) 86)).alloc (.cells #[.int .i64 1, .int .i64 1, .int .i64 0] 40)).alloc (.cells (madeCells #[.pointer none] len) 52)
theorem setup_size (w : World) (ind : Bool) (len : Nat) : (setup w ind len).heap.size = w.heap.size + 1 + 1 + 1 + 1 + 1 := by simp [setup]
theorem setup_below (w : World) (ind : Bool) (len : Nat) : Below w.heap.size w (setup w ind len) := belowOn (belowOn (belowOn (belowOn (belowOn (Below.refl _ _) _) _) _) _) _
theorem setup_row (w : World) (ind : Bool) (len : Nat) : (setup w ind len).rowIs (w.heap.size + 1 + 1 + 1 + 1) 52 len (fun _ => .pointer none) := by
  have h := World.rowIs_made ((((w.alloc (.cells #[.string ⟨#[109, 97, 105, 110, 46, 98, 119]⟩] 9)).alloc (.cells (parserV (some ⟨w.heap.size, 0, none⟩)) 84)).alloc (.cells (scanV ind (.slice none 0 0)) 86)).alloc (.cells #[.int .i64 1, .int .i64 1, .int .i64 0] 40)) (.pointer none) len 52
  simp only [World.size_alloc] at h
  exact h
theorem setup_cells (w : World) (ind : Bool) (len : Nat) : (setup w ind len).cell? ⟨w.heap.size + 1, 1, none⟩ = some (.pointer (some ⟨w.heap.size, 0, none⟩)) ∧ (setup w ind len).cell? ⟨w.heap.size + 1 + 1, 10, none⟩ = some (.bool ind) ∧ (setup w ind len).cell? ⟨w.heap.size + 1 + 1, 13, none⟩ = some (.slice none 0 0) ∧ (setup w ind len).frozen? ⟨w.heap.size + 1 + 1, 13, none⟩ = false ∧
    (setup w ind len).cell? ⟨w.heap.size + 1 + 1 + 1, 0, none⟩ = some (.int .i64 1) ∧ (setup w ind len).cell? ⟨w.heap.size + 1 + 1 + 1, 1, none⟩ = some (.int .i64 1) ∧ (setup w ind len).cell? ⟨w.heap.size + 1 + 1 + 1, 2, none⟩ = some (.int .i64 0) := by
  refine ⟨?_, ?_, ?_, ?_, ?_, ?_, ?_⟩ <;> simp [setup, parserV, scanV, go_sem]
theorem fits_one : Fits 1 1 0 := ⟨by omega, by omega, by omega, by omega, by omega, by omega⟩
theorem info62 : ∃ j, Try.prog.info? 62 = some j := Option.isSome_iff_exists.1 (by kernel_rfl)

/-- One round, seen from the memory. -/
theorem plain_step {B len k : Nat} {W wr w1 : World} {f : Nat → Value} (hbel : Below (B + 1 + 1 + 1 + 1) W wr) (hrow : wr.rowIs (B + 1 + 1 + 1 + 1) 52 len f) (h1 : Below wr.heap.size wr w1) (v : Value) :
    Below (B + 1 + 1 + 1 + 1) W (w1.setCell ⟨B + 1 + 1 + 1 + 1, k, none⟩ v) ∧ ∃ f', (w1.setCell ⟨B + 1 + 1 + 1 + 1, k, none⟩ v).rowIs (B + 1 + 1 + 1 + 1) 52 len f' := by
  have hlt := hrow.lt
  exact ⟨(hbel.trans (h1.mono (by omega))).setCell (Nat.le_refl _) v, _, (hrow.of_block (h1.block _ hlt)).set k v⟩

set_option maxRecDepth 20000 in
set_option maxHeartbeats 1600000 in
theorem gather_plain (b off len cap : Nat) (S : Nat → ByteArray) (hl : len ≤ 65536) (w : World) (hb : b < w.heap.size) (hc : ∀ i, i < len → w.cell? ⟨b, off + i, none⟩ = some (.string (S i))) :
    Calls Try.prog 8 #[.slice (some ⟨b, off, none⟩) len cap, .bool false] w fun e w' => e = .returned (.bool true) ∧ Below w.heap.size w w' := by
  have HC : Hid (∀ i, i < len → w.cell? ⟨b, off + i, none⟩ = some (.string (S i))) := hc
  clear hc
  go_enter Try.func8, Try.ntmps8
  go_wp2_with fail
  refine (bytesGather_any b off len cap S false (by unfold maxLen; omega) _ HC.out).mono ?_
  rintro e w1 ⟨⟨r, rfl, hr⟩, hw⟩
  obtain rfl : w = w1 := hw.symm
  clear hw
  cases r
  · clear hr
    go_wp2_with fail
    go_ret
    exact ⟨rfl, Below.refl _ _⟩
  have HSH : Hid (Short S len) := hr rfl
  clear hr
  go_wp2_with fail
  go_loop [5, 6] (fun z i => ∃ (k : Nat) (q : Int), k ≤ len ∧ i = .int .i64 k ∧ z = .int .i64 q ∧ 0 ≤ q ∧ q ≤ 1048576) (fun _ i => len - (intOf i).toNat)
  case atStart => exact ⟨0, 0, Nat.zero_le _, rfl, rfl, by omega, by omega⟩
  case round =>
    obtain ⟨k, q, hk, rfl, rfl, hq0, hq1⟩ := hrel
    by_cases hlt : k < len
    · have hck := HC.out k hlt
      have hss := HSH.out k hlt
      obtain ⟨s, hs⟩ : ∃ s, S k = s := ⟨_, rfl⟩
      rw [hs] at hck hss
      clear hs
      by_cases h3 : 1048576 < q + (16 + s.size)
      · go_wp2_with fail
        go_ret
        exact ⟨rfl, Below.refl _ _⟩
      go_wp2_with fail
      go_round
      case rel => exact ⟨k + 1, q + (16 + s.size), by omega, by go_num, rfl, by omega, by omega⟩
      case measure => simp [intOf]; omega
    · have hkl : k = len := by omega
      subst hkl
      clear hlt hk HSH
      have hmk := make_ptrs k hl
      go_wp2_with fail
      refine (newParser_any _ _).mono ?_
      rintro e w' ⟨rfl, rfl⟩
      simp only [World.size_alloc, parserV]
      go_wp2_with fail
      refine (newScan_any _ _).mono ?_
      rintro e w' ⟨rfl, rfl⟩
      simp only [World.size_alloc, scanV]
      go_wp2_with fail
      clear hmk
      go_loopw [12] (fun i wr => ∃ (j : Nat) (f : Nat → Value), j ≤ k ∧ i = .int .i64 j ∧ Below (w.heap.size + 1 + 1 + 1 + 1) (setup w false k) wr ∧ wr.rowIs (w.heap.size + 1 + 1 + 1 + 1) 52 k f) (fun i _ => k - (intOf i).toNat)
      case atStart => exact ⟨0, _, Nat.zero_le _, rfl, Below.refl _ _, setup_row w false k⟩
      case round =>
        obtain ⟨j, f, hj, rfl, hbel, hrow⟩ := hrel
        have hsz := hrow.lt
        obtain ⟨c1, c2, c3, _, c4, c5, c6⟩ := setup_cells w false k
        have p1 : wr.cell? ⟨w.heap.size + 1, 1, none⟩ = some (.pointer (some ⟨w.heap.size, 0, none⟩)) := (hbel.cell (p := ⟨w.heap.size + 1, 1, none⟩) (by show w.heap.size + 1 < _; omega)).trans c1
        have p2 : wr.cell? ⟨w.heap.size + 1 + 1, 10, none⟩ = some (.bool false) := (hbel.cell (p := ⟨w.heap.size + 1 + 1, 10, none⟩) (by show w.heap.size + 1 + 1 < _; omega)).trans c2
        have p3 : wr.cell? ⟨w.heap.size + 1 + 1, 13, none⟩ = some (.slice none 0 0) := (hbel.cell (p := ⟨w.heap.size + 1 + 1, 13, none⟩) (by show w.heap.size + 1 + 1 < _; omega)).trans c3
        have p4 : wr.cell? ⟨w.heap.size + 1 + 1 + 1, 0, none⟩ = some (.int .i64 1) := (hbel.cell (p := ⟨w.heap.size + 1 + 1 + 1, 0, none⟩) (by show w.heap.size + 1 + 1 + 1 < _; omega)).trans c4
        have p5 : wr.cell? ⟨w.heap.size + 1 + 1 + 1, 1, none⟩ = some (.int .i64 1) := (hbel.cell (p := ⟨w.heap.size + 1 + 1 + 1, 1, none⟩) (by show w.heap.size + 1 + 1 + 1 < _; omega)).trans c5
        have p6 : wr.cell? ⟨w.heap.size + 1 + 1 + 1, 2, none⟩ = some (.int .i64 0) := (hbel.cell (p := ⟨w.heap.size + 1 + 1 + 1, 2, none⟩) (by show w.heap.size + 1 + 1 + 1 < _; omega)).trans c6
        clear c1 c2 c3 c4 c5 c6
        have HB : Hid (Below (w.heap.size + 1 + 1 + 1 + 1) (setup w false k) wr) := hbel
        have HR : Hid (wr.rowIs (w.heap.size + 1 + 1 + 1 + 1) 52 k f) := hrow
        clear hbel hrow
        have b1 : b < wr.heap.size := by omega
        have g1 : ∀ n : Nat, b < wr.heap.size + n := fun n => by omega
        have b2 : w.heap.size + 1 < wr.heap.size := by omega
        have g2 : ∀ n : Nat, w.heap.size + 1 < wr.heap.size + n := fun n => by omega
        have b3 : w.heap.size + 1 + 1 < wr.heap.size := by omega
        have g3 : ∀ n : Nat, w.heap.size + 1 + 1 < wr.heap.size + n := fun n => by omega
        have b4 : w.heap.size + 1 + 1 + 1 < wr.heap.size := by omega
        have g4 : ∀ n : Nat, w.heap.size + 1 + 1 + 1 < wr.heap.size + n := fun n => by omega
        have g0 : ∀ n : Nat, w.heap.size < wr.heap.size + n := fun n => by omega
        by_cases hlt : j < k
        · obtain ⟨s, hs⟩ : ∃ s, S j = s := ⟨_, rfl⟩
          have hck : wr.cell? ⟨b, off + j, none⟩ = some (.string s) := by
            rw [HB.out.cell (p := ⟨b, off + j, none⟩) (by show b < _; omega), (setup_below w false k).cell (p := ⟨b, off + j, none⟩) hb, HC.out j hlt, hs]
          clear hs
          have i0 : (0 : Int) ≤ (j : Int) := by omega
          have i1 : (j : Int) < (k : Int) := by omega
          go_wp2_with fail
          go_region_held3 (fun w' => w'.cell? ⟨b, off + j, none⟩ = some (.string s) ∧ w'.cell? ⟨w.heap.size + 1 + 1 + 1, 0, none⟩ = some (.int .i64 1) ∧ w'.cell? ⟨w.heap.size + 1 + 1 + 1, 1, none⟩ = some (.int .i64 1) ∧ w'.cell? ⟨w.heap.size + 1 + 1 + 1, 2, none⟩ = some (.int .i64 0)) (simp [*, go_sem, World.cell?_alloc_past])
            (first | (go_at_call 24; refine (textToken_any s 1 1 0 1 1 0 _).mono ?_; rintro e w' ⟨rfl, t1, t2, t3, rfl⟩) | (go_at_call 23; refine (zzPart_plain (w.heap.size + 1) (w.heap.size + 1 + 1) s (some ⟨w.heap.size, 0, none⟩) 1 1 0 1 1 0 fits_one fits_one _ (((belowOn (belowOn (belowOn (Below.refl wr.heap.size wr) _) _) _).drew.cell (p := ⟨w.heap.size + 1, 1, none⟩) b2).trans p1) (((belowOn (belowOn (belowOn (Below.refl wr.heap.size wr) _) _) _).drew.cell (p := ⟨w.heap.size + 1 + 1, 10, none⟩) b3).trans p2)).mono ?_; rintro e w1 ⟨pt, rfl, hpt, hlt1, hpart, hbel1⟩; have hb1 : Below wr.heap.size wr w1 := (belowOn (belowOn (belowOn (Below.refl wr.heap.size wr) _) _) _).drew.trans (hbel1.mono (by simp <;> omega)); have k1 := (hb1.cell (p := ⟨b, off + j, none⟩) b1).trans hck; have k2 := (hb1.cell (p := ⟨w.heap.size + 1 + 1 + 1, 0, none⟩) b4).trans p4; have k3 := (hb1.cell (p := ⟨w.heap.size + 1 + 1 + 1, 1, none⟩) b4).trans p5; have k4 := (hb1.cell (p := ⟨w.heap.size + 1 + 1 + 1, 2, none⟩) b4).trans p6; have cp : w1.cell? ⟨pt, 0, none⟩ = some (.string s) := hpart 0; have HB1 : Hid (Below wr.heap.size wr w1) := hb1; clear hpart hbel1 hb1 hpt))
          go_wp2_with fail
          go_region_held3 (fun w' => w'.cell? ⟨pt, 0, none⟩ = some (.string s) ∧ w'.cell? ⟨b, off + j, none⟩ = some (.string s)) (simp [*, go_sem]) (fail)
          have k5 : w1.cell? ⟨w.heap.size + 1 + 1 + 1 + 1, j, none⟩ = some (f j) := (HB1.out.cell (p := ⟨w.heap.size + 1 + 1 + 1 + 1, j, none⟩) hsz).trans (HR.out.cell hlt)
          have k6 : w1.frozen? ⟨w.heap.size + 1 + 1 + 1 + 1, j, none⟩ = false := (HB1.out.frozen (p := ⟨w.heap.size + 1 + 1 + 1 + 1, j, none⟩) hsz).trans (HR.out.frozen j)
          go_wp2_with fail
          go_roundw
          case rel =>
            obtain ⟨R1, f', R2⟩ := plain_step (k := j) HB.out HR.out HB1.out (.pointer (some ⟨pt, 0, none⟩))
            exact ⟨j + 1, f', by omega, by go_num, R1.drew, R2.drew⟩
          case measure => simp [intOf]; omega
        · clear HC
          go_wp2_with fail
          refine (scanTexts_any (w.heap.size + 1 + 1) _ _ p3).mono ?_
          rintro e w1 ⟨rfl, hw⟩
          obtain rfl : wr = w1 := hw.symm
          clear hw
          go_wp2_with fail
          go_ret
          exact ⟨rfl, (setup_below w false k).trans (HB.out.mono (by omega))⟩
end Go.Proofs.Qxb6612560a
