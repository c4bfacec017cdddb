/-
  THE WALK of FnTextPartGathersIndentedPartsInOrder: an indented template.
-/
import Derived.Test.Qxb6612560aGatMem
namespace Go.Proofs.Qxb6612560a
open Go.RowKit

theorem gath_drew {w wr : World} {k j : Nat} {v : Value} {p : Nat → Nat} (h : Gath w wr k j v p) : Gath w wr.drew k j v p := ⟨h.old.drew, h.pos, h.t10, h.t13, h.tf, h.row, h.own⟩

set_option maxRecDepth 20000 in
set_option maxHeartbeats 3200000 in
theorem gather_ind (b off len cap : Nat) (S : Nat → ByteArray) (hl : len ≤ 65536) (h0 : 0 < len) (w : World) (hb : b < w.heap.size) (hc : ∀ i, i < len → w.cell? ⟨b, off + i, none⟩ = some (.string (S i))) :
    Calls Try.prog 8 #[.slice (some ⟨b, off, none⟩) len cap, .bool true] w fun e w' => e = .returned (.bool true) ∧ Below w.heap.size w w' := by
  obtain ⟨j62, hj62⟩ := info62
  have HC : Hid (∀ i, i < len → w.cell? ⟨b, off + i, none⟩ = some (.string (S i))) := hc
  clear hc
  go_enter Try.func8, Try.ntmps8
  go_wp2_with fail
  refine (bytesGather_any b off len cap S true (by unfold maxLen; omega) _ HC.out).mono ?_
  rintro e w1 ⟨⟨r, rfl, hr⟩, hw⟩
  obtain rfl : w = w1 := hw.symm
  clear hw
  cases r
  · clear hr
    go_wp2_with fail
    go_ret
    exact ⟨rfl, Below.refl _ _⟩
  have HSH : Hid (Short S len) := hr rfl
  clear hr
  go_wp2_with fail
  go_loop [5, 6] (fun z i => ∃ (k : Nat) (q : Int), k ≤ len ∧ i = .int .i64 k ∧ z = .int .i64 q ∧ 0 ≤ q ∧ q ≤ 1048576) (fun _ i => len - (intOf i).toNat)
  case atStart => exact ⟨0, 0, Nat.zero_le _, rfl, rfl, by omega, by omega⟩
  case round =>
    obtain ⟨k, q, hk, rfl, rfl, hq0, hq1⟩ := hrel
    by_cases hlt : k < len
    · have hck := HC.out k hlt
      have hss := HSH.out k hlt
      obtain ⟨s, hs⟩ : ∃ s, S k = s := ⟨_, rfl⟩
      rw [hs] at hck hss
      clear hs
      by_cases h3 : 1048576 < q + (16 + s.size)
      · go_wp2_with fail
        go_ret
        exact ⟨rfl, Below.refl _ _⟩
      go_wp2_with fail
      go_round
      case rel => exact ⟨k + 1, q + (16 + s.size), by omega, by go_num, rfl, by omega, by omega⟩
      case measure => simp [intOf]; omega
    · have hkl : k = len := by omega
      subst hkl
      clear hlt hk HSH
      have hmk := make_ptrs k hl
      go_wp2_with fail
      refine (newParser_any _ _).mono ?_
      rintro e w' ⟨rfl, rfl⟩
      simp only [World.size_alloc, parserV]
      go_wp2_with fail
      refine (newScan_any _ _).mono ?_
      rintro e w' ⟨rfl, rfl⟩
      simp only [World.size_alloc, scanV]
      go_wp2_with fail
      clear hmk
      go_loopw [12] (fun i wr => ∃ (j : Nat) (v : Value) (p : Nat → Nat), j ≤ k ∧ i = .int .i64 j ∧ Gath w wr k j v p) (fun i _ => k - (intOf i).toNat)
      case atStart => exact ⟨0, _, fun _ => 0, Nat.zero_le _, rfl, gath_start w k _⟩
      case round =>
        obtain ⟨j, v, p, hj, rfl, hG⟩ := hrel
        have hsz := hG.row.lt
        obtain ⟨c1, _, _, _, c4, c5, c6⟩ := setup_cells w true k
        have p1 : wr.cell? ⟨w.heap.size + 1, 1, none⟩ = some (.pointer (some ⟨w.heap.size, 0, none⟩)) := (hG.old.cell (p := ⟨w.heap.size + 1, 1, none⟩) (by show w.heap.size + 1 < _; omega)).trans c1
        have p2 := hG.t10
        have p3 := hG.t13
        have pf := hG.tf
        have p4 : wr.cell? ⟨w.heap.size + 1 + 1 + 1, 0, none⟩ = some (.int .i64 1) := (World.cell?_of_block (w := setup w true k) (a := ⟨w.heap.size + 1 + 1 + 1, 0, none⟩) hG.pos).trans c4
        have p5 : wr.cell? ⟨w.heap.size + 1 + 1 + 1, 1, none⟩ = some (.int .i64 1) := (World.cell?_of_block (w := setup w true k) (a := ⟨w.heap.size + 1 + 1 + 1, 1, none⟩) hG.pos).trans c5
        have p6 : wr.cell? ⟨w.heap.size + 1 + 1 + 1, 2, none⟩ = some (.int .i64 0) := (World.cell?_of_block (w := setup w true k) (a := ⟨w.heap.size + 1 + 1 + 1, 2, none⟩) hG.pos).trans c6
        clear c1 c4 c5 c6
        have HG : Hid (Gath w wr k j v p) := hG
        clear hG
        have b1 : b < wr.heap.size := by omega
        have g1 : ∀ n : Nat, b < wr.heap.size + n := fun n => by omega
        have b2 : w.heap.size + 1 < wr.heap.size := by omega
        have b3 : w.heap.size + 1 + 1 < wr.heap.size := by omega
        have b4 : w.heap.size + 1 + 1 + 1 < wr.heap.size := by omega
        have g0 : ∀ n : Nat, w.heap.size < wr.heap.size + n := fun n => by omega
        by_cases hlt : j < k
        · obtain ⟨s, hs⟩ : ∃ s, S j = s := ⟨_, rfl⟩
          have hck : wr.cell? ⟨b, off + j, none⟩ = some (.string s) := by
            rw [HG.out.old.cell (p := ⟨b, off + j, none⟩) (by show b < _; omega), (setup_below w true k).cell (p := ⟨b, off + j, none⟩) hb, HC.out j hlt, hs]
          clear hs
          have i0 : (0 : Int) ≤ (j : Int) := by omega
          have i1 : (j : Int) < (k : Int) := by omega
          go_wp2_with fail
          go_region_held3 (fun w' => w'.cell? ⟨b, off + j, none⟩ = some (.string s) ∧ w'.cell? ⟨w.heap.size + 1 + 1 + 1, 0, none⟩ = some (.int .i64 1) ∧ w'.cell? ⟨w.heap.size + 1 + 1 + 1, 1, none⟩ = some (.int .i64 1) ∧ w'.cell? ⟨w.heap.size + 1 + 1 + 1, 2, none⟩ = some (.int .i64 0)) (simp [*, go_sem, World.cell?_alloc_past])
            (first | (go_at_call 24; refine (textToken_any s 1 1 0 1 1 0 _).mono ?_; rintro e w' ⟨rfl, t1, t2, t3, rfl⟩) | (go_at_call 23; refine (zzPart_ind (w.heap.size + 1) (w.heap.size + 1 + 1) (w.heap.size + 1 + 1 + 1 + 1 + 1) j v (ptrs p j) s (some ⟨w.heap.size, 0, none⟩) 1 1 0 1 1 0 fits_one fits_one _ (((belowOn (belowOn (belowOn (Below.refl wr.heap.size wr) _) _) _).drew.cell (p := ⟨w.heap.size + 1, 1, none⟩) b2).trans p1) (((belowOn (belowOn (belowOn (Below.refl wr.heap.size wr) _) _) _).drew.cell (p := ⟨w.heap.size + 1 + 1, 10, none⟩) b3).trans p2) (((belowOn (belowOn (belowOn (Below.refl wr.heap.size wr) _) _) _).drew.cell (p := ⟨w.heap.size + 1 + 1, 13, none⟩) b3).trans p3) (((belowOn (belowOn (belowOn (Below.refl wr.heap.size wr) _) _) _).drew.frozen (p := ⟨w.heap.size + 1 + 1, 13, none⟩) b3).trans pf) ((((HG.out.own.alloc _).alloc _).alloc _).drew) (by omega) (by simp <;> omega) (by omega)).mono ?_; rintro e w1 ⟨pt, g, cp, rfl, hpt, hlt1, hpart, hown, hbel1⟩; have mid := gath_mid (belowOn (belowOn (belowOn (Below.refl wr.heap.size wr) _) _) _).drew hbel1 hsz; have GS := gath_step HG.out (belowOn (belowOn (belowOn (Below.refl wr.heap.size wr) _) _) _).drew hown hbel1; have k1 := (World.cell?_of_block (w := wr) (a := ⟨b, off + j, none⟩) (mid b (by omega) (by omega))).trans hck; have k2 := (World.cell?_of_block (w := wr) (a := ⟨w.heap.size + 1 + 1 + 1, 0, none⟩) (mid (w.heap.size + 1 + 1 + 1) (by omega) (by omega))).trans p4; have k3 := (World.cell?_of_block (w := wr) (a := ⟨w.heap.size + 1 + 1 + 1, 1, none⟩) (mid (w.heap.size + 1 + 1 + 1) (by omega) (by omega))).trans p5; have k4 := (World.cell?_of_block (w := wr) (a := ⟨w.heap.size + 1 + 1 + 1, 2, none⟩) (mid (w.heap.size + 1 + 1 + 1) (by omega) (by omega))).trans p6; have k5 := (World.cell?_of_block (w := wr) (a := ⟨w.heap.size + 1 + 1 + 1 + 1, j, none⟩) (mid (w.heap.size + 1 + 1 + 1 + 1) (by omega) (by omega))).trans (HG.out.row.cell hlt); have k6 := (World.frozen?_of_block (w := wr) (a := ⟨w.heap.size + 1 + 1 + 1 + 1, j, none⟩) (mid (w.heap.size + 1 + 1 + 1 + 1) (by omega) (by omega))).trans (HG.out.row.frozen j); have cp0 : w1.cell? ⟨pt, 0, none⟩ = some (.string s) := hpart 0; have HGS : Hid (Gath w (w1.setCell ⟨w.heap.size + 1 + 1 + 1 + 1, j, none⟩ (.pointer (some ⟨pt, 0, none⟩))) k (j + 1) (.slice (some ⟨g, 0, none⟩) (j + 1) cp) (fun i => if i = j then pt else p i)) := GS; clear GS hpart hbel1 hown hpt mid))
          go_wp2_with fail
          go_region_held3 (fun w' => w'.cell? ⟨pt, 0, none⟩ = some (.string s) ∧ w'.cell? ⟨b, off + j, none⟩ = some (.string s)) (simp [*, go_sem]) (fail)
          go_wp2_with fail
          go_roundw
          case rel => exact ⟨j + 1, _, _, by omega, by go_num, gath_drew HGS.out⟩
          case measure => simp [intOf]; omega
        · have hjk : j = k := by omega
          subst hjk
          obtain ⟨g, cp, hv⟩ : ∃ g cp, v = .slice (some ⟨g, 0, none⟩) j cp := by
            obtain ⟨g, cp, h⟩ := HG.out.own.form h0
            exact ⟨g, cp, h.1⟩
          have HO : Hid (wr.ownsRow (w.heap.size + 1 + 1 + 1 + 1 + 1) 52 1 (.slice (some ⟨g, 0, none⟩) j cp) j (ptrs p j)) := by rw [← hv]; exact HG.out.own
          have HR : Hid (wr.rowIs (w.heap.size + 1 + 1 + 1 + 1) 52 j (madeAt p j)) := HG.out.row
          have HB : Hid (Below w.heap.size w wr) := (setup_below w true j).trans (HG.out.old.mono (by omega))
          rw [hv] at p3
          clear hv HG HC p1 p2 pf p4 p5 p6 hlt hj
          go_wp2_with fail
          refine (scanTexts_any (w.heap.size + 1 + 1) _ _ p3).mono ?_
          rintro e w1 ⟨rfl, hw⟩
          obtain rfl : wr = w1 := hw.symm
          clear hw p3
          go_wp2_with fail
          go_loopw [15] (fun i wx => ∃ n : Nat, n ≤ j ∧ i = .int .i64 n ∧ wx.ownsRow (w.heap.size + 1 + 1 + 1 + 1 + 1) 52 1 (.slice (some ⟨g, 0, none⟩) j cp) j (ptrs p j) ∧ wx.rowIs (w.heap.size + 1 + 1 + 1 + 1) 52 j (madeAt p j) ∧ Below w.heap.size w wx) (fun i _ => j - (intOf i).toNat)
          case atStart => exact ⟨0, Nat.zero_le _, rfl, HO.out, HR.out, HB.out⟩
          case round =>
            obtain ⟨n, hn, rfl, hO, hR, hB⟩ := hrel
            by_cases hlt : n < j
            · have y1 : wr.cell? ⟨g, n, none⟩ = some (.pointer (some ⟨p n, 0, none⟩)) := (World.ownsRow.cellAt hO n (by omega)).trans (ptrs_get p j n hlt)
              have y2 : wr.cell? ⟨w.heap.size + 1 + 1 + 1 + 1, n, none⟩ = some (.pointer (some ⟨p n, 0, none⟩)) := (hR.cell hlt).trans (by unfold madeAt; rw [if_pos hlt])
              have HO2 : Hid (wr.ownsRow (w.heap.size + 1 + 1 + 1 + 1 + 1) 52 1 (.slice (some ⟨g, 0, none⟩) j cp) j (ptrs p j)) := hO
              have HR2 : Hid (wr.rowIs (w.heap.size + 1 + 1 + 1 + 1) 52 j (madeAt p j)) := hR
              have HB2 : Hid (Below w.heap.size w wr) := hB
              clear hO hR hB
              obtain ⟨a, ha⟩ : ∃ a : Addr, a = ⟨p n, 0, none⟩ := ⟨_, rfl⟩
              rw [← ha] at y1 y2
              clear ha
              have hne := fun wx => Go.Lib.run_neq_ptr_same (P := Try.prog) wx a Try.underlying52 hj62
              have i0 : (0 : Int) ≤ (n : Int) := by omega
              have i1 : (n : Int) < (j : Int) := by omega
              go_wp2_with fail
              go_region_held3 (fun w' => w'.cell? ⟨g, n, none⟩ = some (.pointer (some a)) ∧ w'.cell? ⟨w.heap.size + 1 + 1 + 1 + 1, n, none⟩ = some (.pointer (some a))) (simp [*, go_sem]) (fail)
              go_wp2_with fail
              go_roundw
              case rel => exact ⟨n + 1, by omega, by go_num, World.ownsRow.drew HO2.out, HR2.out.drew, HB2.out.drew⟩
              case measure => simp [intOf]; omega
            · have HB2 : Hid (Below w.heap.size w wr) := hB
              clear hO hR hB
              go_wp2_with fail
              go_ret
              exact ⟨rfl, HB2.out⟩
end Go.Proofs.Qxb6612560a
