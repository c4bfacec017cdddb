/-
  THE WALKS of FnTextPartStandsWhereItsTokenStands, the ways through its work: named or not, indented or not.
-/
import Derived.Test.Qxb6612560aTxtRange
import Derived.LaidEqlPtr
namespace Go.Proofs.Qxb6612560a
open Go.RowKit

theorem info62 : ∃ j, Try.prog.info? 62 = some j := Option.isSome_iff_exists.1 (by kernel_rfl)

theorem partAt_alloc {w : World} {pt : Nat} {cs : Array Value} (h : PartAt w pt cs) (hlt : pt < w.heap.size) (o : Obj) : PartAt (w.alloc o) pt cs := fun i => by
  rw [World.cell?_alloc_past o pt i hlt]; exact h i

set_option maxRecDepth 20000 in
set_option maxHeartbeats 1600000 in
theorem stands_named_ind (name text : ByteArray) (sl sc sb el ec eb : Int) (hn : name.size ≤ 65536) (ht : text.size ≤ 65536) (hs : Fits sl sc sb) (he : Fits el ec eb) (w : World) :
    Calls Try.prog 7 #[.string name, .bool true, .string text, .int .i64 sl, .int .i64 sc, .int .i64 sb, .int .i64 el, .int .i64 ec, .int .i64 eb, .bool true] w fun e w' => e = .returned (.bool true) ∧ Below w.heap.size w w' := by
  obtain ⟨j62, hj⟩ := info62
  obtain ⟨s1, s2, s3, s4, s5, s6⟩ := id hs
  obtain ⟨e1, e2, e3, e4, e5, e6⟩ := id he
  go_enter Try.func7, Try.ntmps7
  go_wp2_with fail
  refine (bytesText_any name text _ _ _ _ _ _ _ _ (by unfold maxLen; omega) (by unfold maxLen; omega) _).mono ?_
  rintro e w1 ⟨⟨r, rfl⟩, hw⟩
  obtain rfl : w = w1 := hw.symm
  clear hw
  cases r
  · go_wp2_with fail
    go_ret
    exact ⟨rfl, Below.refl _ _⟩
  go_wp2_with fail
  refine (newParser_any _ _).mono ?_
  rintro e w' ⟨rfl, rfl⟩
  simp only [parserV]
  go_wp2_with fail
  refine (newScan_any _ _).mono ?_
  rintro e w' ⟨rfl, rfl⟩
  simp only [scanV]
  go_wp2_with fail
  refine (textToken_any text sl sc sb el ec eb _).mono ?_
  rintro e w' ⟨rfl, t1, t2, t3, rfl⟩
  go_wp2_with fail
  refine (zzPart_ind (w.heap.size + 1 + 1 + 1) (w.heap.size + 1 + 1 + 1 + 1) (w.heap.size + 1 + 1 + 1 + 1 + 1 + 1 + 1 + 1) 0 (.slice none 0 0) [] text (some ⟨w.heap.size + 1 + 1, 0, none⟩) sl sc sb el ec eb hs he _ (by simp [go_sem]) (by simp [go_sem]) (by simp [go_sem]) (by simp [go_sem]) (World.ownsRow_nil _ _ _ _) (by omega) (by simp) (by omega)).mono ?_
  rintro e w1 ⟨pt, g, cap, rfl, hpt, hlt, hpart, hown, hbel⟩
  have hpt' : w.heap.size + 1 + 1 + 1 + 1 + 1 + 1 + 1 + 1 ≤ pt := by simpa using hpt
  have c00 : w1.cell? ⟨w.heap.size, 0, none⟩ = some (.int .i64 sl) := by rw [hbel.cell (p := ⟨w.heap.size, 0, none⟩) (by simp <;> omega)]; simp [go_sem]
  have c01 : w1.cell? ⟨w.heap.size, 1, none⟩ = some (.int .i64 sc) := by rw [hbel.cell (p := ⟨w.heap.size, 1, none⟩) (by simp <;> omega)]; simp [go_sem]
  have c02 : w1.cell? ⟨w.heap.size, 2, none⟩ = some (.int .i64 sb) := by rw [hbel.cell (p := ⟨w.heap.size, 2, none⟩) (by simp <;> omega)]; simp [go_sem]
  have c10 : w1.cell? ⟨w.heap.size + 1, 0, none⟩ = some (.int .i64 el) := by rw [hbel.cell (p := ⟨w.heap.size + 1, 0, none⟩) (by simp <;> omega)]; simp [go_sem]
  have c11 : w1.cell? ⟨w.heap.size + 1, 1, none⟩ = some (.int .i64 ec) := by rw [hbel.cell (p := ⟨w.heap.size + 1, 1, none⟩) (by simp <;> omega)]; simp [go_sem]
  have c12 : w1.cell? ⟨w.heap.size + 1, 2, none⟩ = some (.int .i64 eb) := by rw [hbel.cell (p := ⟨w.heap.size + 1, 2, none⟩) (by simp <;> omega)]; simp [go_sem]
  have c20 : w1.cell? ⟨w.heap.size + 1 + 1, 0, none⟩ = some (.string name) := by rw [hbel.cell (p := ⟨w.heap.size + 1 + 1, 0, none⟩) (by simp <;> omega)]; simp [go_sem]
  have c43 : w1.cell? ⟨w.heap.size + 1 + 1 + 1 + 1, 13, none⟩ = some (.slice (some ⟨g, 0, none⟩) (0 + 1) cap) := by rw [hbel.cell (p := ⟨w.heap.size + 1 + 1 + 1 + 1, 13, none⟩) (by simp <;> omega)]; simp [go_sem]
  have cp : w1.cell? ⟨pt, 0, none⟩ = some (.string text) := hpart 0
  have q0 : w.heap.size < w1.heap.size := by omega
  have r0 : ∀ k : Nat, w.heap.size < w1.heap.size + k := fun k => by omega
  have q1 : w.heap.size + 1 < w1.heap.size := by omega
  have r1 : ∀ k : Nat, w.heap.size + 1 < w1.heap.size + k := fun k => by omega
  have q2 : w.heap.size + 1 + 1 < w1.heap.size := by omega
  have r2 : ∀ k : Nat, w.heap.size + 1 + 1 < w1.heap.size + k := fun k => by omega
  have q4 : w.heap.size + 1 + 1 + 1 + 1 < w1.heap.size := by omega
  have r4 : ∀ k : Nat, w.heap.size + 1 + 1 + 1 + 1 < w1.heap.size + k := fun k => by omega
  have rp : ∀ k : Nat, pt < w1.heap.size + k := fun k => by omega
  have cg : w1.cell? ⟨g, 0, none⟩ = some (.pointer (some ⟨pt, 0, none⟩)) := by rw [World.ownsRow.cellAt hown 0 (by omega)]; rfl
  have hg : g < w1.heap.size := World.block_lt_of_cell? w1 _ cg
  have rg : ∀ k : Nat, g < w1.heap.size + k := fun k => by omega
  have HP : Hid (PartAt w1 pt (partV text (some ⟨w.heap.size + 1 + 1, 0, none⟩) sl sc sb el ec eb)) := hpart
  have HB : Hid (Below w.heap.size w w1) := (((belowOn (belowOn (belowOn (belowOn (belowOn (belowOn (belowOn (belowOn (Below.refl _ _) _) _) _) _) _) _) _) _)).setCell (by simp <;> omega) _).trans (hbel.mono (by omega))
  clear hpart hbel hpt hown
  go_wp2_with fail
  refine (range_some pt (w.heap.size + 1 + 1) name text sl sc sb el ec eb hs he _ (by simp [go_sem, q2, c20]) (by simp <;> omega) (partAt_alloc HP.out hlt _)).mono ?_
  rintro e w' ⟨rfl, d0, d1, d2, d3, d4, d5, d6, rfl⟩
  simp only [rangeV]
  go_wp2_with fail
  refine (scanTexts_any (w.heap.size + 1 + 1 + 1 + 1) (.slice (some ⟨g, 0, none⟩) (0 + 1) cap) _ ((((belowOn (belowOn (belowOn (belowOn (belowOn (belowOn (belowOn (belowOn (belowOn (Below.refl w1.heap.size w1) _) _) _) _) _) _) _) _) _).drew).cell (p := ⟨w.heap.size + 1 + 1 + 1 + 1, 13, none⟩) q4).trans c43)).mono ?_
  rintro e w' ⟨rfl, rfl⟩
  have heq := fun wx => run_eql_ptr_same (P := Try.prog) wx ⟨pt, 0, none⟩ Try.underlying52 hj
  go_wp2
  go_ret
  exact ⟨rfl, (belowOn (belowOn (belowOn (belowOn (belowOn (belowOn (belowOn (belowOn (belowOn HB.out _) _) _) _) _) _) _) _) _).drew⟩

set_option maxRecDepth 20000 in
set_option maxHeartbeats 1600000 in
theorem stands_bare_plain (name text : ByteArray) (sl sc sb el ec eb : Int) (hn : name.size ≤ 65536) (ht : text.size ≤ 65536) (hs : Fits sl sc sb) (he : Fits el ec eb) (w : World) :
    Calls Try.prog 7 #[.string name, .bool false, .string text, .int .i64 sl, .int .i64 sc, .int .i64 sb, .int .i64 el, .int .i64 ec, .int .i64 eb, .bool false] w fun e w' => e = .returned (.bool true) ∧ Below w.heap.size w w' := by
  obtain ⟨j62, hj⟩ := info62
  obtain ⟨s1, s2, s3, s4, s5, s6⟩ := id hs
  obtain ⟨e1, e2, e3, e4, e5, e6⟩ := id he
  go_enter Try.func7, Try.ntmps7
  go_wp2_with fail
  refine (bytesText_any name text _ _ _ _ _ _ _ _ (by unfold maxLen; omega) (by unfold maxLen; omega) _).mono ?_
  rintro e w1 ⟨⟨r, rfl⟩, hw⟩
  obtain rfl : w = w1 := hw.symm
  clear hw
  cases r
  · go_wp2_with fail
    go_ret
    exact ⟨rfl, Below.refl _ _⟩
  go_wp2_with fail
  refine (newParser_any _ _).mono ?_
  rintro e w' ⟨rfl, rfl⟩
  simp only [parserV]
  go_wp2_with fail
  refine (newScan_any _ _).mono ?_
  rintro e w' ⟨rfl, rfl⟩
  simp only [scanV]
  go_wp2_with fail
  refine (textToken_any text sl sc sb el ec eb _).mono ?_
  rintro e w' ⟨rfl, t1, t2, t3, rfl⟩
  go_wp2_with fail
  refine (zzPart_plain (w.heap.size + 1 + 1 + 1) (w.heap.size + 1 + 1 + 1 + 1) text none sl sc sb el ec eb hs he _ (by simp [go_sem]) (by simp [go_sem])).mono ?_
  rintro e w1 ⟨pt, rfl, hpt, hlt, hpart, hbel⟩
  have hpt' : w.heap.size + 1 + 1 + 1 + 1 + 1 + 1 + 1 + 1 ≤ pt := by simpa using hpt
  have c43 : w1.cell? ⟨w.heap.size + 1 + 1 + 1 + 1, 13, none⟩ = some (.slice none 0 0) := by rw [hbel.cell (p := ⟨w.heap.size + 1 + 1 + 1 + 1, 13, none⟩) (by simp <;> omega)]; simp [go_sem]
  have cp : w1.cell? ⟨pt, 0, none⟩ = some (.string text) := hpart 0
  have q4 : w.heap.size + 1 + 1 + 1 + 1 < w1.heap.size := by omega
  have r4 : ∀ k : Nat, w.heap.size + 1 + 1 + 1 + 1 < w1.heap.size + k := fun k => by omega
  have rp : ∀ k : Nat, pt < w1.heap.size + k := fun k => by omega
  have HP : Hid (PartAt w1 pt (partV text none sl sc sb el ec eb)) := hpart
  have HB : Hid (Below w.heap.size w w1) := ((belowOn (belowOn (belowOn (belowOn (belowOn (belowOn (belowOn (belowOn (Below.refl _ _) _) _) _) _) _) _) _) _)).trans (hbel.mono (by simp <;> omega))
  clear hpart hbel hpt 
  go_wp2_with fail
  refine (range_nil pt text sl sc sb el ec eb _ (by simp <;> omega) (partAt_alloc HP.out hlt _)).mono ?_
  rintro e w' ⟨rfl, d0, d1, d2, rfl⟩
  simp only [rangeV]
  go_wp2_with fail
  refine (scanTexts_any (w.heap.size + 1 + 1 + 1 + 1) (.slice none 0 0) _ ((((belowOn (belowOn (belowOn (belowOn (belowOn (Below.refl w1.heap.size w1) _) _) _) _) _)).cell (p := ⟨w.heap.size + 1 + 1 + 1 + 1, 13, none⟩) q4).trans c43)).mono ?_
  rintro e w' ⟨rfl, rfl⟩
  go_wp2
  go_ret
  exact ⟨rfl, (belowOn (belowOn (belowOn (belowOn (belowOn HB.out _) _) _) _) _)⟩

set_option maxRecDepth 20000 in
set_option maxHeartbeats 1600000 in
theorem stands_named_plain (name text : ByteArray) (sl sc sb el ec eb : Int) (hn : name.size ≤ 65536) (ht : text.size ≤ 65536) (hs : Fits sl sc sb) (he : Fits el ec eb) (w : World) :
    Calls Try.prog 7 #[.string name, .bool true, .string text, .int .i64 sl, .int .i64 sc, .int .i64 sb, .int .i64 el, .int .i64 ec, .int .i64 eb, .bool false] w fun e w' => e = .returned (.bool true) ∧ Below w.heap.size w w' := by
  obtain ⟨j62, hj⟩ := info62
  obtain ⟨s1, s2, s3, s4, s5, s6⟩ := id hs
  obtain ⟨e1, e2, e3, e4, e5, e6⟩ := id he
  go_enter Try.func7, Try.ntmps7
  go_wp2_with fail
  refine (bytesText_any name text _ _ _ _ _ _ _ _ (by unfold maxLen; omega) (by unfold maxLen; omega) _).mono ?_
  rintro e w1 ⟨⟨r, rfl⟩, hw⟩
  obtain rfl : w = w1 := hw.symm
  clear hw
  cases r
  · go_wp2_with fail
    go_ret
    exact ⟨rfl, Below.refl _ _⟩
  go_wp2_with fail
  refine (newParser_any _ _).mono ?_
  rintro e w' ⟨rfl, rfl⟩
  simp only [parserV]
  go_wp2_with fail
  refine (newScan_any _ _).mono ?_
  rintro e w' ⟨rfl, rfl⟩
  simp only [scanV]
  go_wp2_with fail
  refine (textToken_any text sl sc sb el ec eb _).mono ?_
  rintro e w' ⟨rfl, t1, t2, t3, rfl⟩
  go_wp2_with fail
  refine (zzPart_plain (w.heap.size + 1 + 1 + 1) (w.heap.size + 1 + 1 + 1 + 1) text (some ⟨w.heap.size + 1 + 1, 0, none⟩) sl sc sb el ec eb hs he _ (by simp [go_sem]) (by simp [go_sem])).mono ?_
  rintro e w1 ⟨pt, rfl, hpt, hlt, hpart, hbel⟩
  have hpt' : w.heap.size + 1 + 1 + 1 + 1 + 1 + 1 + 1 + 1 ≤ pt := by simpa using hpt
  have c00 : w1.cell? ⟨w.heap.size, 0, none⟩ = some (.int .i64 sl) := by rw [hbel.cell (p := ⟨w.heap.size, 0, none⟩) (by simp <;> omega)]; simp [go_sem]
  have c01 : w1.cell? ⟨w.heap.size, 1, none⟩ = some (.int .i64 sc) := by rw [hbel.cell (p := ⟨w.heap.size, 1, none⟩) (by simp <;> omega)]; simp [go_sem]
  have c02 : w1.cell? ⟨w.heap.size, 2, none⟩ = some (.int .i64 sb) := by rw [hbel.cell (p := ⟨w.heap.size, 2, none⟩) (by simp <;> omega)]; simp [go_sem]
  have c10 : w1.cell? ⟨w.heap.size + 1, 0, none⟩ = some (.int .i64 el) := by rw [hbel.cell (p := ⟨w.heap.size + 1, 0, none⟩) (by simp <;> omega)]; simp [go_sem]
  have c11 : w1.cell? ⟨w.heap.size + 1, 1, none⟩ = some (.int .i64 ec) := by rw [hbel.cell (p := ⟨w.heap.size + 1, 1, none⟩) (by simp <;> omega)]; simp [go_sem]
  have c12 : w1.cell? ⟨w.heap.size + 1, 2, none⟩ = some (.int .i64 eb) := by rw [hbel.cell (p := ⟨w.heap.size + 1, 2, none⟩) (by simp <;> omega)]; simp [go_sem]
  have c20 : w1.cell? ⟨w.heap.size + 1 + 1, 0, none⟩ = some (.string name) := by rw [hbel.cell (p := ⟨w.heap.size + 1 + 1, 0, none⟩) (by simp <;> omega)]; simp [go_sem]
  have c43 : w1.cell? ⟨w.heap.size + 1 + 1 + 1 + 1, 13, none⟩ = some (.slice none 0 0) := by rw [hbel.cell (p := ⟨w.heap.size + 1 + 1 + 1 + 1, 13, none⟩) (by simp <;> omega)]; simp [go_sem]
  have cp : w1.cell? ⟨pt, 0, none⟩ = some (.string text) := hpart 0
  have q0 : w.heap.size < w1.heap.size := by omega
  have r0 : ∀ k : Nat, w.heap.size < w1.heap.size + k := fun k => by omega
  have q1 : w.heap.size + 1 < w1.heap.size := by omega
  have r1 : ∀ k : Nat, w.heap.size + 1 < w1.heap.size + k := fun k => by omega
  have q2 : w.heap.size + 1 + 1 < w1.heap.size := by omega
  have r2 : ∀ k : Nat, w.heap.size + 1 + 1 < w1.heap.size + k := fun k => by omega
  have q4 : w.heap.size + 1 + 1 + 1 + 1 < w1.heap.size := by omega
  have r4 : ∀ k : Nat, w.heap.size + 1 + 1 + 1 + 1 < w1.heap.size + k := fun k => by omega
  have rp : ∀ k : Nat, pt < w1.heap.size + k := fun k => by omega
  have HP : Hid (PartAt w1 pt (partV text (some ⟨w.heap.size + 1 + 1, 0, none⟩) sl sc sb el ec eb)) := hpart
  have HB : Hid (Below w.heap.size w w1) := ((belowOn (belowOn (belowOn (belowOn (belowOn (belowOn (belowOn (belowOn (Below.refl _ _) _) _) _) _) _) _) _) _)).trans (hbel.mono (by simp <;> omega))
  clear hpart hbel hpt 
  go_wp2_with fail
  refine (range_some pt (w.heap.size + 1 + 1) name text sl sc sb el ec eb hs he _ (by simp [go_sem, q2, c20]) (by simp <;> omega) (partAt_alloc HP.out hlt _)).mono ?_
  rintro e w' ⟨rfl, d0, d1, d2, d3, d4, d5, d6, rfl⟩
  simp only [rangeV]
  go_wp2_with fail
  refine (scanTexts_any (w.heap.size + 1 + 1 + 1 + 1) (.slice none 0 0) _ ((((belowOn (belowOn (belowOn (belowOn (belowOn (belowOn (belowOn (belowOn (belowOn (Below.refl w1.heap.size w1) _) _) _) _) _) _) _) _) _).drew).cell (p := ⟨w.heap.size + 1 + 1 + 1 + 1, 13, none⟩) q4).trans c43)).mono ?_
  rintro e w' ⟨rfl, rfl⟩
  go_wp2
  go_ret
  exact ⟨rfl, (belowOn (belowOn (belowOn (belowOn (belowOn (belowOn (belowOn (belowOn (belowOn HB.out _) _) _) _) _) _) _) _) _).drew⟩

set_option maxRecDepth 20000 in
set_option maxHeartbeats 1600000 in
theorem stands_bare_ind (name text : ByteArray) (sl sc sb el ec eb : Int) (hn : name.size ≤ 65536) (ht : text.size ≤ 65536) (hs : Fits sl sc sb) (he : Fits el ec eb) (w : World) :
    Calls Try.prog 7 #[.string name, .bool false, .string text, .int .i64 sl, .int .i64 sc, .int .i64 sb, .int .i64 el, .int .i64 ec, .int .i64 eb, .bool true] w fun e w' => e = .returned (.bool true) ∧ Below w.heap.size w w' := by
  obtain ⟨j62, hj⟩ := info62
  obtain ⟨s1, s2, s3, s4, s5, s6⟩ := id hs
  obtain ⟨e1, e2, e3, e4, e5, e6⟩ := id he
  go_enter Try.func7, Try.ntmps7
  go_wp2_with fail
  refine (bytesText_any name text _ _ _ _ _ _ _ _ (by unfold maxLen; omega) (by unfold maxLen; omega) _).mono ?_
  rintro e w1 ⟨⟨r, rfl⟩, hw⟩
  obtain rfl : w = w1 := hw.symm
  clear hw
  cases r
  · go_wp2_with fail
    go_ret
    exact ⟨rfl, Below.refl _ _⟩
  go_wp2_with fail
  refine (newParser_any _ _).mono ?_
  rintro e w' ⟨rfl, rfl⟩
  simp only [parserV]
  go_wp2_with fail
  refine (newScan_any _ _).mono ?_
  rintro e w' ⟨rfl, rfl⟩
  simp only [scanV]
  go_wp2_with fail
  refine (textToken_any text sl sc sb el ec eb _).mono ?_
  rintro e w' ⟨rfl, t1, t2, t3, rfl⟩
  go_wp2_with fail
  refine (zzPart_ind (w.heap.size + 1 + 1 + 1) (w.heap.size + 1 + 1 + 1 + 1) (w.heap.size + 1 + 1 + 1 + 1 + 1 + 1 + 1 + 1) 0 (.slice none 0 0) [] text none sl sc sb el ec eb hs he _ (by simp [go_sem]) (by simp [go_sem]) (by simp [go_sem]) (by simp [go_sem]) (World.ownsRow_nil _ _ _ _) (by omega) (by simp) (by omega)).mono ?_
  rintro e w1 ⟨pt, g, cap, rfl, hpt, hlt, hpart, hown, hbel⟩
  have hpt' : w.heap.size + 1 + 1 + 1 + 1 + 1 + 1 + 1 + 1 ≤ pt := by simpa using hpt
  have c43 : w1.cell? ⟨w.heap.size + 1 + 1 + 1 + 1, 13, none⟩ = some (.slice (some ⟨g, 0, none⟩) (0 + 1) cap) := by rw [hbel.cell (p := ⟨w.heap.size + 1 + 1 + 1 + 1, 13, none⟩) (by simp <;> omega)]; simp [go_sem]
  have cp : w1.cell? ⟨pt, 0, none⟩ = some (.string text) := hpart 0
  have q4 : w.heap.size + 1 + 1 + 1 + 1 < w1.heap.size := by omega
  have r4 : ∀ k : Nat, w.heap.size + 1 + 1 + 1 + 1 < w1.heap.size + k := fun k => by omega
  have rp : ∀ k : Nat, pt < w1.heap.size + k := fun k => by omega
  have cg : w1.cell? ⟨g, 0, none⟩ = some (.pointer (some ⟨pt, 0, none⟩)) := by rw [World.ownsRow.cellAt hown 0 (by omega)]; rfl
  have hg : g < w1.heap.size := World.block_lt_of_cell? w1 _ cg
  have rg : ∀ k : Nat, g < w1.heap.size + k := fun k => by omega
  have HP : Hid (PartAt w1 pt (partV text none sl sc sb el ec eb)) := hpart
  have HB : Hid (Below w.heap.size w w1) := (((belowOn (belowOn (belowOn (belowOn (belowOn (belowOn (belowOn (belowOn (Below.refl _ _) _) _) _) _) _) _) _) _)).setCell (by simp <;> omega) _).trans (hbel.mono (by omega))
  clear hpart hbel hpt hown
  go_wp2_with fail
  refine (range_nil pt text sl sc sb el ec eb _ (by simp <;> omega) (partAt_alloc HP.out hlt _)).mono ?_
  rintro e w' ⟨rfl, d0, d1, d2, rfl⟩
  simp only [rangeV]
  go_wp2_with fail
  refine (scanTexts_any (w.heap.size + 1 + 1 + 1 + 1) (.slice (some ⟨g, 0, none⟩) (0 + 1) cap) _ ((((belowOn (belowOn (belowOn (belowOn (belowOn (Below.refl w1.heap.size w1) _) _) _) _) _)).cell (p := ⟨w.heap.size + 1 + 1 + 1 + 1, 13, none⟩) q4).trans c43)).mono ?_
  rintro e w' ⟨rfl, rfl⟩
  have heq := fun wx => run_eql_ptr_same (P := Try.prog) wx ⟨pt, 0, none⟩ Try.underlying52 hj
  go_wp2
  go_ret
  exact ⟨rfl, (belowOn (belowOn (belowOn (belowOn (belowOn HB.out _) _) _) _) _)⟩

end Go.Proofs.Qxb6612560a
