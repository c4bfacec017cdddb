/-
  THE WALK of textPart.
-/
import Derived.Test.Qxb6612560aTxtSmall
import Derived.Deep.AppendLies
import Derived.Deep.DeepMust
namespace Go.Proofs.Qxb6612560a
open Go.RowKit

/-- A text part's cells. -/
def partV (t : ByteArray) (f : Option Addr) (sl sc sb el ec eb : Int) : Array Value := #[.string t, .pointer f, .int .u32 sb, .int .u32 (sl - 1), .int .u32 (sc - 1), .int .u32 eb, .int .u32 (el - 1), .int .u32 (ec - 1)]

/-- The world behind textPart's first statement: the token's box, spanOf's seven blocks, the part. -/
def laid (w : World) (t : ByteArray) (f : Option Addr) (sl sc sb el ec eb : Int) (c0 c1 c2 c3 c4 c5 c6 c7 : Array Value) : World :=
  (((((((((w.alloc (.cells c0 56)).alloc (.cells c1 40)).alloc (.cells c2 40)).alloc (.cells c3 31)).alloc (.cells c4 40)).alloc (.cells c5 29)).alloc (.cells c6 40)).alloc (.cells c7 29)).alloc (.cells (partV t f sl sc sb el ec eb) 62)).drew.drew

set_option maxHeartbeats 800000 in
/-- textPart of a template that is not indented. -/
theorem part_plain (Pb T : Nat) (t : ByteArray) (f : Option Addr) (sl sc sb el ec eb : Int) (hs : Fits sl sc sb) (he : Fits el ec eb) (w : World) (hP : w.cell? ⟨Pb, 1, none⟩ = some (.pointer f)) (hT : w.cell? ⟨T, 10, none⟩ = some (.bool false)) :
    Calls Try.prog 31 #[.pointer (some ⟨Pb, 0, none⟩), .pointer (some ⟨T, 0, none⟩), .agg (tokV t sl sc sb el ec eb)] w fun e w' =>
      e = .returned (.pointer (some ⟨w.heap.size + 1 + 1 + 1 + 1 + 1 + 1 + 1 + 1, 0, none⟩)) ∧ ∃ c0 c1 c2 c3 c4 c5 c6 c7 : Array Value, w' = laid w t f sl sc sb el ec eb c0 c1 c2 c3 c4 c5 c6 c7 := by
  have hlt : Pb < w.heap.size := World.block_lt_of_cell? w _ hP
  have hlT : T < w.heap.size := World.block_lt_of_cell? w _ hT
  simp only [tokV]
  go_enter Try.func31, Try.ntmps31
  go_wp2
  go_region_held3 (fun w' => w'.cell? ⟨w.heap.size, 1, none⟩ = some (.int .i64 sl) ∧ w'.cell? ⟨w.heap.size, 2, none⟩ = some (.int .i64 sc) ∧ w'.cell? ⟨w.heap.size, 3, none⟩ = some (.int .i64 sb) ∧
      w'.cell? ⟨w.heap.size, 4, none⟩ = some (.int .i64 el) ∧ w'.cell? ⟨w.heap.size, 5, none⟩ = some (.int .i64 ec) ∧ w'.cell? ⟨w.heap.size, 6, none⟩ = some (.int .i64 eb) ∧ w'.cell? ⟨w.heap.size, 7, none⟩ = some (.string t)) (simp [*, go_sem, World.cell?_alloc_past])
    (first | (go_at_call 36; refine (spanOf_any Pb f sl sc sb el ec eb hs he _ (by simp [*, go_sem])).mono ?_; rintro e w' ⟨rfl, c1, c2, c3, c4, c5, c6, c7, rfl⟩; simp only [spanV]))
  have q : ∀ k : Nat, T < w.heap.size + k := fun k => by omega
  go_wp2
  go_ret
  exact ⟨rfl, _, _, _, _, _, _, _, _, rfl⟩

theorem Try.info52 : (Try.prog.info? 52).map (fun i => (i.zero, i.size, i.bytes)) = some (some (.pointer none), 1, 8) := by kernel_rfl

theorem belowOn {w w1 : World} (h : Below w.heap.size w w1) (o : Obj) : Below w.heap.size w (w1.alloc o) := h.alloc h.size o

/-- A store at one place on both sides. -/
theorem below_both {B : Nat} {w w1 : World} (h : Below B w w1) (p : Addr) (u : Value) : Below B (w.setCell p u) (w1.setCell p u) := by
  refine ⟨h.os, h.tape, h.output, by simpa [World.setCell] using h.size, fun k hk => ?_⟩
  have := h.block k hk
  simp only [World.setCell, Array.getElem?_modify, this]

/-- A text part lies in block pt. -/
def PartAt (w : World) (pt : Nat) (cs : Array Value) : Prop := ∀ i : Nat, w.cell? ⟨pt, i, none⟩ = cs[i]?

/-- What is known behind the append, ahead of the store into the scan. -/
theorem ind_facts {w W3 w2 : World} {base n T pt : Nat} {v : Value} {xs : List Value} {cs : Array Value} (hB : Below w.heap.size w W3) (hpt : w.heap.size ≤ pt) (hlt : pt < W3.heap.size) (hpart : PartAt W3 pt cs) (hgrow : W3.grownBy w2 v.ownBlock)
    (hown : w.ownsRow base 52 1 v n xs) (hTb : T < base) (hb : base ≤ w.heap.size) (hv : w.cell? ⟨T, 13, none⟩ = some v) (hfz : w.frozen? ⟨T, 13, none⟩ = false) :
    w2.cell? ⟨T, 13, none⟩ = some v ∧ w2.frozen? ⟨T, 13, none⟩ = false ∧ PartAt w2 pt cs ∧ Below base w w2 ∧ pt < w2.heap.size := by
  have hrow : ∀ k, v.ownBlock = some k → base ≤ k ∧ k < w.heap.size := hown.lt
  have far : ∀ k, k < base → some k ≠ v.ownBlock := fun k hk e => by have := hrow k e.symm; omega
  have hs := hB.size
  refine ⟨?_, ?_, fun i => ?_, ⟨hgrow.os.trans hB.os, hgrow.tape.trans hB.tape, hgrow.output.trans hB.output, Nat.le_trans hs hgrow.size, fun k hk => ?_⟩, Nat.lt_of_lt_of_le hlt hgrow.size⟩
  · rw [hgrow.cell_far ⟨T, 13, none⟩ (by show T < _; omega) (far T hTb), hB.cell (p := ⟨T, 13, none⟩) (by show T < _; omega)]
    exact hv
  · rw [hgrow.frozen_far ⟨T, 13, none⟩ (by show T < _; omega) (far T hTb), hB.frozen (p := ⟨T, 13, none⟩) (by show T < _; omega)]
    exact hfz
  · rw [hgrow.cell_far ⟨pt, i, none⟩ hlt (fun e => by have := hrow pt e.symm; omega)]
    exact hpart i
  · rw [hgrow.block k (by omega) (far k hk), hB.block k (by omega)]

theorem part_store {w : World} {pt T : Nat} {cs : Array Value} (h : PartAt w pt cs) (hne : T ≠ pt) (o : Nat) (u : Value) : PartAt (w.setCell ⟨T, o, none⟩ u) pt cs := fun i => by
  rw [World.cell?_of_block (w := w) (a := ⟨pt, i, none⟩) (Below.heap_setCell w ⟨T, o, none⟩ u pt (Ne.symm hne))]
  exact h i

set_option maxRecDepth 20000 in
set_option maxHeartbeats 1600000 in
/-- textPart of an indented template: the part is appended to the texts. -/
theorem part_ind (Pb T base n : Nat) (v : Value) (xs : List Value) (t : ByteArray) (f : Option Addr) (sl sc sb el ec eb : Int) (hs : Fits sl sc sb) (he : Fits el ec eb) (w : World) (hP : w.cell? ⟨Pb, 1, none⟩ = some (.pointer f)) (hT : w.cell? ⟨T, 10, none⟩ = some (.bool true))
    (hv : w.cell? ⟨T, 13, none⟩ = some v) (hfz : w.frozen? ⟨T, 13, none⟩ = false) (hown : w.ownsRow base 52 1 v n xs) (hTb : T < base) (hb : base ≤ w.heap.size) (hn : n ≤ 65536) :
    Calls Try.prog 31 #[.pointer (some ⟨Pb, 0, none⟩), .pointer (some ⟨T, 0, none⟩), .agg (tokV t sl sc sb el ec eb)] w fun e w' =>
      e = .returned (.pointer (some ⟨w.heap.size + 1 + 1 + 1 + 1 + 1 + 1 + 1 + 1, 0, none⟩)) ∧ ∃ (g cap : Nat),
        w'.ownsRow base 52 1 (.slice (some ⟨g, 0, none⟩) (n + 1) cap) (n + 1) (xs ++ [.pointer (some ⟨w.heap.size + 1 + 1 + 1 + 1 + 1 + 1 + 1 + 1, 0, none⟩)]) ∧
        Below base (w.setCell ⟨T, 13, none⟩ (.slice (some ⟨g, 0, none⟩) (n + 1) cap)) w' ∧ PartAt w' (w.heap.size + 1 + 1 + 1 + 1 + 1 + 1 + 1 + 1) (partV t f sl sc sb el ec eb) ∧ w.heap.size + 1 + 1 + 1 + 1 + 1 + 1 + 1 + 1 < w'.heap.size := by
  have hlt : Pb < w.heap.size := World.block_lt_of_cell? w _ hP
  have hlT : T < w.heap.size := World.block_lt_of_cell? w _ hT
  have HO : Hid (w.ownsRow base 52 1 v n xs) := hown
  clear hown
  obtain ⟨i0, hi, hz0, hz1, hz2⟩ := info_parts Try.info52
  simp only [tokV]
  go_enter Try.func31, Try.ntmps31
  go_wp2
  go_region_held3 (fun w' => w'.cell? ⟨w.heap.size, 1, none⟩ = some (.int .i64 sl) ∧ w'.cell? ⟨w.heap.size, 2, none⟩ = some (.int .i64 sc) ∧ w'.cell? ⟨w.heap.size, 3, none⟩ = some (.int .i64 sb) ∧
      w'.cell? ⟨w.heap.size, 4, none⟩ = some (.int .i64 el) ∧ w'.cell? ⟨w.heap.size, 5, none⟩ = some (.int .i64 ec) ∧ w'.cell? ⟨w.heap.size, 6, none⟩ = some (.int .i64 eb) ∧ w'.cell? ⟨w.heap.size, 7, none⟩ = some (.string t)) (simp [*, go_sem, World.cell?_alloc_past])
    (first | (go_at_call 36; refine (spanOf_any Pb f sl sc sb el ec eb hs he _ (by simp [*, go_sem])).mono ?_; rintro e w' ⟨rfl, c1, c2, c3, c4, c5, c6, c7, rfl⟩; simp only [spanV]))
  have q : ∀ k : Nat, T < w.heap.size + k := fun k => by omega
  go_wp2_with (at_builtin; refine wpList_append_lies _ (by rfl) _ _ 63 (by rfl) base 52 i0 (.pointer none) 1 8 Try.underlying63 hi hz0 hz1 hz2 rfl (by decide) v n xs (by rfl) (((((((((((HO.out.alloc _).alloc _).alloc _).alloc _).alloc _).alloc _).alloc _).alloc _).alloc _).alloc _).drew.drew) ⟨w.heap.size + 1 + 1 + 1 + 1 + 1 + 1 + 1 + 1 + 1, 0, none⟩ 1 1 [.pointer (some ⟨w.heap.size + 1 + 1 + 1 + 1 + 1 + 1 + 1 + 1, 0, none⟩)] (by rfl) rfl ?c1 ?c2 (by omega) ?c3 ?c4 ?c5 _ rfl ?_)
  case c1 =>
    intro j u hj
    match j, hj with
    | 0, hj => simp at hj; subst hj; simp [Addr.add, go_sem]
  case c2 => intro u hu; simp at hu; subst hu; rfl
  case c3 => unfold maxLen; omega
  case c4 => omega
  case c5 => simp; omega
  · intro g cap w2 hown2 hgrow _ _
    have R := ind_facts (pt := w.heap.size + 1 + 1 + 1 + 1 + 1 + 1 + 1 + 1) (cs := partV t f sl sc sb el ec eb) ((belowOn (belowOn (belowOn (belowOn (belowOn (belowOn (belowOn (belowOn (belowOn (belowOn (Below.refl _ _) _) _) _) _) _) _) _) _) _) _).drew.drew) (by omega) (by simp) (fun i => by simp [go_sem, partV]) hgrow HO.out hTb hb hv hfz
    obtain ⟨r1, r2, r3, r4, r5⟩ := R
    have HR3 : Hid _ := r3
    have HR4 : Hid _ := r4
    have HR5 : Hid _ := r5
    have HO2 : Hid _ := hown2
    clear r3 r4 r5 hown2 hgrow hP hT hv hfz
    go_wp2
    go_ret
    exact ⟨rfl, g, cap, ownsRow_setCell_below HO2.out hTb _, below_both HR4.out _ _, part_store HR3.out (by omega) _ _, by simpa [World.setCell] using HR5.out⟩

theorem laid_below (w : World) (t : ByteArray) (f : Option Addr) (sl sc sb el ec eb : Int) (c0 c1 c2 c3 c4 c5 c6 c7 : Array Value) : Below w.heap.size w (laid w t f sl sc sb el ec eb c0 c1 c2 c3 c4 c5 c6 c7) :=
  (belowOn (belowOn (belowOn (belowOn (belowOn (belowOn (belowOn (belowOn (belowOn (Below.refl _ _) _) _) _) _) _) _) _) _) _).drew.drew
theorem laid_part (w : World) (t : ByteArray) (f : Option Addr) (sl sc sb el ec eb : Int) (c0 c1 c2 c3 c4 c5 c6 c7 : Array Value) : PartAt (laid w t f sl sc sb el ec eb c0 c1 c2 c3 c4 c5 c6 c7) (w.heap.size + 1 + 1 + 1 + 1 + 1 + 1 + 1 + 1) (partV t f sl sc sb el ec eb) :=
  fun i => by simp [laid, go_sem]
theorem laid_size (w : World) (t : ByteArray) (f : Option Addr) (sl sc sb el ec eb : Int) (c0 c1 c2 c3 c4 c5 c6 c7 : Array Value) : (laid w t f sl sc sb el ec eb c0 c1 c2 c3 c4 c5 c6 c7).heap.size = w.heap.size + 1 + 1 + 1 + 1 + 1 + 1 + 1 + 1 + 1 := by
  simp [laid]

/-- What textPart leaves of a template that is not indented: the part pt in new memory; all that was there is as it was. -/
def PlainEnd (w w' : World) (e : Ending) (cs : Array Value) : Prop := ∃ pt : Nat, e = .returned (.pointer (some ⟨pt, 0, none⟩)) ∧ w.heap.size ≤ pt ∧ pt < w'.heap.size ∧ PartAt w' pt cs ∧ Below w.heap.size w w'
/-- .. of an indented one: besides, the scan's slice holds one part more. -/
def IndEnd (w w' : World) (e : Ending) (cs : Array Value) (T base n : Nat) (xs : List Value) : Prop := ∃ pt g cap : Nat, e = .returned (.pointer (some ⟨pt, 0, none⟩)) ∧ w.heap.size ≤ pt ∧ pt < w'.heap.size ∧ PartAt w' pt cs ∧
  w'.ownsRow base 52 1 (.slice (some ⟨g, 0, none⟩) (n + 1) cap) (n + 1) (xs ++ [.pointer (some ⟨pt, 0, none⟩)]) ∧ Below base (w.setCell ⟨T, 13, none⟩ (.slice (some ⟨g, 0, none⟩) (n + 1) cap)) w'

theorem plain_end (Pb T : Nat) (t : ByteArray) (f : Option Addr) (sl sc sb el ec eb : Int) (hs : Fits sl sc sb) (he : Fits el ec eb) (w : World) (hP : w.cell? ⟨Pb, 1, none⟩ = some (.pointer f)) (hT : w.cell? ⟨T, 10, none⟩ = some (.bool false)) :
    Calls Try.prog 31 #[.pointer (some ⟨Pb, 0, none⟩), .pointer (some ⟨T, 0, none⟩), .agg (tokV t sl sc sb el ec eb)] w fun e w' => PlainEnd w w' e (partV t f sl sc sb el ec eb) :=
  (part_plain Pb T t f sl sc sb el ec eb hs he w hP hT).mono (by
    rintro e w' ⟨rfl, c0, c1, c2, c3, c4, c5, c6, c7, rfl⟩
    exact ⟨_, rfl, by omega, by rw [laid_size]; omega, laid_part _ _ _ _ _ _ _ _ _ _ _ _ _ _ _ _ _, laid_below _ _ _ _ _ _ _ _ _ _ _ _ _ _ _ _ _⟩)
theorem ind_end (Pb T base n : Nat) (v : Value) (xs : List Value) (t : ByteArray) (f : Option Addr) (sl sc sb el ec eb : Int) (hs : Fits sl sc sb) (he : Fits el ec eb) (w : World) (hP : w.cell? ⟨Pb, 1, none⟩ = some (.pointer f)) (hT : w.cell? ⟨T, 10, none⟩ = some (.bool true))
    (hv : w.cell? ⟨T, 13, none⟩ = some v) (hfz : w.frozen? ⟨T, 13, none⟩ = false) (hown : w.ownsRow base 52 1 v n xs) (hTb : T < base) (hb : base ≤ w.heap.size) (hn : n ≤ 65536) :
    Calls Try.prog 31 #[.pointer (some ⟨Pb, 0, none⟩), .pointer (some ⟨T, 0, none⟩), .agg (tokV t sl sc sb el ec eb)] w fun e w' => IndEnd w w' e (partV t f sl sc sb el ec eb) T base n xs :=
  (part_ind Pb T base n v xs t f sl sc sb el ec eb hs he w hP hT hv hfz hown hTb hb hn).mono (by
    rintro e w' ⟨rfl, g, cap, h1, h2, h3, h4⟩
    exact ⟨_, g, cap, rfl, by omega, h4, h3, h1, h2⟩)

set_option maxHeartbeats 800000 in
/-- ZZtextPart of a template that is not indented. -/
theorem zzPart_plain (Pb T : Nat) (t : ByteArray) (f : Option Addr) (sl sc sb el ec eb : Int) (hs : Fits sl sc sb) (he : Fits el ec eb) (w : World) (hP : w.cell? ⟨Pb, 1, none⟩ = some (.pointer f)) (hT : w.cell? ⟨T, 10, none⟩ = some (.bool false)) :
    Calls Try.prog 23 #[.pointer (some ⟨Pb, 0, none⟩), .pointer (some ⟨T, 0, none⟩), .agg (tokV t sl sc sb el ec eb)] w fun e w' => PlainEnd w w' e (partV t f sl sc sb el ec eb) := by
  have hlt : Pb < w.heap.size := World.block_lt_of_cell? w _ hP
  have hlT : T < w.heap.size := World.block_lt_of_cell? w _ hT
  simp only [tokV]
  go_enter Try.func23, Try.ntmps23
  go_wp2_with fail
  refine (plain_end Pb T t f sl sc sb el ec eb hs he _ (by simp [*, go_sem]) (by simp [*, go_sem])).mono ?_
  rintro e w' ⟨pt, rfl, h1, h2, h3, h4⟩
  have H3 : Hid _ := h3
  have H4 : Hid _ := h4
  clear h3 h4 hP hT
  go_wp2_with fail
  go_ret
  exact ⟨pt, rfl, by simp at h1; omega, h2, H3.out, ((Below.refl _ _).alloc (Nat.le_refl _) _).trans (H4.out.mono (by simp))⟩

set_option maxHeartbeats 800000 in
/-- ZZtextPart of an indented template. -/
theorem zzPart_ind (Pb T base n : Nat) (v : Value) (xs : List Value) (t : ByteArray) (f : Option Addr) (sl sc sb el ec eb : Int) (hs : Fits sl sc sb) (he : Fits el ec eb) (w : World) (hP : w.cell? ⟨Pb, 1, none⟩ = some (.pointer f)) (hT : w.cell? ⟨T, 10, none⟩ = some (.bool true))
    (hv : w.cell? ⟨T, 13, none⟩ = some v) (hfz : w.frozen? ⟨T, 13, none⟩ = false) (hown : w.ownsRow base 52 1 v n xs) (hTb : T < base) (hb : base ≤ w.heap.size) (hn : n ≤ 65536) :
    Calls Try.prog 23 #[.pointer (some ⟨Pb, 0, none⟩), .pointer (some ⟨T, 0, none⟩), .agg (tokV t sl sc sb el ec eb)] w fun e w' => IndEnd w w' e (partV t f sl sc sb el ec eb) T base n xs := by
  have hlt : Pb < w.heap.size := World.block_lt_of_cell? w _ hP
  have hlT : T < w.heap.size := World.block_lt_of_cell? w _ hT
  have HO : Hid _ := hown
  clear hown
  simp only [tokV]
  go_enter Try.func23, Try.ntmps23
  go_wp2_with fail
  refine (ind_end Pb T base n v xs t f sl sc sb el ec eb hs he _ (by simp [*, go_sem]) (by simp [*, go_sem]) (by simp [*, go_sem]) (by simp [*, go_sem]) (World.ownsRow.alloc HO.out _) hTb (by simp; omega) hn).mono ?_
  rintro e w' ⟨pt, g, cap, rfl, h1, h2, h3, h4, h5⟩
  have H3 : Hid _ := h3
  have H4 : Hid _ := h4
  have H5 : Hid _ := h5
  clear h3 h4 h5 hP hT hv hfz
  go_wp2_with fail
  go_ret
  exact ⟨pt, g, cap, rfl, by simp at h1; omega, h2, H3.out, H4.out, (below_both ((Below.refl _ _).alloc hb _) _ _).trans H5.out⟩
end Go.Proofs.Qxb6612560a
