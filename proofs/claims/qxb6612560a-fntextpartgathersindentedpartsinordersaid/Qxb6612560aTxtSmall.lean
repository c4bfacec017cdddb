/-
  THE WALKS of the small functions of the text statements: positions in 32 bits, tokens, the parser and the template's scan.
-/
import Derived.Test.Qxb6612560aProg
import Derived.WalkKit
import Derived.WalkSpells
import Derived.WalkLawsBesides
import Derived.Deep.RegionHeld3
namespace Go.Proofs.Qxb6612560a
open Go.RowKit

/-- A position that fits. -/
structure Fits (l c b : Int) : Prop where
  l1 : 1 ≤ l
  l2 : l ≤ 2147483647
  c1 : 1 ≤ c
  c2 : c ≤ 2147483647
  b1 : 0 ≤ b
  b2 : b ≤ 2147483647

set_option maxHeartbeats 400000 in
/-- compact, at a position whose numbers fit. -/
theorem compact_any (l c b : Int) (h : Fits l c b) (w : World) :
    Calls Try.prog 40 #[.agg #[.int .i64 l, .int .i64 c, .int .i64 b]] w fun e w' => e = .returned (.agg #[.int .u32 b, .int .u32 (l - 1), .int .u32 (c - 1)]) ∧ ∃ c1 c2 : Array Value, w' = (w.alloc (.cells c1 40)).alloc (.cells c2 29) := by
  obtain ⟨h1, h2, h3, h4, h5, h6⟩ := h
  go_enter Try.func40, Try.ntmps40
  go_wp2
  exact bodyPost_ret (v := .agg #[.int .u32 b, .int .u32 (l - 1), .int .u32 (c - 1)]) (by simp [results, Try.results40, go_sem]) rfl ⟨rfl, _, _, rfl⟩

set_option maxHeartbeats 400000 in
/-- expand undoes compact. -/
theorem expand_any (l c b : Int) (h : Fits l c b) (w : World) :
    Calls Try.prog 37 #[.agg #[.int .u32 b, .int .u32 (l - 1), .int .u32 (c - 1)]] w fun e w' => e = .returned (.agg #[.int .i64 l, .int .i64 c, .int .i64 b]) ∧ ∃ c1 c2 : Array Value, w' = (w.alloc (.cells c1 29)).alloc (.cells c2 40) := by
  obtain ⟨h1, h2, h3, h4, h5, h6⟩ := h
  go_enter Try.func37, Try.ntmps37
  go_wp2
  exact bodyPost_ret (v := .agg #[.int .i64 l, .int .i64 c, .int .i64 b]) (by simp [results, Try.results37, go_sem]) rfl ⟨rfl, _, _, rfl⟩

/-- The parser's cells: all zero but the file's name. -/
def parserV (f : Option Addr) : Array Value := #[.slice none 0 0, .pointer f, .int .i64 0, .int .i64 0, .int .i64 0, .int .u8 0, .int .i64 0, .int .i64 0, .int .i64 0, .int .i64 0, .int .i64 0, .int .i64 0, .string ⟨#[]⟩,
  .slice none 0 0, .bool false, .slice none 0 0, .slice none 0 0, .slice none 0 0, .slice none 0 0, .slice none 0 0, .slice none 0 0]
/-- The template scan's cells. -/
def scanV (ind : Bool) (v : Value) : Array Value := #[.int .u8 0, .int .i64 0, .int .i64 0, .int .i64 0, .int .i64 0, .int .i64 0, .int .i64 0, .string ⟨#[]⟩, .string ⟨#[]⟩, .bool false, .bool ind, .bool false, .int .i64 (-1), v, .int .i64 0, .int .i64 0, .int .i64 0]
/-- A text token's cells. -/
def tokV (t : ByteArray) (sl sc sb el ec eb : Int) : Array Value := #[.int .u8 14, .int .i64 sl, .int .i64 sc, .int .i64 sb, .int .i64 el, .int .i64 ec, .int .i64 eb, .string t]
/-- A span's cells. -/
def spanV (f : Option Addr) (sl sc sb el ec eb : Int) : Array Value := #[.pointer f, .int .u32 sb, .int .u32 (sl - 1), .int .u32 (sc - 1), .int .u32 eb, .int .u32 (el - 1), .int .u32 (ec - 1)]

set_option maxHeartbeats 400000 in
theorem newParser_any (f : Option Addr) (w : World) :
    Calls Try.prog 21 #[.pointer f] w fun e w' => e = .returned (.pointer (some ⟨w.heap.size, 0, none⟩)) ∧ w' = w.alloc (.cells (parserV f) 84) := by
  go_enter Try.func21, Try.ntmps21
  go_wp2
  go_ret
  exact ⟨rfl, rfl⟩

set_option maxHeartbeats 400000 in
theorem newScan_any (b : Bool) (w : World) :
    Calls Try.prog 22 #[.bool b] w fun e w' => e = .returned (.pointer (some ⟨w.heap.size, 0, none⟩)) ∧ w' = w.alloc (.cells (scanV b (.slice none 0 0)) 86) := by
  go_enter Try.func22, Try.ntmps22
  go_wp2
  go_ret
  exact ⟨rfl, rfl⟩

set_option maxHeartbeats 400000 in
theorem textToken_any (t : ByteArray) (sl sc sb el ec eb : Int) (w : World) :
    Calls Try.prog 24 #[.string t, .agg #[.int .i64 sl, .int .i64 sc, .int .i64 sb], .agg #[.int .i64 el, .int .i64 ec, .int .i64 eb]] w fun e w' =>
      e = .returned (.agg (tokV t sl sc sb el ec eb)) ∧ ∃ c1 c2 c3 : Array Value, w' = ((w.alloc (.cells c1 40)).alloc (.cells c2 40)).alloc (.cells c3 56) := by
  go_enter Try.func24, Try.ntmps24
  go_wp2
  exact bodyPost_ret (v := .agg (tokV t sl sc sb el ec eb)) (by simp [results, Try.results24, go_sem, tokV]) rfl ⟨rfl, _, _, _, rfl⟩

set_option maxHeartbeats 400000 in
theorem scanTexts_any (T : Nat) (v : Value) (w : World) (h : w.cell? ⟨T, 13, none⟩ = some v) :
    Calls Try.prog 26 #[.pointer (some ⟨T, 0, none⟩)] w fun e w' => e = .returned v ∧ w' = w := by
  go_enter Try.func26, Try.ntmps26
  go_wp2
  go_ret
  exact ⟨rfl, rfl⟩

set_option maxHeartbeats 400000 in
/-- spanOf: seven blocks, one draw. -/
theorem spanOf_any (Pb : Nat) (f : Option Addr) (sl sc sb el ec eb : Int) (hs : Fits sl sc sb) (he : Fits el ec eb) (w : World) (hP : w.cell? ⟨Pb, 1, none⟩ = some (.pointer f)) :
    Calls Try.prog 36 #[.pointer (some ⟨Pb, 0, none⟩), .agg #[.int .i64 sl, .int .i64 sc, .int .i64 sb], .agg #[.int .i64 el, .int .i64 ec, .int .i64 eb]] w fun e w' =>
      e = .returned (.agg (spanV f sl sc sb el ec eb)) ∧ ∃ c1 c2 c3 c4 c5 c6 c7 : Array Value, w' = (((((((w.alloc (.cells c1 40)).alloc (.cells c2 40)).alloc (.cells c3 31)).alloc (.cells c4 40)).alloc (.cells c5 29)).alloc (.cells c6 40)).alloc (.cells c7 29)).drew := by
  have hlt : Pb < w.heap.size := World.block_lt_of_cell? w _ hP
  have p1 : Pb < w.heap.size + 1 := by omega
  have p2 : Pb < w.heap.size + 1 + 1 := by omega
  have p3 : Pb < w.heap.size + 1 + 1 + 1 := by omega
  have p4 : Pb < w.heap.size + 1 + 1 + 1 + 1 := by omega
  have p5 : Pb < w.heap.size + 1 + 1 + 1 + 1 + 1 := by omega
  have p6 : Pb < w.heap.size + 1 + 1 + 1 + 1 + 1 + 1 := by omega
  go_enter Try.func36, Try.ntmps36
  go_wp2
  go_region_held3 (fun w' => w'.cell? ⟨Pb, 1, none⟩ = some (.pointer f) ∧ w'.cell? ⟨w.heap.size, 0, none⟩ = some (.int .i64 sl) ∧ w'.cell? ⟨w.heap.size, 1, none⟩ = some (.int .i64 sc) ∧ w'.cell? ⟨w.heap.size, 2, none⟩ = some (.int .i64 sb) ∧
      w'.cell? ⟨w.heap.size + 1, 0, none⟩ = some (.int .i64 el) ∧ w'.cell? ⟨w.heap.size + 1, 1, none⟩ = some (.int .i64 ec) ∧ w'.cell? ⟨w.heap.size + 1, 2, none⟩ = some (.int .i64 eb)) (simp [*, go_sem, World.cell?_alloc_past])
    (first | (go_at_call_of 40 sl; refine (compact_any sl sc sb hs _).mono ?_; rintro e w' ⟨rfl, c1, c2, rfl⟩) | (go_at_call_of 40 el; refine (compact_any el ec eb he _).mono ?_; rintro e w' ⟨rfl, c3, c4, rfl⟩))
  go_wp2
  exact bodyPost_ret (v := .agg (spanV f sl sc sb el ec eb)) (by simp [results, Try.results36, go_sem, spanV]) rfl ⟨rfl, _, _, _, _, _, _, _, rfl⟩
end Go.Proofs.Qxb6612560a
