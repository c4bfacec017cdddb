/-
  THE WALKS of the two Range methods, and of the bound on lengths of the first text statement.
-/
import Derived.Test.Qxb6612560aTxtPart
namespace Go.Proofs.Qxb6612560a
open Go.RowKit

/-- A range's cells. -/
def rangeV (name : ByteArray) (sl sc sb el ec eb : Int) : Array Value := #[.string name, .int .i64 sl, .int .i64 sc, .int .i64 sb, .int .i64 el, .int .i64 ec, .int .i64 eb]

set_option maxHeartbeats 400000 in
/-- The range of a span that names no place. -/
theorem span_nil (sl sc sb el ec eb : Int) (w : World) :
    Calls Try.prog 32 #[.agg (spanV none sl sc sb el ec eb)] w fun e w' => e = .returned (.agg (rangeV ⟨#[]⟩ 0 0 0 0 0 0)) ∧ ∃ c1 c2 : Array Value, w' = (w.alloc (.cells c1 31)).alloc (.cells c2 59) := by
  simp only [spanV]
  go_enter Try.func32, Try.ntmps32
  go_wp2
  exact bodyPost_ret (v := .agg (rangeV ⟨#[]⟩ 0 0 0 0 0 0)) (by simp [results, Try.results32, go_sem, rangeV]) rfl ⟨rfl, _, _, rfl⟩

set_option maxHeartbeats 400000 in
/-- The range of a span that names a place. -/
theorem span_some (F : Nat) (name : ByteArray) (sl sc sb el ec eb : Int) (hs : Fits sl sc sb) (he : Fits el ec eb) (w : World) (hF : w.cell? ⟨F, 0, none⟩ = some (.string name)) :
    Calls Try.prog 32 #[.agg (spanV (some ⟨F, 0, none⟩) sl sc sb el ec eb)] w fun e w' => e = .returned (.agg (rangeV name sl sc sb el ec eb)) ∧
      ∃ c1 c2 c3 c4 c5 c6 : Array Value, w' = ((((((w.alloc (.cells c1 31)).alloc (.cells c2 59)).alloc (.cells c3 29)).alloc (.cells c4 40)).alloc (.cells c5 29)).alloc (.cells c6 40)).drew := by
  have hlt : F < w.heap.size := World.block_lt_of_cell? w _ hF
  have q : ∀ k : Nat, F < w.heap.size + k := fun k => by omega
  simp only [spanV]
  go_enter Try.func32, Try.ntmps32
  go_wp2
  go_region_held3 (fun w' => w'.cell? ⟨F, 0, none⟩ = some (.string name) ∧ w'.cell? ⟨w.heap.size, 0, none⟩ = some (.pointer (some ⟨F, 0, none⟩)) ∧ w'.cell? ⟨w.heap.size, 1, none⟩ = some (.int .u32 sb) ∧ w'.cell? ⟨w.heap.size, 2, none⟩ = some (.int .u32 (sl - 1)) ∧ w'.cell? ⟨w.heap.size, 3, none⟩ = some (.int .u32 (sc - 1)) ∧
      w'.cell? ⟨w.heap.size, 4, none⟩ = some (.int .u32 eb) ∧ w'.cell? ⟨w.heap.size, 5, none⟩ = some (.int .u32 (el - 1)) ∧ w'.cell? ⟨w.heap.size, 6, none⟩ = some (.int .u32 (ec - 1))) (simp [*, go_sem, World.cell?_alloc_past])
    (first | (go_at_call_of 37 sl; refine (expand_any sl sc sb hs _).mono ?_; rintro e w' ⟨rfl, c1, c2, rfl⟩) | (go_at_call_of 37 el; refine (expand_any el ec eb he _).mono ?_; rintro e w' ⟨rfl, c3, c4, rfl⟩))
  go_wp2
  exact bodyPost_ret (v := .agg (rangeV name sl sc sb el ec eb)) (by simp [results, Try.results32, go_sem, rangeV]) rfl ⟨rfl, _, _, _, _, _, _, rfl⟩

set_option maxHeartbeats 400000 in
/-- The range of a text part without a place. -/
theorem range_nil (pt : Nat) (t : ByteArray) (sl sc sb el ec eb : Int) (w : World) (hlt : pt < w.heap.size) (hp : PartAt w pt (partV t none sl sc sb el ec eb)) :
    Calls Try.prog 25 #[.pointer (some ⟨pt, 0, none⟩)] w fun e w' => e = .returned (.agg (rangeV ⟨#[]⟩ 0 0 0 0 0 0)) ∧ ∃ c1 c2 c3 : Array Value, w' = ((w.alloc (.cells c1 59)).alloc (.cells c2 31)).alloc (.cells c3 59) := by
  have q : ∀ k : Nat, pt < w.heap.size + k := fun k => by omega
  have h1 : w.cell? ⟨pt, 1, none⟩ = some (.pointer none) := hp 1
  have h2 : w.cell? ⟨pt, 2, none⟩ = some (.int .u32 sb) := hp 2
  have h3 : w.cell? ⟨pt, 3, none⟩ = some (.int .u32 (sl - 1)) := hp 3
  have h4 : w.cell? ⟨pt, 4, none⟩ = some (.int .u32 (sc - 1)) := hp 4
  have h5 : w.cell? ⟨pt, 5, none⟩ = some (.int .u32 eb) := hp 5
  have h6 : w.cell? ⟨pt, 6, none⟩ = some (.int .u32 (el - 1)) := hp 6
  have h7 : w.cell? ⟨pt, 7, none⟩ = some (.int .u32 (ec - 1)) := hp 7
  clear hp
  go_enter Try.func25, Try.ntmps25
  go_wp2_with fail
  refine (span_nil sl sc sb el ec eb _).mono ?_
  rintro e w' ⟨rfl, c1, c2, rfl⟩
  simp only [rangeV]
  clear h1 h2 h3 h4 h5 h6 h7
  go_wp2_with fail
  exact bodyPost_ret (v := .agg (rangeV ⟨#[]⟩ 0 0 0 0 0 0)) (by simp [results, Try.results25, go_sem, rangeV]) rfl ⟨rfl, _, _, _, rfl⟩

set_option maxHeartbeats 400000 in
/-- The range of a text part. -/
theorem range_some (pt F : Nat) (name t : ByteArray) (sl sc sb el ec eb : Int) (hs : Fits sl sc sb) (he : Fits el ec eb) (w : World) (hF : w.cell? ⟨F, 0, none⟩ = some (.string name)) (hlt : pt < w.heap.size) (hp : PartAt w pt (partV t (some ⟨F, 0, none⟩) sl sc sb el ec eb)) :
    Calls Try.prog 25 #[.pointer (some ⟨pt, 0, none⟩)] w fun e w' => e = .returned (.agg (rangeV name sl sc sb el ec eb)) ∧
      ∃ c0 c1 c2 c3 c4 c5 c6 : Array Value, w' = (((((((w.alloc (.cells c0 59)).alloc (.cells c1 31)).alloc (.cells c2 59)).alloc (.cells c3 29)).alloc (.cells c4 40)).alloc (.cells c5 29)).alloc (.cells c6 40)).drew := by
  have hltF : F < w.heap.size := World.block_lt_of_cell? w _ hF
  have q : ∀ k : Nat, pt < w.heap.size + k := fun k => by omega
  have h1 : w.cell? ⟨pt, 1, none⟩ = some (.pointer (some ⟨F, 0, none⟩)) := hp 1
  have h2 : w.cell? ⟨pt, 2, none⟩ = some (.int .u32 sb) := hp 2
  have h3 : w.cell? ⟨pt, 3, none⟩ = some (.int .u32 (sl - 1)) := hp 3
  have h4 : w.cell? ⟨pt, 4, none⟩ = some (.int .u32 (sc - 1)) := hp 4
  have h5 : w.cell? ⟨pt, 5, none⟩ = some (.int .u32 eb) := hp 5
  have h6 : w.cell? ⟨pt, 6, none⟩ = some (.int .u32 (el - 1)) := hp 6
  have h7 : w.cell? ⟨pt, 7, none⟩ = some (.int .u32 (ec - 1)) := hp 7
  clear hp
  go_enter Try.func25, Try.ntmps25
  go_wp2_with fail
  refine (span_some F name sl sc sb el ec eb hs he _ (by simp [go_sem, hltF, hF])).mono ?_
  rintro e w' ⟨rfl, c1, c2, c3, c4, c5, c6, rfl⟩
  simp only [rangeV]
  clear h1 h2 h3 h4 h5 h6 h7
  go_wp2_with fail
  exact bodyPost_ret (v := .agg (rangeV name sl sc sb el ec eb)) (by simp [results, Try.results25, go_sem, rangeV]) rfl ⟨rfl, _, _, _, _, _, _, _, rfl⟩

set_option maxHeartbeats 800000 in
theorem bytesText_any (n t : ByteArray) (b1 b2 : Bool) (a1 a2 a3 a4 a5 a6 : Int) (hn : n.size ≤ maxLen) (ht : t.size ≤ maxLen) (w : World) :
    Calls Try.prog 20 #[.string n, .bool b1, .string t, .int .i64 a1, .int .i64 a2, .int .i64 a3, .int .i64 a4, .int .i64 a5, .int .i64 a6, .bool b2] w fun e w' => (∃ r : Bool, Hid (e = .returned (.bool r))) ∧ w' = w := by
  unfold maxLen at hn ht
  go_enter Try.func20, Try.ntmps20
  go_wp2
  all_goals (go_ret; exact ⟨⟨_, rfl⟩, rfl⟩)
end Go.Proofs.Qxb6612560a
