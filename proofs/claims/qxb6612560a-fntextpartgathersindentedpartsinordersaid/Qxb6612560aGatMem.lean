/-
  THE WALK of FnTextPartGathersIndentedPartsInOrder: an indented template.
-/
import Derived.Test.Qxb6612560aGatPlain
import Derived.Lib.Builder
namespace Go.Proofs.Qxb6612560a
open Go.RowKit

/-- The parts made so far, as the slices hold them. -/
def ptrs (p : Nat → Nat) (j : Nat) : List Value := (List.range j).map fun i => .pointer (some ⟨p i, 0, none⟩)
/-- What the row of made parts holds behind j rounds. -/
def madeAt (p : Nat → Nat) (j : Nat) (i : Nat) : Value := if i < j then .pointer (some ⟨p i, 0, none⟩) else .pointer none

/-- What holds of the memory behind j rounds of the gathering loop. -/
structure Gath (w wr : World) (k j : Nat) (v : Value) (p : Nat → Nat) : Prop where
  old : Below (w.heap.size + 1 + 1) (setup w true k) wr
  pos : wr.heap[w.heap.size + 1 + 1 + 1]? = (setup w true k).heap[w.heap.size + 1 + 1 + 1]?
  t10 : wr.cell? ⟨w.heap.size + 1 + 1, 10, none⟩ = some (.bool true)
  t13 : wr.cell? ⟨w.heap.size + 1 + 1, 13, none⟩ = some v
  tf : wr.frozen? ⟨w.heap.size + 1 + 1, 13, none⟩ = false
  row : wr.rowIs (w.heap.size + 1 + 1 + 1 + 1) 52 k (madeAt p j)
  own : wr.ownsRow (w.heap.size + 1 + 1 + 1 + 1 + 1) 52 1 v j (ptrs p j)

theorem gath_start (w : World) (k : Nat) (p : Nat → Nat) : Gath w (setup w true k) k 0 (.slice none 0 0) p := by
  obtain ⟨_, c2, c3, c4, _, _, _⟩ := setup_cells w true k
  exact ⟨Below.refl _ _, rfl, c2, c3, c4, (setup_row w true k).congr (fun i _ => by simp [madeAt]), World.ownsRow_nil _ _ _ _⟩

/-- Between the call and the store: of the blocks ahead of the loop the scan's alone has turned. -/
theorem gath_mid {w wr W1 w1 : World} {v' : Value} (hW : Below wr.heap.size wr W1) (hbel : Below (w.heap.size + 1 + 1 + 1 + 1 + 1) (W1.setCell ⟨w.heap.size + 1 + 1, 13, none⟩ v') w1) (hsz : w.heap.size + 1 + 1 + 1 + 1 < wr.heap.size) :
    ∀ n, n < w.heap.size + 1 + 1 + 1 + 1 + 1 → n ≠ w.heap.size + 1 + 1 → w1.heap[n]? = wr.heap[n]? := fun n hn hne => by
  rw [hbel.block n hn, Below.heap_setCell W1 _ v' n hne, hW.block n (by omega)]

theorem gath_step {w wr W1 w1 : World} {k j pt g cap : Nat} {v : Value} {p : Nat → Nat} (h : Gath w wr k j v p) (hW : Below wr.heap.size wr W1)
    (hown : w1.ownsRow (w.heap.size + 1 + 1 + 1 + 1 + 1) 52 1 (.slice (some ⟨g, 0, none⟩) (j + 1) cap) (j + 1) (ptrs p j ++ [.pointer (some ⟨pt, 0, none⟩)])) (hbel : Below (w.heap.size + 1 + 1 + 1 + 1 + 1) (W1.setCell ⟨w.heap.size + 1 + 1, 13, none⟩ (.slice (some ⟨g, 0, none⟩) (j + 1) cap)) w1) :
    Gath w (w1.setCell ⟨w.heap.size + 1 + 1 + 1 + 1, j, none⟩ (.pointer (some ⟨pt, 0, none⟩))) k (j + 1) (.slice (some ⟨g, 0, none⟩) (j + 1) cap) (fun i => if i = j then pt else p i) := by
  have hsz := h.row.lt
  have mid := gath_mid hW hbel hsz
  have hWs := hW.size
  have store : ∀ n, n ≠ w.heap.size + 1 + 1 + 1 + 1 → (w1.setCell ⟨w.heap.size + 1 + 1 + 1 + 1, j, none⟩ (.pointer (some ⟨pt, 0, none⟩))).heap[n]? = w1.heap[n]? := fun n hn => Below.heap_setCell w1 _ _ n hn
  have cellT : ∀ o, w1.cell? ⟨w.heap.size + 1 + 1, o, none⟩ = (W1.setCell ⟨w.heap.size + 1 + 1, 13, none⟩ (.slice (some ⟨g, 0, none⟩) (j + 1) cap)).cell? ⟨w.heap.size + 1 + 1, o, none⟩ := fun o => hbel.cell (p := ⟨w.heap.size + 1 + 1, o, none⟩) (by show w.heap.size + 1 + 1 < _; omega)
  have cellW : ∀ o, W1.cell? ⟨w.heap.size + 1 + 1, o, none⟩ = wr.cell? ⟨w.heap.size + 1 + 1, o, none⟩ := fun o => hW.cell (p := ⟨w.heap.size + 1 + 1, o, none⟩) (by show w.heap.size + 1 + 1 < _; omega)
  refine ⟨?_, ?_, ?_, ?_, ?_, ?_, ?_⟩
  · refine Below.setCell ?_ (by show w.heap.size + 1 + 1 ≤ w.heap.size + 1 + 1 + 1 + 1; omega) _
    refine h.old.trans ?_
    exact ((hW.mono (by omega)).setCell (by show w.heap.size + 1 + 1 ≤ w.heap.size + 1 + 1; omega) _).trans (hbel.mono (by omega))
  · rw [store _ (by omega), mid _ (by omega) (by omega)]
    exact h.pos
  · rw [World.cell?_of_block (w := w1) (a := ⟨w.heap.size + 1 + 1, 10, none⟩) (store (w.heap.size + 1 + 1) (by omega)), cellT 10, World.cell?_setCell_other W1 ⟨w.heap.size + 1 + 1, 13, none⟩ ⟨w.heap.size + 1 + 1, 10, none⟩ _ (by simp), cellW 10]
    exact h.t10
  · rw [World.cell?_of_block (w := w1) (a := ⟨w.heap.size + 1 + 1, 13, none⟩) (store (w.heap.size + 1 + 1) (by omega)), cellT 13]
    exact World.cell?_setCell_same W1 ⟨w.heap.size + 1 + 1, 13, none⟩ _ (u := v) (by rw [cellW 13]; exact h.t13)
  · rw [World.frozen?_of_block (w := w1) (a := ⟨w.heap.size + 1 + 1, 13, none⟩) (store (w.heap.size + 1 + 1) (by omega)), hbel.frozen (p := ⟨w.heap.size + 1 + 1, 13, none⟩) (by show w.heap.size + 1 + 1 < _; omega), World.frozen?_setCell, hW.frozen (p := ⟨w.heap.size + 1 + 1, 13, none⟩) (by show w.heap.size + 1 + 1 < _; omega)]
    exact h.tf
  · refine ((h.row.of_block (mid _ (by omega) (by omega))).set j (.pointer (some ⟨pt, 0, none⟩))).congr fun i _ => ?_
    unfold madeAt
    by_cases e : i = j
    · subst e; simp
    · simp only [if_neg e]
      by_cases hl : i < j
      · rw [if_pos hl, if_pos (by omega)]
      · rw [if_neg hl, if_neg (by omega)]
  · have e : ptrs (fun i => if i = j then pt else p i) (j + 1) = ptrs p j ++ [.pointer (some ⟨pt, 0, none⟩)] := by
      unfold ptrs
      rw [List.range_succ, List.map_append]
      congr 1
      · apply List.map_congr_left
        intro i hi
        have : i < j := List.mem_range.1 hi
        simp only [if_neg (show ¬ i = j by omega)]
      · simp
    rw [e]
    exact ownsRow_setCell_below hown (by show w.heap.size + 1 + 1 + 1 + 1 < w.heap.size + 1 + 1 + 1 + 1 + 1; omega) _

theorem ptrs_get (p : Nat → Nat) (k j : Nat) (h : j < k) : (ptrs p k)[j]? = some (.pointer (some ⟨p j, 0, none⟩)) := by
  simp [ptrs, h]
end Go.Proofs.Qxb6612560a
