/-
  A block whose cells are a function of the place.
-/
import Derived.Test.YtpamlgdcnmcedaaDoorSp
namespace Go.Proofs.YtpamlgdcnmcedaaDoor
set_option linter.unusedVariables false
set_option linter.unusedSimpArgs false
open Go.RowKit

/-- Block g holds n cells; cell i is f i. -/
def Blk (w : World) (g : Nat) (e : TypeId) (n : Nat) (f : Nat → Value) : Prop := w.heap[g]? = some (.cells ((List.range n).map f).toArray e (0, 0))
theorem Blk.lt {w : World} {g n : Nat} {e : TypeId} {f : Nat → Value} (h : Blk w g e n f) : g < w.heap.size := by
  unfold Blk at h
  rcases Nat.lt_or_ge g w.heap.size with h' | h'
  · exact h'
  · rw [Array.getElem?_eq_none h'] at h; cases h
theorem Blk.cell {w : World} {g n : Nat} {e : TypeId} {f : Nat → Value} (h : Blk w g e n f) (i : Nat) (hi : i < n) : w.cell? ⟨g, i, none⟩ = some (f i) := by
  unfold Blk at h
  simp [World.cell?, h, hi]
theorem Blk.free {w : World} {g n : Nat} {e : TypeId} {f : Nat → Value} (h : Blk w g e n f) (i : Nat) : w.frozen? ⟨g, i, none⟩ = false := by
  unfold Blk at h
  simp [World.frozen?, h]
theorem Blk.keep {w w' : World} {g n : Nat} {e : TypeId} {f : Nat → Value} (h : Blk w g e n f) (hb : w'.heap[g]? = w.heap[g]?) : Blk w' g e n f := hb.trans h
theorem Blk.congr {w : World} {g n : Nat} {e : TypeId} {f f' : Nat → Value} (h : Blk w g e n f) (hf : ∀ i, i < n → f i = f' i) : Blk w g e n f' := by
  have e : (List.range n).map f = (List.range n).map f' := List.map_congr_left fun i hi => hf i (List.mem_range.1 hi)
  unfold Blk at h ⊢
  rw [← e]
  exact h
theorem Blk.made (w : World) (z : Value) (e : TypeId) (n : Nat) : Blk (w.alloc (.cells (madeCells #[z] n) e)) w.heap.size e n (fun _ => z) := by
  have h : madeCells #[z] n = ((List.range n).map fun _ => z).toArray := by
    apply Array.ext
    · simp [madeCells]
    · intro i h1 h2
      simp [madeCells, Nat.mod_one]
  unfold Blk
  rw [← h]
  exact heap_alloc_new w _
theorem Blk.set {w : World} {g n : Nat} {e : TypeId} {f : Nat → Value} (h : Blk w g e n f) (i : Nat) (v : Value) : Blk (w.setCell ⟨g, i, none⟩ v) g e n (fun j => if j = i then v else f j) := by
  have hl : ((List.range n).map f).toArray.setIfInBounds i v = ((List.range n).map fun j => if j = i then v else f j).toArray := by
    rw [List.setIfInBounds_toArray]
    congr 1
    apply List.ext_getElem?
    intro j
    rw [List.getElem?_set]
    by_cases hj : i = j
    · subst hj
      rw [if_pos rfl, List.getElem?_map]
      by_cases hn : i < n
      · rw [if_pos (by simpa using hn), List.getElem?_range hn]
        simp
      · rw [if_neg (by simpa using hn), List.getElem?_eq_none (by simpa using hn)]
        rfl
    · rw [if_neg hj, List.getElem?_map, List.getElem?_map]
      by_cases hn : j < n
      · rw [List.getElem?_range hn]
        simp
        exact fun e => absurd e.symm hj
      · rw [List.getElem?_eq_none (by simpa using hn)]
        rfl
  unfold Blk at h ⊢
  rw [← hl]
  simp [World.setCell, Array.getElem?_modify, h]
theorem Blk.far {w : World} {g b i n : Nat} {e : TypeId} {f : Nat → Value} {v : Value} (h : Blk w g e n f) (hb : b ≠ g) : Blk (w.setCell ⟨b, i, none⟩ v) g e n f := h.keep (heap_setCell_other w _ g v (Ne.symm hb))
theorem Blk.old {w : World} {g n : Nat} {e : TypeId} {f : Nat → Value} (h : Blk w g e n f) (o : Obj) : Blk (w.alloc o) g e n f := h.keep (Below.heap_alloc w o g h.lt)

end Go.Proofs.YtpamlgdcnmcedaaDoor
