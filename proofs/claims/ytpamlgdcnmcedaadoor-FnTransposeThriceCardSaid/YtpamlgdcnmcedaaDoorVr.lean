/-
  A slice of values that a call makes by append: six cells an element; and how it is read as a list.
-/
import Derived.Test.YtpamlgdcnmcedaaDoorSays
import Derived.Test.YtpamlgdcnmcedaaDoorRep
import Derived.Test.YtpamlgdcnmcedaaDoorOpen
import Derived.Deep.AppendLies
namespace Go.Proofs.YtpamlgdcnmcedaaDoor
set_option linter.unusedVariables false
set_option linter.unusedSimpArgs false
open Go.RowKit

/-- Six cells that read as x by blocks that are not the row's. -/
def VCell (w : World) (base : Nat) (v : Value) (x : V) (cs : List Value) : Prop := ∃ lo B, base ≤ lo ∧ B ≤ w.heap.size ∧ (∀ g, v.ownBlock = some g → g < lo ∨ B ≤ g) ∧ RdF w lo B x cs
/-- v is a slice in a row of the call's own, and its elements read as l. -/
def VRow (w : World) (ob fb : Nat) (v : Value) (l : List V) (xs : List Value) : Prop :=
  (w.ownsRow ob 26 6 v l.length xs ∧ fb ≤ ob) ∧ ∀ j x, l[j]? = some x → ∃ cs, VCell w fb v x cs ∧ ∀ u c, cs[u]? = some c → xs[j * 6 + u]? = some c

theorem VRow.nil (w : World) {ob fb : Nat} (h : fb ≤ ob) : VRow w ob fb (.slice none 0 0) [] [] := ⟨⟨World.ownsRow_nil .., h⟩, fun j x h => by simp at h⟩
theorem VCell.far {w w' : World} {base : Nat} {v : Value} {x : V} {cs : List Value} (h : VCell w base v x cs) (hs : ∀ b, base ≤ b → b < w.heap.size → some b ≠ v.ownBlock → w'.heap[b]? = w.heap[b]?) (hz : w.heap.size ≤ w'.heap.size) : VCell w' base v x cs := by
  obtain ⟨lo, B, h1, h2, h3, h4⟩ := h
  refine ⟨lo, B, h1, Nat.le_trans h2 hz, h3, h4.same (fun b hb1 hb2 => hs b (by omega) (by omega) fun e => ?_) (Nat.le_refl _) (Nat.le_refl _)⟩
  have := h3 b e.symm
  omega
theorem VRow.far {w w' : World} {ob fb : Nat} {v : Value} {l : List V} {xs : List Value} (h : VRow w ob fb v l xs) (hs : SameIn fb w.heap.size w w') (hz : w.heap.size ≤ w'.heap.size) : VRow w' ob fb v l xs := by
  refine ⟨⟨?_, h.1.2⟩, fun j x hj => ?_⟩
  · obtain ⟨h1, h2⟩ := h.1.1
    have hf := h.1.2
    refine ⟨h1, ?_⟩
    rcases h2 with h2 | ⟨g, cap, cur, e, hb, hg, hr⟩
    · exact .inl h2
    · have hlt : g < w.heap.size := by
        rcases Nat.lt_or_ge g w.heap.size with h | h
        · exact h
        · rw [Array.getElem?_eq_none h] at hg; cases hg
      exact .inr ⟨g, cap, cur, e, hb, (hs g (by omega) hlt).trans hg, hr⟩
  · obtain ⟨cs, hc, hx⟩ := h.2 j x hj
    exact ⟨cs, hc.far (fun b h1 h2 _ => hs b h1 h2) hz, hx⟩
theorem VCell.grow {w w1 : World} {base g n cap : Nat} {v : Value} {x : V} {cs : List Value} (h : VCell w base v x cs) (hg : w.grownBy w1 v.ownBlock) (hat : v.ownBlock = some g ∨ g = w.heap.size) :
    VCell w1 base (.slice (some ⟨g, 0, none⟩) n cap) x cs := by
  obtain ⟨lo, B, h1, h2, h3, h4⟩ := h
  refine ⟨lo, B, h1, Nat.le_trans h2 hg.size, fun g' e => ?_, h4.same (fun b hb1 hb2 => hg.block b (by omega) (fun e => by have := h3 b e.symm; omega)) (Nat.le_refl _) (Nat.le_refl _)⟩
  have e' : g = g' := by simpa [Value.ownBlock] using e
  subst e'
  rcases hat with hat | hat
  · exact h3 g hat
  · omega
/-- Behind an append of one value. -/
theorem VRow.grow {w w1 : World} {ob fb g cap : Nat} {v : Value} {l : List V} {xs : List Value} {x : V} {cs : List Value} (h : VRow w ob fb v l xs) (hx : VCell w fb v x cs)
    (ho : w1.ownsRow ob 26 6 (.slice (some ⟨g, 0, none⟩) (l.length + 1) cap) (l.length + 1) (xs ++ cs)) (hg : w.grownBy w1 v.ownBlock) (hat : v.ownBlock = some g ∨ g = w.heap.size) :
    VRow w1 ob fb (.slice (some ⟨g, 0, none⟩) (l.length + 1) cap) (l ++ [x]) (xs ++ cs) := by
  have hlen : xs.length = l.length * 6 := h.1.1.1
  refine ⟨⟨by rw [List.length_append]; exact ho, h.1.2⟩, fun j y hj => ?_⟩
  by_cases hjl : j < l.length
  · rw [List.getElem?_append_left hjl] at hj
    obtain ⟨ds, hc, hd⟩ := h.2 j y hj
    refine ⟨ds, hc.grow hg hat, fun u c hu => ?_⟩
    have := hd u c hu
    rw [List.getElem?_append_left (List.getElem?_eq_some_iff.1 this).1]
    exact this
  · rw [List.getElem?_append_right (by omega)] at hj
    have hj0 : j - l.length = 0 := by
      have := (List.getElem?_eq_some_iff.1 hj).1
      simp at this
      omega
    rw [hj0] at hj
    obtain rfl : x = y := by simpa using hj
    refine ⟨cs, hx.grow hg hat, fun u c hu => ?_⟩
    rw [List.getElem?_append_right (by omega), show j * 6 + u - xs.length = u from by rw [hlen, show j = l.length from by omega]; omega]
    exact hu
theorem VRow.read {w : World} {ob fb : Nat} {v : Value} {l : List V} {xs : List Value} (h : VRow w ob fb v l xs) : ∃ A c, v = .slice A l.length c ∧ l.length ≤ c ∧ ∀ w', SameIn fb w.heap.size w w' → RdL w' w.heap.size A 0 l := by
  have hf := h.1.2
  rcases h.1.1.2 with ⟨e, hl⟩ | ⟨g, cap, cur, e, hb, hg, hc, _⟩
  · have hl0 : l = [] := List.eq_nil_of_length_eq_zero hl
    subst hl0
    exact ⟨none, 0, e, Nat.le_refl _, fun w' _ => by rw [RdL]; trivial⟩
  · refine ⟨_, _, e, hc, fun w' hs => RdL.of l 0 fun j x hj => ?_⟩
    have hlt : g < w.heap.size := by
      rcases Nat.lt_or_ge g w.heap.size with h | h
      · exact h
      · rw [Array.getElem?_eq_none h] at hg; cases hg
    obtain ⟨cs, ⟨lo, B, h1, h2, h3, h4⟩, hx⟩ := h.2 j x hj
    refine ⟨_, cs, rfl, hlt, Rd.mono h2 _ _ (h4 w' fun b hb1 hb2 => hs b (by omega) (by omega)), fun u c hu => ?_⟩
    rw [Nat.zero_add]
    have hcell := h.1.1.cells (g := g) (by rw [e]; rfl) (j * 6 + u) c (hx u c hu)
    exact (hs.cell (a := ⟨g, 0, none⟩) (Nat.le_trans hf hb) hlt _).trans hcell
theorem VRow.rdF {w : World} {ob fb : Nat} {v : Value} {l : List V} {xs : List Value} (h : VRow w ob fb v l xs) (hl : l.length ≤ reach) :
    RdF w fb w.heap.size (.mk 5 0 ⟨#[]⟩ l [] []) [.int .i64 5, .int .i64 0, .string ⟨#[]⟩, v, .slice none 0 0, .slice none 0 0] := by
  obtain ⟨A, c, rfl, hc, hr⟩ := h.read
  intro w' hs
  rw [Rd]
  exact ⟨A, c, none, 0, none, 0, rfl, by decide, ⟨hc, hl, hr w' hs⟩, ⟨Nat.le_refl _, by decide, fun i k hk => by simp at hk⟩, ⟨Nat.le_refl _, by decide, by rw [RdL]; trivial⟩⟩
theorem VRow.form {w : World} {ob fb : Nat} {v : Value} {l : List V} {xs : List Value} (h : VRow w ob fb v l xs) : ∃ A c, v = .slice A l.length c := by
  obtain ⟨A, c, e, _⟩ := h.read
  exact ⟨A, c, e⟩

/-- A list that is being made: its six cells lie in block g; the elements so far are in the row rv. -/
def O6 (w : World) (g : Nat) (rv : Value) : Prop := w.heap[g]? = some (.cells #[.int .i64 5, .int .i64 0, .string ⟨#[]⟩, rv, .slice none 0 0, .slice none 0 0] 26 (0, 0))
theorem O6.cells {w : World} {g : Nat} {rv : Value} (h : O6 w g rv) : (w.cell? ⟨g, 0, none⟩ = some (.int .i64 5) ∧ w.cell? ⟨g, 1, none⟩ = some (.int .i64 0) ∧ w.cell? ⟨g, 2, none⟩ = some (.string ⟨#[]⟩) ∧ w.cell? ⟨g, 3, none⟩ = some rv ∧ w.cell? ⟨g, 4, none⟩ = some (.slice none 0 0) ∧ w.cell? ⟨g, 5, none⟩ = some (.slice none 0 0)) ∧ w.frozen? ⟨g, 3, none⟩ = false := by
  unfold O6 at h
  refine ⟨⟨?_, ?_, ?_, ?_, ?_, ?_⟩, ?_⟩ <;> simp [World.cell?, World.frozen?, h]
theorem O6.lt {w : World} {g : Nat} {rv : Value} (h : O6 w g rv) : g < w.heap.size := by
  unfold O6 at h
  rcases Nat.lt_or_ge g w.heap.size with h' | h'
  · exact h'
  · rw [Array.getElem?_eq_none h'] at h; cases h
theorem O6.keep {w w' : World} {g : Nat} {rv : Value} (hb : w'.heap[g]? = w.heap[g]?) (h : O6 w g rv) : O6 w' g rv := hb.trans h
theorem O6.put {w : World} {g : Nat} {rv : Value} (h : O6 w g rv) (v : Value) : O6 (w.setCell ⟨g, 3, none⟩ v) g v := by
  unfold O6 at h ⊢
  simp [World.setCell, Array.getElem?_modify, h]
/-- The loop that makes a list: w0 is the world ahead of it. -/
def LF (w0 : World) (g : Nat) (wr : World) (rv : Value) (l : List V) (xs : List Value) : Prop :=
  w0.grownBy wr (some g) ∧ O6 wr g rv ∧ VRow wr w0.heap.size w0.heap.size rv l xs ∧ g < w0.heap.size
theorem LF.start {w0 : World} {g : Nat} (h : O6 w0 g (.slice none 0 0)) : LF w0 g w0 (.slice none 0 0) [] [] := ⟨⟨rfl, rfl, rfl, Nat.le_refl _, fun _ _ _ => rfl⟩, h, VRow.nil _ (Nat.le_refl _), h.lt⟩
theorem VRow.later {w w' : World} {ob fb : Nat} {v : Value} {l : List V} {xs : List Value} (h : VRow w ob fb v l xs) (hb : Below w.heap.size w w') : VRow w' ob fb v l xs := h.far (SameIn.of_below hb) hb.size
/-- Behind the append: the row, and the cell that is about to be written. -/
theorem LF.mid {w0 wr w2 w3 : World} {g : Nat} {rv : Value} {l : List V} {xs : List Value} (h : LF w0 g wr rv l xs) (hb : Below wr.heap.size wr w2) (hg : w2.grownBy w3 rv.ownBlock) : O6 w3 g rv := by
  obtain ⟨h1, h2, h3, h4⟩ := h
  have hs := h1.size
  have hb1 : O6 w2 g rv := O6.keep (hb.block g (by omega)) h2
  refine O6.keep (hg.block g hb1.lt fun e => ?_) hb1
  have := (h3.1.1.lt g e.symm).1
  omega
theorem LF.step {w0 wr w1 w2 w3 : World} {g g' cap lo B : Nat} {rv : Value} {l : List V} {xs : List Value} {x : V} {cs : List Value} (h : LF w0 g wr rv l xs) (hb1 : Below wr.heap.size wr w1) (hb2 : Below w1.heap.size w1 w2)
    (hx : RdF w1 lo B x cs) (hlo : wr.heap.size ≤ lo) (hB : B ≤ w1.heap.size)
    (ho : w3.ownsRow w0.heap.size 26 6 (.slice (some ⟨g', 0, none⟩) (l.length + 1) cap) (l.length + 1) (xs ++ cs)) (hg : w2.grownBy w3 rv.ownBlock) (hat : rv.ownBlock = some g' ∨ g' = w2.heap.size) :
    LF w0 g (w3.setCell ⟨g, 3, none⟩ (.slice (some ⟨g', 0, none⟩) (l.length + 1) cap)) (.slice (some ⟨g', 0, none⟩) (l.length + 1) cap) (l ++ [x]) (xs ++ cs) := by
  have hb := below_then hb1 hb2
  have hm := LF.mid h hb hg
  obtain ⟨h1, h2, h3, h4⟩ := h
  have hs := h1.size
  have hs1 := hb1.size
  have hs2 := hb2.size
  have hs3 := hg.size
  refine ⟨⟨?_, ?_, ?_, ?_, fun k hk hne => ?_⟩, hm.put _, ?_, h4⟩
  · exact hg.os.trans (hb.os.trans h1.os)
  · exact hg.tape.trans (hb.tape.trans h1.tape)
  · exact hg.output.trans (hb.output.trans h1.output)
  · simp [World.setCell]; omega
  · rw [heap_setCell_other _ _ k _ (fun e => hne (by rw [e])), hg.block k (by omega) (fun e => by have := (h3.1.1.lt k e.symm).1; omega), hb.block k (by omega), h1.block k hk hne]
  · have hr2 := h3.later hb
    have hc : VCell w2 w0.heap.size rv x cs := ⟨lo, B, by omega, by omega, fun g1 e => .inl (by have := (h3.1.1.lt g1 e).2; omega), hx.same (fun b hb1 hb' => hb2.block b (by omega)) (Nat.le_refl _) (Nat.le_refl _)⟩
    have hr3 := hr2.grow hc ho hg hat
    refine hr3.far (fun b hb1 _ => heap_setCell_other _ _ b _ (by show b ≠ g; omega)) (by simp [World.setCell])
theorem infoV : (Tryd.prog.info? 26).map (fun i => (i.zero, i.size, i.bytes)) = some (some (.agg #[.int .i64 0, .int .i64 0, .string ⟨#[]⟩, .slice none 0 0, .slice none 0 0, .slice none 0 0]), 6, 104) := by kernel_rfl
theorem one_six {k h : Int} {t : ByteArray} {A3 A4 A5 : Option Addr} {n3 c3 n4 c4 n5 c5 : Nat} : ∀ u ∈ [Value.int .i64 k, .int .i64 h, .string t, .slice A3 n3 c3, .slice A4 n4 c4, .slice A5 n5 c5], u.oneCell' = true := by
  intro u hu
  simp only [List.mem_cons, List.not_mem_nil, or_false] at hu
  rcases hu with rfl | rfl | rfl | rfl | rfl | rfl <;> rfl

end Go.Proofs.YtpamlgdcnmcedaaDoor
