/-
  A map's keys and values in two rows of the call's own, side by side: what an append to either does.
-/
import Derived.Test.YtpamlgdcnmcedaaDoorLFrom
import Derived.Test.YtpamlgdcnmcedaaDoorZzs
namespace Go.Proofs.YtpamlgdcnmcedaaDoor
set_option linter.unusedVariables false
set_option linter.unusedSimpArgs false
open Go.RowKit

/-- Six cells that read as x by blocks that are neither row's. -/
def MCell (w : World) (base : Nat) (kv rv : Value) (x : V) (cs : List Value) : Prop :=
  ∃ lo B, base ≤ lo ∧ B ≤ w.heap.size ∧ (∀ g, rv.ownBlock = some g → g < lo ∨ B ≤ g) ∧ (∀ g, kv.ownBlock = some g → g < lo ∨ B ≤ g) ∧ RdF w lo B x cs
/-- The keys so far in kv, the values so far in rv. -/
structure MRow (w : World) (base : Nat) (kv rv : Value) (ks : List ByteArray) (vs : List V) (ys : List Value) : Prop where
  krow : w.ownsRow base 9 1 kv ks.length (ks.map Value.string)
  vrow : w.ownsRow base 26 6 rv vs.length ys
  sep : ∀ g, kv.ownBlock = some g → rv.ownBlock ≠ some g
  cells : ∀ j x, vs[j]? = some x → ∃ cs, MCell w base kv rv x cs ∧ ∀ u c, cs[u]? = some c → ys[j * 6 + u]? = some c

theorem MRow.nil (w : World) (base : Nat) : MRow w base (.slice none 0 0) (.slice none 0 0) [] [] [] := ⟨World.ownsRow_nil .., World.ownsRow_nil .., (fun g e => by cases e), fun j x h => by simp at h⟩
theorem ownsRow_far {w w' : World} {base e size n : Nat} {v : Value} {xs : List Value} (h : w.ownsRow base e size v n xs) (hs : SameIn base w.heap.size w w') : w'.ownsRow base e size v n xs := by
  obtain ⟨h1, h2⟩ := h
  refine ⟨h1, ?_⟩
  rcases h2 with h2 | ⟨g, cap, cur, e, hb, hg, hr⟩
  · exact .inl h2
  · have hlt : g < w.heap.size := by
      rcases Nat.lt_or_ge g w.heap.size with h | h
      · exact h
      · rw [Array.getElem?_eq_none h] at hg; cases hg
    exact .inr ⟨g, cap, cur, e, hb, (hs g hb hlt).trans hg, hr⟩
theorem MRow.far {w w' : World} {base : Nat} {kv rv : Value} {ks : List ByteArray} {vs : List V} {ys : List Value} (h : MRow w base kv rv ks vs ys) (hs : SameIn base w.heap.size w w') (hz : w.heap.size ≤ w'.heap.size) : MRow w' base kv rv ks vs ys :=
  ⟨ownsRow_far h.krow hs, ownsRow_far h.vrow hs, h.sep, fun j x hj => by
    obtain ⟨cs, ⟨lo, B, h1, h2, h3, h4, h5⟩, hc⟩ := h.cells j x hj
    exact ⟨cs, ⟨lo, B, h1, Nat.le_trans h2 hz, h3, h4, h5.same (fun b hb1 hb2 => hs b (by omega) (by omega)) (Nat.le_refl _) (Nat.le_refl _)⟩, hc⟩⟩
theorem MRow.later {w w' : World} {base : Nat} {kv rv : Value} {ks : List ByteArray} {vs : List V} {ys : List Value} (h : MRow w base kv rv ks vs ys) (hb : Below w.heap.size w w') : MRow w' base kv rv ks vs ys := h.far (SameIn.of_below hb) hb.size
/-- Behind an append of one key. -/
theorem MRow.growK {w w1 : World} {base g cap : Nat} {kv rv : Value} {ks : List ByteArray} {vs : List V} {ys : List Value} {k : ByteArray} (h : MRow w base kv rv ks vs ys)
    (ho : w1.ownsRow base 9 1 (.slice (some ⟨g, 0, none⟩) (ks.length + 1) cap) (ks.length + 1) (ks.map Value.string ++ [.string k])) (hg : w.grownBy w1 kv.ownBlock) (hat : kv.ownBlock = some g ∨ g = w.heap.size) :
    MRow w1 base (.slice (some ⟨g, 0, none⟩) (ks.length + 1) cap) rv (ks ++ [k]) vs ys := by
  refine ⟨by rw [List.length_append, List.map_append]; exact ho, ?_, fun g' e => ?_, fun j x hj => ?_⟩
  · refine h.vrow.kept hg ?_
    cases hr : rv.ownBlock with
    | none => exact .inl rfl
    | some r => exact .inr fun e => h.sep r e.symm hr
  · have e' : g = g' := by simpa [Value.ownBlock] using e
    subst e'
    rcases hat with hat | hat
    · exact h.sep g hat
    · intro er
      have := (h.vrow.lt g er).2
      omega
  · obtain ⟨cs, ⟨lo, B, h1, h2, h3, h4, h5⟩, hc⟩ := h.cells j x hj
    refine ⟨cs, ⟨lo, B, h1, Nat.le_trans h2 hg.size, h3, fun g' e => ?_, h5.same (fun b hb1 hb2 => hg.block b (by omega) fun e => by have := h4 b e.symm; omega) (Nat.le_refl _) (Nat.le_refl _)⟩, hc⟩
    have e' : g = g' := by simpa [Value.ownBlock] using e
    subst e'
    rcases hat with hat | hat
    · exact h4 g hat
    · omega
/-- Behind an append of one value. -/
theorem MRow.growV {w w1 : World} {base g cap : Nat} {kv rv : Value} {ks : List ByteArray} {vs : List V} {ys : List Value} {x : V} {cs : List Value} (h : MRow w base kv rv ks vs ys) (hx : MCell w base kv rv x cs)
    (ho : w1.ownsRow base 26 6 (.slice (some ⟨g, 0, none⟩) (vs.length + 1) cap) (vs.length + 1) (ys ++ cs)) (hg : w.grownBy w1 rv.ownBlock) (hat : rv.ownBlock = some g ∨ g = w.heap.size) :
    MRow w1 base kv (.slice (some ⟨g, 0, none⟩) (vs.length + 1) cap) ks (vs ++ [x]) (ys ++ cs) := by
  have hcell : ∀ y ds, MCell w base kv rv y ds → MCell w1 base kv (.slice (some ⟨g, 0, none⟩) (vs.length + 1) cap) y ds := by
    rintro y ds ⟨lo, B, h1, h2, h3, h4, h5⟩
    refine ⟨lo, B, h1, Nat.le_trans h2 hg.size, fun g' e => ?_, h4, h5.same (fun b hb1 hb2 => hg.block b (by omega) fun e => by have := h3 b e.symm; omega) (Nat.le_refl _) (Nat.le_refl _)⟩
    have e' : g = g' := by simpa [Value.ownBlock] using e
    subst e'
    rcases hat with hat | hat
    · exact h3 g hat
    · omega
  have hlen : ys.length = vs.length * 6 := h.vrow.1
  refine ⟨?_, by rw [List.length_append]; exact ho, fun g' e e2 => ?_, fun j y hj => ?_⟩
  · refine h.krow.kept hg ?_
    cases hr : kv.ownBlock with
    | none => exact .inl rfl
    | some r => exact .inr fun e => h.sep r hr e.symm
  · have e' : g = g' := by simpa [Value.ownBlock] using e2
    subst e'
    rcases hat with hat | hat
    · exact h.sep g e hat
    · have := (h.krow.lt g e).2
      omega
  · by_cases hjl : j < vs.length
    · rw [List.getElem?_append_left hjl] at hj
      obtain ⟨ds, hc, hd⟩ := h.cells j y hj
      refine ⟨ds, hcell y ds hc, fun u c hu => ?_⟩
      have := hd u c hu
      rw [List.getElem?_append_left (List.getElem?_eq_some_iff.1 this).1]
      exact this
    · rw [List.getElem?_append_right (by omega)] at hj
      have hj0 : j - vs.length = 0 := by
        have := (List.getElem?_eq_some_iff.1 hj).1
        simp at this
        omega
      rw [hj0] at hj
      obtain rfl : x = y := by simpa using hj
      refine ⟨cs, hcell x cs hx, fun u c hu => ?_⟩
      rw [List.getElem?_append_right (by omega), show j * 6 + u - ys.length = u from by rw [hlen, show j = vs.length from by omega]; omega]
      exact hu
theorem MRow.readV {w : World} {base : Nat} {kv rv : Value} {ks : List ByteArray} {vs : List V} {ys : List Value} (h : MRow w base kv rv ks vs ys) : ∃ A c, rv = .slice A vs.length c ∧ vs.length ≤ c ∧ ∀ w', SameIn base w.heap.size w w' → RdL w' w.heap.size A 0 vs := by
  have hv : VRow w base base rv vs ys := ⟨⟨h.vrow, Nat.le_refl _⟩, fun j x hj => by
    obtain ⟨cs, ⟨lo, B, h1, h2, h3, _, h5⟩, hc⟩ := h.cells j x hj
    exact ⟨cs, ⟨lo, B, h1, h2, h3, h5⟩, hc⟩⟩
  exact hv.read
theorem MRow.readK {w : World} {base : Nat} {kv rv : Value} {ks : List ByteArray} {vs : List V} {ys : List Value} (h : MRow w base kv rv ks vs ys) (hk : ∀ k ∈ ks, k.size ≤ reach) : ∃ A c, kv = .slice A ks.length c ∧ ks.length ≤ c ∧ ∀ w', SameIn base w.heap.size w w' → RdS w' w.heap.size A ks := by
  rcases h.krow.2 with ⟨e, hl⟩ | ⟨g, cap, cur, e, hb, hg, hc, _⟩
  · have hl0 : ks = [] := List.eq_nil_of_length_eq_zero hl
    subst hl0
    exact ⟨none, 0, e, Nat.le_refl _, fun w' _ i k hi => by simp at hi⟩
  · refine ⟨_, _, e, hc, fun w' hs i k hi => ⟨hk k (List.mem_of_getElem? hi), _, rfl, ?_, ?_⟩⟩
    · exact (h.krow.lt g (by rw [e]; rfl)).2
    · have hcell := h.krow.cells (g := g) (by rw [e]; rfl) i (.string k) (by rw [List.getElem?_map, hi]; rfl)
      exact (hs.cell (a := ⟨g, 0, none⟩) hb (h.krow.lt g (by rw [e]; rfl)).2 _).trans hcell
/-- The whole map, read. -/
theorem MRow.rdF {w : World} {base : Nat} {kv rv : Value} {ks : List ByteArray} {vs : List V} {ys : List Value} (h : MRow w base kv rv ks vs ys) (hk : ∀ k ∈ ks, k.size ≤ reach) (h1 : ks.length ≤ reach) (h2 : vs.length ≤ reach) :
    RdF w base w.heap.size (.mk 6 0 ⟨#[]⟩ [] ks vs) [.int .i64 6, .int .i64 0, .string ⟨#[]⟩, .slice none 0 0, kv, rv] := by
  obtain ⟨A, c, rfl, hc, hr⟩ := h.readV
  obtain ⟨A4, c4, rfl, hc4, hr4⟩ := h.readK hk
  intro w' hs
  rw [Rd]
  exact ⟨none, 0, A4, c4, A, c, rfl, by decide, ⟨Nat.le_refl _, by decide, by rw [RdL]; trivial⟩, ⟨hc4, h1, hr4 w' hs⟩, ⟨hc, h2, hr w' hs⟩⟩

end Go.Proofs.YtpamlgdcnmcedaaDoor
