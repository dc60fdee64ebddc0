/-
  gojq.funcTranspose at a list of lists: the columns.
-/
import Derived.Test.YtpamlgdcnmcedaaDoorTp
import Derived.Test.YtpamlgdcnmcedaaDoorBlk
namespace Go.Proofs.YtpamlgdcnmcedaaDoor
set_option linter.unusedVariables false
set_option linter.unusedSimpArgs false
open Go.RowKit

theorem width_snoc (r : List V) : ∀ (a : List (List V)), width (a ++ [r]) = max (width a) r.length
  | [] => by simp [width]
  | b :: a => by rw [List.cons_append, width, width, width_snoc r a, Nat.max_assoc]
theorem rdA_nil {w : World} {lo B : Nat} : RdA w lo B nilV .nilIface := by
  unfold nilV
  rw [RdA]
  exact ⟨fun _ => rfl, by simp, by simp, by simp, by simp, by simp, by simp⟩
theorem rdA_list {w : World} {lo B : Nat} {l : List V} {v : Value} (h : RdA w lo B (listV l) v) : ∃ A c, v = .iface 68 (.slice A l.length c) ∧ l.length ≤ c ∧ c ≤ reach ∧ RdAL w lo B A 0 l := by
  unfold listV at h
  rw [RdA] at h
  exact h.2.2.2.2.2.1 rfl
theorem rdA_mk {w : World} {lo B : Nat} {l : List V} {A : Option Addr} {c : Nat} (h1 : l.length ≤ c) (h2 : c ≤ reach) (h3 : RdAL w lo B A 0 l) : RdA w lo B (listV l) (.iface 68 (.slice A l.length c)) := by
  unfold listV
  rw [RdA]
  exact ⟨by simp, by simp, by simp, by simp, by simp, fun _ => ⟨A, c, rfl, h1, h2, h3⟩, by simp⟩

/-- The rows as they lie: row i is a slice sl i, its element j is val i j. -/
structure Rows2 (w : World) (lo B : Nat) (A0 : Option Addr) (m : List (List V)) (sl : Nat → Option Addr × Nat) (val : Nat → Nat → Value) : Prop where
  row : ∀ i r, m[i]? = some r → ∃ ad, A0 = some ad ∧ ad.block < B ∧ w.cell? (ad.add i) = some (.iface 68 (.slice (sl i).1 r.length (sl i).2))
  el : ∀ i r j x, m[i]? = some r → r[j]? = some x → ∃ ad, (sl i).1 = some ad ∧ ad.block < B ∧ w.cell? (ad.add j) = some (val i j)
  rd : ∀ i r j, m[i]? = some r → RdA w lo B ((r[j]?).getD nilV) (val i j)
  none : ∀ i r j, m[i]? = some r → r.length ≤ j → val i j = .nilIface

theorem rows_of {w : World} {lo B : Nat} {A0 : Option Addr} {m : List (List V)} (h : RdAL w lo B A0 0 (m.map listV)) : ∃ sl val, Rows2 w lo B A0 m sl val := by
  have hi : ∀ i : Nat, ∃ p : (Option Addr × Nat) × (Nat → Value), ∀ r, m[i]? = some r →
      (∃ ad, A0 = some ad ∧ ad.block < B ∧ w.cell? (ad.add i) = some (.iface 68 (.slice p.1.1 r.length p.1.2))) ∧
      (∀ j x, r[j]? = some x → ∃ ad, p.1.1 = some ad ∧ ad.block < B ∧ w.cell? (ad.add j) = some (p.2 j)) ∧ (∀ j, RdA w lo B ((r[j]?).getD nilV) (p.2 j)) ∧ (∀ j, r.length ≤ j → p.2 j = .nilIface) := by
    intro i
    cases hm : m[i]? with
    | none => exact ⟨((.none, 0), fun _ => .nilIface), fun r hr => by cases hr⟩
    | some r =>
      obtain ⟨ad, v, e0, h1, h2, hv, hc⟩ := RdAL.get _ 0 h i (listV r) (by rw [List.getElem?_map, hm]; rfl)
      rw [Nat.zero_add] at hc
      obtain ⟨A, c, rfl, h3, h4, hl⟩ := rdA_list hv
      have hj : ∀ j : Nat, ∃ u : Value, (∀ x, r[j]? = some x → (∃ ad, A = some ad ∧ ad.block < B ∧ w.cell? (ad.add j) = some u)) ∧ RdA w lo B ((r[j]?).getD nilV) u ∧ (r.length ≤ j → u = .nilIface) := by
        intro j
        cases hr : r[j]? with
        | none => exact ⟨.nilIface, fun x hx => (by cases hx), rdA_nil, fun _ => rfl⟩
        | some x =>
          obtain ⟨ad', u, e1, _, h6, hu, hc'⟩ := RdAL.get _ 0 hl j x hr
          rw [Nat.zero_add] at hc'
          exact ⟨u, fun y _ => ⟨ad', e1, h6, hc'⟩, hu, fun hle => by rw [List.getElem?_eq_none hle] at hr; cases hr⟩
      obtain ⟨f, hf⟩ := Classical.axiomOfChoice hj
      refine ⟨((A, c), f), fun r' hr' => ?_⟩
      have e : r = r' := by injection hr'
      subst e
      exact ⟨⟨ad, e0, h2, hc⟩, fun j x hx => (hf j).1 x hx, fun j => (hf j).2.1, fun j => (hf j).2.2⟩
  obtain ⟨f, hf⟩ := Classical.axiomOfChoice hi
  exact ⟨fun i => (f i).1, fun i => (f i).2, ⟨fun i r hr => (hf i r hr).1, fun i r j x hr hx => (hf i r hr).2.1 j x hx, fun i r j hr => (hf i r hr).2.2.1 j, fun i r j hr => (hf i r hr).2.2.2 j⟩⟩

theorem tr_get {m : List (List V)} {j : Nat} (h : j < width m) : (tr m)[j]? = some (m.map fun r => (r[j]?).getD nilV) := by
  unfold tr
  rw [List.getElem?_map, List.getElem?_range h]
  rfl

/-- The columns as they are filled: rows below i are done, of row i the first jj. -/
def Cols (w : World) (g0 k l : Nat) (val : Nat → Nat → Value) (i jj : Nat) : Prop :=
  ∀ j, j < l → Blk w (g0 + j) 20 k (fun i' => if i' < i ∨ (i' = i ∧ j < jj) then val i' j else .nilIface)
theorem Cols.step {w : World} {g0 k l i jj : Nat} {val : Nat → Nat → Value} (h : Cols w g0 k l val i jj) (hj : jj < l) : Cols (w.setCell ⟨g0 + jj, i, none⟩ (val i jj)) g0 k l val i (jj + 1) := by
  intro j hjl
  by_cases e : j = jj
  · subst e
    refine ((h j hjl).set i (val i j)).congr fun i' _ => ?_
    by_cases e' : i' = i
    · subst e'; simp
    · simp only [e', if_false, false_and, or_false]
  · refine ((h j hjl).far (by omega)).congr fun i' _ => ?_
    by_cases hc : i' < i ∨ (i' = i ∧ j < jj)
    · rw [if_pos hc, if_pos (by omega)]
    · rw [if_neg hc, if_neg (by omega)]
theorem Cols.next {w : World} {g0 k l i n : Nat} {val : Nat → Nat → Value} (h : Cols w g0 k l val i n) (hn : ∀ j, n ≤ j → val i j = .nilIface) : Cols w g0 k l val (i + 1) 0 := by
  intro j hjl
  refine (h j hjl).congr fun i' _ => ?_
  by_cases hc : i' < i
  · rw [if_pos (.inl hc), if_pos (.inl (by omega))]
  · by_cases e : i' = i
    · subst e
      rw [if_pos (.inl (Nat.lt_succ_self _) : i' < i' + 1 ∨ _)]
      by_cases hj : j < n
      · rw [if_pos (.inr ⟨rfl, hj⟩)]
      · rw [if_neg (by omega), hn j (by omega)]
    · rw [if_neg (by omega), if_neg (by omega)]
theorem Cols.keep {w w' : World} {g0 k l i n : Nat} {val : Nat → Nat → Value} (h : Cols w g0 k l val i n) (hb : ∀ j, j < l → w'.heap[g0 + j]? = w.heap[g0 + j]?) : Cols w' g0 k l val i n := fun j hj => (h j hj).keep (hb j hj)

end Go.Proofs.YtpamlgdcnmcedaaDoor
