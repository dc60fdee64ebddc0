/-
  Rows and columns of values: the columns of the columns of the columns are the columns (no program).
-/
import Derived.Test.YtpamlgdcnmcedaaDoorSp
namespace Go.Proofs.YtpamlgdcnmcedaaDoor
set_option linter.unusedVariables false
set_option linter.unusedSimpArgs false
open Go.RowKit

def matV (m : List (List V)) : V := listV (m.map listV)
def width : List (List V) → Nat
  | [] => 0
  | r :: m => max r.length (width m)
/-- The columns. -/
def tr (m : List (List V)) : List (List V) := (List.range (width m)).map fun j => m.map fun r => (r[j]?).getD nilV

theorem tr_length (m : List (List V)) : (tr m).length = width m := by simp [tr]
theorem tr_row {m : List (List V)} {r : List V} (h : r ∈ tr m) : r.length = m.length := by
  obtain ⟨j, _, rfl⟩ := List.mem_map.1 h
  simp
theorem width_all (k : Nat) : ∀ (m : List (List V)), (∀ r ∈ m, r.length = k) → m ≠ [] → width m = k
  | [], _, h => absurd rfl h
  | [r], h, _ => by rw [width, width, h r (List.mem_singleton.2 rfl)]; exact Nat.max_eq_left (Nat.zero_le _)
  | r :: r' :: m, h, _ => by
    rw [width, width_all k (r' :: m) (fun x hx => h x (List.mem_cons_of_mem _ hx)) (by simp), h r (List.mem_cons_self ..)]
    exact Nat.max_self _
theorem tr_tr (A : List (List V)) (k : Nat) (hk : 0 < k) (hA : ∀ r ∈ A, r.length = k) (hne : A ≠ []) : tr (tr A) = A := by
  have hw := width_all k A hA hne
  have hl : (tr A).length = k := by rw [tr_length, hw]
  have hne' : tr A ≠ [] := by intro e; rw [e] at hl; simp at hl; omega
  have hw' : width (tr A) = A.length := width_all A.length (tr A) (fun r hr => tr_row hr) hne'
  apply List.ext_getElem
  · rw [tr_length, hw']
  · intro j h1 h2
    have e : (tr (tr A))[j] = (tr A).map fun r => (r[j]?).getD nilV := by
      have : (tr (tr A))[j]? = some ((tr A).map fun r => (r[j]?).getD nilV) := by
        show ((List.range (width (tr A))).map fun j => (tr A).map fun r => (r[j]?).getD nilV)[j]? = _
        rw [List.getElem?_map, List.getElem?_range (by rw [hw']; exact h2)]
        rfl
      rw [List.getElem?_eq_getElem h1] at this
      exact Option.some.inj this
    rw [e]
    have hAj : (A[j]).length = k := hA _ (List.getElem_mem h2)
    apply List.ext_getElem
    · rw [List.length_map, hl, hAj]
    · intro i h3 h4
      rw [List.getElem_map]
      have hi : i < k := by rw [List.length_map, hl] at h3; exact h3
      have e2 : (tr A)[i]'(by rw [hl]; exact hi) = A.map fun r => (r[i]?).getD nilV := by
        have : (tr A)[i]? = some (A.map fun r => (r[i]?).getD nilV) := by
          show ((List.range (width A)).map fun j => A.map fun r => (r[j]?).getD nilV)[i]? = _
          rw [List.getElem?_map, List.getElem?_range (by rw [hw]; exact hi)]
          rfl
        rw [List.getElem?_eq_getElem (by rw [hl]; exact hi)] at this
        exact Option.some.inj this
      rw [e2, List.getElem?_map, List.getElem?_eq_getElem h2]
      show ((A[j])[i]?).getD nilV = _
      rw [List.getElem?_eq_getElem h4]
      rfl
theorem width_pos {m : List (List V)} (h : 0 < width m) : m ≠ [] := by
  intro e
  rw [e] at h
  exact absurd h (by decide)
theorem tr_thrice (m : List (List V)) : tr (tr (tr m)) = tr m := by
  by_cases h : width m = 0
  · have e : tr m = [] := List.eq_nil_of_length_eq_zero (by rw [tr_length, h])
    rw [e]
    rfl
  · have hm := width_pos (Nat.pos_of_ne_zero h)
    refine tr_tr (tr m) m.length (List.length_pos_iff.2 hm) (fun r hr => tr_row hr) ?_
    intro e
    have := tr_length m
    rw [e] at this
    exact h this.symm
/-- The columns of the columns are as many as the rows. -/
theorem tr_twice_length (m : List (List V)) (h : width m ≠ 0) : (tr (tr m)).length = m.length := by
  rw [tr_length]
  refine width_all m.length (tr m) (fun r hr => tr_row hr) ?_
  intro e
  have := tr_length m
  rw [e] at this
  exact h this.symm
theorem width_le {m : List (List V)} {b : Nat} (h : ∀ r ∈ m, r.length ≤ b) : width m ≤ b := by
  induction m with
  | nil => exact Nat.zero_le _
  | cons r m ih =>
    rw [width]
    exact Nat.max_le.2 ⟨h r (List.mem_cons_self ..), ih fun x hx => h x (List.mem_cons_of_mem _ hx)⟩
theorem row_le_width {m : List (List V)} {r : List V} (h : r ∈ m) : r.length ≤ width m := by
  induction m with
  | nil => cases h
  | cons a m ih =>
    rw [width]
    rcases List.mem_cons.1 h with rfl | h
    · exact Nat.le_max_left ..
    · exact Nat.le_trans (ih h) (Nat.le_max_right ..)
/-- What stands in the columns stood in the rows, or is nothing. -/
theorem tr_mem {m : List (List V)} {r : List V} {x : V} (h : r ∈ tr m) (hx : x ∈ r) : x = nilV ∨ ∃ r' ∈ m, x ∈ r' := by
  obtain ⟨j, _, rfl⟩ := List.mem_map.1 h
  obtain ⟨r', hr', rfl⟩ := List.mem_map.1 hx
  cases e : r'[j]? with
  | none => exact .inl rfl
  | some y => exact .inr ⟨r', hr', by rw [Option.getD_some]; exact List.mem_of_getElem? e⟩

end Go.Proofs.YtpamlgdcnmcedaaDoor
