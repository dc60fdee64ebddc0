/-
  What spec.Fit asks of a value, as plain Lean: the shape, the numbers, the texts, the keys in order, and how many parts and bytes it has.
-/
import Derived.Test.YtpamlgdcnmcedaaGreatDoorV
import Derived.Lib.ValidU
namespace Go.Proofs.YtpamlgdcnmcedaaGreatDoor
set_option linter.unusedVariables false
set_option linter.unusedSimpArgs false
open Go.RowKit

mutual
def V.cnt : V → Nat
  | .mk _ _ _ l _ vs => 1 + V.cntL l + V.cntL vs
def V.cntL : List V → Nat
  | [] => 0
  | x :: xs => V.cnt x + V.cntL xs
end
def V.nbS (ks : List ByteArray) : Nat := (ks.map ByteArray.size).sum
mutual
def V.nb : V → Nat
  | .mk _ _ t l ks vs => t.size + V.nbL l + V.nbS ks + V.nbL vs
def V.nbL : List V → Nat
  | [] => 0
  | x :: xs => V.nb x + V.nbL xs
end
/-- The shape of a value: what is there besides its kind. -/
def okA (k h : Int) (t : ByteArray) (l : List V) (ks : List ByteArray) (vs : List V) : Prop :=
  0 ≤ k ∧ k ≤ 6 ∧ (k = 3 ∨ h = 0) ∧ (k = 4 ∨ t.size = 0) ∧ (k = 5 ∨ l.length = 0) ∧ (k = 6 ∨ ks.length = 0) ∧ ks.length = vs.length
/-- The numbers: integers up to 2^53, halves below 2^52. -/
def okB (h : Int) : Prop := -18014398509481984 ≤ h ∧ h ≤ 18014398509481984 ∧ (h.tmod 2 = 0 ∨ (-9007199254740992 < h ∧ h < 9007199254740992))
/-- The order of strings is the one of their bytes. -/
def sLess (a b : ByteArray) : Bool := Op.bytesLess a.data.toList b.data.toList
/-- Keys rise. -/
def rises (ks : List ByteArray) : Prop := ∀ i a b, ks[i]? = some a → ks[i + 1]? = some b → sLess a b = true
def validS (ks : List ByteArray) : Prop := ∀ k ∈ ks, Lib.validD k.data.toList = true
mutual
def V.good : V → Prop
  | .mk k h t l ks vs => okA k h t l ks vs ∧ okB h ∧ Lib.validD t.data.toList = true ∧ V.goodL l ∧ validS ks ∧ rises ks ∧ V.goodL vs
def V.goodL : List V → Prop
  | [] => True
  | x :: xs => V.good x ∧ V.goodL xs
end

theorem V.cntL_append (a b : List V) : V.cntL (a ++ b) = V.cntL a + V.cntL b := by
  induction a with
  | nil => simp [V.cntL]
  | cons x a ih => simp [V.cntL, ih]; omega
theorem V.nbL_append (a b : List V) : V.nbL (a ++ b) = V.nbL a + V.nbL b := by
  induction a with
  | nil => simp [V.nbL]
  | cons x a ih => simp [V.nbL, ih]; omega
theorem V.goodL_append (a b : List V) : V.goodL (a ++ b) ↔ V.goodL a ∧ V.goodL b := by
  induction a with
  | nil => simp [V.goodL]
  | cons x a ih => simp [V.goodL, ih, and_assoc]
theorem take_snoc {α : Type} {l : List α} {k : Nat} {x : α} (h : l[k]? = some x) : l.take (k + 1) = l.take k ++ [x] := by
  obtain ⟨hk, rfl⟩ := List.getElem?_eq_some_iff.1 h
  exact (List.take_append_getElem hk).symm ▸ rfl
theorem V.cntL_snoc {l : List V} {k : Nat} {x : V} (h : l[k]? = some x) : V.cntL (l.take (k + 1)) = V.cntL (l.take k) + V.cnt x := by
  rw [take_snoc h, V.cntL_append]; simp [V.cntL]
theorem V.nbL_snoc {l : List V} {k : Nat} {x : V} (h : l[k]? = some x) : V.nbL (l.take (k + 1)) = V.nbL (l.take k) + V.nb x := by
  rw [take_snoc h, V.nbL_append]; simp [V.nbL]
theorem V.goodL_snoc {l : List V} {k : Nat} {x : V} (h : l[k]? = some x) : V.goodL (l.take (k + 1)) ↔ V.goodL (l.take k) ∧ V.good x := by
  rw [take_snoc h, V.goodL_append]; simp [V.goodL]
theorem V.nbS_snoc {l : List ByteArray} {k : Nat} {x : ByteArray} (h : l[k]? = some x) : V.nbS (l.take (k + 1)) = V.nbS (l.take k) + x.size := by
  unfold V.nbS; rw [take_snoc h]; simp
theorem validS_snoc {l : List ByteArray} {k : Nat} {x : ByteArray} (h : l[k]? = some x) : validS (l.take (k + 1)) ↔ validS (l.take k) ∧ Lib.validD x.data.toList = true := by
  unfold validS; rw [take_snoc h]; simp [or_imp, forall_and]
/-- Keys that rise, and one more. -/
theorem rises_snoc {l : List ByteArray} {k : Nat} (hr : rises (l.take k)) (hl : ∀ a b, 0 < k → l[k - 1]? = some a → l[k]? = some b → sLess a b = true) : rises (l.take (k + 1)) := by
  intro i a b ha hb
  rw [List.getElem?_take] at ha hb
  by_cases h1 : i + 1 < k + 1
  · rw [if_pos h1] at hb
    rw [if_pos (by omega)] at ha
    by_cases hk : i + 1 = k
    · exact hl a b (by omega) (by rw [show k - 1 = i from by omega]; exact ha) (by rw [← hk]; exact hb)
    · exact hr i a b (by rw [List.getElem?_take, if_pos (by omega)]; exact ha) (by rw [List.getElem?_take, if_pos (by omega)]; exact hb)
  · rw [if_neg h1] at hb
    cases hb
theorem V.cnt_le_get : ∀ {l : List V} {i : Nat} {x : V}, l[i]? = some x → V.cnt x ≤ V.cntL l
  | [], i, x, h => by simp at h
  | y :: ys, 0, x, h => by
    have e : y = x := by simpa using h
    rw [V.cntL, e]; omega
  | y :: ys, i + 1, x, h => by
    have := V.cnt_le_get (l := ys) (i := i) (x := x) (by simpa using h)
    rw [V.cntL]; omega
theorem V.cnt_pos (x : V) : 1 ≤ V.cnt x := by cases x; rw [V.cnt]; omega
theorem V.length_le_cntL (l : List V) : l.length ≤ V.cntL l := by
  induction l with
  | nil => simp [V.cntL]
  | cons x l ih => have := V.cnt_pos x; simp [V.cntL]; omega
theorem V.goodL_get : ∀ {l : List V} {i : Nat} {x : V}, V.goodL l → l[i]? = some x → V.good x
  | [], i, x, _, h => by simp at h
  | y :: ys, 0, x, hg, h => by
    rw [V.goodL] at hg
    have e : y = x := by simpa using h
    exact e ▸ hg.1
  | y :: ys, i + 1, x, hg, h => by rw [V.goodL] at hg; exact V.goodL_get hg.2 (by simpa using h)

end Go.Proofs.YtpamlgdcnmcedaaGreatDoor
