/-
  Keys that rise, and the datum of a map that was filled in their order: plain Lean.
-/
import Derived.Test.YtpamlgdcnmcedaaGreatDoorAny
namespace Go.Proofs.YtpamlgdcnmcedaaGreatDoor
set_option linter.unusedVariables false
set_option linter.unusedSimpArgs false
open Go.RowKit

theorem less_before : ∀ (a b : List UInt8), Op.bytesLess a b = bytesBefore a b
  | [], [] => rfl
  | _ :: _, [] => rfl
  | [], _ :: _ => rfl
  | a :: x, b :: y => by rw [Op.bytesLess, bytesBefore, less_before x y]
theorem sLess_trans {a b c : ByteArray} (h : sLess a b = true) (k : sLess b c = true) : sLess a c = true := by
  unfold sLess at *
  rw [less_before] at *
  exact WideShapes.bytes_trans _ _ _ h k
theorem sLess_asymm {a b : ByteArray} (h : sLess a b = true) : sLess b a = false := by
  cases hk : sLess b a with
  | false => rfl
  | true =>
    have := sLess_trans h hk
    unfold sLess at this
    rw [less_before, WideAt.bytes_irrefl] at this
    cases this
theorem sLess_ne {a b : ByteArray} (h : sLess a b = true) : a.data.toList ≠ b.data.toList := by
  intro e
  unfold sLess at h
  rw [e, less_before, WideAt.bytes_irrefl] at h
  cases h
/-- Of keys that rise any two in order stand so. -/
theorem rises_lt {ks : List ByteArray} (h : rises ks) : ∀ (d i : Nat) (a b : ByteArray), ks[i]? = some a → ks[i + d + 1]? = some b → sLess a b = true := by
  intro d
  induction d with
  | zero => intro i a b ha hb; exact h i a b ha hb
  | succ d ih =>
    intro i a b ha hb
    have hi : i + (d + 1) < ks.length := by
      have := (List.getElem?_eq_some_iff.1 hb).1
      omega
    have hc : ks[i + d + 1]? = some (ks[i + (d + 1)]'hi) := List.getElem?_eq_getElem hi
    exact sLess_trans (ih i a _ ha hc) (h (i + d + 1) _ b hc (by rw [show i + d + 1 + 1 = i + (d + 1) + 1 from by omega]; exact hb))

theorem pairs_snoc : ∀ (ks : List ByteArray) (xs : List Value) (k : ByteArray) (x : Value), ks.length = xs.length → pairs (ks ++ [k]) (xs ++ [x]) = pairs ks xs ++ [(.string k.data.toList, .held x)]
  | [], [], k, x, _ => rfl
  | [], _ :: _, _, _, h => by simp at h
  | _ :: _, [], _, _, h => by simp at h
  | a :: ks, y :: xs, k, x, h => by
    rw [List.cons_append, List.cons_append, pairs, pairs, pairs_snoc ks xs k x (by simpa using h), List.cons_append]
theorem pairs_mem : ∀ (ks : List ByteArray) (xs : List Value) (p : Lit × DataW Value), p ∈ pairs ks xs → ∃ (i : Nat) (k : ByteArray) (x : Value), ks[i]? = some k ∧ xs[i]? = some x ∧ p = (.string k.data.toList, .held x)
  | [], _, p, h => by simp [pairs] at h
  | _ :: _, [], p, h => by simp [pairs] at h
  | a :: ks, y :: xs, p, h => by
    rw [pairs] at h
    rcases List.mem_cons.1 h with rfl | h
    · exact ⟨0, a, y, rfl, rfl, rfl⟩
    · obtain ⟨i, k, x, h1, h2, h3⟩ := pairs_mem ks xs p h
      exact ⟨i + 1, k, x, by simpa using h1, by simpa using h2, h3⟩
theorem pairs_get : ∀ (ks : List ByteArray) (xs : List Value) (i : Nat) (k : ByteArray) (x : Value), ks[i]? = some k → xs[i]? = some x → (pairs ks xs)[i]? = some (.string k.data.toList, .held x)
  | [], _, i, k, x, h, _ => by simp at h
  | _ :: _, [], i, k, x, _, h => by simp at h
  | a :: ks, y :: xs, 0, k, x, h1, h2 => by
    have e1 : a = k := by simpa using h1
    have e2 : y = x := by simpa using h2
    rw [pairs, e1, e2]
    rfl
  | a :: ks, y :: xs, i + 1, k, x, h1, h2 => by
    rw [pairs]
    exact pairs_get ks xs i k x (by simpa using h1) (by simpa using h2)
theorem insert_last (x : Lit × DataW Value) : ∀ (l : List (Lit × DataW Value)), (∀ p ∈ l, x.1.before p.1 = false) → DataW.insert x l = l ++ [x]
  | [], _ => rfl
  | y :: r, h => by
    rw [DataW.insert, if_neg (by rw [h y (List.mem_cons_self ..)]; decide), insert_last x r (fun p hp => h p (List.mem_cons_of_mem _ hp))]
    rfl
/-- A store at the next key. -/
theorem put_next {ks : List ByteArray} {xs : List Value} {i : Nat} {k : ByteArray} {v : Value} (hr : rises ks) (hk : ks[i]? = some k) (hl : xs.length = i) :
    (DataW.map (pairs (ks.take i) xs)).put (.string k.data.toList) (.held v) = .map (pairs (ks.take (i + 1)) (xs ++ [v])) := by
  have hlen : (ks.take i).length = xs.length := by
    have := (List.getElem?_eq_some_iff.1 hk).1
    rw [List.length_take]; omega
  have before : ∀ p ∈ pairs (ks.take i) xs, ∃ a : ByteArray, p.1 = .string a.data.toList ∧ sLess a k = true := by
    intro p hp
    obtain ⟨j, a, x, h1, _, rfl⟩ := pairs_mem _ _ p hp
    have hj : j < i := by
      have := (List.getElem?_eq_some_iff.1 h1).1
      rw [List.length_take] at this
      omega
    rw [List.getElem?_take, if_pos hj] at h1
    exact ⟨a, rfl, rises_lt hr (i - j - 1) j a k h1 (by rw [show j + (i - j - 1) + 1 = i from by omega]; exact hk)⟩
  unfold DataW.put
  have hf : (pairs (ks.take i) xs).filter (fun p => !p.1.sameKey (.string k.data.toList)) = pairs (ks.take i) xs := by
    rw [List.filter_eq_self]
    intro p hp
    obtain ⟨a, e, h⟩ := before p hp
    rw [e]
    simp only [Lit.sameKey, Bool.not_eq_true']
    exact beq_eq_false_iff_ne.2 (sLess_ne h)
  simp only [hf]
  rw [insert_last, take_snoc hk, pairs_snoc _ _ _ _ hlen]
  intro p hp
  obtain ⟨a, e, h⟩ := before p hp
  rw [e]
  simp only [Lit.before]
  rw [← less_before]
  exact sLess_asymm h

end Go.Proofs.YtpamlgdcnmcedaaGreatDoor
