/-
  A text cut at each place of another one: the plain law (no program).
-/
import Derived.Lib.Strings
import Derived.Lib.Bytes2
namespace Go.Proofs.YtpamlgdcnmcedaaDoor
set_option linter.unusedVariables false
set_option linter.unusedSimpArgs false

/-- The pieces of a text, cut at each place of t; acc is what stands before it since the last cut. -/
def cuts (t : List UInt8) : List UInt8 → List UInt8 → List (List UInt8)
  | acc, [] => [acc]
  | acc, b :: r => if h : t ≠ [] ∧ Lib.hasPrefix (b :: r) t = true then acc :: cuts t [] ((b :: r).drop t.length) else cuts t (acc ++ [b]) r
termination_by _ s => s.length
decreasing_by
  · have h1 : 0 < t.length := List.length_pos_iff.2 h.1
    rw [List.length_drop, List.length_cons]
    omega
  · simp

theorem cuts_nil (t acc : List UInt8) : cuts t acc [] = [acc] := by rw [cuts]
theorem cuts_hit (t acc s : List UInt8) (ht : t ≠ []) (h : Lib.hasPrefix s t = true) : cuts t acc s = acc :: cuts t [] (s.drop t.length) := by
  cases s with
  | nil =>
    have h1 := Lib.hasPrefix_le h
    have h2 : 0 < t.length := List.length_pos_iff.2 ht
    simp at h1
    exact absurd h1 ht
  | cons b r => rw [cuts, dif_pos ⟨ht, h⟩]
theorem cuts_miss (t acc r : List UInt8) (b : UInt8) (h : Lib.hasPrefix (b :: r) t = false) : cuts t acc (b :: r) = cuts t (acc ++ [b]) r := by
  rw [cuts, dif_neg]
  intro h'
  rw [h] at h'
  exact absurd h'.2 (by decide)
theorem cuts_skip (t : List UInt8) : ∀ (n : Nat) (acc s : List UInt8), n ≤ s.length → (∀ i, i < n → Lib.hasPrefix (s.drop i) t = false) → cuts t acc s = cuts t (acc ++ s.take n) (s.drop n)
  | 0, acc, s, _, _ => by simp
  | n + 1, acc, [], hn, _ => by simp at hn
  | n + 1, acc, b :: r, hn, h => by
    rw [cuts_miss t acc r b (by simpa using h 0 (by omega)), cuts_skip t n (acc ++ [b]) r (by simpa using hn) fun i hi => by simpa using h (i + 1) (by omega)]
    simp
theorem cuts_none (t acc s : List UInt8) (h : ∀ i, i < s.length → Lib.hasPrefix (s.drop i) t = false) : cuts t acc s = [acc ++ s] := by
  rw [cuts_skip t s.length acc s (Nat.le_refl _) h, List.drop_length, List.take_length, cuts_nil]
theorem cuts_length (t : List UInt8) : ∀ (n : Nat) (acc s : List UInt8), s.length ≤ n → (cuts t acc s).length ≤ s.length + 1
  | _, acc, [], _ => by rw [cuts_nil]; simp
  | 0, acc, b :: r, h => by simp at h
  | n + 1, acc, b :: r, h => by
    by_cases hp : t ≠ [] ∧ Lib.hasPrefix (b :: r) t = true
    · have h1 : 0 < t.length := List.length_pos_iff.2 hp.1
      have h2 := Lib.hasPrefix_le hp.2
      rw [cuts, dif_pos hp, List.length_cons]
      have := cuts_length t n [] ((b :: r).drop t.length) (by rw [List.length_drop, List.length_cons]; simp at h; omega)
      rw [List.length_drop] at this
      omega
    · rw [cuts, dif_neg hp]
      have := cuts_length t n (acc ++ [b]) r (by simpa using h)
      rw [List.length_cons]
      omega

/-- A place of t in s: at i, and none before it. -/
def FirstAt (s t : List UInt8) (i : Nat) : Prop := i + t.length ≤ s.length ∧ Lib.hasPrefix (s.drop i) t = true ∧ ∀ j, j < i → Lib.hasPrefix (s.drop j) t = false
theorem hasPrefix_short (s t : List UInt8) (h : s.length < t.length) : Lib.hasPrefix s t = false := by
  rw [Bool.eq_false_iff]
  intro e
  have := Lib.hasPrefix_le e
  omega
theorem cuts_first (s t acc : List UInt8) (i : Nat) (ht : t ≠ []) (h : FirstAt s t i) : cuts t acc s = (acc ++ s.take i) :: cuts t [] (s.drop (i + t.length)) := by
  obtain ⟨h1, h2, h3⟩ := h
  rw [cuts_skip t i acc s (by omega) h3, cuts_hit t _ _ ht h2, List.drop_drop]

end Go.Proofs.YtpamlgdcnmcedaaDoor
