/-
  More of the words of whole numbers: the half of an even one; how they stand to 0 and to 2^31 - 1.
-/
import Derived.Test.YtpamlgdcnmcedaaGreatDoorFl
namespace Go.Proofs.YtpamlgdcnmcedaaGreatDoor.Fl
set_option linter.unusedVariables false
set_option linter.unusedSimpArgs false
open Ieee

/-- The half of an even number is the word of the number. -/
theorem half_even (n : Int) (h0 : n ≠ 0) (h1 : -4503599627370496 < n) (h2 : n < 4503599627370496) : half (2 * n) = whole n := by
  obtain ⟨u, hu, a, b⟩ := grow n.natAbs (by omega) (by omega)
  have hu1 : 1 ≤ u := by
    rcases Nat.eq_zero_or_pos u with e | e
    · subst e; simp at a; omega
    · exact e
  have ep : 2 * n.natAbs * 2 ^ (u - 1) = n.natAbs * 2 ^ u := by
    obtain ⟨v, rfl⟩ : ∃ v, u = v + 1 := ⟨u - 1, by omega⟩
    rw [Nat.add_sub_cancel, Nat.pow_succ]
    rw [Nat.mul_comm 2 n.natAbs, Nat.mul_assoc, Nat.mul_comm 2 (2 ^ v)]
  have e1 := nearest_up (decide (n < 0)) n.natAbs u 0 a b (by omega) (by omega)
  have e2 := nearest_up (decide (n < 0)) (2 * n.natAbs) (u - 1) (-1) (by rw [ep]; exact a) (by rw [ep]; exact b) (by omega) (by omega)
  have hs : decide (2 * n < 0) = decide (n < 0) := by
    by_cases hn : n < 0
    · rw [decide_eq_true hn, decide_eq_true (by omega)]
    · rw [decide_eq_false hn, decide_eq_false (by omega)]
  have ha : (2 * n).natAbs = 2 * n.natAbs := by omega
  unfold half
  rw [hs, ha, e2, ep]
  show _ = double.nearest (decide (n < 0)) n.natAbs 0
  rw [e1]
  congr 1
  omega

theorem read_zero : double.read 0 = .number false 0 (-1074) := by decide
theorem order_zero (h : Int) (h0 : h ≠ 0) (h1 : -9007199254740992 < h) (h2 : h < 9007199254740992) : double.order (whole h) 0 = some (if h < 0 then .lt else .gt) := by
  obtain ⟨u, hu, a, b, e1, e2⟩ := shape h h0 h1 h2
  unfold Format.order
  rw [e1, read_C _ _ _ a b (by omega) (by omega), read_zero]
  simp only [Datum.order]
  rw [show min (-(u : Int)) (-1074) = -1074 from by omega, show (-(u : Int) - -1074).toNat = 1074 - u from by omega]
  have hp := Nat.two_pow_pos (1074 - u)
  have hq : 0 < h.natAbs * 2 ^ u * 2 ^ (1074 - u) := Nat.mul_pos (by omega) hp
  congr 1
  rw [compare, instOrdInt]
  simp only [signed_val, Nat.zero_mul]
  generalize h.natAbs * 2 ^ u * 2 ^ (1074 - u) = X at *
  simp only [compareOfLessAndEq]
  by_cases hn : h < 0
  · rw [decide_eq_true hn, if_pos rfl, if_pos hn, if_pos (by simp; omega)]
  · rw [decide_eq_false hn]
    simp only [Bool.false_eq_true, if_false]
    rw [if_neg hn, if_neg (by omega), if_neg (by omega)]

theorem read_31 : double.read 4746794007244308480 = .number false 9007199250546688 (-22) := by decide
/-- A small whole number is less than 2^31 - 1. -/
theorem order_31 (h : Int) (h0 : h ≠ 0) (h1 : -65536 ≤ h) (h2 : h ≤ 65536) : double.order (whole h) 4746794007244308480 = some .lt := by
  obtain ⟨u, hu, a, b, e1, e2⟩ := shape h h0 (by omega) (by omega)
  unfold Format.order
  rw [e1, read_C _ _ _ a b (by omega) (by omega), read_31]
  simp only [Datum.order]
  obtain ⟨m, hm⟩ : ∃ m : Nat, max u 22 = m := ⟨_, rfl⟩
  rw [show min (-(u : Int)) (-22) = -(m : Int) from by omega, show (-(u : Int) - -(m : Int)).toNat = m - u from by omega, show ((-22 : Int) - -(m : Int)).toNat = m - 22 from by omega]
  have p1 : h.natAbs * 2 ^ u * 2 ^ (m - u) = h.natAbs * 2 ^ m := by rw [Nat.mul_assoc, ← Nat.pow_add, show u + (m - u) = m from by omega]
  have p2 : 9007199250546688 * 2 ^ (m - 22) = 2147483647 * 2 ^ m := by
    rw [show (9007199250546688 : Nat) = 2147483647 * 2 ^ 22 from by decide, Nat.mul_assoc, ← Nat.pow_add, show 22 + (m - 22) = m from by omega]
  have hp := Nat.two_pow_pos m
  have hx : h.natAbs * 2 ^ m ≤ 65536 * 2 ^ m := Nat.mul_le_mul_right _ (by omega)
  congr 1
  rw [compare, instOrdInt]
  simp only [signed_val, p1, p2]
  generalize h.natAbs * 2 ^ m = X at *
  generalize 2 ^ m = Y at *
  simp only [compareOfLessAndEq, Bool.false_eq_true, if_false]
  rw [if_pos]
  split <;> omega

end Go.Proofs.YtpamlgdcnmcedaaGreatDoor.Fl
