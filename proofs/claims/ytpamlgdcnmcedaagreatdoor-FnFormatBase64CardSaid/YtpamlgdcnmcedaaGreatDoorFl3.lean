/-
  The word of a half among others: 0, the least and the greatest number, 1e-6 and 1e21.
-/
import Derived.Test.YtpamlgdcnmcedaaGreatDoorFl2
namespace Go.Proofs.YtpamlgdcnmcedaaGreatDoor.Fl
set_option linter.unusedVariables false
set_option linter.unusedSimpArgs false
open Ieee
set_option maxRecDepth 100000

theorem half_read (h : Int) (h0 : h ≠ 0) (h1 : -9007199254740992 < h) (h2 : h < 9007199254740992) : ∃ u k : Nat, u ≤ 52 ∧ 4503599627370496 ≤ k ∧ k < 9007199254740992 ∧ double.read (half h) = .number (decide (h < 0)) k (-1 - u) := by
  obtain ⟨u, hu, a, b, _, e2⟩ := shape h h0 h1 h2
  exact ⟨u, _, hu, a, b, by rw [e2, read_C _ _ _ a b (by omega) (by omega)]⟩
theorem order_half_self (h : Int) (h0 : h ≠ 0) (h1 : -9007199254740992 < h) (h2 : h < 9007199254740992) : double.order (half h) (half h) = some .eq := by
  obtain ⟨u, k, _, _, _, e⟩ := half_read h h0 h1 h2
  unfold Format.order
  rw [e]
  simp [Datum.order]
theorem read_max : double.read 9218868437227405311 = .number false 9007199254740991 971 := by decide
theorem read_min : double.read 18442240474082181119 = .number true 9007199254740991 971 := by decide
theorem read_small : double.read 4517329193108106637 = .number false 4722366482869645 (-72) := by decide
theorem read_large : double.read 4921056587992461136 = .number false 7629394531250000 17 := by decide

theorem big_pow (n : Nat) : 9007199254740992 ≤ 9007199254740991 * 2 ^ (n + 1) := by
  have := Nat.one_le_two_pow (n := n)
  rw [Nat.pow_succ]; omega
theorem order_half_max (h : Int) (h0 : h ≠ 0) (h1 : -9007199254740992 < h) (h2 : h < 9007199254740992) : double.order (half h) 9218868437227405311 = some .lt := by
  obtain ⟨u, k, hu, a, b, e⟩ := half_read h h0 h1 h2
  unfold Format.order
  rw [e, read_max]
  simp only [Datum.order]
  rw [show min (-1 - (u : Int)) 971 = -1 - u from by omega, show (-1 - (u : Int) - (-1 - (u : Int))).toNat = 0 from by omega, show ((971 : Int) - (-1 - (u : Int))).toNat = u + 971 + 1 from by omega]
  have := big_pow (u + 971)
  refine congrArg some ?_
  rw [compare, instOrdInt]
  simp only [signed_val]
  generalize 9007199254740991 * 2 ^ (u + 971 + 1) = X at *
  simp only [compareOfLessAndEq]
  rw [if_pos]
  split <;> simp <;> omega
theorem order_half_min (h : Int) (h0 : h ≠ 0) (h1 : -9007199254740992 < h) (h2 : h < 9007199254740992) : double.order (half h) 18442240474082181119 = some .gt := by
  obtain ⟨u, k, hu, a, b, e⟩ := half_read h h0 h1 h2
  unfold Format.order
  rw [e, read_min]
  simp only [Datum.order]
  rw [show min (-1 - (u : Int)) 971 = -1 - u from by omega, show (-1 - (u : Int) - (-1 - (u : Int))).toNat = 0 from by omega, show ((971 : Int) - (-1 - (u : Int))).toNat = u + 971 + 1 from by omega]
  have := big_pow (u + 971)
  refine congrArg some ?_
  rw [compare, instOrdInt]
  simp only [signed_val]
  generalize 9007199254740991 * 2 ^ (u + 971 + 1) = X at *
  simp only [compareOfLessAndEq]
  rw [if_neg, if_neg]
  · split <;> simp <;> omega
  · split <;> simp <;> omega
theorem order_half_zero (n : Nat) (h0 : n ≠ 0) (h2 : n < 9007199254740992) : double.order (half n) 0 = some .gt := by
  obtain ⟨u, k, hu, a, b, e⟩ := half_read n (by omega) (by omega) (by omega)
  rw [decide_eq_false (show ¬ ((n : Int) < 0) by omega)] at e
  unfold Format.order
  rw [e, read_zero]
  simp only [Datum.order]
  rw [show min (-1 - (u : Int)) (-1074) = -1074 from by omega, show (-1 - (u : Int) - -1074).toNat = 1073 - u from by omega]
  have hp := Nat.two_pow_pos (1073 - u)
  have hq : 0 < k * 2 ^ (1073 - u) := Nat.mul_pos (by omega) hp
  refine congrArg some ?_
  rw [compare, instOrdInt]
  simp only [signed_val, Nat.zero_mul]
  generalize k * 2 ^ (1073 - u) = X at *
  simp only [compareOfLessAndEq, Bool.false_eq_true, if_false]
  rw [if_neg (by omega), if_neg (by omega)]
theorem order_half_small (n : Nat) (h0 : n ≠ 0) (h2 : n < 9007199254740992) : double.order (half n) 4517329193108106637 = some .gt := by
  obtain ⟨u, k, hu, a, b, e⟩ := half_read n (by omega) (by omega) (by omega)
  rw [decide_eq_false (show ¬ ((n : Int) < 0) by omega)] at e
  unfold Format.order
  rw [e, read_small]
  simp only [Datum.order]
  rw [show min (-1 - (u : Int)) (-72) = -72 from by omega, show (-1 - (u : Int) - -72).toNat = 71 - u from by omega, show ((-72 : Int) - -72).toNat = 0 from by omega]
  have hp : 2 ^ 1 ≤ 2 ^ (71 - u) := Nat.pow_le_pow_right (by decide) (by omega)
  have hq : 4503599627370496 * 2 ^ 1 ≤ k * 2 ^ (71 - u) := Nat.mul_le_mul a hp
  refine congrArg some ?_
  rw [compare, instOrdInt]
  simp only [signed_val]
  generalize k * 2 ^ (71 - u) = X at *
  simp only [compareOfLessAndEq, Bool.false_eq_true, if_false]
  rw [if_neg (by omega), if_neg (by omega)]
theorem order_half_large (n : Nat) (h0 : n ≠ 0) (h2 : n < 9007199254740992) : double.order (half n) 4921056587992461136 = some .lt := by
  obtain ⟨u, k, hu, a, b, e⟩ := half_read n (by omega) (by omega) (by omega)
  rw [decide_eq_false (show ¬ ((n : Int) < 0) by omega)] at e
  unfold Format.order
  rw [e, read_large]
  simp only [Datum.order]
  rw [show min (-1 - (u : Int)) 17 = -1 - u from by omega, show (-1 - (u : Int) - (-1 - (u : Int))).toNat = 0 from by omega, show ((17 : Int) - (-1 - (u : Int))).toNat = u + 18 from by omega]
  have hq : 7629394531250000 * 2 ^ 18 ≤ 7629394531250000 * 2 ^ (u + 18) := Nat.mul_le_mul_left _ (Nat.pow_le_pow_right (by decide) (by omega))
  refine congrArg some ?_
  rw [compare, instOrdInt]
  simp only [signed_val]
  generalize 7629394531250000 * 2 ^ (u + 18) = X at *
  simp only [compareOfLessAndEq, Bool.false_eq_true, if_false]
  rw [if_pos (by omega)]

end Go.Proofs.YtpamlgdcnmcedaaGreatDoor.Fl
