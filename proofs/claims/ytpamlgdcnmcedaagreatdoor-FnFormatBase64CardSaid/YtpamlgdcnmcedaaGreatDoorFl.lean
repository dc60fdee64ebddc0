/-
  Float64 words that stand for whole numbers below 2^53 and for their halves, by plain arithmetic: no program here.
-/
import GoSem.Core.Float
import Ieee.Arith
namespace Go.Proofs.YtpamlgdcnmcedaaGreatDoor.Fl
set_option linter.unusedVariables false
set_option linter.unusedSimpArgs false
open Ieee

/-- A word by its sign, its significand of 53 digits and the place of its last digit. -/
def C (s : Bool) (kept : Nat) (last : Int) : Nat := (if s then 9223372036854775808 else 0) + ((last + 1074).toNat * 4503599627370496 + kept)

theorem cut_zero (way : Toward) (s : Bool) (n : Nat) (h : way = .even ∨ way = .zero) : way.cut s n 0 = n := by
  rcases h with rfl | rfl <;> simp [Toward.cut, Nat.mod_one]
theorem cut_exact (way : Toward) (s : Bool) (k d : Nat) (hd : d ≤ k.log2 + d + 2) (h : way = .even ∨ way = .zero) (hk : 0 < k) : way.cut s (k * 2 ^ d) d = k := by
  have hl : min d ((k * 2 ^ d).log2 + 2) = d := by
    have : d ≤ (k * 2 ^ d).log2 := (Nat.le_log2 (by have := Nat.two_pow_pos d; exact Nat.ne_of_gt (Nat.mul_pos hk this))).2 (Nat.le_mul_of_pos_left _ hk)
    omega
  have hp := Nat.two_pow_pos d
  rcases h with rfl | rfl
  · simp only [Toward.cut, hl, Nat.shiftLeft_eq, Nat.one_mul, Nat.mul_mod_left, Nat.mul_div_cancel _ hp]
    simp
  · simp only [Toward.cut, hl, Nat.shiftLeft_eq, Nat.one_mul, Nat.mul_div_cancel _ hp]
    simp

theorem log2_53 {k : Nat} (h1 : 4503599627370496 ≤ k) (h2 : k < 9007199254740992) : k.log2 = 52 := by
  have a : 52 ≤ k.log2 := (Nat.le_log2 (by omega)).2 h1
  have b : k.log2 < 53 := (Nat.log2_lt (by omega)).2 h2
  omega
theorem log2_mul (k d : Nat) (hk : 0 < k) : (k * 2 ^ d).log2 = k.log2 + d := by
  have hp := Nat.two_pow_pos d
  have hne : k * 2 ^ d ≠ 0 := Nat.ne_of_gt (Nat.mul_pos hk hp)
  apply Nat.le_antisymm
  · apply Nat.le_of_lt_succ
    rw [Nat.log2_lt hne, show (k.log2 + d).succ = (k.log2 + 1) + d from by omega, Nat.pow_add]
    exact Nat.mul_lt_mul_of_pos_right ((Nat.log2_lt (by omega)).1 (Nat.lt_succ_self _)) hp
  · rw [Nat.le_log2 hne, Nat.pow_add]
    exact Nat.mul_le_mul_right _ ((Nat.le_log2 (by omega)).1 (Nat.le_refl _))

theorem word_C (s : Bool) (kept : Nat) (last : Int) (h2 : kept < 9007199254740992) (h4 : last ≤ 971) :
    double.word s (min ((last - double.leastPlace).toNat * double.binade + kept) double.infRung) = C s kept last := by
  have e1 : double.leastPlace = -1074 := by decide
  have e2 : double.binade = 4503599627370496 := by decide
  have e3 : double.infRung = 9218868437227405312 := by decide
  have e4 : double.signWeight = 9223372036854775808 := by decide
  rw [e1, e2, e3, show last - -1074 = last + 1074 from by omega, Nat.min_eq_left (by omega)]
  unfold C Format.word
  rw [e4]
  cases s <;> simp

/-- The nearest word of an exact number, given with trailing zeros. -/
theorem nearest_down (s : Bool) (kept d : Nat) (place : Int) (h1 : 4503599627370496 ≤ kept) (h2 : kept < 9007199254740992) (h3 : -1074 ≤ place + d) (h4 : place + d ≤ 971) :
    double.nearest s (kept * 2 ^ d) place = C s kept (place + d) := by
  have hp := Nat.two_pow_pos d
  have hne : kept * 2 ^ d ≠ 0 := Nat.ne_of_gt (Nat.mul_pos (by omega) hp)
  have e0 : (double.fractionBits : Nat) = 52 := rfl
  have e1 : double.leastPlace = -1074 := by decide
  unfold Format.nearest
  rw [if_neg hne, log2_mul _ _ (by omega), log2_53 h1 h2, e0]
  have hl : max (place + (52 + d : Nat) - (52 : Nat)) double.leastPlace = place + d := by rw [e1]; omega
  simp only [hl]
  rw [show (place - (place + (d : Int))).toNat = 0 from by omega, show (place + (d : Int) - place).toNat = d from by omega, Nat.shiftLeft_zero,
    cut_exact .even s kept d (by omega) (.inl rfl) (by omega)]
  exact word_C s kept (place + d) h2 h4

/-- The nearest word of an exact number of at most 53 digits. -/
theorem nearest_up (s : Bool) (m u : Nat) (place : Int) (h1 : 4503599627370496 ≤ m * 2 ^ u) (h2 : m * 2 ^ u < 9007199254740992) (h3 : -1074 ≤ place - u) (h4 : place - u ≤ 971) :
    double.nearest s m place = C s (m * 2 ^ u) (place - u) := by
  have hm : 0 < m := by
    rcases Nat.eq_zero_or_pos m with h | h
    · subst h; simp at h1
    · exact h
  have e0 : (double.fractionBits : Nat) = 52 := rfl
  have e1 : double.leastPlace = -1074 := by decide
  have hL : m.log2 + u = 52 := by rw [← log2_mul _ _ hm]; exact log2_53 h1 h2
  unfold Format.nearest
  rw [if_neg (by omega), e0]
  have hl : max (place + (m.log2 : Nat) - (52 : Nat)) double.leastPlace = place - u := by rw [e1]; omega
  simp only [hl]
  rw [show (place - (place - (u : Int))).toNat = u from by omega, show (place - (u : Int) - place).toNat = 0 from by omega, cut_zero .even s _ (.inl rfl), Nat.shiftLeft_eq]
  exact word_C s (m * 2 ^ u) (place - u) h2 h4

theorem read_C (s : Bool) (kept : Nat) (last : Int) (h1 : 4503599627370496 ≤ kept) (h2 : kept < 9007199254740992) (h3 : -1074 ≤ last) (h4 : last ≤ 971) :
    double.read (C s kept last) = .number s kept last := by
  have e1 : double.leastPlace = -1074 := by decide
  have e2 : double.binade = 4503599627370496 := by decide
  have e3 : double.infRung = 9218868437227405312 := by decide
  have e4 : double.signWeight = 9223372036854775808 := by decide
  obtain ⟨E, hE⟩ : ∃ E : Nat, last + 1074 = E := ⟨(last + 1074).toNat, by omega⟩
  have hE2 : (last + 1074).toNat = E := by omega
  unfold Format.read C
  rw [e1, e2, e3, e4, hE2]
  have hn : (((if s = true then 9223372036854775808 else 0) + (E * 4503599627370496 + kept)) / 9223372036854775808 % 2 == 1) = s := by
    cases s <;> simp <;> omega
  have hr : ((if s = true then 9223372036854775808 else 0) + (E * 4503599627370496 + kept)) % 9223372036854775808 = E * 4503599627370496 + kept := by
    cases s <;> simp <;> omega
  simp only [hn, hr]
  rw [if_neg (by omega), if_pos (by omega)]
  have a1 : 4503599627370496 + (E * 4503599627370496 + kept) % 4503599627370496 = kept := by omega
  have a2 : (E * 4503599627370496 + kept) / 4503599627370496 - 1 = E := by omega
  rw [a1, a2]
  congr 1
  omega

/-- A number of at most 53 digits, brought to 53. -/
theorem grow (m : Nat) (h0 : 0 < m) (h1 : m < 9007199254740992) : ∃ u, u ≤ 52 ∧ 4503599627370496 ≤ m * 2 ^ u ∧ m * 2 ^ u < 9007199254740992 := by
  have hl : m.log2 < 53 := (Nat.log2_lt (by omega)).2 h1
  refine ⟨52 - m.log2, by omega, ?_, ?_⟩
  · have h := (Nat.le_log2 (n := m) (k := m.log2) (by omega)).1 (Nat.le_refl _)
    calc 4503599627370496 = 2 ^ m.log2 * 2 ^ (52 - m.log2) := by rw [← Nat.pow_add, show m.log2 + (52 - m.log2) = 52 from by omega]
      _ ≤ m * 2 ^ (52 - m.log2) := Nat.mul_le_mul_right _ h
  · have h := (Nat.log2_lt (n := m) (k := m.log2 + 1) (by omega)).1 (Nat.lt_succ_self _)
    calc m * 2 ^ (52 - m.log2) < 2 ^ (m.log2 + 1) * 2 ^ (52 - m.log2) := Nat.mul_lt_mul_of_pos_right h (Nat.two_pow_pos _)
      _ = 9007199254740992 := by rw [← Nat.pow_add, show m.log2 + 1 + (52 - m.log2) = 53 from by omega]

/-- The word of a whole number, and of its half. -/
def whole (h : Int) : Nat := FloatKind.f64.nearest h
def half (h : Int) : Nat := double.nearest (decide (h < 0)) h.natAbs (-1)

theorem shape (h : Int) (h0 : h ≠ 0) (h1 : -9007199254740992 < h) (h2 : h < 9007199254740992) : ∃ u : Nat, u ≤ 52 ∧ 4503599627370496 ≤ h.natAbs * 2 ^ u ∧ h.natAbs * 2 ^ u < 9007199254740992 ∧
    whole h = C (decide (h < 0)) (h.natAbs * 2 ^ u) (-u) ∧ half h = C (decide (h < 0)) (h.natAbs * 2 ^ u) (-1 - u) := by
  obtain ⟨u, hu, a, b⟩ := grow h.natAbs (by omega) (by omega)
  refine ⟨u, hu, a, b, ?_, ?_⟩
  · have := nearest_up (decide (h < 0)) h.natAbs u 0 a b (by omega) (by omega)
    rw [show (0 : Int) - u = -u from by omega] at this
    exact this
  · have := nearest_up (decide (h < 0)) h.natAbs u (-1) a b (by omega) (by omega)
    exact this

theorem read_two : double.read 4611686018427387904 = .number false 4503599627370496 (-51) := by decide
/-- A whole number by 2. -/
theorem div_two (h : Int) (h0 : h ≠ 0) (h1 : -9007199254740992 < h) (h2 : h < 9007199254740992) : double.div (whole h) 4611686018427387904 = some (half h) := by
  obtain ⟨u, hu, a, b, e1, e2⟩ := shape h h0 h1 h2
  have e0 : (double.fractionBits : Nat) = 52 := rfl
  rw [e1, e2]
  unfold Format.div
  rw [read_C _ _ _ a b (by omega) (by omega), read_two, e0]
  generalize h.natAbs * 2 ^ u = kept at *
  have l1 := log2_53 a b
  have l2 : (4503599627370496 : Nat).log2 = 52 := by decide
  simp only [Datum.quotient, l1, l2]
  rw [if_neg (by decide)]
  have hs : kept <<< (52 + 2 + 52 - 52) = kept * 18014398509481984 := by rw [Nat.shiftLeft_eq]
  simp only [hs]
  have q1 : kept * 18014398509481984 / 4503599627370496 = kept * 4 := by omega
  have q2 : kept * 18014398509481984 % 4503599627370496 = 0 := by omega
  simp only [q1, q2, Option.map_some, Format.write, Bool.xor_false]
  have hn := nearest_down (decide (h < 0)) kept 3 (-(u : Int) - -51 - ((52 + 2 + 52 - 52 : Nat) : Int) - 1) a b (by omega) (by omega)
  rw [show (-(u : Int) - -51 - ((52 + 2 + 52 - 52 : Nat) : Int) - 1) + ((3 : Nat) : Int) = -1 - u from by omega] at hn
  have e3 : 2 * (kept * 4) + ((0 : Nat) != 0).toNat = kept * 2 ^ 3 := by
    have : ((0 : Nat) != 0).toNat = 0 := rfl
    omega
  rw [e3, hn]

/-- Twice the half. -/
theorem two_mul (h : Int) (h0 : h ≠ 0) (h1 : -9007199254740992 < h) (h2 : h < 9007199254740992) : double.mul 4611686018427387904 (half h) = some (whole h) := by
  obtain ⟨u, hu, a, b, e1, e2⟩ := shape h h0 h1 h2
  rw [e1, e2]
  unfold Format.mul
  rw [read_C _ _ _ a b (by omega) (by omega), read_two]
  generalize h.natAbs * 2 ^ u = kept at *
  simp only [Datum.product, Option.map_some, Format.write]
  congr 1
  have := nearest_down (decide (h < 0)) kept 52 (-51 + (-1 - (u : Int))) a b (by omega) (by omega)
  rw [show (-51 + (-1 - (u : Int))) + ((52 : Nat) : Int) = -u from by omega] at this
  rw [← this]
  congr 1
  · simp
  · rw [Nat.mul_comm]

theorem signed_val (s : Bool) (m k : Nat) : signed s m k = if s then -((m * 2 ^ k : Nat) : Int) else ((m * 2 ^ k : Nat) : Int) := by
  unfold signed; rw [Nat.shiftLeft_eq]

/-- The whole number's word is a whole number's. -/
theorem integral_whole (h : Int) (h0 : h ≠ 0) (h1 : -9007199254740992 < h) (h2 : h < 9007199254740992) : (double.read (whole h)).integral .zero = .number (decide (h < 0)) h.natAbs 0 := by
  obtain ⟨u, hu, a, b, e1, e2⟩ := shape h h0 h1 h2
  rw [e1, read_C _ _ _ a b (by omega) (by omega)]
  simp only [Datum.integral]
  rw [show (-(u : Int)).toNat = 0 from by omega, show (-(-(u : Int))).toNat = u from by omega, Nat.shiftLeft_zero, cut_exact .zero _ h.natAbs u (by omega) (.inr rfl) (by omega)]

theorem trunc_whole (h : Int) (h0 : h ≠ 0) (h1 : -9007199254740992 < h) (h2 : h < 9007199254740992) : double.write ((double.read (whole h)).integral .zero) = whole h := by
  rw [integral_whole h h0 h1 h2]
  rfl

theorem not_nan (h : Int) (h0 : h ≠ 0) (h1 : -9007199254740992 < h) (h2 : h < 9007199254740992) : ∃ m p, double.read (whole h) = .number (decide (h < 0)) m p := by
  obtain ⟨u, hu, a, b, e1, e2⟩ := shape h h0 h1 h2
  exact ⟨_, _, by rw [e1, read_C _ _ _ a b (by omega) (by omega)]⟩

theorem toInt_whole (h : Int) (h0 : h ≠ 0) (h1 : -9007199254740992 < h) (h2 : h < 9007199254740992) : (double.read (whole h)).toInt .zero = some h := by
  unfold Datum.toInt
  rw [integral_whole h h0 h1 h2]
  simp only [signed_val, Nat.pow_zero, Nat.mul_one]
  congr 1
  by_cases hn : h < 0
  · rw [decide_eq_true hn, if_pos rfl]; omega
  · rw [decide_eq_false hn, if_neg (by decide)]; omega

theorem order_self (h : Int) (h0 : h ≠ 0) (h1 : -9007199254740992 < h) (h2 : h < 9007199254740992) : double.order (whole h) (whole h) = some .eq := by
  obtain ⟨m, p, e⟩ := not_nan h h0 h1 h2
  unfold Format.order
  rw [e]
  simp [Datum.order]

theorem read_62 : double.read 4886405595696988160 = .number false 4503599627370496 10 := by decide
theorem read_m62 : double.read 14109777632551763968 = .number true 4503599627370496 10 := by decide
theorem pow_ge (u : Nat) : 4611686018427387904 ≤ 4503599627370496 * 2 ^ (u + 10) := by
  have := Nat.one_le_two_pow (n := u)
  rw [Nat.pow_add]; omega
theorem order_62 (h : Int) (h0 : h ≠ 0) (h1 : -9007199254740992 < h) (h2 : h < 9007199254740992) : double.order (whole h) 4886405595696988160 = some .lt := by
  obtain ⟨u, hu, a, b, e1, e2⟩ := shape h h0 h1 h2
  unfold Format.order
  rw [e1, read_C _ _ _ a b (by omega) (by omega), read_62]
  simp only [Datum.order]
  rw [show min (-(u : Int)) 10 = -u from by omega, show (-(u : Int) - -(u : Int)).toNat = 0 from by omega, show ((10 : Int) - -(u : Int)).toNat = u + 10 from by omega]
  have := pow_ge u
  congr 1
  rw [compare, instOrdInt]
  simp only [signed_val]
  generalize 4503599627370496 * 2 ^ (u + 10) = X at *
  generalize h.natAbs * 2 ^ u = Y at *
  simp only [compareOfLessAndEq]
  rw [if_pos]
  split <;> simp <;> omega
theorem order_m62 (h : Int) (h0 : h ≠ 0) (h1 : -9007199254740992 < h) (h2 : h < 9007199254740992) : double.order (whole h) 14109777632551763968 = some .gt := by
  obtain ⟨u, hu, a, b, e1, e2⟩ := shape h h0 h1 h2
  unfold Format.order
  rw [e1, read_C _ _ _ a b (by omega) (by omega), read_m62]
  simp only [Datum.order]
  rw [show min (-(u : Int)) 10 = -u from by omega, show (-(u : Int) - -(u : Int)).toNat = 0 from by omega, show ((10 : Int) - -(u : Int)).toNat = u + 10 from by omega]
  have := pow_ge u
  congr 1
  rw [compare, instOrdInt]
  simp only [signed_val]
  generalize 4503599627370496 * 2 ^ (u + 10) = X at *
  generalize h.natAbs * 2 ^ u = Y at *
  simp only [compareOfLessAndEq]
  rw [if_neg, if_neg]
  · split <;> simp <;> omega
  · split <;> simp <;> omega

end Go.Proofs.YtpamlgdcnmcedaaGreatDoor.Fl
