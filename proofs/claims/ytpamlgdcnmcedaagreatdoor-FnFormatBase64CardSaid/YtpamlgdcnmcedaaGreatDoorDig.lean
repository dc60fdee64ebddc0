/-
  spec.digits: the decimal digits of a whole number.
-/
import Derived.Test.YtpamlgdcnmcedaaGreatDoorV
namespace Go.Proofs.YtpamlgdcnmcedaaGreatDoor
set_option linter.unusedVariables false
set_option linter.unusedSimpArgs false
open Go.RowKit

/-- The decimal digits. -/
def digitsL (n : Nat) : List UInt8 := if n < 10 then [48 + UInt8.ofNat n] else digitsL (n / 10) ++ [48 + UInt8.ofNat (n % 10)]
termination_by n
decreasing_by omega
theorem digitsL_small {n : Nat} (h : n < 10) : digitsL n = [48 + UInt8.ofNat n] := by rw [digitsL, if_pos h]
theorem digitsL_big {n : Nat} (h : ¬ n < 10) : digitsL n = digitsL (n / 10) ++ [48 + UInt8.ofNat (n % 10)] := by rw [digitsL, if_neg h]

theorem encode_digit (k : Nat) (h : k < 10) : Utf8.encode (48 + (k : Int)) = ⟨#[48 + UInt8.ofNat k]⟩ := by
  have : k = 0 ∨ k = 1 ∨ k = 2 ∨ k = 3 ∨ k = 4 ∨ k = 5 ∨ k = 6 ∨ k = 7 ∨ k = 8 ∨ k = 9 := by omega
  rcases this with rfl | rfl | rfl | rfl | rfl | rfl | rfl | rfl | rfl | rfl <;> rfl
theorem digit_append (x : UInt8) (s : List UInt8) : (ByteArray.mk #[x]) ++ (ByteArray.mk s.toArray) = ⟨(x :: s).toArray⟩ := by
  apply ByteArray.ext
  rw [ByteArray.data_append]
  apply Array.ext'
  simp

set_option maxHeartbeats 800000 in
set_option maxRecDepth 100000 in
theorem digits_any (n : Nat) (w : World) (hn : n ≤ 1152921504606846976) :
    Calls Tryz.prog 31 #[.int .i64 (n : Int)] w fun e w' => e = .returned (.string ⟨(digitsL n).toArray⟩) ∧ w' = w := by
  have HN := Sec.mk hn
  clear hn
  go_enter Tryz.func31, Tryz.ntmps31
  go_wp2_with fail
  go_loopw [0, 3] (fun v0 v3 wr => ∃ (k : Nat) (s : List UInt8), v0 = .int .i64 (k : Int) ∧ v3 = .string ⟨s.toArray⟩ ∧ k ≤ n ∧ s.length ≤ 100 ∧ k * 10 ^ s.length ≤ n ∧ digitsL n = digitsL k ++ s ∧ wr = w) (fun v0 _ _ => (intOf v0).toNat)
  case atStart => exact ⟨n, [], rfl, rfl, Nat.le_refl _, by decide, by simp, by simp, rfl⟩
  case round =>
    obtain ⟨k, s, rfl, rfl, hk, hs, hp, hd, e⟩ := hrel
    have e' := e.symm
    subst e'
    clear e
    have HD := Sec.mk hd
    have HP := Sec.mk hp
    clear hp
    clear hd
    have hk2 : k ≤ 1152921504606846976 := Nat.le_trans hk HN.out
    by_cases h : k < 10
    · have d1 : decide ((10 : Int) ≤ (k : Int)) = false := decide_eq_false (by omega)
      have e1 := encode_digit k h
      have e2 := Sec.mk (digit_append (48 + UInt8.ofNat k) s)
      have e3 : (ByteArray.mk #[48 + UInt8.ofNat k]).size + (ByteArray.mk s.toArray).size ≤ 9223372036854775807 := by
        show 1 + s.toArray.size ≤ _
        rw [List.size_toArray]
        omega
      have e4 : 1 + s.length ≤ 9223372036854775807 := by omega
      go_wp2
      go_ret
      exact ⟨by rw [HD.out, digitsL_small h]; exact congrArg (fun t => Ending.returned (Value.string t)) e2.out, rfl⟩
    · have d1 : decide ((10 : Int) ≤ (k : Int)) = true := decide_eq_true (by omega)
      have e1 : Utf8.encode (48 + (k : Int) % 10) = ⟨#[48 + UInt8.ofNat (k % 10)]⟩ := by
        have := encode_digit (k % 10) (by omega)
        rwa [Int.natCast_emod] at this
      have e2 := Sec.mk (digit_append (48 + UInt8.ofNat (k % 10)) s)
      have e3 : (ByteArray.mk #[48 + UInt8.ofNat (k % 10)]).size + (ByteArray.mk s.toArray).size ≤ 9223372036854775807 := by
        show 1 + s.toArray.size ≤ _
        rw [List.size_toArray]
        omega
      have e4 : 1 + s.length ≤ 9223372036854775807 := by omega
      have hl : s.length + 1 ≤ 100 := by
        apply Classical.byContradiction
        intro hc
        have h1 : 10 ^ 99 ≤ 10 ^ s.length := Nat.pow_le_pow_right (by decide) (by omega)
        have h2 : 1 * 10 ^ s.length ≤ k * 10 ^ s.length := Nat.mul_le_mul_right _ (by omega)
        have h3 := HP.out
        have h4 := HN.out
        have h5 : (1152921504606846976 : Nat) < 10 ^ 99 := by decide
        omega
      have hq : k / 10 * 10 ^ (s.length + 1) ≤ n := by
        rw [Nat.pow_succ, Nat.mul_comm (10 ^ s.length) 10, ← Nat.mul_assoc]
        exact Nat.le_trans (Nat.mul_le_mul_right _ (Nat.div_mul_le_self k 10)) HP.out
      have HL := Sec.mk (And.intro hl hq)
      clear hl hq
      go_wp2
      go_roundw
      case rel => exact ⟨k / 10, (48 + UInt8.ofNat (k % 10)) :: s, by go_num, by rw [e2.out], by omega, HL.out.1, HL.out.2, by rw [HD.out, digitsL_big h, List.append_assoc]; rfl, by first | rfl | trivial⟩
      case measure => simp [intOf]; omega

/-- The text of a number of which twice the value is given (not below 0). -/
def halvesL (k : Nat) : List UInt8 := digitsL (k / 2) ++ (if k % 2 = 0 then [] else [46, 53])
/-- What figures gives: where it speaks at all. -/
def FigIs (b : Nat) (l : List UInt8) (w : World) (e : Ending) (w' : World) : Prop := ∃ (s : ByteArray) (how : Int), e = .returned (.tuple #[.string s, .int .i64 how]) ∧ w' = w ∧ s.size ≤ b ∧ (how = 0 → s = ⟨l.toArray⟩) ∧ how ≠ 1
theorem digitsL_length : ∀ (d n : Nat), n < 10 ^ (d + 1) → (digitsL n).length ≤ d + 1
  | 0, n, h => by rw [digitsL_small (by simpa using h)]; simp
  | d + 1, n, h => by
    by_cases hn : n < 10
    · rw [digitsL_small hn]; simp
    · rw [digitsL_big hn, List.length_append]
      have := digitsL_length d (n / 10) (by rw [Nat.pow_succ] at h; exact Nat.div_lt_of_lt_mul (by rw [Nat.mul_comm]; exact h))
      simp
      omega

set_option maxHeartbeats 800000 in
set_option maxRecDepth 100000 in
theorem figures_pos (k : Nat) (w : World) (hk : k ≤ 1152921504606846976) : Calls Tryz.prog 16 #[.int .i64 (k : Int)] w (FigIs 200 (halvesL k) w) := by
  have cD := fun W => digits_any (k / 2) W (by omega)
  have eD : ((k / 2 : Nat) : Int) = (k : Int) / 2 := by omega
  rw [eD] at cD
  have CD := Sec.mk cD
  have l1 : decide ((k : Int) < -1152921504606846976) = false := decide_eq_false (by omega)
  have l2 : decide (1152921504606846976 < (k : Int)) = false := decide_eq_false (by omega)
  have l3 : decide ((k : Int) < 0) = false := decide_eq_false (by omega)
  by_cases hb : k / 2 ≤ 1000000000000000
  · have l4 : decide (1000000000000000 < (k : Int) / 2) = false := decide_eq_false (by omega)
    have hl : (digitsL (k / 2)).length ≤ 18 := digitsL_length 17 (k / 2) (by omega)
    obtain ⟨L, hL⟩ : ∃ L, digitsL (k / 2) = L := ⟨_, rfl⟩
    rw [hL] at CD hl
    have HL := Sec.mk hL
    have LZ : Sec (L.length ≤ 200) := ⟨by omega⟩
    have LZ2 : Sec (L.length ≤ 18) := ⟨hl⟩
    have hsz : (ByteArray.mk L.toArray).size + (ByteArray.mk #[46, 53]).size ≤ 9223372036854775807 := by
      show L.toArray.size + 2 ≤ _
      rw [List.size_toArray]
      omega
    have hsz2 : L.length + 2 ≤ 9223372036854775807 := by omega
    by_cases ho : k % 2 = 0
    · have l5 : ((k : Int) % 2 != 0) = false := by simp; omega
      have HO := Sec.mk ho
      clear ho hb hl cD eD hL
      go_enter Tryz.func16, Tryz.ntmps16
      go_wp2_with (go_at_call 31; refine (CD.out _).mono ?_; rintro e w' ⟨rfl, rfl⟩)
      go_ret2
      exact ⟨⟨L.toArray⟩, 0, rfl, rfl, by show L.toArray.size ≤ 200; rw [List.size_toArray]; exact LZ.out, fun _ => by rw [halvesL, if_pos HO.out, List.append_nil, HL.out], by decide⟩
    · have l5 : ((k : Int) % 2 != 0) = true := by simp; omega
      have HO := Sec.mk ho
      clear ho hb hl cD eD hL
      go_enter Tryz.func16, Tryz.ntmps16
      go_wp2_with (go_at_call 31; refine (CD.out _).mono ?_; rintro e w' ⟨rfl, rfl⟩)
      go_ret2
      refine ⟨⟨L.toArray⟩ ++ ⟨#[46, 53]⟩, 0, rfl, rfl, by rw [ByteArray.size_append]; show L.toArray.size + 2 ≤ 200; rw [List.size_toArray]; have := LZ2.out; omega, fun _ => ?_, by decide⟩
      rw [halvesL, if_neg HO.out, HL.out]
      apply ByteArray.ext
      rw [ByteArray.data_append]
      apply Array.ext'
      simp
  · have l4 : decide (1000000000000000 < (k : Int) / 2) = true := decide_eq_true (by omega)
    clear hb cD eD
    go_enter Tryz.func16, Tryz.ntmps16
    go_wp2
    go_ret2
    exact ⟨⟨#[]⟩, 2, rfl, rfl, by decide, (fun h => by cases h), by decide⟩

def figL (h : Int) : List UInt8 := if h < 0 then 45 :: halvesL h.natAbs else halvesL h.natAbs

set_option maxHeartbeats 800000 in
set_option maxRecDepth 100000 in
theorem figures_any (h : Int) (w : World) (h0 : -1152921504606846976 ≤ h) (h1 : h ≤ 1152921504606846976) : Calls Tryz.prog 16 #[.int .i64 h] w (FigIs 201 (figL h) w) := by
  by_cases hn : h < 0
  · obtain ⟨k, rfl⟩ : ∃ k : Nat, h = -(k : Int) := ⟨h.natAbs, by omega⟩
    have cF := fun W => figures_pos k W (by omega)
    have CF := Sec.mk cF
    have l1 : decide (-(k : Int) < -1152921504606846976) = false := decide_eq_false (by omega)
    have l2 : decide (1152921504606846976 < -(k : Int)) = false := decide_eq_false (by omega)
    have l3 : decide (-(k : Int) < 0) = true := decide_eq_true (by omega)
    have l6 : decide (1152921504606846976 < (k : Int)) = false := decide_eq_false (by omega)
    have l7 : decide (1152921504606846976 < k) = false := decide_eq_false (by omega)
    have l4 : decide ((0 : Int) < (k : Int)) = true := decide_eq_true (by omega)
    have l5 : decide (0 < k) = true := decide_eq_true (by omega)
    have hk0 : k ≤ 1152921504606846976 := by omega
    have HF : Sec (figL (-(k : Int)) = 45 :: halvesL k) := ⟨by rw [figL, if_pos hn]; congr 2; omega⟩
    have hsm : (halvesL k).length ≤ 100 := by
      unfold halvesL
      rw [List.length_append]
      have := digitsL_length 19 (k / 2) (by omega)
      split <;> simp <;> omega
    have HSM := Sec.mk hsm
    clear cF hn h0 h1 hsm
    go_enter Tryz.func16, Tryz.ntmps16
    go_wp2_with (go_at_call 16; refine (CF.out _).mono ?_; intro e w1 hw1; obtain ⟨s, how, rfl, rfl, hz, hs⟩ := hw1; have HS := Sec.mk hs; have HZ := Sec.mk hz; have z1 : (ByteArray.mk #[45]).size + s.size ≤ 9223372036854775807 := (by show 1 + s.size ≤ _; omega); have z2 : 1 + s.size ≤ 9223372036854775807 := (by omega); clear hs hz)
    go_ret2
    refine ⟨⟨#[45]⟩ ++ s, how, rfl, rfl, by rw [ByteArray.size_append]; have := HZ.out; show 1 + s.size ≤ 201; omega, fun h => ?_, HS.out.2⟩
    rw [HF.out, HS.out.1 h]
    exact digit_append 45 (halvesL k)
  · obtain ⟨k, rfl⟩ := Int.eq_ofNat_of_zero_le (Int.not_lt.1 hn)
    have e : figL (k : Int) = halvesL k := by rw [figL, if_neg hn]; rfl
    rw [e]
    refine (figures_pos k w (by omega)).mono ?_
    rintro e w' ⟨s, how, rfl, rfl, hz, hs⟩
    exact ⟨s, how, rfl, rfl, Nat.le_succ_of_le hz, hs⟩

end Go.Proofs.YtpamlgdcnmcedaaGreatDoor
