/-
  The text of bytes in base 64: plain Lean. spec.packed: the base 64 text of a string.
-/
import Derived.Test.YtpamlgdcnmcedaaGreatDoorGood
import Derived.Test.YtpamlgdcnmcedaaGreatDoorDig
import Derived.Test.YtpamlgdcnmcedaaGreatDoorLk
import Derived.Test.YtpamlgdcnmcedaaGreatDoorAny
import Derived.Deep.DeepCutAuto
import Derived.Deep.CutBlock
import Derived.Deep.CutRange
import Derived.Laws.BitsLemmas
namespace Go.Proofs.YtpamlgdcnmcedaaGreatDoor
set_option linter.unusedVariables false
set_option linter.unusedSimpArgs false

def lettersL : List UInt8 := [65, 66, 67, 68, 69, 70, 71, 72, 73, 74, 75, 76, 77, 78, 79, 80, 81, 82, 83, 84, 85, 86, 87, 88, 89, 90, 97, 98, 99, 100, 101, 102, 103, 104, 105, 106, 107, 108, 109, 110, 111, 112, 113, 114, 115, 116, 117, 118, 119, 120, 121, 122, 48, 49, 50, 51, 52, 53, 54, 55, 56, 57, 43, 47]
def letterL (n : Nat) : UInt8 := lettersL.getD n 0
/-- The four letters of 24 bits. -/
def quad (x : Nat) : List UInt8 := [letterL (x / 262144 % 64), letterL (x / 4096 % 64), letterL (x / 64 % 64), letterL (x % 64)]
def three (a b c : UInt8) : Nat := a.toNat * 65536 + b.toNat * 256 + c.toNat
def b64 : List UInt8 → List UInt8
  | [] => []
  | [a] => (quad (three a 0 0)).take 2 ++ [61, 61]
  | [a, b] => (quad (three a b 0)).take 3 ++ [61]
  | a :: b :: c :: r => quad (three a b c) ++ b64 r
theorem three_lt (a b c : UInt8) : three a b c < 16777216 := by
  have h1 := a.toNat_lt
  have h2 := b.toNat_lt
  have h3 := c.toNat_lt
  unfold three
  omega
theorem b64_len : ∀ l : List UInt8, (b64 l).length = (l.length + 2) / 3 * 4
  | [] => rfl
  | [a] => by rw [b64]; simp [quad]
  | [a, b] => by rw [b64]; simp [quad]
  | a :: b :: c :: r => by
    rw [b64, List.length_append, b64_len r]
    simp only [quad, List.length_cons, List.length_nil]
    omega

/-- The first i bytes as a number; a byte that is not there is 0. -/
def acc (l : List UInt8) : Nat → Nat
  | 0 => 0
  | i + 1 => acc l i * 256 + (l.getD i 0).toNat
theorem acc_lt (l : List UInt8) : ∀ i, acc l i < 256 ^ i
  | 0 => by simp [acc]
  | i + 1 => by
    have h1 := acc_lt l i
    have h2 := (l.getD i 0).toNat_lt
    rw [acc, Nat.pow_succ]
    omega
theorem acc_there {l : List UInt8} {i : Nat} {c : UInt8} (h : l[i]? = some c) : acc l (i + 1) = acc l i * 256 + c.toNat := by
  rw [acc, List.getD_eq_getElem?_getD, h]; rfl
theorem acc_none {l : List UInt8} {i : Nat} (h : l.length ≤ i) : acc l (i + 1) = acc l i * 256 := by
  simp [acc, List.getD_eq_getElem?_getD, List.getElem?_eq_none h]
/-- Letter i of four, of which the last 3 - k are signs =. -/
def signAt (x k i : Nat) : UInt8 := if k < i then 61 else letterL (x / 2 ^ (18 - 6 * i) % 64)
def signs (x k : Nat) : List UInt8 := [signAt x k 0, signAt x k 1, signAt x k 2, signAt x k 3]
theorem acc_three (a b c : UInt8) (r : List UInt8) : acc (a :: b :: c :: r) 3 = three a b c := by
  show (((0 * 256 + a.toNat) * 256 + b.toNat) * 256 + c.toNat) = three a b c
  unfold three; omega
theorem acc_two (a b : UInt8) : acc [a, b] 3 = three a b 0 := by
  show (((0 * 256 + a.toNat) * 256 + b.toNat) * 256 + (0 : UInt8).toNat) = three a b 0
  unfold three; omega
theorem acc_one (a : UInt8) : acc [a] 3 = three a 0 0 := by
  show (((0 * 256 + a.toNat) * 256 + (0 : UInt8).toNat) * 256 + (0 : UInt8).toNat) = three a 0 0
  unfold three; omega
theorem b64_step : ∀ l : List UInt8, l ≠ [] → b64 l = signs (acc l 3) (min l.length 3) ++ b64 (l.drop 3)
  | [], h => absurd rfl h
  | [a], _ => by
    rw [acc_one, b64]
    generalize three a 0 0 = x
    simp [signs, signAt, quad, b64]
  | [a, b], _ => by
    rw [acc_two, b64]
    generalize three a b 0 = x
    simp [signs, signAt, quad, b64]
  | a :: b :: c :: r, _ => by
    have h : min (a :: b :: c :: r).length 3 = 3 := by simp only [List.length_cons]; omega
    rw [acc_three, b64, h]
    generalize three a b c = x
    simp [signs, signAt, quad]
theorem signs_take {x k i : Nat} (h : i < 4) : (signs x k).take (i + 1) = (signs x k).take i ++ [signAt x k i] := by
  have hi : i = 0 ∨ i = 1 ∨ i = 2 ∨ i = 3 := by omega
  rcases hi with rfl | rfl | rfl | rfl <;> rfl
def lettersB : ByteArray := ⟨lettersL.toArray⟩
theorem letter_one {d : Nat} (h : d < 64) : lettersB.extract d (d + 1) = ⟨#[letterL d]⟩ := by
  have h0 : d < lettersL.length := h
  apply ByteArray.ext
  apply Array.ext'
  rw [ByteArray.data_extract, Array.toList_extract]
  show (lettersL.drop d).take (d + 1 - d) = [lettersL.getD d 0]
  rw [show d + 1 - d = 1 from by omega, List.drop_eq_getElem_cons h0, List.getD_eq_getElem?_getD, List.getElem?_eq_getElem h0]
  rfl

end Go.Proofs.YtpamlgdcnmcedaaGreatDoor

namespace Go.Proofs.YtpamlgdcnmcedaaGreatDoor
set_option linter.unusedVariables false
set_option linter.unusedSimpArgs false
open Go.RowKit

theorem wraps_i64 (n : Int) (h₀ : 0 ≤ n) (h₁ : n < 2 ^ 63) : IntKind.i64.wrap n = n := by rw [IntKind.wrap_i64]; omega
theorem and63 (x : Int) (h0 : 0 ≤ x) (h1 : x < 9223372036854775808) : bits .and .i64 x 63 = x % 64 := bits_mask .i64 63 (by decide) wraps_i64 6 (by decide) x h0 h1

theorem signs_letter {o o' : ByteArray} {X k i D : Nat} (h : o'.data.toList = o.data.toList ++ (signs X k).take i) (hD : X / 2 ^ (18 - 6 * i) % 64 = D) (hD64 : D < 64) (hi : i < 4) (hk : ¬ k < i) :
    (o' ++ lettersB.extract D (D + 1)).data.toList = o.data.toList ++ (signs X k).take (i + 1) := by
  rw [ByteArray.data_append, Array.toList_append, h, letter_one hD64, signs_take hi, List.append_assoc]
  unfold signAt
  rw [if_neg hk, hD]
theorem signs_sign {o o' : ByteArray} {X k i : Nat} (h : o'.data.toList = o.data.toList ++ (signs X k).take i) (hi : i < 4) (hk : k < i) :
    (o' ++ ⟨#[61]⟩).data.toList = o.data.toList ++ (signs X k).take (i + 1) := by
  rw [ByteArray.data_append, Array.toList_append, h, signs_take hi, List.append_assoc]
  unfold signAt
  rw [if_pos hk]
def strSize : Value → Nat
  | .string s => s.size
  | _ => 0
/-- The text made so far, and what is left. -/
def PkL (s0 : ByteArray) (o s : ByteArray) : Prop := o.data.toList ++ b64 s.data.toList = b64 s0.data.toList ∧ s.size ≤ s0.size

set_option maxHeartbeats 3200000 in
set_option maxRecDepth 100000 in
theorem packed_any (s : ByteArray) (w : World) (hs : s.size ≤ 100000000) : Calls Tryz.prog 38 #[.string s] w fun e w' => e = .returned (.string ⟨(b64 s.data.toList).toArray⟩) ∧ w' = w := by
  have HS := Sec.mk hs
  obtain ⟨W, hW⟩ : ∃ W, w = W := ⟨w, rfl⟩
  clear hs
  go_enter Tryz.func38, Tryz.ntmps38
  go_wp2_with fail
  go_loopw [0, 3, 4, 5, 6, 7, 8] (fun v0 v3 _ _ _ _ _ wr => ∃ (s' o : ByteArray), v0 = .string s' ∧ v3 = .string o ∧ PkL s o s' ∧ wr = w) (fun v0 _ _ _ _ _ _ _ => strSize v0)
  case atStart => exact ⟨s, _, rfl, rfl, ⟨rfl, Nat.le_refl _⟩, rfl⟩
  case round =>
    obtain ⟨s', o, rfl, rfl, hl, rfl⟩ := hrel
    obtain ⟨n, hn⟩ : ∃ n, s'.size = n := ⟨_, rfl⟩
    have hoz : o.size + (n + 2) / 3 * 4 = (s.size + 2) / 3 * 4 := by
      have h1 := congrArg List.length hl.1
      rw [List.length_append, b64_len, b64_len, show o.data.toList.length = o.size from Array.length_toList, show s'.data.toList.length = s'.size from Array.length_toList, show s.data.toList.length = s.size from Array.length_toList, hn] at h1
      exact h1
    have hsz := HS.out
    have hn1 : n ≤ 100000000 := by have := hl.2; omega
    have HL := Sec.mk hl
    have HN := Sec.mk hn
    have HOZ := Sec.mk hoz
    clear hl hW
    by_cases h0 : n = 0
    · have hsv : s'.data.toList = [] := List.length_eq_zero_iff.1 (by rw [show s'.data.toList.length = s'.size from Array.length_toList, hn, h0])
      have ho : o.data.toList = b64 s.data.toList := by have := HL.out.1; rw [hsv, b64, List.append_nil] at this; exact this
      have HO := Sec.mk ho
      have g1 : decide ((0 : Int) < (n : Int)) = false := decide_eq_false (by omega)
      have g2 : decide (0 < n) = false := decide_eq_false (by omega)
      clear hsv ho h0 hoz hsz hn1 HN
      go_wp2_with fail
      go_ret
      exact ⟨by rw [← HO.out]; rfl, rfl⟩
    · have H0 := Sec.mk h0
      obtain ⟨k, hk⟩ : ∃ k, min n 3 = k := ⟨_, rfl⟩
      have hmin : min (n : Int) 3 = (k : Int) := by omega
      have hk3 : k ≤ 3 := by omega
      have hkn : k ≤ n := by omega
      have hk0 : 0 < k := by omega
      have g1 : decide ((0 : Int) < (n : Int)) = true := decide_eq_true (by omega)
      have g2 : decide (0 < n) = true := decide_eq_true (by omega)
      have HK := Sec.mk hk
      clear h0 hoz hsz hk
      go_wp2_with fail
      go_loopw [5, 6] (fun v5 v6 wx => ∃ i : Nat, v6 = .int .i64 (i : Int) ∧ i ≤ 3 ∧ v5 = .int .i64 ((acc s'.data.toList i : Nat) : Int) ∧ wx = wr) (fun _ v6 _ => 3 - (intOf v6).toNat)
      case atStart => exact ⟨0, rfl, by omega, rfl, rfl⟩
      case round =>
        obtain ⟨i, rfl, hi, rfl, rfl⟩ := hrel
        by_cases hi3 : i < 3
        · obtain ⟨X, hX⟩ : ∃ X, acc s'.data.toList i = X := ⟨_, rfl⟩
          have hXb : X < 65536 := by
            rw [← hX]
            have h1 := acc_lt s'.data.toList i
            have h2 : (256 : Nat) ^ i ≤ 256 ^ 2 := Nat.pow_le_pow_right (by decide) (by omega)
            omega
          rw [hX]
          have HX := Sec.mk hX
          have x1 : -9223372036854775808 ≤ (X : Int) * 256 := by omega
          have x2 : (X : Int) * 256 ≤ 9223372036854775807 := by omega
          by_cases hik : i < k
          · obtain ⟨c, hc⟩ : ∃ c, s'.data.toList[i]? = some c := ⟨_, List.getElem?_eq_getElem (by rw [show s'.data.toList.length = s'.size from Array.length_toList, hn]; omega)⟩
            have hix : ∀ W : World, (Instr.index 9 (.string s') (.int .i64 (i : Int))).run Tryz.prog W = .ok (.int .u8 (c.toNat : Int)) W := fun W => by
              obtain ⟨hlt, e⟩ := List.getElem?_eq_some_iff.1 hc
              rw [Array.length_toList] at hlt
              have hlt' : i < s'.size := hlt
              rw [run_index_string W 9 s' .i64 (i : Int) Tryz.underlying9, dif_pos ⟨by omega, by omega⟩]
              rw [Array.getElem_toList] at e
              congr 4
            have HC := Sec.mk hc
            have hcb := c.toNat_lt
            obtain ⟨C, hC⟩ : ∃ C, c.toNat = C := ⟨_, rfl⟩
            rw [hC] at hix hcb
            have HCC := Sec.mk hC
            clear hX hc hC
            go_wp2_with fail
            go_roundw
            case rel => exact ⟨i + 1, by go_num, by omega, by rw [acc_there HC.out, HX.out, HCC.out]; go_num, by trivial⟩
            case measure => simp [intOf]; omega
          · have HNK := Sec.mk hik
            clear hX
            go_wp2_with fail
            go_roundw
            case rel => exact ⟨i + 1, by go_num, by omega, by rw [acc_none (by rw [show s'.data.toList.length = s'.size from Array.length_toList, HN.out]; have := HNK.out; have := HK.out; omega), HX.out]; go_num, by trivial⟩
            case measure => simp [intOf]; omega
        · obtain rfl : i = 3 := by omega
          obtain ⟨X, hX⟩ : ∃ X, acc s'.data.toList 3 = X := ⟨_, rfl⟩
          have hXb : X < 16777216 := by
            rw [← hX]
            exact acc_lt s'.data.toList 3
          rw [hX]
          have HX := Sec.mk hX
          clear hX hi hi3
          go_wp2_with fail
          go_loopw [3, 7, 8] (fun v3 v7 _ wx => ∃ (i : Nat) (o' : ByteArray), v7 = .int .i64 (i : Int) ∧ i ≤ 4 ∧ v3 = .string o' ∧ o'.data.toList = o.data.toList ++ (signs X k).take i ∧ wx = wr) (fun _ v7 _ _ => 4 - (intOf v7).toNat)
          case atStart => exact ⟨0, o, rfl, by omega, rfl, by simp, rfl⟩
          case round =>
            obtain ⟨i, o', rfl, hi, rfl, ho', rfl⟩ := hrel
            have HO' := Sec.mk ho'
            have hoz' : o'.size + 4 ≤ 9223372036854775807 := by
              have h1 := congrArg List.length ho'
              rw [show o'.data.toList.length = o'.size from Array.length_toList, List.length_append, show o.data.toList.length = o.size from Array.length_toList, List.length_take] at h1
              have := HOZ.out
              have := HS.out
              omega
            have hoz1 : o'.size + 1 ≤ 9223372036854775807 := by omega
            clear ho'
            by_cases hi4 : i < 4
            · have hia : i = 0 ∨ i = 1 ∨ i = 2 ∨ i = 3 := by omega
              obtain ⟨D, hD⟩ : ∃ D, X / 2 ^ (18 - 6 * i) % 64 = D := ⟨_, rfl⟩
              have hD64 : D < 64 := by omega
              have a0 : bits .and .i64 ((X : Int) / 262144) 63 = ((X : Int) / 262144) % 64 := and63 _ (by omega) (by omega)
              have a1 : bits .and .i64 ((X : Int) / 4096) 63 = ((X : Int) / 4096) % 64 := and63 _ (by omega) (by omega)
              have a2 : bits .and .i64 ((X : Int) / 64) 63 = ((X : Int) / 64) % 64 := and63 _ (by omega) (by omega)
              have a3 : bits .and .i64 (X : Int) 63 = (X : Int) % 64 := and63 _ (by omega) (by omega)
              have HD := Sec.mk hD
              have HD64 := Sec.mk hD64
              rcases hia with rfl | rfl | rfl | rfl
              · have HKK : Sec (0 < k) := ⟨hk0⟩
                go_wp2_with fail
                go_roundw
                case rel => exact ⟨1, _, rfl, by omega, rfl, signs_letter HO'.out HD.out HD64.out (by omega) (by have := HKK.out; omega), by trivial⟩
                case measure => simp [intOf]
              · have HKK : Sec (0 < k) := ⟨hk0⟩
                go_wp2_with fail
                go_roundw
                case rel => exact ⟨2, _, rfl, by omega, rfl, signs_letter HO'.out HD.out HD64.out (by omega) (by have := HKK.out; omega), by trivial⟩
                case measure => simp [intOf]
              · by_cases hki : k < 2
                · have HKK := Sec.mk hki
                  go_wp2_with fail
                  go_roundw
                  case rel => exact ⟨3, _, rfl, by omega, rfl, signs_sign HO'.out (by omega) (by have := HKK.out; omega), by trivial⟩
                  case measure => simp [intOf]
                · have HKK := Sec.mk hki
                  go_wp2_with fail
                  go_roundw
                  case rel => exact ⟨3, _, rfl, by omega, rfl, signs_letter HO'.out HD.out HD64.out (by omega) (by have := HKK.out; omega), by trivial⟩
                  case measure => simp [intOf]
              · by_cases hki : k < 3
                · have HKK := Sec.mk hki
                  go_wp2_with fail
                  go_roundw
                  case rel => exact ⟨4, _, rfl, by omega, rfl, signs_sign HO'.out (by omega) (by have := HKK.out; omega), by trivial⟩
                  case measure => simp [intOf]
                · have HKK := Sec.mk hki
                  go_wp2_with fail
                  go_roundw
                  case rel => exact ⟨4, _, rfl, by omega, rfl, signs_letter (D := X % 64) HO'.out (by simp) (by omega) (by omega) (by have := HKK.out; omega), by trivial⟩
                  case measure => simp [intOf]
            · obtain rfl : i = 4 := by omega
              have hne : s'.data.toList ≠ [] := fun e => by have h1 := congrArg List.length e; rw [show s'.data.toList.length = s'.size from Array.length_toList, hn] at h1; simp at h1; omega
              have hst := b64_step s'.data.toList hne
              rw [HX.out, show s'.data.toList.length = s'.size from Array.length_toList, HN.out, HK.out] at hst
              have hcut : b64 (s'.extract k n).data.toList = b64 (s'.data.toList.drop 3) := by
                rw [Lib.extract_eq]
                show b64 ((s'.data.toList.drop k).take (n - k)) = _
                rw [List.take_of_length_le (by rw [List.length_drop, show s'.data.toList.length = s'.size from Array.length_toList, HN.out]; exact Nat.le_refl _)]
                by_cases h3 : 3 ≤ n
                · rw [show k = 3 from by have := HK.out; omega]
                · rw [List.drop_of_length_le (by rw [show s'.data.toList.length = s'.size from Array.length_toList, HN.out]; have := HK.out; omega), List.drop_of_length_le (by rw [show s'.data.toList.length = s'.size from Array.length_toList, HN.out]; omega)]
              have hfin : PkL s o' (s'.extract k n) := by
                refine ⟨?_, ?_⟩
                · rw [HO'.out, hcut, List.append_assoc]
                  have e4 : (signs X k).take 4 = signs X k := rfl
                  rw [e4, ← hst]
                  exact HL.out.1
                · have := HL.out.2
                  rw [ByteArray.size_extract]
                  omega
              have hszx : (s'.extract k n).size < s'.size := by rw [ByteArray.size_extract]; omega
              have FIN := Sec.mk (And.intro hfin hszx)
              have l1 : (0 : Int) ≤ (k : Int) := by omega
              have l2 : (k : Int) ≤ (n : Int) := by omega
              clear hne hst hcut hfin hszx hoz' hoz1
              go_wp2_with fail
              go_roundw
              case rel => exact ⟨_, o', rfl, rfl, FIN.out.1, by trivial⟩
              case measure => exact FIN.out.2

end Go.Proofs.YtpamlgdcnmcedaaGreatDoor
