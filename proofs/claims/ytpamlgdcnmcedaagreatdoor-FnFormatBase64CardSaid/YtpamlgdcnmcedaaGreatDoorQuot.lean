/-
  The JSON text of a string: the plain law (no program).
-/
import Derived.Test.YtpamlgdcnmcedaaGreatDoorV
namespace Go.Proofs.YtpamlgdcnmcedaaGreatDoor
set_option linter.unusedVariables false
set_option linter.unusedSimpArgs false

def hexD (n : Nat) : UInt8 := if n < 10 then 48 + UInt8.ofNat n else 87 + UInt8.ofNat n
/-- A byte within a JSON string. -/
def escL (c : UInt8) : List UInt8 :=
  if c = 34 ∨ c = 92 then [92, c] else if c = 10 then [92, 110] else if c = 9 then [92, 116] else if c = 13 then [92, 114] else if c = 8 then [92, 98] else if c = 12 then [92, 102]
  else if c < 32 then [92, 117, 48, 48, hexD (c.toNat / 16), hexD (c.toNat % 16)] else [c]
def quotL (s : List UInt8) : List UInt8 := 34 :: (s.flatMap escL ++ [34])
theorem escL_length (c : UInt8) : (escL c).length ≤ 6 := by
  unfold escL
  repeat' split
  all_goals simp
theorem esc_next {s : List UInt8} {i : Nat} {c : UInt8} (h : s[i]? = some c) : (s.take (i + 1)).flatMap escL = (s.take i).flatMap escL ++ escL c := by
  rw [List.take_add_one, h, List.flatMap_append]
  simp
theorem esc_length (s : List UInt8) : (s.flatMap escL).length ≤ 6 * s.length := by
  induction s with
  | nil => simp
  | cons c s ih =>
    rw [List.flatMap_cons, List.length_append, List.length_cons]
    have := escL_length c
    omega

end Go.Proofs.YtpamlgdcnmcedaaGreatDoor
