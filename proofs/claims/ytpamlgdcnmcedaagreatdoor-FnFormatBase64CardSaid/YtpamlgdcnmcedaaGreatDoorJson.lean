/-
  The JSON text of a value as gojq writes it: plain Lean.
-/
import Derived.Test.YtpamlgdcnmcedaaGreatDoorQuotE
import Derived.Test.YtpamlgdcnmcedaaGreatDoorGood
import Derived.Test.YtpamlgdcnmcedaaGreatDoorApp
import Derived.Test.YtpamlgdcnmcedaaGreatDoorDig
namespace Go.Proofs.YtpamlgdcnmcedaaGreatDoor
set_option linter.unusedVariables false
set_option linter.unusedSimpArgs false

/-- Texts with commas between. -/
def joined : List (List UInt8) → List UInt8
  | [] => []
  | x :: r => x ++ r.flatMap (fun y => 44 :: y)
theorem joined_snoc (r : List (List UInt8)) (y : List UInt8) : joined (r ++ [y]) = joined r ++ (if r = [] then y else 44 :: y) := by
  cases r with
  | nil => simp [joined]
  | cons x r => simp [joined]
theorem joined_first {r : List (List UInt8)} {y : List UInt8} (h : r = []) : joined (r ++ [y]) = joined r ++ y := by rw [joined_snoc, if_pos h]
theorem joined_next {r : List (List UInt8)} {y : List UInt8} (h : r ≠ []) : joined (r ++ [y]) = (joined r ++ [44]) ++ y := by rw [joined_snoc, if_neg h]; simp
/-- What the texts and their commas take. -/
def total (r : List (List UInt8)) : Nat := (r.map fun x => x.length + 1).sum
theorem joined_len (r : List (List UInt8)) : (joined r).length ≤ total r := by
  cases r with
  | nil => simp [joined]
  | cons x r =>
    have h : ∀ r : List (List UInt8), (r.flatMap (fun y => 44 :: y)).length = total r := by
      intro r
      induction r with
      | nil => rfl
      | cons y r ih => rw [List.flatMap_cons, List.length_append, ih]; simp [total]
    rw [joined, List.length_append, h]
    simp [total]

mutual
def json : V → List UInt8
  | .mk k h t l ks vs => if k = 0 then [110, 117, 108, 108] else if k = 1 then [102, 97, 108, 115, 101] else if k = 2 then [116, 114, 117, 101] else if k = 3 then figL h
    else if k = 4 then quotE t.data.toList else if k = 5 then 91 :: (joined (jsonL l) ++ [93]) else 123 :: (joined (jsonM ks vs) ++ [125])
def jsonL : List V → List (List UInt8)
  | [] => []
  | x :: xs => json x :: jsonL xs
def jsonM (ks : List ByteArray) : List V → List (List UInt8)
  | [] => []
  | x :: xs => match ks with
    | [] => []
    | k :: ks => (quotE k.data.toList ++ 58 :: json x) :: jsonM ks xs
end
theorem jsonL_map : ∀ l : List V, jsonL l = l.map json
  | [] => by rw [jsonL]; rfl
  | x :: xs => by rw [jsonL, jsonL_map xs]; rfl
def entry (k : ByteArray) (x : V) : List UInt8 := quotE k.data.toList ++ 58 :: json x
theorem jsonM_zip : ∀ (vs : List V) (ks : List ByteArray), jsonM ks vs = List.zipWith entry ks vs
  | [], ks => by rw [jsonM]; simp
  | x :: xs, [] => by rw [jsonM]; simp
  | x :: xs, k :: ks => by rw [jsonM, jsonM_zip xs ks]; rfl

theorem figL_len {h : Int} (hb : okB h) : (figL h).length ≤ 30 := by
  unfold figL halvesL
  have := digitsL_length 17 (h.natAbs / 2) (by unfold okB at hb; omega)
  split <;> split <;> simp <;> omega
theorem figL_even {h : Int} (e : h.tmod 2 = 0) : figL h = intL (h.tdiv 2) := by
  have h2 : h = 2 * h.tdiv 2 := by have := Int.tmod_add_mul_tdiv h 2; omega
  have h3 : h.natAbs = 2 * (h.tdiv 2).natAbs := by omega
  have h4 : halvesL h.natAbs = digitsL (h.tdiv 2).natAbs := by
    unfold halvesL
    rw [h3, if_pos (Nat.mul_mod_right ..), List.append_nil, Nat.mul_div_cancel_left _ (by omega)]
  unfold figL intL
  rw [h4]
  by_cases hn : h < 0
  · rw [if_pos hn, if_pos (by omega)]
  · rw [if_neg hn, if_neg (by omega)]
theorem quotE_len (s : ByteArray) : (quotE s.data.toList).length ≤ 6 * s.size + 2 := by
  have := escE_len s.data.toList
  rw [show s.data.toList.length = s.size from Array.length_toList] at this
  unfold quotE
  rw [List.length_cons, List.length_append, List.length_singleton]
  omega

mutual
theorem json_len : ∀ x : V, x.good → (json x).length + 10 ≤ 40 * x.cnt + 6 * x.nb
  | .mk k h t l ks vs, hg => by
    rw [V.good] at hg
    obtain ⟨_, g2, _, g4, _, _, g7⟩ := hg
    have h1 := jsonL_len l g4
    have h2 := jsonM_len vs ks g7
    have h3 := joined_len (jsonL l)
    have h4 := joined_len (jsonM ks vs)
    have h5 := figL_len g2
    have h6 := quotE_len t
    rw [json, V.cnt, V.nb]
    repeat' split
    all_goals
      first | omega | (simp only [List.length_cons, List.length_nil, List.length_append]; omega)
theorem jsonL_len : ∀ l : List V, V.goodL l → total (jsonL l) ≤ 40 * V.cntL l + 6 * V.nbL l
  | [], _ => by rw [jsonL]; simp [total]
  | x :: xs, hg => by
    rw [V.goodL] at hg
    have h1 := json_len x hg.1
    have h2 := jsonL_len xs hg.2
    rw [jsonL, V.cntL, V.nbL]
    unfold total at h2 ⊢
    rw [List.map_cons, List.sum_cons]
    omega
theorem jsonM_len : ∀ (l : List V) (ks : List ByteArray), V.goodL l → total (jsonM ks l) ≤ 40 * V.cntL l + 6 * (V.nbS ks + V.nbL l)
  | [], ks, _ => by rw [jsonM]; simp [total]
  | x :: xs, [], _ => by rw [jsonM]; simp [total]
  | x :: xs, k :: ks, hg => by
    rw [V.goodL] at hg
    have h1 := json_len x hg.1
    have h2 := jsonM_len xs ks hg.2
    have h3 := quotE_len k
    rw [jsonM, V.cntL, V.nbL]
    unfold V.nbS at h2 ⊢
    unfold total at h2 ⊢
    rw [List.map_cons, List.sum_cons, List.map_cons, List.sum_cons, List.length_append, List.length_cons]
    omega
end
theorem total_append (a b : List (List UInt8)) : total (a ++ b) = total a + total b := by simp [total]
/-- The first i texts and the one behind them. -/
theorem total_take {r : List (List UInt8)} {i : Nat} {x : List UInt8} (h : r[i]? = some x) : total (r.take i) + x.length + 1 ≤ total r := by
  have h1 : r.take (i + 1) = r.take i ++ [x] := by rw [List.take_add_one, h]; rfl
  have h2 : r = r.take (i + 1) ++ r.drop (i + 1) := (List.take_append_drop _ _).symm
  have h3 : total r = total (r.take (i + 1)) + total (r.drop (i + 1)) := by conv => lhs; rw [h2]; rw [total_append]
  have h4 : total [x] = x.length + 1 := by simp [total]
  rw [h3, h1, total_append, h4]
  omega

end Go.Proofs.YtpamlgdcnmcedaaGreatDoor
