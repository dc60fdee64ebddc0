/-
  append of no element.
-/
import Derived.Test.YtpamlgdcnmcedaaGreatDoorSJ
import Derived.Deep.AppendLies
namespace Go.Proofs.YtpamlgdcnmcedaaGreatDoor
set_option linter.unusedVariables false
set_option linter.unusedSimpArgs false
open Go.RowKit

theorem run_append_zero {P : Program} (w : World) (t ty e : TypeId) (i : TypeInfo) (ht : P.underlying t = some (.slice e)) (hi : P.info? e = some i) (a : Addr) (m cap c : Nat) (A : Option Addr) (hm : m ≤ cap) :
    (Builtin.append_ #[t, t] ty #[.slice (some a) m cap, .slice A 0 c]).run P w = .ok (.slice (some a) m cap) w := by
  cases A with
  | none => simp [Builtin.append_, run_underlying ht, sizeOf, typeInfo, hi, Builtin.lenOf, hm, Builtin.firstCells, storeCells]
  | some b => simp [Builtin.append_, run_underlying ht, sizeOf, typeInfo, hi, Builtin.lenOf, hm, Builtin.firstCells, loadCells, loadCellsFrom, storeCells]

theorem RdL.news {w : World} {B : Nat} {ad : Addr} : ∀ (l : List V) (i0 : Nat), RdL w B (some ad) i0 l → ∃ news : List Value, news.length = l.length * 6 ∧ (∀ j u, news[j]? = some u → w.cell? (ad.add (i0 * 6 + j)) = some u) ∧ (∀ u ∈ news, u.oneCell' = true) ∧
    ∀ i x, l[i]? = some x → ∃ cs, Rd w B x cs ∧ ∀ u c, cs[u]? = some c → news[i * 6 + u]? = some c
  | [], _, _ => ⟨[], rfl, fun j u h => by simp at h, fun u h => by simp at h, fun i x h => by simp at h⟩
  | y :: ys, i0, h => by
    rw [RdL] at h
    obtain ⟨⟨ad', cs, e, _, hr, hc⟩, hrest⟩ := h
    obtain rfl := Option.some.inj e
    obtain ⟨news, h1, h2, h3, h4⟩ := RdL.news ys (i0 + 1) hrest
    obtain ⟨k, h', t, A3, n3, c3, A4, n4, c4, A5, n5, c5, rfl⟩ := hr.form
    refine ⟨[.int .i64 k, .int .i64 h', .string t, .slice A3 n3 c3, .slice A4 n4 c4, .slice A5 n5 c5] ++ news, by simp; omega, fun j u hj => ?_, fun u hu => ?_, fun i x hi => ?_⟩
    · by_cases hj6 : j < 6
      · rw [List.getElem?_append_left (by simpa using hj6)] at hj
        exact hc j u hj
      · rw [List.getElem?_append_right (by simpa using Nat.not_lt.1 hj6)] at hj
        have := h2 _ u hj
        rw [show (i0 + 1) * 6 + (j - List.length [Value.int .i64 k, .int .i64 h', .string t, .slice A3 n3 c3, .slice A4 n4 c4, .slice A5 n5 c5]) = i0 * 6 + j from by simp; omega] at this
        exact this
    · rcases List.mem_append.1 hu with hu | hu
      · simp only [List.mem_cons, List.not_mem_nil, or_false] at hu
        rcases hu with rfl | rfl | rfl | rfl | rfl | rfl <;> rfl
      · exact h3 u hu
    · cases i with
      | zero =>
        obtain rfl : y = x := by simpa using hi
        refine ⟨_, hr, fun u c hu => ?_⟩
        rw [Nat.zero_mul, Nat.zero_add, List.getElem?_append_left (List.getElem?_eq_some_iff.1 hu).1]
        exact hu
      | succ i =>
        obtain ⟨cs, g1, g2⟩ := h4 i x (by simpa using hi)
        refine ⟨cs, g1, fun u c hu => ?_⟩
        rw [List.getElem?_append_right (by simp; omega), show (i + 1) * 6 + u - List.length [Value.int .i64 k, .int .i64 h', .string t, .slice A3 n3 c3, .slice A4 n4 c4, .slice A5 n5 c5] = i * 6 + u from by simp; omega]
        exact g2 u c hu

end Go.Proofs.YtpamlgdcnmcedaaGreatDoor
