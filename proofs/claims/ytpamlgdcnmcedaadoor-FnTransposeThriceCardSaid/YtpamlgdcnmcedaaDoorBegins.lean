/-
  laws.begins and laws.ends: the two guarded slices of strings.
-/
import Derived.Test.YtpamlgdcnmcedaaDoorSw
namespace Go.Proofs.YtpamlgdcnmcedaaDoor
set_option linter.unusedVariables false
set_option linter.unusedSimpArgs false
open Go.RowKit

theorem prefix_take (s p : List UInt8) : (s.take p.length == p) = Lib.hasPrefix s p := by
  unfold Lib.hasPrefix
  rw [Bool.eq_iff_iff, List.isPrefixOf_iff_prefix, List.prefix_iff_eq_take, beq_iff_eq]
  exact eq_comm
theorem suffix_drop (s p : List UInt8) : (s.drop (s.length - p.length) == p) = Lib.hasSuffix s p := by
  unfold Lib.hasSuffix
  rw [Bool.eq_iff_iff, List.isSuffixOf_iff_suffix, List.suffix_iff_eq_drop, beq_iff_eq]
  exact eq_comm
theorem prefix_long (s p : List UInt8) (h : ¬ p.length ≤ s.length) : Lib.hasPrefix s p = false := by
  unfold Lib.hasPrefix
  rw [Bool.eq_false_iff]
  intro e
  exact h (List.IsPrefix.length_le (List.isPrefixOf_iff_prefix.1 e))
theorem suffix_long (s p : List UInt8) (h : ¬ p.length ≤ s.length) : Lib.hasSuffix s p = false := by
  unfold Lib.hasSuffix
  rw [Bool.eq_false_iff]
  intro e
  exact h (List.IsSuffix.length_le (List.isSuffixOf_iff_suffix.1 e))

set_option maxHeartbeats 400000 in
set_option maxRecDepth 100000 in
theorem begins_any (s t : ByteArray) (w : World) (hs : s.size ≤ 4096) (ht : t.size ≤ 4096) :
    Calls Tryd.prog 21 #[.string s, .string t] w fun e w' => e = .returned (.bool (Lib.hasPrefix s.data.toList t.data.toList)) ∧ w' = w := by
  by_cases h : t.size ≤ s.size
  · have d1 : decide ((t.size : Int) ≤ s.size) = true := decide_eq_true (by omega)
    have d2 : decide (t.size ≤ s.size) = true := decide_eq_true h
    have hp : ((s.extract 0 t.size).toList == t.toList) = Lib.hasPrefix s.data.toList t.data.toList := by
      rw [Lib.toList_data, Lib.toList_data, ← prefix_take]
      congr 1
      simp [ByteArray.data_extract, List.extract]
    have HP := Sec.mk hp
    clear hp
    go_enter Tryd.func21, Tryd.ntmps21
    go_wp2
    go_ret
    exact ⟨by rw [← HP.out]; rfl, rfl⟩
  · have d1 : decide ((t.size : Int) ≤ s.size) = false := decide_eq_false (by omega)
    have d2 : decide (t.size ≤ s.size) = false := decide_eq_false h
    have HP := Sec.mk (prefix_long s.data.toList t.data.toList h)
    go_enter Tryd.func21, Tryd.ntmps21
    go_wp2
    go_ret
    exact ⟨by rw [HP.out]; rfl, rfl⟩

set_option maxHeartbeats 400000 in
set_option maxRecDepth 100000 in
theorem ends_any (s t : ByteArray) (w : World) (hs : s.size ≤ 4096) (ht : t.size ≤ 4096) :
    Calls Tryd.prog 22 #[.string s, .string t] w fun e w' => e = .returned (.bool (Lib.hasSuffix s.data.toList t.data.toList)) ∧ w' = w := by
  by_cases h : t.size ≤ s.size
  · have d1 : decide ((t.size : Int) ≤ s.size) = true := decide_eq_true (by omega)
    have d2 : decide (t.size ≤ s.size) = true := decide_eq_true h
    have d3 : wrap64 ((s.size : Int) - (t.size : Int)) = ((s.size - t.size : Nat) : Int) := by unfold wrap64; omega
    have hp : ((s.extract (s.size - t.size) s.size).toList == t.toList) = Lib.hasSuffix s.data.toList t.data.toList := by
      rw [Lib.toList_data, Lib.toList_data, ← suffix_drop]
      congr 1
      simp only [ByteArray.data_extract, Array.toList_extract, List.extract, Array.length_toList]
      exact List.take_of_length_le (by rw [List.length_drop, Array.length_toList]; exact Nat.le_refl _)
    have HP := Sec.mk hp
    clear hp
    go_enter Tryd.func22, Tryd.ntmps22
    go_wp2
    go_ret
    exact ⟨by rw [← HP.out]; rfl, rfl⟩
  · have d1 : decide ((t.size : Int) ≤ s.size) = false := decide_eq_false (by omega)
    have d2 : decide (t.size ≤ s.size) = false := decide_eq_false h
    have HP := Sec.mk (suffix_long s.data.toList t.data.toList h)
    go_enter Tryd.func22, Tryd.ntmps22
    go_wp2
    go_ret
    exact ⟨by rw [HP.out]; rfl, rfl⟩

end Go.Proofs.YtpamlgdcnmcedaaDoor
