/-
  gojq.zzIndex: the first place of a text in another one, or -1 (texts of at most 4096 bytes, the sought one not empty).
-/
import Derived.Test.YtpamlgdcnmcedaaDoorBegins
import Derived.Test.YtpamlgdcnmcedaaDoorCuts
namespace Go.Proofs.YtpamlgdcnmcedaaDoor
set_option linter.unusedVariables false
set_option linter.unusedSimpArgs false
open Go.RowKit

/-- What zzIndex answers. -/
def IndexIs (s t : ByteArray) (w : World) (e : Ending) (w' : World) : Prop :=
  w' = w ∧ ((e = .returned (.int .i64 (-1)) ∧ ∀ i, i < s.data.toList.length → Lib.hasPrefix (s.data.toList.drop i) t.data.toList = false) ∨ ∃ i : Nat, e = .returned (.int .i64 (i : Int)) ∧ FirstAt s.data.toList t.data.toList i)

theorem extract_eq (s t : ByteArray) (i : Nat) (h : i + t.size ≤ s.size) : ((s.extract i (i + t.size)).toList == t.toList) = Lib.hasPrefix (s.data.toList.drop i) t.data.toList := by
  rw [Lib.toList_data, Lib.toList_data, ← prefix_take]
  congr 1
  simp only [ByteArray.data_extract, Array.toList_extract, List.extract, Array.length_toList]
  congr 1
  show i + t.data.size - i = t.data.size
  omega

set_option maxHeartbeats 800000 in
set_option maxRecDepth 100000 in
theorem zzIndex_any (s t : ByteArray) (w : World) (hs : s.size ≤ 4096) (ht : t.size ≤ 4096) (h0 : 0 < t.size) :
    Calls Tryd.prog 71 #[.string s, .string t] w (IndexIs s t w) := by
  have HS := Sec.mk (And.intro hs (And.intro ht h0))
  clear hs ht h0
  go_enter Tryd.func71, Tryd.ntmps71
  go_wp2_with fail
  go_loopw [5] (fun v5 wr => ∃ i : Nat, v5 = .int .i64 i ∧ i ≤ s.size ∧ wr = w ∧ ∀ j, j < i → Lib.hasPrefix (s.data.toList.drop j) t.data.toList = false) (fun v5 _ => s.size + 1 - (intOf v5).toNat)
  case atStart => exact ⟨0, rfl, Nat.zero_le _, rfl, fun j hj => by omega⟩
  case round =>
    obtain ⟨i, rfl, hi, rfl, hno⟩ := hrel
    have HN := Sec.mk hno
    have hs := HS.out.1
    have ht := HS.out.2.1
    have h0 := HS.out.2.2
    clear hno
    by_cases hin : i + t.size ≤ s.size
    · have d1 : decide ((i : Int) + t.size ≤ s.size) = true := decide_eq_true (by omega)
      have hx := extract_eq s t i hin
      cases hm : Lib.hasPrefix (s.data.toList.drop i) t.data.toList
      · rw [hm] at hx
        have HM := Sec.mk hm
        clear hm
        go_wp2
        go_roundw
        case rel => exact ⟨i + 1, by go_num, by omega, by first | rfl | trivial, fun j hj => by
          by_cases e : j = i
          · subst e; exact HM.out
          · exact HN.out j (by omega)⟩
        case measure => simp [intOf]; omega
      · rw [hm] at hx
        have HM := Sec.mk hm
        clear hm
        go_wp2
        go_ret
        exact ⟨rfl, .inr ⟨i, rfl, by show i + t.data.toList.length ≤ s.data.toList.length; rw [Array.length_toList, Array.length_toList]; exact hin, HM.out, HN.out⟩⟩
    · have d1 : decide ((i : Int) + t.size ≤ s.size) = false := decide_eq_false (by omega)
      go_wp2
      go_ret
      refine ⟨rfl, .inl ⟨rfl, fun j hj => ?_⟩⟩
      by_cases e : j < i
      · exact HN.out j e
      · refine hasPrefix_short _ _ ?_
        rw [List.length_drop]
        rw [Array.length_toList] at hj ⊢
        rw [Array.length_toList]
        show s.size - j < t.size
        omega

end Go.Proofs.YtpamlgdcnmcedaaDoor
