/-
  laws.fine: true only where every value fits and its text is short.
-/
import Derived.Test.YtpamlgdcnmcedaaGreatDoorFit
import Derived.OwnWalk
import Derived.Test.YtpamlgdcnmcedaaGreatDoorNum
namespace Go.Proofs.YtpamlgdcnmcedaaGreatDoor
set_option linter.unusedVariables false
set_option linter.unusedSimpArgs false
open Go.RowKit

def V.text : V → ByteArray
  | .mk _ _ t _ _ _ => t
/-- What laws.fine asks of a value. -/
def Fine (x : V) : Prop := Fits x ∧ x.text.size ≤ 4096

set_option maxHeartbeats 1600000 in
set_option maxRecDepth 100000 in
theorem fine_any (VS : ValidSaid) (l : List V) (A : Option Addr) (n c B : Nat) (w : World) (hn : l.length = n) (hz : n ≤ 1000000) (h1 : RdL w B A 0 l) (hT : Tabs w) (hB2 : 2 ≤ B) (hB : B ≤ w.heap.size) :
    Calls Tryz.prog 9 #[.slice A n c] w (TellsB w (∀ (j : Nat) (x : V), l[j]? = some x → Fine x)) := by
  have HN := Sec.mk hn
  have H1 := Sec.mk h1
  have HB := Sec.mk hB
  have HB2 := Sec.mk hB2
  have HT := Sec.mk hT
  clear hn h1 hB hB2 hT
  go_enter Tryz.func9, Tryz.ntmps9
  go_wp2_with fail
  go_loopw [3] (fun v3 wr => ∃ i : Nat, v3 = .int .i64 i ∧ i ≤ n ∧ Below w.heap.size w wr ∧ ∀ (j : Nat) (x : V), j < i → l[j]? = some x → Fine x) (fun v3 _ => n - (intOf v3).toNat)
  case atStart => exact ⟨0, rfl, Nat.zero_le _, Below.refl _ _, fun j x hj => by omega⟩
  case round =>
    obtain ⟨i, rfl, hi, hb, hd⟩ := hrel
    have BL := Sec.mk hb
    have HD := Sec.mk hd
    clear hb hd
    by_cases hin : i < n
    · obtain ⟨x, hx⟩ : ∃ x, l[i]? = some x := ⟨l[i]'(by rw [HN.out]; exact hin), by rw [List.getElem?_eq_getElem]⟩
      have hsm := (Same.of_below BL.out).mono HB.out
      obtain ⟨ad, k', h', t', A3', n3', c3', A4', n4', c4', A5', n5', c5', e1, hr1, a0, a1, a2, a3, a4, a5⟩ := RdL.cells (RdL.same hsm l A 0 H1.out) hx
      subst e1
      have cF := fit_any VS x _ wr B hr1 (HT.out.same (Same.of_below BL.out) (Nat.le_trans HB2.out HB.out)) HB2.out (Nat.le_trans HB.out BL.out.size)
      have htx : x.text = t' := by
        cases x with | mk k h t l' ks vs =>
        rw [Rd] at hr1
        obtain ⟨_, _, _, _, _, _, e, _⟩ := hr1
        simp only [List.cons.injEq, Value.string.injEq] at e
        exact e.2.2.1.symm
      have CF := Sec.mk cF
      have HX := Sec.mk hx
      have HTX := Sec.mk htx
      clear hx hsm hr1 cF htx
      by_cases hl : t'.size ≤ 4096
      · have d1 : decide ((4096 : Int) < t'.size) = false := decide_eq_false (by omega)
        have d2 : decide (4096 < t'.size) = false := decide_eq_false (by omega)
        have HL := Sec.mk hl
        clear hl
        go_wp2_with fail
        refine CF.out.mono ?_
        intro e w1 hw1
        obtain ⟨b, rfl, hf, hb1⟩ := hw1
        have HB1 := Sec.mk hb1
        have HF := Sec.mk hf
        clear hb1 hf
        cases b
        · go_wp2
          go_ret
          exact ⟨false, rfl, (fun h => by cases h), below_then BL.out HB1.out⟩
        · have fin : Below w.heap.size w w1 ∧ ∀ (j : Nat) (x : V), j < i + 1 → l[j]? = some x → Fine x := by
            refine ⟨below_then BL.out HB1.out, fun j y hj hy => ?_⟩
            by_cases hji : j = i
            · subst hji
              have e : y = x := by have := HX.out; rw [hy] at this; injection this
              subst e
              exact ⟨HF.out rfl, by rw [HTX.out]; exact HL.out⟩
            · exact HD.out j y (by omega) hy
          have FIN := Sec.mk fin
          clear fin
          go_wp2
          go_roundw
          case rel => exact ⟨i + 1, by go_num, by omega, FIN.out⟩
          case measure => simp [intOf]; omega
      · have d1 : decide ((4096 : Int) < t'.size) = true := decide_eq_true (by omega)
        have d2 : decide (4096 < t'.size) = true := decide_eq_true (by omega)
        clear hl
        go_wp2
        go_ret
        exact ⟨false, rfl, (fun h => by cases h), BL.out⟩
    · go_wp2
      go_ret
      exact ⟨true, rfl, fun _ j x hx => HD.out j x (by have := (List.getElem?_eq_some_iff.1 hx).1; rw [HN.out] at this; omega) hx, BL.out⟩

end Go.Proofs.YtpamlgdcnmcedaaGreatDoor
