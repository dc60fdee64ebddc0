/-
  laws.FnMarshal: the walk.
-/
import Derived.Test.YtpamlgdcnmcedaaGreatDoorMarB
import Derived.Test.YtpamlgdcnmcedaaGreatDoorJs
namespace Go.Proofs.YtpamlgdcnmcedaaGreatDoor
set_option linter.unusedVariables false
set_option linter.unusedSimpArgs false
open Go.RowKit

/-- It hands back true, and what was there before is as it was. -/
def YesM (w : World) (e : Ending) (w' : World) : Prop := e = .returned (.bool true) ∧ Below w.heap.size w w'
theorem bytes_eq {o : ByteArray} {l : List UInt8} (h : o.data.toList = l) : o = ⟨l.toArray⟩ := by
  cases o with | mk d =>
  rw [← h]

set_option maxHeartbeats 1600000 in
set_option maxRecDepth 100000 in
theorem fnMarshal_walk (VS : ValidSaid) (x : V) (cs : List Value) (w : World) (B : Nat) (hr : Rd w B x cs) (hT : Tabs w) (hB2 : 2 ≤ B) (hB : B ≤ w.heap.size) :
    Calls Tryz.prog 3 #[.agg cs.toArray] w (YesM w) := by
  have cZ : ∀ w', Below w.heap.size w w' → Calls Tryz.prog 5 #[.agg cs.toArray] w' (SomeBoolB w') := fun w' hb =>
    zzFits1_any x cs w' B (Rd.same ((Same.of_below hb).mono hB) x cs hr) (Nat.le_trans hB hb.size)
  have cF : ∀ w', Below w.heap.size w w' → Calls Tryz.prog 6 #[.agg cs.toArray] w' (TellsB w' (Fits x)) := fun w' hb =>
    fit_any VS x cs w' B (Rd.same ((Same.of_below hb).mono hB) x cs hr) (hT.same (Same.of_below hb) (Nat.le_trans hB2 hB)) hB2 (Nat.le_trans hB hb.size)
  have cM : Fits x → ∀ w', Below w.heap.size w w' → Calls Tryz.prog 7 #[.agg cs.toArray] w' (MarS w' (json x)) := fun hf w' hb =>
    marshalDoor_any x hf cs w' B (Rd.same ((Same.of_below hb).mono hB) x cs hr) (hT.same (Same.of_below hb) (Nat.le_trans hB2 hB)) hB2 (Nat.le_trans hB hb.size)
  have cJ : Fits x → ∀ w', Below w.heap.size w w' → Calls Tryz.prog 8 #[.agg cs.toArray] w' (JsIs (json x) w') := fun hf w' hb =>
    js_any x hf cs w' B (Rd.same ((Same.of_below hb).mono hB) x cs hr) (Nat.le_trans hB hb.size)
  obtain ⟨k, h, t, A3, n3, c3, A4, n4, c4, A5, n5, c5, rfl⟩ := hr.form
  obtain ⟨T, hTx⟩ : ∃ T, json x = T := ⟨_, rfl⟩
  rw [hTx] at cM cJ
  have CZ := Sec.mk cZ
  have CF := Sec.mk cF
  have CM := Sec.mk cM
  have CJ := Sec.mk cJ
  clear cZ cF cM cJ hT hB hB2 hr hTx
  obtain ⟨w0, hw0⟩ : ∃ w0, w.alloc (.cells #[.int .i64 k, .int .i64 h, .string t, .slice A3 n3 c3, .slice A4 n4 c4, .slice A5 n5 c5] 26) = w0 := ⟨_, rfl⟩
  have b0 : Below w.heap.size w w0 := by rw [← hw0]; exact (Below.refl _ _).alloc (Nat.le_refl _) _
  have bx : ∀ w', Below w0.heap.size w0 w' → (∀ j v, #[.int .i64 k, .int .i64 h, .string t, .slice A3 n3 c3, .slice A4 n4 c4, .slice A5 n5 c5][j]? = some v → w'.cell? ⟨w.heap.size, j, none⟩ = some v) := by
    intro w' hb
    rw [← hw0] at hb
    exact box_after w _ _ w' hb
  have a0 := bx w0 (Below.refl _ _) 0 _ rfl
  have a1 := bx w0 (Below.refl _ _) 1 _ rfl
  have a2 := bx w0 (Below.refl _ _) 2 _ rfl
  have a3 := bx w0 (Below.refl _ _) 3 _ rfl
  have a4 := bx w0 (Below.refl _ _) 4 _ rfl
  have a5 := bx w0 (Below.refl _ _) 5 _ rfl
  have BX := Sec.mk bx
  have B0 := Sec.mk b0
  clear bx b0
  go_enter Tryz.func3, Tryz.ntmps3
  go_wp2_with fail
  refine (CZ.out _ B0.out).mono ?_
  intro e w1 hw1
  obtain ⟨⟨b1, rfl⟩, hb1⟩ := hw1
  have BS1 := Sec.mk hb1
  clear hb1
  cases b1
  · go_wp2
    go_ret
    exact ⟨rfl, below_then' B0.out BS1.out⟩
  · clear a0 a1 a2 a3 a4 a5
    have a0 := BX.out w1 BS1.out 0 _ rfl
    have a1 := BX.out w1 BS1.out 1 _ rfl
    have a2 := BX.out w1 BS1.out 2 _ rfl
    have a3 := BX.out w1 BS1.out 3 _ rfl
    have a4 := BX.out w1 BS1.out 4 _ rfl
    have a5 := BX.out w1 BS1.out 5 _ rfl
    go_wp2_with fail
    refine (CF.out _ (below_then' B0.out BS1.out)).mono ?_
    intro e w2 hw2
    obtain ⟨b2, rfl, hf, hb2⟩ := hw2
    have BS2 := Sec.mk (below_then' BS1.out hb2)
    have HF := Sec.mk hf
    clear hb2 hf
    clear a0 a1 a2 a3 a4 a5
    have a0 := BX.out w2 BS2.out 0 _ rfl
    have a1 := BX.out w2 BS2.out 1 _ rfl
    have a2 := BX.out w2 BS2.out 2 _ rfl
    have a3 := BX.out w2 BS2.out 3 _ rfl
    have a4 := BX.out w2 BS2.out 4 _ rfl
    have a5 := BX.out w2 BS2.out 5 _ rfl
    cases b2
    · go_wp2
      go_ret
      exact ⟨rfl, below_then' B0.out BS2.out⟩
    · go_wp2_with fail
      refine (CM.out (HF.out (by trivial)) _ (below_then' B0.out BS2.out)).mono ?_
      rintro e w3 ⟨rfl, hb3⟩
      have BS3 := Sec.mk (below_then' BS2.out hb3)
      clear hb3 a0 a1 a2 a3 a4 a5
      have a0 := BX.out w3 BS3.out 0 _ rfl
      have a1 := BX.out w3 BS3.out 1 _ rfl
      have a2 := BX.out w3 BS3.out 2 _ rfl
      have a3 := BX.out w3 BS3.out 3 _ rfl
      have a4 := BX.out w3 BS3.out 4 _ rfl
      have a5 := BX.out w3 BS3.out 5 _ rfl
      go_wp2_with fail
      refine (CJ.out (HF.out (by trivial)) _ (below_then' B0.out BS3.out)).mono ?_
      rintro e w4 ⟨o, how, rfl, h1, hb4⟩
      have BS4 := Sec.mk (below_then' B0.out (below_then' BS3.out hb4))
      have H1 := Sec.mk h1
      clear hb4 h1 a0 a1 a2 a3 a4 a5
      by_cases hh : how = 0
      · subst hh
        have ho : o = ⟨T.toArray⟩ := bytes_eq (H1.out.1 rfl)
        subst ho
        go_wp2_with fail
        go_ret
        exact ⟨rfl, BS4.out⟩
      · have t1 : (how != 0) = true := by simp [hh]
        clear hh
        go_wp2_with fail
        go_ret
        exact ⟨rfl, BS4.out⟩

end Go.Proofs.YtpamlgdcnmcedaaGreatDoor
