/-
  gojq.Marshal and impl.Marshal: the bytes, and the string, of a right value's text.
-/
import Derived.Test.YtpamlgdcnmcedaaGreatDoorEncB
import Derived.Test.YtpamlgdcnmcedaaGreatDoorMapTo
import Derived.Deep.QuietTactic
import Derived.BigQuiet
namespace Go.Proofs.YtpamlgdcnmcedaaGreatDoor
set_option linter.unusedVariables false
set_option linter.unusedSimpArgs false
open Go.RowKit

theorem zeroEnc (b : Nat) : Tryz.zeroCells76.setIfInBounds 0 (.iface 72 (.pointer (some ⟨b, 0, none⟩))) = (wVal b :: (madeCells #[.int .u8 0] 64).toList).toArray := by kernel_rfl
/-- A row of bytes handed back. -/
def MarIs (w : World) (T : List UInt8) (e : Ending) (w' : World) : Prop := ∃ v, e = .returned (.tuple #[v, .nilIface]) ∧ w'.ownsRow w.heap.size 5 1 v T.length (Lib.byteCells T) ∧ Below w.heap.size w w'

set_option maxHeartbeats 3200000 in
set_option maxRecDepth 100000 in
theorem marshalB_any (x : V) (hc : x.cnt ≤ 1000000) (hb : x.nb ≤ 1000000) (hg : x.good) (v : Value) (lo : Nat) (w : World) (hr : RdA w lo w.heap.size x v) (hT : Tabs w) (h2 : 2 ≤ w.heap.size) :
    Calls Tryz.prog 15 #[v] w (MarIs w (json x)) := by
  obtain ⟨w1, hw1⟩ : ∃ w1, w.alloc (.cells #[.slice none 0 0, .int .i64 0, .int .i8 0] 70) = w1 := ⟨_, rfl⟩
  obtain ⟨w2, hw2⟩ : ∃ w2, w1.alloc (.cells (Tryz.zeroCells76.setIfInBounds 0 (.iface 72 (.pointer (some ⟨w.heap.size, 0, none⟩)))) 76) = w2 := ⟨_, rfl⟩
  have hb1 : Below w.heap.size w w1 := by rw [← hw1]; exact (Below.refl _ _).alloc (Nat.le_refl _) _
  have hs1 : w1.heap.size = w.heap.size + 1 := by rw [← hw1]; simp
  have hb2 : Below w1.heap.size w1 w2 := by rw [← hw2]; exact (Below.refl _ _).alloc (Nat.le_refl _) _
  have hb02 : Below w.heap.size w w2 := by rw [← hw2]; exact hb1.alloc (by omega) _
  have hwr : Wr w.heap.size w.heap.size [] w1 := ⟨by rw [← hw1]; exact Lib.fresh_isBuffer _ _ w, by omega⟩
  have hst : St w2 w.heap.size w.heap.size (w.heap.size + 1) [] := by
    refine ⟨hwr.below hb2, ⟨(madeCells #[.int .u8 0] 64).toList, ?_, by simp [madeCells]⟩, by omega, by omega⟩
    rw [← hw2, ← hs1, ← zeroEnc]
    exact heap_alloc_new w1 _
  have CE := Sec.mk (enc_upTo 1000000 (by omega) x hc hg v lo w.heap.size w.heap.size (w.heap.size + 1) [] w2 (RdA.same (SameIn.of_below hb02) (Nat.le_refl _) (Nat.le_refl _) x v hr) hst (hT.same (Same.of_below hb02) h2) h2 (by simp; omega))
  have HB := Sec.mk hb02
  clear hb1 hb2 hb02 hwr hst hr hT
  go_enter Tryz.func15, Tryz.ntmps15
  go_wp2_with fail
  refine CE.out.mono ?_
  rintro e w3 ⟨⟨u, rfl⟩, hS3, hk3⟩
  have CB := Sec.mk (Tryz.Buffer_Bytes w.heap.size w.heap.size _ w3 hS3.wr.1)
  have HB3 := Sec.mk (HB.out.trans hk3.below)
  clear hS3 hk3 hw1 hw2
  go_wp2_with fail
  refine CB.out.mono ?_
  intro e w4 hw4
  obtain ⟨v4, rfl, hown, q, rfl⟩ := hw4
  have FIN := Sec.mk (show MarIs w (json x) (.returned (.tuple #[v4, .nilIface])) (w3.drewN q) from ⟨v4, rfl, by rw [List.nil_append, Lib.byteCells_length] at hown; exact hown, HB3.out.os, HB3.out.tape, HB3.out.output, HB3.out.size, HB3.out.block⟩)
  clear hown
  go_wp2_with fail
  go_ret2
  exact FIN.out

theorem conv_nil (w : World) : (convert 45 9 (.slice none 0 0)).run Tryz.prog w = .ok (.string ⟨#[]⟩) w := by kernel_rfl
/-- The string of an owned row of bytes. -/
theorem conv_own {w : World} {base : Nat} {v : Value} {T : List UInt8} (h : w.ownsRow base 5 1 v T.length (Lib.byteCells T)) : (convert 45 9 v).run Tryz.prog w = .ok (.string ⟨T.toArray⟩) w := by
  have hh := h
  rcases h.2 with ⟨rfl, h0⟩ | ⟨g, cap, cur, rfl, _⟩
  · have hT : T = [] := List.length_eq_zero_iff.1 h0
    subst hT
    exact conv_nil w
  · refine run_convert_bytes_back w _ _ 5 ⟨g, 0, none⟩ cap T Tryz.underlying45 Tryz.underlying5 Tryz.underlying9 fun j hj => ?_
    rw [show (⟨g, 0, none⟩ : Addr).add j = ⟨g, j, none⟩ from add_plain g j, hh.cellAt j (by omega)]
    simp [Lib.byteCells, hj]

def MarS (w : World) (T : List UInt8) (e : Ending) (w' : World) : Prop := e = .returned (.tuple #[.string ⟨T.toArray⟩, .bool true]) ∧ Below w.heap.size w w'
set_option maxHeartbeats 3200000 in
set_option maxRecDepth 100000 in
theorem marshalDoor_any (x : V) (hf : Fits x) (cs : List Value) (w : World) (B : Nat) (hr : Rd w B x cs) (hT : Tabs w) (h2 : 2 ≤ B) (hB : B ≤ w.heap.size) :
    Calls Tryz.prog 7 #[.agg cs.toArray] w (MarS w (json x)) := by
  obtain ⟨hg, hc, hb⟩ := hf
  obtain ⟨k, h, t, A3, n3, c3, A4, n4, c4, A5, n5, c5, rfl⟩ := hr.form
  obtain ⟨o1, ho1⟩ : ∃ o, Obj.cells [Value.int .i64 k, .int .i64 h, .string t, .slice A3 n3 c3, .slice A4 n4 c4, .slice A5 n5 c5].toArray 26 = o := ⟨_, rfl⟩
  have hal : Below w.heap.size w (w.alloc o1) := (Below.refl _ _).alloc (Nat.le_refl _) _
  have hs : Same B w (w.alloc o1) := (Same.of_below hal).mono hB
  have cT := toGo_upTo 1000 (by omega) x (by omega) hg _ (w.alloc o1) B (Rd.same hs x _ hr) (Nat.le_trans hB hal.size)
  rw [← ho1] at cT hal
  have CT := Sec.mk cT
  have HAL := Sec.mk hal
  have HT := Sec.mk hT
  clear cT hal hs ho1 hr hT
  go_enter Tryz.func7, Tryz.ntmps7
  go_wp2_with fail
  refine CT.out.mono ?_
  intro e w1 hw1
  obtain ⟨v, rfl, hra, hb1⟩ := hw1
  have hb01 := below_then' HAL.out hb1
  have CM := Sec.mk (marshalB_any x (by omega) (by omega) hg v _ w1 hra (HT.out.same ((Same.of_below hb01).mono hB) h2) (Nat.le_trans h2 (Nat.le_trans hB hb01.size)))
  have HB1 := Sec.mk hb01
  clear hra hb1 hb01
  go_wp2_with fail
  refine CM.out.mono ?_
  intro e w2 hw2
  obtain ⟨v2, rfl, hown, hb2⟩ := hw2
  have hcv := conv_own hown
  have hcq : ∀ q, (convert 45 9 v2).run Tryz.prog (w2.drewN q) = .ok (.string ⟨(json x).toArray⟩) (w2.drewN q) := fun q => conv_own hown
  have HB2 := Sec.mk (below_then' HB1.out hb2)
  clear hown hb2
  go_wp2_with fail
  go_quiet (fail)
  go_wp2_with fail
  go_ret2
  exact ⟨rfl, HB2.out.os, HB2.out.tape, HB2.out.output, HB2.out.size, HB2.out.block⟩

end Go.Proofs.YtpamlgdcnmcedaaGreatDoor
