/-
  gojq's jsonMarshal, funcToJSON, funcToString: the text of a right value.
-/
import Derived.Test.YtpamlgdcnmcedaaGreatDoorEncS
import Derived.Test.YtpamlgdcnmcedaaGreatDoorShelfB
import Derived.Test.YtpamlgdcnmcedaaGreatDoorFit
namespace Go.Proofs.YtpamlgdcnmcedaaGreatDoor
set_option linter.unusedVariables false
set_option linter.unusedSimpArgs false
open Go.RowKit

theorem zeroEncS (b : Nat) : Tryz.zeroCells76.setIfInBounds 0 (.iface 194 (.pointer (some ⟨b, 0, none⟩))) = (wVal b :: (madeCells #[.int .u8 0] 64).toList).toArray := by kernel_rfl
def TextIs (T : List UInt8) (w : World) (e : Ending) (w' : World) : Prop := e = .returned (.string ⟨T.toArray⟩) ∧ Below w.heap.size w w'
def BoxIs (T : List UInt8) (w : World) (e : Ending) (w' : World) : Prop := e = .returned (.iface 9 (.string ⟨T.toArray⟩)) ∧ Below w.heap.size w w'

set_option maxHeartbeats 3200000 in
set_option maxRecDepth 100000 in
theorem jsonMarshal_any (x : V) (hc : x.cnt ≤ 1000000) (hb : x.nb ≤ 1000000) (hg : x.good) (v : Value) (lo : Nat) (w : World) (hr : RdA w lo w.heap.size x v) (hT : Tabs w) (h2 : 2 ≤ w.heap.size) :
    Calls Tryz.prog 97 #[v] w (TextIs (json x) w) := by
  obtain ⟨w1, hw1⟩ : ∃ w1, w.alloc (.cells #[.pointer none, .slice none 0 0] 196) = w1 := ⟨_, rfl⟩
  obtain ⟨w2, hw2⟩ : ∃ w2, w1.alloc (.cells (Tryz.zeroCells76.setIfInBounds 0 (.iface 194 (.pointer (some ⟨w.heap.size, 0, none⟩)))) 76) = w2 := ⟨_, rfl⟩
  have hb1 : Below w.heap.size w w1 := by rw [← hw1]; exact (Below.refl _ _).alloc (Nat.le_refl _) _
  have hs1 : w1.heap.size = w.heap.size + 1 := by rw [← hw1]; simp
  have hb2 : Below w1.heap.size w1 w2 := by rw [← hw2]; exact (Below.refl _ _).alloc (Nat.le_refl _) _
  have hb02 : Below w.heap.size w w2 := by rw [← hw2]; exact hb1.alloc (by omega) _
  have hwr : Wr w.heap.size w.heap.size [] w1 := ⟨.inl ⟨Nat.le_refl _, .slice none 0 0, by rw [← hw1]; exact heap_alloc_new w _, ⟨rfl, .inl ⟨rfl, rfl⟩⟩, by simp [Value.ownBlock]⟩, by omega⟩
  have hst : St w2 w.heap.size w.heap.size (w.heap.size + 1) [] := by
    refine ⟨hwr.below hb2, ⟨(madeCells #[.int .u8 0] 64).toList, ?_, by simp [madeCells]⟩, by omega, by omega⟩
    rw [← hw2, ← hs1, ← zeroEncS]
    exact heap_alloc_new w1 _
  have CE := Sec.mk (enc_upTo 1000000 (by omega) x hc hg v lo w.heap.size w.heap.size (w.heap.size + 1) [] w2 (RdA.same (SameIn.of_below hb02) (Nat.le_refl _) (Nat.le_refl _) x v hr) hst (hT.same (Same.of_below hb02) h2) h2 (by simp; omega))
  have HB := Sec.mk hb02
  clear hb1 hb2 hb02 hwr hst hr hT
  go_enter Tryz.func97, Tryz.ntmps97
  go_wp2_with fail
  refine CE.out.mono ?_
  rintro e w3 ⟨⟨u, rfl⟩, hS3, hk3⟩
  have CB := Sec.mk (Tryz.Builder_String_any_k w.heap.size w.heap.size _ w3 hS3.wr.1 hS3.wr.2)
  have HB3 := Sec.mk (HB.out.trans hk3.below)
  clear hS3 hk3 hw1 hw2
  go_wp2_with fail
  refine CB.out.mono ?_
  rintro e w4 ⟨rfl, _, h4, _⟩
  have FIN := Sec.mk (show TextIs (json x) w (.returned (.string ⟨(json x).toArray⟩)) w4 from ⟨rfl, HB3.out.trans h4⟩)
  clear h4
  go_wp2_with fail
  go_ret
  exact FIN.out

set_option maxHeartbeats 800000 in
set_option maxRecDepth 100000 in
theorem toJSON_any (x : V) (hc : x.cnt ≤ 1000000) (hb : x.nb ≤ 1000000) (hg : x.good) (v : Value) (lo : Nat) (w : World) (hr : RdA w lo w.heap.size x v) (hT : Tabs w) (h2 : 2 ≤ w.heap.size) :
    Calls Tryz.prog 78 #[v] w (BoxIs (json x) w) := by
  have CJ := Sec.mk (jsonMarshal_any x hc hb hg v lo w hr hT h2)
  clear hr hT
  go_enter Tryz.func78, Tryz.ntmps78
  go_wp2_with fail
  refine CJ.out.mono ?_
  rintro e w1 ⟨rfl, hb1⟩
  have HB1 := Sec.mk hb1
  clear hb1
  go_wp2_with fail
  go_ret
  exact ⟨rfl, HB1.out⟩

/-- tostring's text: a string itself, the JSON text of all else. -/
def textV : V → List UInt8
  | .mk k h t l ks vs => if k = 4 then t.data.toList else json (.mk k h t l ks vs)

set_option maxHeartbeats 800000 in
set_option maxRecDepth 100000 in
theorem toString_any (x : V) (hc : x.cnt ≤ 1000000) (hb : x.nb ≤ 1000000) (hg : x.good) (v : Value) (lo : Nat) (w : World) (hr : RdA w lo w.heap.size x v) (hT : Tabs w) (h2 : 2 ≤ w.heap.size) :
    Calls Tryz.prog 59 #[v] w (BoxIs (textV x) w) := by
  have CJ := Sec.mk (toJSON_any x hc hb hg v lo w hr hT h2)
  cases x with
  | mk k h t l ks vs =>
  rw [RdA] at hr
  obtain ⟨h0, h1, h2', h3, h4, h5, h6⟩ := hr
  rw [V.good] at hg
  obtain ⟨⟨g0, g6, _⟩, _⟩ := hg
  by_cases e4 : k = 4
  · have hv := h4 e4
    have HT : Sec (textV (.mk k h t l ks vs) = t.data.toList) := ⟨if_pos e4⟩
    clear h0 h1 h2' h3 h4 h5 h6 hT hc hb
    subst hv
    go_enter Tryz.func59, Tryz.ntmps59
    go_wp2_with fail
    go_ret
    exact ⟨by rw [HT.out]; rfl, Below.refl _ _⟩
  · have HT : Sec (textV (.mk k h t l ks vs) = json (.mk k h t l ks vs)) := ⟨if_neg e4⟩
    have hk : k = 0 ∨ k = 1 ∨ k = 2 ∨ k = 3 ∨ k = 5 ∨ k = 6 := by omega
    obtain ⟨T, hTx⟩ : ∃ T, json (.mk k h t l ks vs) = T := ⟨_, rfl⟩
    rw [hTx] at CJ HT
    rw [HT.out]
    have hform : (v = .nilIface) ∨ (∃ u, v = .iface 4 u) ∨ (∃ u, v = .iface 3 u) ∨ (∃ u, v = .iface 60 u) ∨ (∃ u, v = .iface 61 u) ∨ (∃ u, v = .iface 64 u) := by
      rcases hk with e | e | e | e | e | e
      · exact .inl (h0 e)
      · exact .inr (.inl ⟨_, h1 e⟩)
      · exact .inr (.inl ⟨_, h2' e⟩)
      · rw [h3 e]
        unfold numA
        split
        · exact .inr (.inr (.inl ⟨_, rfl⟩))
        · exact .inr (.inr (.inr (.inl ⟨_, rfl⟩)))
      · obtain ⟨A, c, e', _⟩ := h5 e; exact .inr (.inr (.inr (.inr (.inl ⟨_, e'⟩))))
      · obtain ⟨b, n, xs, e', _⟩ := h6 e; exact .inr (.inr (.inr (.inr (.inr ⟨_, e'⟩))))
    clear h0 h1 h2' h3 h4 h5 h6 hT hc hb hTx HT hk e4
    rcases hform with rfl | ⟨u, rfl⟩ | ⟨u, rfl⟩ | ⟨u, rfl⟩ | ⟨u, rfl⟩ | ⟨u, rfl⟩
    all_goals
      go_enter Tryz.func59, Tryz.ntmps59
      go_wp2_with fail
      refine CJ.out.mono ?_
      rintro e w1 ⟨rfl, hb1⟩
      have HB1 := Sec.mk hb1
      clear hb1
      go_wp2_with fail
      go_ret
      exact ⟨rfl, HB1.out⟩

end Go.Proofs.YtpamlgdcnmcedaaGreatDoor
