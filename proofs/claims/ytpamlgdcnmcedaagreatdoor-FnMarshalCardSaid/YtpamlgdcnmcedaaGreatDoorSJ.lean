/-
  spec.JSON: where it says 0 it is the text.
-/
import Derived.Test.YtpamlgdcnmcedaaGreatDoorQd
import Derived.Test.YtpamlgdcnmcedaaGreatDoorJson
import Derived.Test.YtpamlgdcnmcedaaGreatDoorVal
import Derived.Test.YtpamlgdcnmcedaaGreatDoorToGo
namespace Go.Proofs.YtpamlgdcnmcedaaGreatDoor
set_option linter.unusedVariables false
set_option linter.unusedSimpArgs false
open Go.RowKit

def JsIs (T : List UInt8) (w : World) (e : Ending) (w' : World) : Prop := ∃ (o : ByteArray) (how : Int), e = .returned (.tuple #[.string o, .int .i64 how]) ∧ ((how = 0 → o.data.toList = T) ∧ how ≠ 1) ∧ Below w.heap.size w w'
/-- spec.JSON at every right value of at most m parts. -/
def JsUpTo (m : Nat) : Prop := ∀ (x : V), V.cnt x ≤ m → x.good → x.nb ≤ 1000000 → ∀ (cs : List Value) (w : World) (B : Nat), Rd w B x cs → B ≤ w.heap.size → Calls Tryz.prog 8 #[.agg cs.toArray] w (JsIs (json x) w)

set_option maxHeartbeats 1600000 in
set_option maxRecDepth 100000 in
theorem js_scalar (k h : Int) (t : ByteArray) (A3 A4 A5 : Option Addr) (n3 c3 n4 c4 n5 c5 : Nat) (l : List V) (ks : List ByteArray) (vs : List V) (hk : 0 ≤ k ∧ k ≤ 4) (hb : okB h) (ht : t.size ≤ 1000000) (w : World) :
    Calls Tryz.prog 8 #[.agg #[.int .i64 k, .int .i64 h, .string t, .slice A3 n3 c3, .slice A4 n4 c4, .slice A5 n5 c5]] w (JsIs (json (.mk k h t l ks vs)) w) := by
  rw [json]
  obtain ⟨o1, ho1⟩ : ∃ o, Obj.cells #[Value.int .i64 k, .int .i64 h, .string t, .slice A3 n3 c3, .slice A4 n4 c4, .slice A5 n5 c5] 26 = o := ⟨_, rfl⟩
  have hal : Below w.heap.size w (w.alloc o1) := (Below.refl _ _).alloc (Nat.le_refl _) _
  have cF := figures_any h (w.alloc o1) (by unfold okB at hb; omega) (by unfold okB at hb; omega)
  have cQ := quoted_any t (w.alloc o1) ht
  rw [← ho1] at cF cQ hal
  have CF := Sec.mk cF
  have CQ := Sec.mk cQ
  have HAL := Sec.mk hal
  clear cF cQ hal ho1
  have hk5 : k = 0 ∨ k = 1 ∨ k = 2 ∨ k = 3 ∨ k = 4 := by omega
  clear hk
  rcases hk5 with rfl | rfl | rfl | rfl | rfl
  · go_enter Tryz.func8, Tryz.ntmps8
    go_wp2_with fail
    go_ret2
    exact ⟨_, 0, rfl, ⟨fun _ => rfl, by decide⟩, HAL.out⟩
  · go_enter Tryz.func8, Tryz.ntmps8
    go_wp2_with fail
    go_ret2
    exact ⟨_, 0, rfl, ⟨fun _ => rfl, by decide⟩, HAL.out⟩
  · go_enter Tryz.func8, Tryz.ntmps8
    go_wp2_with fail
    go_ret2
    exact ⟨_, 0, rfl, ⟨fun _ => rfl, by decide⟩, HAL.out⟩
  · go_enter Tryz.func8, Tryz.ntmps8
    go_wp2_with fail
    refine CF.out.mono ?_
    rintro e w2 ⟨o, how, rfl, hw2, _, h1⟩
    have HB2 := Sec.mk (show Below w.heap.size w w2 by rw [hw2]; exact HAL.out)
    have H1 := Sec.mk (show (how = 0 → o.data.toList = figL h) ∧ how ≠ 1 from ⟨fun e => by rw [h1.1 e], h1.2⟩)
    clear h1 hw2
    go_wp2_with fail
    go_ret2
    exact ⟨o, how, rfl, H1.out, HB2.out⟩
  · go_enter Tryz.func8, Tryz.ntmps8
    go_wp2_with fail
    refine CQ.out.mono ?_
    rintro e w2 ⟨o, how, rfl, h1, h2, h3⟩
    have HB2 := Sec.mk (below_then' HAL.out h3)
    have H1 := Sec.mk h1
    clear h1 h3
    go_wp2_with fail
    go_ret2
    exact ⟨o, how, rfl, H1.out, HB2.out⟩

end Go.Proofs.YtpamlgdcnmcedaaGreatDoor
