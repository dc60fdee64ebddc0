/-
  spec.JSON at every right value.
-/
import Derived.Test.YtpamlgdcnmcedaaGreatDoorJsL
namespace Go.Proofs.YtpamlgdcnmcedaaGreatDoor
set_option linter.unusedVariables false
set_option linter.unusedSimpArgs false
open Go.RowKit

theorem js_upTo : ∀ m, m ≤ 1000000000 → JsUpTo m := by
  intro m
  induction m with
  | zero =>
    intro _ x hx
    cases x
    rw [V.cnt] at hx
    omega
  | succ m ih =>
    intro hm1 x hx hg hnb cs w B hr hB
    have ihm := ih (by omega)
    cases x with
    | mk k h t l ks vs =>
      rw [V.cnt] at hx
      rw [V.nb] at hnb
      rw [V.good] at hg
      rw [Rd] at hr
      obtain ⟨⟨g0, g6, gk3, gk4, gk5, gk6, gkl⟩, gB, gt, gl, gvs, gr, gv⟩ := hg
      obtain ⟨A3, c3, A4, c4, A5, c5, rfl, ht, ⟨a3, m3, r3⟩, ⟨a4, m4, r4⟩, ⟨a5, m5, r5⟩⟩ := hr
      have hl1 := V.length_le_cntL l
      have hl2 := V.length_le_cntL vs
      by_cases h4 : k ≤ 4
      · exact js_scalar k h t A3 A4 A5 _ c3 _ c4 _ c5 l ks vs ⟨g0, h4⟩ gB (by omega) w
      · by_cases h5 : k = 5
        · subst h5
          have e4 : ks.length = 0 := gk6.resolve_left (by decide)
          have e5 : vs.length = 0 := by rw [← gkl]; exact e4
          have := js_parts m ihm (by omega) 5 h l.length l.length ks.length vs.length c3 c4 c5 A3 A4 A5 t l ks w B rfl (by omega) (by omega) gl (by omega) hB (.inl ⟨rfl, rfl, e4, e5, r3⟩)
          rw [json]
          simpa [rowsOf] using this
        · obtain rfl : k = 6 := by omega
          have e3 : l.length = 0 := gk5.resolve_left (by decide)
          have := js_parts m ihm (by omega) 6 h vs.length l.length ks.length vs.length c3 c4 c5 A3 A4 A5 t vs ks w B rfl (by omega) (by omega) gv (by omega) hB (.inr ⟨rfl, e3, gkl, rfl, gkl, r4, r5⟩)
          rw [json]
          simpa [rowsOf] using this
/-- What Fit lets by: spec.JSON tells its text, or nothing. -/
theorem js_any (x : V) (hf : Fits x) (cs : List Value) (w : World) (B : Nat) (hr : Rd w B x cs) (hB : B ≤ w.heap.size) : Calls Tryz.prog 8 #[.agg cs.toArray] w (JsIs (json x) w) :=
  js_upTo _ (by obtain ⟨_, _, _⟩ := hf; omega) x (Nat.le_refl _) hf.1 (by obtain ⟨_, _, _⟩ := hf; omega) cs w B hr hB

end Go.Proofs.YtpamlgdcnmcedaaGreatDoor
