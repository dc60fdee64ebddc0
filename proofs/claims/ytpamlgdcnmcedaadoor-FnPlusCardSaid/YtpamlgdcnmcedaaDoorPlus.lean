/-
  laws.FnPlus: the walk.
-/
import Derived.Test.YtpamlgdcnmcedaaDoorNum
import Derived.Test.YtpamlgdcnmcedaaDoorCmp
import Derived.Deep.RegionWith
import Derived.Deep.RegionHeld3
namespace Go.Proofs.YtpamlgdcnmcedaaDoor
open Go.RowKit

set_option maxHeartbeats 800000 in
set_option maxRecDepth 100000 in
theorem fnPlus_walk (VS : ValidSaid) (x : V) (cs : List Value) (w : World) (B : Nat) (hr : Rd w B x cs) (hT : Tabs w) (hB2 : 2 ≤ B) (hB : B ≤ w.heap.size) :
    Calls Tryd.prog 3 #[.agg cs.toArray] w (Yes w) := by
  have cZ : ∀ w', Below w.heap.size w w' → Calls Tryd.prog 8 #[.agg cs.toArray] w' (SomeBoolB w') := fun w' hb =>
    zzFits1_any x cs w' B (Rd.same ((Same.of_below hb).mono hB) x cs hr) (Nat.le_trans hB hb.size)
  have cF : ∀ w', Below w.heap.size w w' → Calls Tryd.prog 9 #[.agg cs.toArray] w' (TellsB w' (Fits x)) := fun w' hb =>
    fit_any VS x cs w' B (Rd.same ((Same.of_below hb).mono hB) x cs hr) (hT.same (Same.of_below hb) (Nat.le_trans hB2 hB)) hB2 (Nat.le_trans hB hb.size)
  cases x with | mk k h t l ks vs =>
  have hr0 := hr
  rw [Rd] at hr
  obtain ⟨A3, c3, A4, c4, A5, c5, rfl, ht, ⟨l3, m3, r3⟩, ⟨l4, m4, r4⟩, ⟨l5, m5, r5⟩⟩ := hr
  clear r3 r4 r5
  have CZ := Sec.mk cZ
  have CF := Sec.mk cF
  have HR := Sec.mk hr0
  have HB := Sec.mk hB
  have M : Sec (c3 ≤ reach ∧ c4 ≤ reach ∧ c5 ≤ reach) := ⟨m3, m4, m5⟩
  clear cZ cF hr0 hT hB hB2 ht l3 m3 l4 m4 l5 m5
  obtain ⟨n3, hn3⟩ : ∃ n, l.length = n := ⟨_, rfl⟩
  obtain ⟨n4, hn4⟩ : ∃ n, ks.length = n := ⟨_, rfl⟩
  obtain ⟨n5, hn5⟩ : ∃ n, vs.length = n := ⟨_, rfl⟩
  rw [hn3, hn4, hn5] at CZ CF HR
  rw [hn3, hn4, hn5]
  have N3 := Sec.mk hn3
  have N4 := Sec.mk hn4
  have N5 := Sec.mk hn5
  clear hn3 hn4 hn5
  obtain ⟨w0, hw0⟩ : ∃ w0, w.alloc (.cells #[.int .i64 k, .int .i64 h, .string t, .slice A3 n3 c3, .slice A4 n4 c4, .slice A5 n5 c5] 26) = w0 := ⟨_, rfl⟩
  have b0 : Below w.heap.size w w0 := by rw [← hw0]; exact (Below.refl _ _).alloc (Nat.le_refl _) _
  have bx : ∀ w', Below w0.heap.size w0 w' → (∀ j v, #[.int .i64 k, .int .i64 h, .string t, .slice A3 n3 c3, .slice A4 n4 c4, .slice A5 n5 c5][j]? = some v → w'.cell? ⟨w.heap.size, j, none⟩ = some v) := by
    intro w' hb
    rw [← hw0] at hb
    exact box_after w _ _ w' hb
  have a0 := bx w0 (Below.refl _ _) 0 _ rfl
  have a1 := bx w0 (Below.refl _ _) 1 _ rfl
  have a2 := bx w0 (Below.refl _ _) 2 _ rfl
  have a3 := bx w0 (Below.refl _ _) 3 _ rfl
  have a4 := bx w0 (Below.refl _ _) 4 _ rfl
  have a5 := bx w0 (Below.refl _ _) 5 _ rfl
  have BX := Sec.mk bx
  have B0 := Sec.mk b0
  clear bx b0
  go_enter Tryd.func3, Tryd.ntmps3
  go_wp2_with fail
  refine (CZ.out _ B0.out).mono ?_
  intro e w1 hw1
  obtain ⟨⟨b1, rfl⟩, hb1⟩ := hw1
  have BS1 := Sec.mk hb1
  clear hb1
  cases b1
  · go_wp2
    go_ret
    exact ⟨rfl, below_then' B0.out BS1.out⟩
  · clear a0 a1 a2 a3 a4 a5
    have a0 := BX.out w1 BS1.out 0 _ rfl
    have a1 := BX.out w1 BS1.out 1 _ rfl
    have a2 := BX.out w1 BS1.out 2 _ rfl
    have a3 := BX.out w1 BS1.out 3 _ rfl
    have a4 := BX.out w1 BS1.out 4 _ rfl
    have a5 := BX.out w1 BS1.out 5 _ rfl
    go_wp2_with fail
    refine (CF.out _ (below_then' B0.out BS1.out)).mono ?_
    intro e w2 hw2
    obtain ⟨b2, rfl, hf, hb2⟩ := hw2
    have BS2 := Sec.mk (below_then' BS1.out hb2)
    have HF := Sec.mk hf
    clear hb2 hf
    clear a0 a1 a2 a3 a4 a5
    have a0 := BX.out w2 BS2.out 0 _ rfl
    have a1 := BX.out w2 BS2.out 1 _ rfl
    have a2 := BX.out w2 BS2.out 2 _ rfl
    have a3 := BX.out w2 BS2.out 3 _ rfl
    have a4 := BX.out w2 BS2.out 4 _ rfl
    have a5 := BX.out w2 BS2.out 5 _ rfl
    cases b2
    · go_wp2
      go_ret
      exact ⟨rfl, below_then' B0.out BS2.out⟩
    · by_cases k3 : k = 3
      · subst k3
        have hfit := HF.out rfl
        have hgood := hfit.1
        rw [V.good] at hgood
        obtain ⟨⟨_, _, _, g4, g5, g6, g7⟩, hokB, _⟩ := hgood
        have ht0 : t.size = 0 := by omega
        have t0 : t = ⟨#[]⟩ := by
          cases t with | mk d =>
          have : d.size = 0 := ht0
          rw [Array.size_eq_zero_iff] at this
          rw [this]
        have z3 : n3 = 0 := by rw [← N3.out]; omega
        have z4 : n4 = 0 := by rw [← N4.out]; omega
        have z5 : n5 = 0 := by rw [← N5.out]; omega
        clear HF CZ CF HR N3 N4 N5 BX hfit g4 g5 g6 g7 ht0
        subst t0
        subst z3
        subst z4
        subst z5
        have cP := fun W => plusDoor_num h ⟨#[]⟩ (.slice A3 0 c3) (.slice A4 0 c4) (.slice A5 0 c5) W hokB
        have cG : ∀ W, Calls Tryd.prog 10 #[.agg #[.int .i64 3, .int .i64 h, .string ⟨#[]⟩, .slice none 0 0, .slice none 0 0, .slice none 0 0, .int .i64 0], .agg #[.int .i64 3, .int .i64 h, .string ⟨#[]⟩, .slice A3 0 c3, .slice A4 0 c4, .slice A5 0 c5]] W (Yes W) := fun W =>
          given_self (V.mk 3 h ⟨#[]⟩ [] [] []) [.int .i64 3, .int .i64 h, .string ⟨#[]⟩, .slice none 0 0, .slice none 0 0, .slice none 0 0] [.int .i64 3, .int .i64 h, .string ⟨#[]⟩, .slice A3 0 c3, .slice A4 0 c4, .slice A5 0 c5] W 0
            (by rw [Rd]; exact ⟨none, 0, none, 0, none, 0, rfl, by decide, ⟨Nat.le_refl _, by decide, by rw [RdL]; trivial⟩, ⟨Nat.le_refl _, by decide, fun i k hk => by simp at hk⟩, ⟨Nat.le_refl _, by decide, by rw [RdL]; trivial⟩⟩)
            (by rw [Rd]; exact ⟨A3, c3, A4, c4, A5, c5, rfl, by decide, ⟨Nat.zero_le _, M.out.1, by rw [RdL]; trivial⟩, ⟨Nat.zero_le _, M.out.2.1, fun i k hk => by simp at hk⟩, ⟨Nat.zero_le _, M.out.2.2, by rw [RdL]; trivial⟩⟩) (Nat.zero_le _)
        have CP := Sec.mk cP
        have CG := Sec.mk cG
        clear cP cG hokB
        have LT : w.heap.size < w2.heap.size := Nat.lt_of_lt_of_le (by rw [← hw0]; simp) BS2.out.size
        go_upto_region 5 with fail
        go_region_with (first | (go_at_call 11; refine (CP.out _).mono ?_; intro e w3 hw3; obtain ⟨rfl, hb3⟩ := hw3; have e0 := (hb3.cell (p := ⟨w.heap.size, 0, none⟩) LT).trans a0; have e1 := (hb3.cell (p := ⟨w.heap.size, 1, none⟩) LT).trans a1; have e2 := (hb3.cell (p := ⟨w.heap.size, 2, none⟩) LT).trans a2; have e3 := (hb3.cell (p := ⟨w.heap.size, 3, none⟩) LT).trans a3; have e4 := (hb3.cell (p := ⟨w.heap.size, 4, none⟩) LT).trans a4; have e5 := (hb3.cell (p := ⟨w.heap.size, 5, none⟩) LT).trans a5; have BS3 := Sec.mk (below_then' B0.out (below_then' BS2.out ((Below.refl w2.heap.size w2).drew.trans hb3))); clear hb3) | (go_at_call 10; refine (CG.out _).mono ?_; intro e w4 hw4; obtain ⟨rfl, hb4⟩ := hw4; have BS4 := Sec.mk (below_then' BS3.out hb4); clear hb4))
        all_goals
          go_wp2
          go_ret
          exact ⟨rfl, BS4.out⟩
      · have q3 : (k != 3) = true := by simp [k3]
        clear k3
        go_wp2
        go_ret
        exact ⟨rfl, below_then' B0.out BS2.out⟩

end Go.Proofs.YtpamlgdcnmcedaaDoor
