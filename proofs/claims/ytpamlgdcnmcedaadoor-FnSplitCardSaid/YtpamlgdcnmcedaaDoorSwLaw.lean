/-
  laws.FnStartsWith at whatever two values: it returns true and turns nothing that was there.
-/
import Derived.Test.YtpamlgdcnmcedaaDoorBegins
import Derived.Test.YtpamlgdcnmcedaaDoorTwo
import Derived.Test.YtpamlgdcnmcedaaDoorFine
import Derived.Test.YtpamlgdcnmcedaaDoorCmp
import Derived.Deep.RegionWith
import Derived.Deep.RegionHeld3
import Derived.Deep.DeepCutAuto
namespace Go.Proofs.YtpamlgdcnmcedaaDoor
set_option linter.unusedVariables false
set_option linter.unusedSimpArgs false
open Go.RowKit

set_option maxHeartbeats 400000 in
set_option maxRecDepth 100000 in
theorem bool_said (b : Bool) (w : World) : Calls Tryd.prog 20 #[.bool b] w fun e w' => ∃ cs, e = .returned (.agg cs.toArray) ∧ RdF w' w.heap.size w'.heap.size (boolV b) cs ∧ Below w.heap.size w w' := by
  cases b
  · go_enter Tryd.func20, Tryd.ntmps20
    go_wp2
    exact bodyPost_ret (v := .agg #[.int .i64 1, .int .i64 0, .string ⟨#[]⟩, .slice none 0 0, .slice none 0 0, .slice none 0 0]) (by simp [results, Tryd.results20, go_sem]) rfl ⟨[.int .i64 1, .int .i64 0, .string ⟨#[]⟩, .slice none 0 0, .slice none 0 0, .slice none 0 0], rfl, rdF_plain (by decide), (Below.refl _ _).alloc (Nat.le_refl _) _⟩
  · go_enter Tryd.func20, Tryd.ntmps20
    go_wp2
    exact bodyPost_ret (v := .agg #[.int .i64 2, .int .i64 0, .string ⟨#[]⟩, .slice none 0 0, .slice none 0 0, .slice none 0 0]) (by simp [results, Tryd.results20, go_sem]) rfl ⟨[.int .i64 2, .int .i64 0, .string ⟨#[]⟩, .slice none 0 0, .slice none 0 0, .slice none 0 0], rfl, rdF_plain (by decide), (Below.refl _ _).alloc (Nat.le_refl _) _⟩

set_option maxHeartbeats 800000 in
set_option maxRecDepth 100000 in
theorem wrong_self (cs : List Value) (w : World) (B : Nat) (h1 : Rd w B nilV cs) (hB : B ≤ w.heap.size) :
    Calls Tryd.prog 18 #[.agg (cs ++ [Value.int .i64 1]).toArray] w (Yes w) := by
  have cC : ∀ w', Below w.heap.size w w' → Calls Tryd.prog 36 #[.agg cs.toArray, .agg #[.int .i64 0, .int .i64 0, .string ⟨#[]⟩, .slice none 0 0, .slice none 0 0, .slice none 0 0]] w' (Yes w') := fun w' hb =>
    same_self nilV cs [.int .i64 0, .int .i64 0, .string ⟨#[]⟩, .slice none 0 0, .slice none 0 0, .slice none 0 0] w' B (Rd.same ((Same.of_below hb).mono hB) nilV cs h1) (Rd.mono (Nat.le_refl _) _ _ ((rdF_plain (w := w') (lo := 0) (B := B) (by decide)).rd)) (Nat.le_trans hB hb.size)
  obtain ⟨k1, h1', t1, A31, n31, c31, A41, n41, c41, A51, n51, c51, rfl⟩ := h1.form
  have CC := Sec.mk cC
  clear cC h1 hB
  have b0 : Below w.heap.size w (w.alloc (.cells #[.int .i64 k1, .int .i64 h1', .string t1, .slice A31 n31 c31, .slice A41 n41 c41, .slice A51 n51 c51, .int .i64 1] 30)) := (Below.refl _ _).alloc (Nat.le_refl _) _
  have B0 := Sec.mk b0
  clear b0
  go_enter Tryd.func18, Tryd.ntmps18
  go_wp2_with (go_at_call 36; refine (CC.out _ B0.out).mono ?_; intro e w' hw'; obtain ⟨rfl, hb'⟩ := hw'; have BE := Sec.mk (B0.out.trans (hb'.mono B0.out.size)); clear hb')
  go_ret
  exact ⟨rfl, BE.out⟩

/-- Two values side by side in a block of their own. -/
theorem pair_rd {x y : V} {w w3 : World} {B g : Nat} {a0 a1 a2 a3 a4 a5 c0 c1 c2 c3 c4 c5 : Value} (hr : Rd w B x [a0, a1, a2, a3, a4, a5]) (hr' : Rd w B y [c0, c1, c2, c3, c4, c5]) (hB : B ≤ w.heap.size) (hb : Below w.heap.size w w3)
    (hp : ∀ j v, #[a0, a1, a2, a3, a4, a5, c0, c1, c2, c3, c4, c5][j]? = some v → w3.cell? ⟨g, j, none⟩ = some v) (hg : g < w3.heap.size) : RdL w3 w3.heap.size (some ⟨g, 0, none⟩) 0 [x, y] := by
  have e1 := Rd.mono (Nat.le_trans hB hb.size) _ _ (Rd.same ((Same.of_below hb).mono hB) x _ hr)
  have e2 := Rd.mono (Nat.le_trans hB hb.size) _ _ (Rd.same ((Same.of_below hb).mono hB) y _ hr')
  rw [RdL]
  refine ⟨⟨_, _, rfl, hg, e1, fun j u hu => ?_⟩, ?_⟩
  · rw [add_plain]
    have hj : j < 6 := by have := (List.getElem?_eq_some_iff.1 hu).1; simpa using this
    refine hp _ _ ?_
    have : j = 0 ∨ j = 1 ∨ j = 2 ∨ j = 3 ∨ j = 4 ∨ j = 5 := by omega
    rcases this with rfl | rfl | rfl | rfl | rfl | rfl <;> exact hu
  · rw [RdL]
    refine ⟨⟨_, _, rfl, hg, e2, fun j u hu => ?_⟩, by rw [RdL]; trivial⟩
    rw [add_plain]
    have hj : j < 6 := by have := (List.getElem?_eq_some_iff.1 hu).1; simpa using this
    refine hp _ _ ?_
    have : j = 0 ∨ j = 1 ∨ j = 2 ∨ j = 3 ∨ j = 4 ∨ j = 5 := by omega
    rcases this with rfl | rfl | rfl | rfl | rfl | rfl <;> exact hu

theorem Rd.k_str {w : World} {B : Nat} {x : V} {k h : Int} {t : ByteArray} {c3 c4 c5 : Value} (hr : Rd w B x [.int .i64 k, .int .i64 h, .string t, c3, c4, c5]) : x.k = k ∧ x.str = t := by
  cases x
  rw [Rd] at hr
  obtain ⟨_, _, _, _, _, _, e, _⟩ := hr
  simp only [List.cons.injEq, Value.int.injEq, Value.string.injEq, true_and] at e
  exact ⟨e.1.symm, e.2.2.1.symm⟩

set_option maxHeartbeats 1600000 in
set_option maxRecDepth 100000 in
theorem fnStarts_walk (VS : ValidSaid) (x y : V) (cs ds : List Value) (w : World) (B : Nat) (hr : Rd w B x cs) (hr' : Rd w B y ds) (hT : Tabs w) (hB2 : 2 ≤ B) (hB : B ≤ w.heap.size) :
    Calls Tryd.prog 5 #[.agg cs.toArray, .agg ds.toArray] w (Yes w) := by
  have cZ1 : ∀ w', Below w.heap.size w w' → Calls Tryd.prog 8 #[.agg cs.toArray] w' (SomeBoolB w') := fun w' hb =>
    zzFits1_any x cs w' B (Rd.same ((Same.of_below hb).mono hB) x cs hr) (Nat.le_trans hB hb.size)
  have cZ2 : ∀ w', Below w.heap.size w w' → Calls Tryd.prog 8 #[.agg ds.toArray] w' (SomeBoolB w') := fun w' hb =>
    zzFits1_any y ds w' B (Rd.same ((Same.of_below hb).mono hB) y ds hr') (Nat.le_trans hB hb.size)
  have HR := Sec.mk (And.intro hr (And.intro hr' (And.intro hT (And.intro hB2 hB))))
  obtain ⟨k1, h1', t1, A31, n31, c31, A41, n41, c41, A51, n51, c51, rfl⟩ := hr.form
  obtain ⟨k2, h2', t2, A32, n32, c32, A42, n42, c42, A52, n52, c52, rfl⟩ := hr'.form
  have CZ1 := Sec.mk cZ1
  have CZ2 := Sec.mk cZ2
  clear cZ1 cZ2 hr hr' hT hB2 hB
  go_enter Tryd.func5, Tryd.ntmps5
  go_wp2_with fail
  obtain ⟨w0, hw0⟩ : ∃ w0, (w.alloc (.cells #[.int .i64 k1, .int .i64 h1', .string t1, .slice A31 n31 c31, .slice A41 n41 c41, .slice A51 n51 c51] 26)).alloc (.cells #[.int .i64 k2, .int .i64 h2', .string t2, .slice A32 n32 c32, .slice A42 n42 c42, .slice A52 n52 c52] 26) = w0 := ⟨_, rfl⟩
  have b0 : Below w.heap.size w w0 := by rw [← hw0]; exact ((Below.refl _ _).alloc (Nat.le_refl _) _).alloc (by simp) _
  have hsz : w0.heap.size = w.heap.size + 1 + 1 := by rw [← hw0]; simp
  have bx : ∀ w', Below w0.heap.size w0 w' → (∀ j v, #[Value.int .i64 k1, .int .i64 h1', .string t1, .slice A31 n31 c31, .slice A41 n41 c41, .slice A51 n51 c51][j]? = some v → w'.cell? ⟨w.heap.size, j, none⟩ = some v) ∧ (∀ j v, #[Value.int .i64 k2, .int .i64 h2', .string t2, .slice A32 n32 c32, .slice A42 n42 c42, .slice A52 n52 c52][j]? = some v → w'.cell? ⟨w.heap.size + 1, j, none⟩ = some v) := by
    intro w' hb
    rw [← hw0] at hb
    have hy := box_after (w.alloc (.cells #[.int .i64 k1, .int .i64 h1', .string t1, .slice A31 n31 c31, .slice A41 n41 c41, .slice A51 n51 c51] 26)) #[Value.int .i64 k2, .int .i64 h2', .string t2, .slice A32 n32 c32, .slice A42 n42 c42, .slice A52 n52 c52] 26 w' hb
    rw [World.size_alloc] at hy
    refine ⟨fun j v hj => ?_, hy⟩
    have hx := box_after w #[Value.int .i64 k1, .int .i64 h1', .string t1, .slice A31 n31 c31, .slice A41 n41 c41, .slice A51 n51 c51] 26 w' (((Below.refl _ _).alloc (Nat.le_refl _) _).trans (hb.mono (by simp)))
    exact hx j v hj
  rw [hw0]
  have BX := Sec.mk bx
  have B0 := Sec.mk b0
  have HSZ := Sec.mk hsz
  clear bx b0 hsz hw0
  refine (CZ1.out _ B0.out).mono ?_
  intro e w1 hw1
  obtain ⟨⟨b1, rfl⟩, hb1⟩ := hw1
  have BS1 := Sec.mk hb1
  clear hb1
  have hsel : Below w0.heap.size w0 w1 := BS1.out
  clear hsel
  have a0 := (BX.out w1 BS1.out).1 0 _ rfl
  have a1 := (BX.out w1 BS1.out).1 1 _ rfl
  have a2 := (BX.out w1 BS1.out).1 2 _ rfl
  have a3 := (BX.out w1 BS1.out).1 3 _ rfl
  have a4 := (BX.out w1 BS1.out).1 4 _ rfl
  have a5 := (BX.out w1 BS1.out).1 5 _ rfl
  have c0 := (BX.out w1 BS1.out).2 0 _ rfl
  have c1 := (BX.out w1 BS1.out).2 1 _ rfl
  have c2 := (BX.out w1 BS1.out).2 2 _ rfl
  have c3 := (BX.out w1 BS1.out).2 3 _ rfl
  have c4 := (BX.out w1 BS1.out).2 4 _ rfl
  have c5 := (BX.out w1 BS1.out).2 5 _ rfl
  cases b1
  · go_wp2
    go_ret
    exact ⟨rfl, below_then' B0.out BS1.out⟩
  go_wp2_with fail
  refine (CZ2.out _ (below_then' B0.out BS1.out)).mono ?_
  intro e w2 hw2
  obtain ⟨⟨b2, rfl⟩, hb2⟩ := hw2
  have BS2 := Sec.mk (below_then' BS1.out hb2)
  clear hb2 a0 a1 a2 a3 a4 a5 c0 c1 c2 c3 c4 c5
  have a0 := (BX.out w2 BS2.out).1 0 _ rfl
  have a1 := (BX.out w2 BS2.out).1 1 _ rfl
  have a2 := (BX.out w2 BS2.out).1 2 _ rfl
  have a3 := (BX.out w2 BS2.out).1 3 _ rfl
  have a4 := (BX.out w2 BS2.out).1 4 _ rfl
  have a5 := (BX.out w2 BS2.out).1 5 _ rfl
  have c0 := (BX.out w2 BS2.out).2 0 _ rfl
  have c1 := (BX.out w2 BS2.out).2 1 _ rfl
  have c2 := (BX.out w2 BS2.out).2 2 _ rfl
  have c3 := (BX.out w2 BS2.out).2 3 _ rfl
  have c4 := (BX.out w2 BS2.out).2 4 _ rfl
  have c5 := (BX.out w2 BS2.out).2 5 _ rfl
  cases b2
  · go_wp2
    go_ret
    exact ⟨rfl, below_then' B0.out BS2.out⟩
  go_wp2_with fail
  obtain ⟨w3, hw3⟩ : ∃ w3, w2.alloc (.cells #[Value.int .i64 k1, .int .i64 h1', .string t1, .slice A31 n31 c31, .slice A41 n41 c41, .slice A51 n51 c51, .int .i64 k2, .int .i64 h2', .string t2, .slice A32 n32 c32, .slice A42 n42 c42, .slice A52 n52 c52] 26) = w3 := ⟨_, rfl⟩
  have b3 : Below w2.heap.size w2 w3 := by rw [← hw3]; exact (Below.refl _ _).alloc (Nat.le_refl _) _
  have hp : ∀ j v, #[Value.int .i64 k1, .int .i64 h1', .string t1, .slice A31 n31 c31, .slice A41 n41 c41, .slice A51 n51 c51, .int .i64 k2, .int .i64 h2', .string t2, .slice A32 n32 c32, .slice A42 n42 c42, .slice A52 n52 c52][j]? = some v → w3.cell? ⟨w2.heap.size, j, none⟩ = some v := by
    rw [← hw3]
    exact box_after w2 #[Value.int .i64 k1, .int .i64 h1', .string t1, .slice A31 n31 c31, .slice A41 n41 c41, .slice A51 n51 c51, .int .i64 k2, .int .i64 h2', .string t2, .slice A32 n32 c32, .slice A42 n42 c42, .slice A52 n52 c52] 26 _ (Below.refl _ _)
  have hsz3 : w3.heap.size = w2.heap.size + 1 := by rw [← hw3]; simp
  rw [hw3]
  have hfine := fine_any VS [x, y] (some ⟨w2.heap.size, 0, none⟩) 2 2 w3.heap.size w3 rfl (by omega) (pair_rd HR.out.1 HR.out.2.1 HR.out.2.2.2.2 ((below_then' (below_then' B0.out BS2.out) b3)) hp (by rw [hsz3]; omega))
    (HR.out.2.2.1.same (Same.of_below (below_then' (below_then' B0.out BS2.out) b3)) (Nat.le_trans HR.out.2.2.2.1 HR.out.2.2.2.2)) (by have := B0.out.size; have := BS2.out.size; have := HR.out.2.2.2.1; have := HR.out.2.2.2.2; omega) (Nat.le_refl _)
  have CFN := Sec.mk hfine
  have BS3 := Sec.mk (below_then' BS2.out b3)
  clear hfine b3 hp hsz3 hw3
  refine CFN.out.mono ?_
  intro e w4 hw4
  obtain ⟨b4, rfl, hf4, hb4⟩ := hw4
  have BS4 := Sec.mk (below_then' BS3.out hb4)
  have HF := Sec.mk hf4
  clear hb4 hf4 a0 a1 a2 a3 a4 a5 c0 c1 c2 c3 c4 c5
  cases b4
  · go_wp2
    go_ret
    exact ⟨rfl, below_then' B0.out BS4.out⟩
  have hfx := HF.out rfl 0 x rfl
  have hfy := HF.out rfl 1 y rfl
  have cS : ∀ W, Below w0.heap.size w0 W → Calls Tryd.prog 16 #[.agg #[.int .i64 k1, .int .i64 h1', .string t1, .slice A31 n31 c31, .slice A41 n41 c41, .slice A51 n51 c51], .agg #[.int .i64 k2, .int .i64 h2', .string t2, .slice A32 n32 c32, .slice A42 n42 c42, .slice A52 n52 c52]] W (Gives (starts x y) (starts_end x y) W) := fun W hb =>
    startsDoor x y [.int .i64 k1, .int .i64 h1', .string t1, .slice A31 n31 c31, .slice A41 n41 c41, .slice A51 n51 c51] [.int .i64 k2, .int .i64 h2', .string t2, .slice A32 n32 c32, .slice A42 n42 c42, .slice A52 n52 c52] W B (Rd.same ((Same.of_below (below_then' B0.out hb)).mono HR.out.2.2.2.2) x _ HR.out.1) (Rd.same ((Same.of_below (below_then' B0.out hb)).mono HR.out.2.2.2.2) y _ HR.out.2.1) (Nat.le_trans HR.out.2.2.2.2 (below_then' B0.out hb).size) hfx.1.1 hfy.1.1 (by have := hfx.1.2.1; omega) (by have := hfy.1.2.1; omega) (by have := hfx.2; unfold reach; cases x; simp only [V.str, V.text] at *; omega)
  have cE : ∀ W, Below w0.heap.size w0 W → Calls Tryd.prog 17 #[.agg #[.int .i64 k1, .int .i64 h1', .string t1, .slice A31 n31 c31, .slice A41 n41 c41, .slice A51 n51 c51], .agg #[.int .i64 k2, .int .i64 h2', .string t2, .slice A32 n32 c32, .slice A42 n42 c42, .slice A52 n52 c52]] W (Gives (ends x y) (ends_end x y) W) := fun W hb =>
    endsDoor x y [.int .i64 k1, .int .i64 h1', .string t1, .slice A31 n31 c31, .slice A41 n41 c41, .slice A51 n51 c51] [.int .i64 k2, .int .i64 h2', .string t2, .slice A32 n32 c32, .slice A42 n42 c42, .slice A52 n52 c52] W B (Rd.same ((Same.of_below (below_then' B0.out hb)).mono HR.out.2.2.2.2) x _ HR.out.1) (Rd.same ((Same.of_below (below_then' B0.out hb)).mono HR.out.2.2.2.2) y _ HR.out.2.1) (Nat.le_trans HR.out.2.2.2.2 (below_then' B0.out hb).size) hfx.1.1 hfy.1.1 (by have := hfx.1.2.1; omega) (by have := hfy.1.2.1; omega) (by have := hfx.2; unfold reach; cases x; simp only [V.str, V.text] at *; omega)
  have CS := Sec.mk cS
  have CE := Sec.mk cE
  have FX := Sec.mk (And.intro hfx hfy)
  clear cS cE hfx hfy
  have a0 := (BX.out w4 BS4.out).1 0 _ rfl
  have a1 := (BX.out w4 BS4.out).1 1 _ rfl
  have a2 := (BX.out w4 BS4.out).1 2 _ rfl
  have a3 := (BX.out w4 BS4.out).1 3 _ rfl
  have a4 := (BX.out w4 BS4.out).1 4 _ rfl
  have a5 := (BX.out w4 BS4.out).1 5 _ rfl
  have c0 := (BX.out w4 BS4.out).2 0 _ rfl
  have c1 := (BX.out w4 BS4.out).2 1 _ rfl
  have c2 := (BX.out w4 BS4.out).2 2 _ rfl
  have c3 := (BX.out w4 BS4.out).2 3 _ rfl
  have c4 := (BX.out w4 BS4.out).2 4 _ rfl
  have c5 := (BX.out w4 BS4.out).2 5 _ rfl
  have sh : ∀ w', Below w0.heap.size w0 w' → w'.cell? ⟨w.heap.size, 0, none⟩ = some (.int .i64 k1) ∧ w'.cell? ⟨w.heap.size, 1, none⟩ = some (.int .i64 h1') ∧ w'.cell? ⟨w.heap.size, 2, none⟩ = some (.string t1) ∧ w'.cell? ⟨w.heap.size, 3, none⟩ = some (.slice A31 n31 c31) ∧ w'.cell? ⟨w.heap.size, 4, none⟩ = some (.slice A41 n41 c41) ∧ w'.cell? ⟨w.heap.size, 5, none⟩ = some (.slice A51 n51 c51) ∧
      w'.cell? ⟨w.heap.size + 1, 0, none⟩ = some (.int .i64 k2) ∧ w'.cell? ⟨w.heap.size + 1, 1, none⟩ = some (.int .i64 h2') ∧ w'.cell? ⟨w.heap.size + 1, 2, none⟩ = some (.string t2) ∧ w'.cell? ⟨w.heap.size + 1, 3, none⟩ = some (.slice A32 n32 c32) ∧ w'.cell? ⟨w.heap.size + 1, 4, none⟩ = some (.slice A42 n42 c42) ∧ w'.cell? ⟨w.heap.size + 1, 5, none⟩ = some (.slice A52 n52 c52) := fun w' hb =>
    ⟨(BX.out w' hb).1 0 _ rfl, (BX.out w' hb).1 1 _ rfl, (BX.out w' hb).1 2 _ rfl, (BX.out w' hb).1 3 _ rfl, (BX.out w' hb).1 4 _ rfl, (BX.out w' hb).1 5 _ rfl, (BX.out w' hb).2 0 _ rfl, (BX.out w' hb).2 1 _ rfl, (BX.out w' hb).2 2 _ rfl, (BX.out w' hb).2 3 _ rfl, (BX.out w' hb).2 4 _ rfl, (BX.out w' hb).2 5 _ rfl⟩
  have SHOLD := Sec.mk sh
  have L4 := BS4.out.size
  clear CZ1 CZ2 CFN HF BS1 BS2 BS3 sh
  go_upto_region 5 with fail
  go_cut [5, 6] (fun s5 s6 wx => Two w0 x y s5 s6 wx)
  case first =>
   go_region_held3 (fun w' => w'.cell? ⟨w.heap.size, 0, none⟩ = some (.int .i64 k1) ∧ w'.cell? ⟨w.heap.size, 1, none⟩ = some (.int .i64 h1') ∧ w'.cell? ⟨w.heap.size, 2, none⟩ = some (.string t1) ∧ w'.cell? ⟨w.heap.size, 3, none⟩ = some (.slice A31 n31 c31) ∧ w'.cell? ⟨w.heap.size, 4, none⟩ = some (.slice A41 n41 c41) ∧ w'.cell? ⟨w.heap.size, 5, none⟩ = some (.slice A51 n51 c51) ∧
      w'.cell? ⟨w.heap.size + 1, 0, none⟩ = some (.int .i64 k2) ∧ w'.cell? ⟨w.heap.size + 1, 1, none⟩ = some (.int .i64 h2') ∧ w'.cell? ⟨w.heap.size + 1, 2, none⟩ = some (.string t2) ∧ w'.cell? ⟨w.heap.size + 1, 3, none⟩ = some (.slice A32 n32 c32) ∧ w'.cell? ⟨w.heap.size + 1, 4, none⟩ = some (.slice A42 n42 c42) ∧ w'.cell? ⟨w.heap.size + 1, 5, none⟩ = some (.slice A52 n52 c52))
    ((exact SHOLD.out _ (by repeat (first | with_reducible exact BS6.out | with_reducible exact BS5.out | with_reducible exact BS4.out | with_reducible refine below_dr ?_ | with_reducible refine below_up ?_ _ | with_reducible refine below_st ?_ (by omega)))))
    (first
      | (go_at_call 16; refine (CS.out _ (by repeat (first | with_reducible exact BS4.out | with_reducible refine below_dr ?_ | with_reducible refine below_up ?_ _))).mono ?_; intro e w5 hw5; obtain ⟨cs5, rfl, hf5, hb5⟩ := hw5; obtain ⟨k3, h3', t3, A33, n33, c33, A43, n43, c43, A53, n53, c53, rfl⟩ := hf5.rd.form; have BS5 : Sec (Below w0.heap.size w0 w5) := Sec.mk (below_then' (by repeat (first | with_reducible exact BS4.out | with_reducible refine below_dr ?_ | with_reducible refine below_up ?_ _)) hb5); obtain ⟨lo5, hlo5, hf5⟩ := lo_of hf5; (try simp only [World.size_alloc, World.size_drew] at hlo5); have SF5 := Sec.mk hf5;  (try (refine Z7.bring1 (g := w4.heap.size) hb5 ?_ ?_; (next => repeat (first | (with_reducible refine Z7.new' _ _ ?_; simp; done) | with_reducible refine Z7.dr ?_ | with_reducible refine Z7.old ?_ _)); intro z1)); (try (refine Z7.bring1 (g := w4.heap.size + 1) hb5 ?_ ?_; (next => repeat (first | (with_reducible refine Z7.new' _ _ ?_; simp; done) | with_reducible refine Z7.dr ?_)); intro z2)); have L5 := hb5.size; (try simp only [World.size_alloc, World.size_drew] at L5); clear hb5 hf5)
      | (go_at_call 17; refine (CE.out _ (by repeat (first | with_reducible exact BS5.out | with_reducible refine below_up ?_ _))).mono ?_; intro e w6 hw6; obtain ⟨cs6, rfl, hf6, hb6⟩ := hw6; obtain ⟨k4, h4', t4, A34, n34, c34, A44, n44, c44, A54, n54, c54, rfl⟩ := hf6.rd.form; have BS6 : Sec (Below w0.heap.size w0 w6) := Sec.mk (below_then' (by repeat (first | with_reducible exact BS5.out | with_reducible refine below_up ?_ _)) hb6); obtain ⟨lo6, hlo6, hf6⟩ := lo_of hf6; (try simp only [World.size_alloc] at hlo6); have SF6 := Sec.mk hf6; have SG5 := Sec.mk (RdF.same SF5.out (SameIn.below (lo := lo5) (B := w5.heap.size) (by repeat (first | with_reducible exact SameIn.none _ _ _ | with_reducible refine SameIn.laid ?_ (by (try simp only [World.size_alloc]); omega))) hb6 (by (try simp only [World.size_alloc]); omega)) (Nat.le_refl _) (Nat.le_refl _));  (try (refine Z7.bring (g := w4.heap.size) hb6 ?_ ?_; (next => repeat (first | with_reducible exact z1.out | with_reducible refine Z7.old ?_ _)); intro Z1; rintro ⟨p0, p1, p2, p3, p4, p5, p6, r0, r1, r2, r3, r4, r5, r6, l1⟩)); (try (refine Z7.bring (g := w4.heap.size + 1) hb6 ?_ ?_; (next => with_reducible exact z2.out); intro Z2; rintro ⟨u0, u1, u2, u3, u4, u5, u6, v0, v1, v2, v3, v4, v5, v6, l2⟩)); (try (refine Z7.bring (g := w5.heap.size) hb6 ?_ ?_; (next => first | (with_reducible refine Z7.new' _ _ ?_; simp; done) | (with_reducible refine Z7.old ?_ _; (with_reducible refine Z7.new' _ _ ?_; simp; done))); intro Z3; rintro ⟨s0, s1, s2, s3, s4, s5, s6, x0, x1, x2, x3, x4, x5, x6, l3⟩)); (try (refine Z7.bring (g := w5.heap.size + 1) hb6 ?_ ?_; (next => (with_reducible refine Z7.new' _ _ ?_; simp; done)); intro Z4; rintro ⟨y0, y1, y2, y3, y4, y5, y6, i0, i1, i2, i3, i4, i5, i6, l4⟩)); have L6 := hb6.size; (try simp only [World.size_alloc] at L6); clear hb6 hf6))
   all_goals
     go_wp2_with fail
     go_meet
     refine two_of ?_ SG5.out SF6.out BS6.out ?_
     · first
         | with_reducible exact Aft.nn _ _ _ _ _ rfl rfl
         | with_reducible exact (Aft.nn _ _ _ _ _ rfl rfl).swap
         | with_reducible exact Aft.pn Z1.out _ _ _ _ _ _ _ _ _ rfl
         | with_reducible exact Aft.pn Z3.out _ _ _ _ _ _ _ _ _ rfl
         | with_reducible exact (Aft.pn Z1.out _ _ _ _ _ _ _ _ _ rfl).swap
         | with_reducible exact (Aft.pn Z3.out _ _ _ _ _ _ _ _ _ rfl).swap
         | (with_reducible refine Aft.pp ?_ ?_ ?_ _ _ _ _ _ _ _ _ _ _ _ _ _ _; (next => first | exact Z1.out | exact Z2.out | exact Z3.out | exact Z4.out); (next => first | exact Z1.out | exact Z2.out | exact Z3.out | exact Z4.out); omega)
     · omega
  case rest =>
   have hks := HR.out.1.k_str
   have hks' := HR.out.2.1.k_str
   obtain ⟨g5, g6, k3, h3', t3, A33, n33, c33, A43, n43, c43, A53, n53, c53, k4, h4', t4, A34, n34, c34, A44, n44, c44, A54, n54, c54, rfl, rfl, z5, z6, r5, r6, bc⟩ := hcut
   have a0 := (BX.out wc bc).1 0 _ rfl
   have c0 := (BX.out wc bc).2 0 _ rfl
   have BC := Sec.mk bc
   by_cases hk : k1 = 4 ∧ k2 = 4
   · have hst : starts x y = boolV (Lib.hasPrefix t1.data.toList t2.data.toList) := by unfold starts; rw [hks.1, hks'.1, if_pos hk, hks.2, hks'.2]
     have hse : starts_end x y = 0 := by unfold starts_end; rw [hks.1, hks'.1, if_pos hk]
     have hen : ends x y = boolV (Lib.hasSuffix t1.data.toList t2.data.toList) := by unfold ends; rw [hks.1, hks'.1, if_pos hk, hks.2, hks'.2]
     have hee : ends_end x y = 0 := by unfold ends_end; rw [hks.1, hks'.1, if_pos hk]
     rw [hst] at r5
     rw [hse] at z5
     rw [hen] at r6
     rw [hee] at z6
     obtain ⟨e1, e2⟩ := hk
     subst e1
     subst e2
     have s1 : t1.size ≤ 4096 := by have := FX.out.1.2; rw [← hks.2]; cases x; exact this
     have s2 : t2.size ≤ 4096 := by have := FX.out.2.2; rw [← hks'.2]; cases y; exact this
     have R5 := Sec.mk r5
     have R6 := Sec.mk r6
     have cBG : ∀ W, Calls Tryd.prog 21 #[.string t1, .string t2] W fun e w' => e = .returned (.bool (Lib.hasPrefix t1.data.toList t2.data.toList)) ∧ w' = W := fun W => begins_any t1 t2 W s1 s2
     have cEN : ∀ W, Calls Tryd.prog 22 #[.string t1, .string t2] W fun e w' => e = .returned (.bool (Lib.hasSuffix t1.data.toList t2.data.toList)) ∧ w' = W := fun W => ends_any t1 t2 W s1 s2
     have cG5 : ∀ W ds (da : Array Value) lo, da = ds.toArray → Below wc.heap.size wc W → RdF W lo W.heap.size (boolV (Lib.hasPrefix t1.data.toList t2.data.toList)) ds → Calls Tryd.prog 19 #[.agg #[.int .i64 k3, .int .i64 h3', .string t3, .slice A33 n33 c33, .slice A43 n43 c43, .slice A53 n53 c53, .int .i64 0], .agg da] W (Yes W) := fun W ds da lo hd hb hf => by
       subst hd; exact
       says_self _ [.int .i64 k3, .int .i64 h3', .string t3, .slice A33 n33 c33, .slice A43 n43 c43, .slice A53 n53 c53] ds W W.heap.size (Rd.mono hb.size _ _ (Rd.same (Same.of_below hb) _ _ R5.out)) hf.rd (Nat.le_refl _)
     have cG6 : ∀ W ds (da : Array Value) lo, da = ds.toArray → Below wc.heap.size wc W → RdF W lo W.heap.size (boolV (Lib.hasSuffix t1.data.toList t2.data.toList)) ds → Calls Tryd.prog 19 #[.agg #[.int .i64 k4, .int .i64 h4', .string t4, .slice A34 n34 c34, .slice A44 n44 c44, .slice A54 n54 c54, .int .i64 0], .agg da] W (Yes W) := fun W ds da lo hd hb hf => by
       subst hd; exact
       says_self _ [.int .i64 k4, .int .i64 h4', .string t4, .slice A34 n34 c34, .slice A44 n44 c44, .slice A54 n54 c54] ds W W.heap.size (Rd.mono hb.size _ _ (Rd.same (Same.of_below hb) _ _ R6.out)) hf.rd (Nat.le_refl _)
     have CBG := Sec.mk cBG
     have CEN := Sec.mk cEN
     have CG5 := Sec.mk cG5
     have CG6 := Sec.mk cG6
     have sh : ∀ w', Below wc.heap.size wc w' → w'.cell? ⟨g5, 0, none⟩ = some (.int .i64 k3) ∧ w'.cell? ⟨g5, 1, none⟩ = some (.int .i64 h3') ∧ w'.cell? ⟨g5, 2, none⟩ = some (.string t3) ∧ w'.cell? ⟨g5, 3, none⟩ = some (.slice A33 n33 c33) ∧ w'.cell? ⟨g5, 4, none⟩ = some (.slice A43 n43 c43) ∧ w'.cell? ⟨g5, 5, none⟩ = some (.slice A53 n53 c53) ∧ w'.cell? ⟨g5, 6, none⟩ = some (.int .i64 0) ∧ w'.cell? ⟨g6, 0, none⟩ = some (.int .i64 k4) ∧ w'.cell? ⟨g6, 1, none⟩ = some (.int .i64 h4') ∧ w'.cell? ⟨g6, 2, none⟩ = some (.string t4) ∧ w'.cell? ⟨g6, 3, none⟩ = some (.slice A34 n34 c34) ∧ w'.cell? ⟨g6, 4, none⟩ = some (.slice A44 n44 c44) ∧ w'.cell? ⟨g6, 5, none⟩ = some (.slice A54 n54 c54) ∧ w'.cell? ⟨g6, 6, none⟩ = some (.int .i64 0) ∧ w'.cell? ⟨w.heap.size, 2, none⟩ = some (.string t1) ∧ w'.cell? ⟨w.heap.size + 1, 2, none⟩ = some (.string t2) := fun w' hb =>
       ⟨C7.cell (C7.keep hb z5) 0 _ rfl, C7.cell (C7.keep hb z5) 1 _ rfl, C7.cell (C7.keep hb z5) 2 _ rfl, C7.cell (C7.keep hb z5) 3 _ rfl, C7.cell (C7.keep hb z5) 4 _ rfl, C7.cell (C7.keep hb z5) 5 _ rfl, C7.cell (C7.keep hb z5) 6 _ rfl,
        C7.cell (C7.keep hb z6) 0 _ rfl, C7.cell (C7.keep hb z6) 1 _ rfl, C7.cell (C7.keep hb z6) 2 _ rfl, C7.cell (C7.keep hb z6) 3 _ rfl, C7.cell (C7.keep hb z6) 4 _ rfl, C7.cell (C7.keep hb z6) 5 _ rfl, C7.cell (C7.keep hb z6) 6 _ rfl,
        (BX.out w' (below_then' BC.out hb)).1 2 _ rfl, (BX.out w' (below_then' BC.out hb)).2 2 _ rfl⟩
     have SH := Sec.mk sh
     clear z5 z6 r5 r6 hst hse hen hee cBG cEN cG5 cG6 sh hks hks' bc s1 s2 CS CE SHOLD BS4
     go_upto_region 8 with fail
     go_region_held3 (fun w' => w'.cell? ⟨g5, 0, none⟩ = some (.int .i64 k3) ∧ w'.cell? ⟨g5, 1, none⟩ = some (.int .i64 h3') ∧ w'.cell? ⟨g5, 2, none⟩ = some (.string t3) ∧ w'.cell? ⟨g5, 3, none⟩ = some (.slice A33 n33 c33) ∧ w'.cell? ⟨g5, 4, none⟩ = some (.slice A43 n43 c43) ∧ w'.cell? ⟨g5, 5, none⟩ = some (.slice A53 n53 c53) ∧ w'.cell? ⟨g5, 6, none⟩ = some (.int .i64 0) ∧ w'.cell? ⟨g6, 0, none⟩ = some (.int .i64 k4) ∧ w'.cell? ⟨g6, 1, none⟩ = some (.int .i64 h4') ∧ w'.cell? ⟨g6, 2, none⟩ = some (.string t4) ∧ w'.cell? ⟨g6, 3, none⟩ = some (.slice A34 n34 c34) ∧ w'.cell? ⟨g6, 4, none⟩ = some (.slice A44 n44 c44) ∧ w'.cell? ⟨g6, 5, none⟩ = some (.slice A54 n54 c54) ∧ w'.cell? ⟨g6, 6, none⟩ = some (.int .i64 0) ∧ w'.cell? ⟨w.heap.size, 2, none⟩ = some (.string t1) ∧ w'.cell? ⟨w.heap.size + 1, 2, none⟩ = some (.string t2))
      ((exact SH.out _ (by repeat (first | with_reducible exact below_dr (Below.refl _ _) | with_reducible exact BS7.out))))
      (first
        | (go_at_call 21; refine (CBG.out _).mono ?_; rintro e w' ⟨rfl, rfl⟩)
        | (go_at_call 22; refine (CEN.out _).mono ?_; rintro e w' ⟨rfl, rfl⟩)
        | (go_at_call 20; refine (bool_said _ _).mono ?_; intro e w7 hw7; obtain ⟨cs7, rfl, hf7, hb7⟩ := hw7; obtain ⟨k7, h7', t7, A37, n37, c37, A47, n47, c47, A57, n57, c57, rfl⟩ := hf7.rd.form; have SF7 := Sec.mk hf7; have BS7 : Sec (Below wc.heap.size wc w7) := Sec.mk (below_then' (by first | with_reducible exact below_dr (Below.refl _ _) | with_reducible exact BS7.out) hb7); clear hb7 hf7)
        | (go_at_call 19; refine (CG5.out _ [.int .i64 k7, .int .i64 h7', .string t7, .slice A37 n37 c37, .slice A47 n47 c47, .slice A57 n57 c57] #[.int .i64 k7, .int .i64 h7', .string t7, .slice A37 n37 c37, .slice A47 n47 c47, .slice A57 n57 c57] _ rfl BS7.out SF7.out).mono ?_; intro e w7 hw7; obtain ⟨rfl, hb7⟩ := hw7; have BS7 : Sec (Below wc.heap.size wc w7) := Sec.mk (below_then' BS7.out hb7); clear hb7 CG5)
        | (go_at_call 19; refine (CG6.out _ [.int .i64 k7, .int .i64 h7', .string t7, .slice A37 n37 c37, .slice A47 n47 c47, .slice A57 n57 c57] #[.int .i64 k7, .int .i64 h7', .string t7, .slice A37 n37 c37, .slice A47 n47 c47, .slice A57 n57 c57] _ rfl BS7.out SF7.out).mono ?_; intro e w7 hw7; obtain ⟨rfl, hb7⟩ := hw7; have BS7 : Sec (Below wc.heap.size wc w7) := Sec.mk (below_then' BS7.out hb7); clear hb7))
     go_wp2
     go_ret
     exact ⟨rfl, below_then' (below_then' B0.out BC.out) BS7.out⟩
   · have hst : starts x y = nilV := by unfold starts; rw [hks.1, hks'.1, if_neg hk]
     have hse : starts_end x y = 1 := by unfold starts_end; rw [hks.1, hks'.1, if_neg hk]
     have hen : ends x y = nilV := by unfold ends; rw [hks.1, hks'.1, if_neg hk]
     have hee : ends_end x y = 1 := by unfold ends_end; rw [hks.1, hks'.1, if_neg hk]
     rw [hst] at r5
     rw [hse] at z5
     rw [hen] at r6
     rw [hee] at z6
     have cW5 : ∀ W, Below wc.heap.size wc W → Calls Tryd.prog 18 #[.agg #[.int .i64 k3, .int .i64 h3', .string t3, .slice A33 n33 c33, .slice A43 n43 c43, .slice A53 n53 c53, .int .i64 1]] W (Yes W) := fun W hb =>
       wrong_self [.int .i64 k3, .int .i64 h3', .string t3, .slice A33 n33 c33, .slice A43 n43 c43, .slice A53 n53 c53] W W.heap.size (Rd.mono hb.size _ _ (Rd.same (Same.of_below hb) _ _ r5)) (Nat.le_refl _)
     have cW6 : ∀ W, Below wc.heap.size wc W → Calls Tryd.prog 18 #[.agg #[.int .i64 k4, .int .i64 h4', .string t4, .slice A34 n34 c34, .slice A44 n44 c44, .slice A54 n54 c54, .int .i64 1]] W (Yes W) := fun W hb =>
       wrong_self [.int .i64 k4, .int .i64 h4', .string t4, .slice A34 n34 c34, .slice A44 n44 c44, .slice A54 n54 c54] W W.heap.size (Rd.mono hb.size _ _ (Rd.same (Same.of_below hb) _ _ r6)) (Nat.le_refl _)
     have CW5 := Sec.mk cW5
     have CW6 := Sec.mk cW6
     have Z5 := Sec.mk z5
     have Z6 := Sec.mk z6
     have p0 := z5.cell 0 _ rfl
     have p1 := z5.cell 1 _ rfl
     have p2 := z5.cell 2 _ rfl
     have p3 := z5.cell 3 _ rfl
     have p4 := z5.cell 4 _ rfl
     have p5 := z5.cell 5 _ rfl
     have p6 := z5.cell 6 _ rfl
     clear z5 z6 r5 r6 hst hse hen hee cW5 cW6 hks hks' bc CS CE SHOLD BS4
     by_cases e1 : k1 = 4
     · have e2 : ¬ k2 = 4 := fun e => hk ⟨e1, e⟩
       have d1 : (k1 != 4) = false := by simp [e1]
       have d2 : (k2 != 4) = true := by simp [e2]
       clear hk
       go_wp2_with fail
       refine (CW5.out _ (Below.refl _ _)).mono ?_
       intro e w7 hw7
       obtain ⟨rfl, hb7⟩ := hw7
       have q0 := (Z6.out.keep hb7).cell 0 _ rfl
       have q1 := (Z6.out.keep hb7).cell 1 _ rfl
       have q2 := (Z6.out.keep hb7).cell 2 _ rfl
       have q3 := (Z6.out.keep hb7).cell 3 _ rfl
       have q4 := (Z6.out.keep hb7).cell 4 _ rfl
       have q5 := (Z6.out.keep hb7).cell 5 _ rfl
       have q6 := (Z6.out.keep hb7).cell 6 _ rfl
       have BS7 := Sec.mk hb7
       clear hb7
       go_wp2_with fail
       refine (CW6.out _ BS7.out).mono ?_
       intro e w8 hw8
       obtain ⟨rfl, hb8⟩ := hw8
       have BS8 := Sec.mk (below_then' BS7.out hb8)
       clear hb8
       go_wp2
       go_ret
       exact ⟨rfl, below_then' (below_then' B0.out BC.out) BS8.out⟩
     · have d1 : (k1 != 4) = true := by simp [e1]
       clear hk
       go_wp2_with fail
       refine (CW5.out _ (Below.refl _ _)).mono ?_
       intro e w7 hw7
       obtain ⟨rfl, hb7⟩ := hw7
       have q0 := (Z6.out.keep hb7).cell 0 _ rfl
       have q1 := (Z6.out.keep hb7).cell 1 _ rfl
       have q2 := (Z6.out.keep hb7).cell 2 _ rfl
       have q3 := (Z6.out.keep hb7).cell 3 _ rfl
       have q4 := (Z6.out.keep hb7).cell 4 _ rfl
       have q5 := (Z6.out.keep hb7).cell 5 _ rfl
       have q6 := (Z6.out.keep hb7).cell 6 _ rfl
       have BS7 := Sec.mk hb7
       clear hb7
       go_wp2_with fail
       refine (CW6.out _ BS7.out).mono ?_
       intro e w8 hw8
       obtain ⟨rfl, hb8⟩ := hw8
       have BS8 := Sec.mk (below_then' BS7.out hb8)
       clear hb8
       go_wp2
       go_ret
       exact ⟨rfl, below_then' (below_then' B0.out BC.out) BS8.out⟩

end Go.Proofs.YtpamlgdcnmcedaaDoor
