/-
  laws.FnRepeat: the walk.
-/
import Derived.Test.YtpamlgdcnmcedaaDoorRep
import Derived.Test.YtpamlgdcnmcedaaDoorLk
import Derived.Deep.RegionWith
import Derived.Deep.RegionHeld3
namespace Go.Proofs.YtpamlgdcnmcedaaDoor
set_option linter.unusedVariables false
set_option linter.unusedSimpArgs false
open Go.RowKit

set_option maxHeartbeats 800000 in
set_option maxRecDepth 100000 in
theorem fnRepeat_long (s : ByteArray) (n : Int) (w : World) (hs : 2147483647 < s.size) : Calls Tryd.prog 7 #[.string s, .int .i64 n] w (Yes w) := by
  have d1 : decide ((2147483647 : Int) < s.size) = true := decide_eq_true (by omega)
  clear hs
  go_enter Tryd.func7, Tryd.ntmps7
  go_wp2
  go_ret
  exact ⟨rfl, Below.refl _ _⟩

theorem wrap_i64 (x : Int) (h0 : -4294967296 ≤ x) (h1 : x ≤ 4294967296) : IntKind.i64.wrap x = x := by
  have e1 : IntKind.i64.bits = 64 := rfl
  have e2 : IntKind.i64.signed = true := rfl
  unfold IntKind.wrap
  rw [e1, e2]
  simp only [Bool.true_and, decide_eq_true_eq]
  split <;> omega
theorem prod_le (a : Nat) (n : Int) (h : a ≤ 4096) (h1 : n ≤ 4096) (h2 : -4096 ≤ n) : (a : Int) * n ≤ 4096 * 4096 := by
  have e1 : (a : Int) * n ≤ (a : Int) * 4096 := Int.mul_le_mul_of_nonneg_left h1 (by omega)
  omega
theorem prod_ge (a : Nat) (n : Int) (h : a ≤ 4096) (h1 : n ≤ 4096) (h2 : -4096 ≤ n) : -(4096 * 4096) ≤ (a : Int) * n := by
  have e1 : (a : Int) * -4096 ≤ (a : Int) * n := Int.mul_le_mul_of_nonneg_left h2 (by omega)
  omega

set_option maxHeartbeats 800000 in
set_option maxRecDepth 100000 in
theorem fnRepeat_out (VS : ValidSaid) (s : ByteArray) (n : Int) (w : World) (hs : s.size ≤ 2147483647) (hT : Tabs w) (hn : -9223372036854775808 ≤ n ∧ n ≤ 9223372036854775807)
    (ho : ¬ (s.size ≤ 4096 ∧ Lib.validD s.data.toList = true ∧ n ≠ 0 ∧ n ≤ 4096 ∧ -4096 ≤ n ∧ (s.size : Int) * n ≤ 65536)) : Calls Tryd.prog 7 #[.string s, .int .i64 n] w (Yes w) := by
  have d1 : decide ((2147483647 : Int) < s.size) = false := decide_eq_false (by omega)
  have CV := Sec.mk (VS s w (by unfold reach; omega) hT)
  by_cases c1 : s.size ≤ 4096
  · have d2 : decide ((4096 : Int) < s.size) = false := decide_eq_false (by omega)
    by_cases c2 : Lib.validD s.data.toList = true
    · rw [c2] at CV
      by_cases c3 : n = 0
      · subst c3
        clear hs hT hn ho c1 c2
        go_enter Tryd.func7, Tryd.ntmps7
        go_wp2_with (go_at_call 25; refine CV.out.mono ?_; intro e w1 hw1; obtain ⟨rfl, hb⟩ := hw1; have HB := Sec.mk hb; clear hb)
        go_ret
        exact ⟨rfl, HB.out⟩
      · have d3 : (n == 0) = false := by simp [c3]
        by_cases c4 : n ≤ 4096
        · have d4 : decide (4096 < n) = false := decide_eq_false (by omega)
          by_cases c5 : -4096 ≤ n
          · have d5 : decide (n < -4096) = false := decide_eq_false (by omega)
            have c6 : 65536 < (s.size : Int) * n := by
              apply Int.not_le.1
              intro c6
              exact ho ⟨c1, c2, c3, c4, c5, c6⟩
            have m1 : (s.size : Int) * n ≤ 4096 * 4096 := prod_le s.size n (by omega) c4 c5
            have d6 : wrap64 (n * (s.size : Int)) = n * (s.size : Int) := by rw [Int.mul_comm] at m1 c6; unfold wrap64; omega
            have d7 : decide ((65536 : Int) < n * (s.size : Int)) = true := by rw [Int.mul_comm]; exact decide_eq_true c6
            clear hs hT hn ho c1 c2 c3 c4 c5 c6 m1
            go_enter Tryd.func7, Tryd.ntmps7
            go_wp2_with (go_at_call 25; refine CV.out.mono ?_; intro e w1 hw1; obtain ⟨rfl, hb⟩ := hw1; have HB := Sec.mk hb; clear hb)
            go_ret
            exact ⟨rfl, HB.out⟩
          · have d5 : decide (n < -4096) = true := decide_eq_true (by omega)
            clear hs hT hn ho c1 c2 c3 c4 c5
            go_enter Tryd.func7, Tryd.ntmps7
            go_wp2_with (go_at_call 25; refine CV.out.mono ?_; intro e w1 hw1; obtain ⟨rfl, hb⟩ := hw1; have HB := Sec.mk hb; clear hb)
            go_ret
            exact ⟨rfl, HB.out⟩
        · have d4 : decide (4096 < n) = true := decide_eq_true (by omega)
          clear hs hT hn ho c1 c2 c3 c4
          go_enter Tryd.func7, Tryd.ntmps7
          go_wp2_with (go_at_call 25; refine CV.out.mono ?_; intro e w1 hw1; obtain ⟨rfl, hb⟩ := hw1; have HB := Sec.mk hb; clear hb)
          go_ret
          exact ⟨rfl, HB.out⟩
    · rw [Bool.not_eq_true] at c2
      rw [c2] at CV
      clear hs hT hn ho c1 c2
      go_enter Tryd.func7, Tryd.ntmps7
      go_wp2_with (go_at_call 25; refine CV.out.mono ?_; intro e w1 hw1; obtain ⟨rfl, hb⟩ := hw1; have HB := Sec.mk hb; clear hb)
      go_ret
      exact ⟨rfl, HB.out⟩
  · have d2 : decide ((4096 : Int) < s.size) = true := decide_eq_true (by omega)
    clear hs hT hn ho c1
    go_enter Tryd.func7, Tryd.ntmps7
    go_wp2
    go_ret
    exact ⟨rfl, Below.refl _ _⟩

set_option maxHeartbeats 1600000 in
set_option maxRecDepth 100000 in
theorem fnRepeat_neg (VS : ValidSaid) (s : ByteArray) (n : Int) (w : World) (hT : Tabs w) (c1 : s.size ≤ 4096) (c2 : Lib.validD s.data.toList = true) (c3 : n < 0) (c5 : -4096 ≤ n) (c6 : (s.size : Int) * n ≤ 65536) :
    Calls Tryd.prog 7 #[.string s, .int .i64 n] w (Yes w) := by
  have d1 : decide ((2147483647 : Int) < s.size) = false := decide_eq_false (by omega)
  have cv := VS s w (by unfold reach; omega) hT
  rw [c2] at cv
  have CV := Sec.mk cv
  have d2 : decide ((4096 : Int) < s.size) = false := decide_eq_false (by omega)
  have d3 : (n == 0) = false := by simp; omega
  have d4 : decide (4096 < n) = false := decide_eq_false (by omega)
  have d5 : decide (n < -4096) = false := decide_eq_false (by omega)
  have m1 : -(4096 * 4096) ≤ (s.size : Int) * n := prod_ge s.size n (by omega) (by omega) c5
  have d6 : wrap64 (n * (s.size : Int)) = n * (s.size : Int) := by have mc : (s.size : Int) * n = n * (s.size : Int) := Int.mul_comm _ _; rw [mc] at m1 c6; unfold wrap64; omega
  have d7 : decide ((65536 : Int) < n * (s.size : Int)) = false := by rw [Int.mul_comm]; exact decide_eq_false (by omega)
  have d8 : decide (0 < n) = false := decide_eq_false (by omega)
  have d9 : IntKind.i64.wrap (2 * n) = 2 * n := wrap_i64 _ (by omega) (by omega)
  have cr : ∀ (u : Int) (hu : u = IntKind.i64.wrap (2 * n) ∨ u = 2 * n) (w : World), Calls Tryd.prog 26 #[.string s, .int .i64 u] w fun e w' => ∃ cs, e = .returned (.agg (cs ++ [Value.int .i64 0]).toArray) ∧ RdF w' w.heap.size w'.heap.size (repV s n) cs ∧ Below w.heap.size w w' := by
    intro u hu w
    have e : u = 2 * n := by rcases hu with e | e; exact e.trans d9; exact e
    subst e
    exact repeatDoor_any s n w (by omega) c5 (by omega) c1 c6
  have CR := Sec.mk cr
  have HV : Sec (repV s n = .mk 0 0 ⟨#[]⟩ [] [] []) := ⟨if_neg (by omega)⟩
  clear hT c1 c2 c3 c5 c6 m1 cv d9 cr
  go_enter Tryd.func7, Tryd.ntmps7
  go_upto_region 13 with (go_at_call 25; refine CV.out.mono ?_; intro e w1 hw1; obtain ⟨rfl, hb⟩ := hw1; have HB := Sec.mk hb; clear hb)
  obtain ⟨w3, hw3⟩ : ∃ w3, w1.alloc (.cells #[.int .i64 0, .int .i64 0, .string ⟨#[]⟩, .slice none 0 0, .slice none 0 0, .slice none 0 0] 26) = w3 := ⟨_, rfl⟩
  have BX : ∀ j v, #[Value.int .i64 0, .int .i64 0, .string ⟨#[]⟩, .slice none 0 0, .slice none 0 0, .slice none 0 0][j]? = some v → w3.cell? ⟨w1.heap.size, j, none⟩ = some v := by
    rw [← hw3]; exact box_after w1 _ _ _ (Below.refl _ _)
  have LT : w1.heap.size < w3.heap.size := by rw [← hw3]; simp
  have b3 : Below w.heap.size w w3 := by rw [← hw3]; exact HB.out.alloc HB.out.size _
  have B3 := Sec.mk b3
  rw [hw3]
  have a0 := BX 0 _ rfl
  have a1 := BX 1 _ rfl
  have a2 := BX 2 _ rfl
  have a3 := BX 3 _ rfl
  have a4 := BX 4 _ rfl
  have a5 := BX 5 _ rfl
  clear hw3 BX b3
  go_region_with (first | (go_at_call 26; refine (CR.out _ (by first | exact .inl rfl | exact .inr rfl) _).mono ?_; intro e w4 hw4; obtain ⟨cs, rfl, hf, hb4⟩ := hw4; have hr4 := hf.rd; rw [HV.out] at hr4; obtain ⟨k2, h2', t2, A32, n32, c32, A42, n42, c42, A52, n52, c52, rfl⟩ := hr4.form; have e0 := (hb4.cell (p := ⟨w1.heap.size, 0, none⟩) LT).trans a0; have e1 := (hb4.cell (p := ⟨w1.heap.size, 1, none⟩) LT).trans a1; have e2 := (hb4.cell (p := ⟨w1.heap.size, 2, none⟩) LT).trans a2; have e3 := (hb4.cell (p := ⟨w1.heap.size, 3, none⟩) LT).trans a3; have e4 := (hb4.cell (p := ⟨w1.heap.size, 4, none⟩) LT).trans a4; have e5 := (hb4.cell (p := ⟨w1.heap.size, 5, none⟩) LT).trans a5; have BS4 := Sec.mk (below_then' B3.out ((Below.refl w3.heap.size w3).drew.trans hb4)); have cg : Calls Tryd.prog 19 #[.agg #[.int .i64 k2, .int .i64 h2', .string t2, .slice A32 n32 c32, .slice A42 n42 c42, .slice A52 n52 c52, .int .i64 0], .agg #[.int .i64 0, .int .i64 0, .string ⟨#[]⟩, .slice none 0 0, .slice none 0 0, .slice none 0 0]] w4 (Yes w4) := says_self _ [.int .i64 k2, .int .i64 h2', .string t2, .slice A32 n32 c32, .slice A42 n42 c42, .slice A52 n52 c52] [.int .i64 0, .int .i64 0, .string ⟨#[]⟩, .slice none 0 0, .slice none 0 0, .slice none 0 0] w4 _ hr4 (rdF_plain (w := w4) (lo := 0) (by decide)).rd (Nat.le_refl _); have CG := Sec.mk cg; clear cg hf hr4 hb4) | (go_at_call 19; refine CG.out.mono ?_; intro e w5 hw5; obtain ⟨rfl, hb5⟩ := hw5; have BS5 := Sec.mk (below_then' BS4.out hb5); clear hb5))
  all_goals
    go_wp2
    go_ret
    exact ⟨rfl, BS5.out⟩

set_option maxHeartbeats 800000 in
set_option maxRecDepth 100000 in
theorem str_said (t : ByteArray) (w : World) : Calls Tryd.prog 24 #[.string t] w fun e w' => e = .returned (.agg #[.int .i64 4, .int .i64 0, .string t, .slice none 0 0, .slice none 0 0, .slice none 0 0]) ∧ Below w.heap.size w w' := by
  go_enter Tryd.func24, Tryd.ntmps24
  go_wp2
  exact bodyPost_ret (v := .agg #[.int .i64 4, .int .i64 0, .string t, .slice none 0 0, .slice none 0 0, .slice none 0 0]) (by simp [results, Tryd.results24, go_sem]) rfl ⟨rfl, (Below.refl _ _).alloc (Nat.le_refl _) _⟩

theorem repeat_snoc (s : ByteArray) (i : Nat) : ByteArray.mk (Lib.repeatL s.data.toList i).toArray ++ s = ⟨(Lib.repeatL s.data.toList (i + 1)).toArray⟩ := by
  apply ByteArray.ext
  rw [ByteArray.data_append, Lib.repeatL_add, Lib.repeatL_one]
  apply Array.ext'
  simp

set_option maxHeartbeats 1600000 in
set_option maxRecDepth 100000 in
theorem fnRepeat_pos (VS : ValidSaid) (s : ByteArray) (m : Nat) (w : World) (hT : Tabs w) (c1 : s.size ≤ 4096) (c2 : Lib.validD s.data.toList = true) (c3 : 0 < m) (c4 : m ≤ 4096) (c6 : (s.size : Int) * (m : Int) ≤ 65536) :
    Calls Tryd.prog 7 #[.string s, .int .i64 (m : Int)] w (Yes w) := by
  have d1 : decide ((2147483647 : Int) < s.size) = false := decide_eq_false (by omega)
  have cv := VS s w (by unfold reach; omega) hT
  rw [c2] at cv
  have CV := Sec.mk cv
  have d2 : decide ((4096 : Int) < s.size) = false := decide_eq_false (by omega)
  have d3 : ((m : Int) == 0) = false := by simp; omega
  have d4 : decide (4096 < (m : Int)) = false := decide_eq_false (by omega)
  have d5 : decide ((m : Int) < -4096) = false := decide_eq_false (by omega)
  have m1 : -(4096 * 4096) ≤ (s.size : Int) * (m : Int) := prod_ge s.size (m : Int) (by omega) (by omega) (by omega)
  have d6 : wrap64 ((m : Int) * (s.size : Int)) = (m : Int) * (s.size : Int) := by have mc : (s.size : Int) * (m : Int) = (m : Int) * (s.size : Int) := Int.mul_comm _ _; rw [mc] at m1 c6; unfold wrap64; omega
  have d7 : decide ((65536 : Int) < (m : Int) * (s.size : Int)) = false := by rw [Int.mul_comm]; exact decide_eq_false (by omega)
  have d8 : decide (0 < (m : Int)) = true := decide_eq_true (by omega)
  have d8' : decide (0 < m) = true := decide_eq_true (by omega)
  have d9 : IntKind.i64.wrap (2 * (m : Int)) = 2 * (m : Int) := wrap_i64 _ (by omega) (by omega)
  have cr : ∀ (u : Int) (hu : u = IntKind.i64.wrap (2 * (m : Int)) ∨ u = 2 * (m : Int)) (w : World), Calls Tryd.prog 26 #[.string s, .int .i64 u] w fun e w' => ∃ cs, e = .returned (.agg (cs ++ [Value.int .i64 0]).toArray) ∧ RdF w' w.heap.size w'.heap.size (repV s (m : Int)) cs ∧ Below w.heap.size w w' := by
    intro u hu w
    have e : u = 2 * (m : Int) := by rcases hu with e | e; exact e.trans d9; exact e
    subst e
    exact repeatDoor_any s (m : Int) w (by omega) (by omega) (by omega) c1 c6
  have CR := Sec.mk cr
  have HV : Sec (repV s (m : Int) = .mk 4 0 ⟨(Lib.repeatL s.data.toList m).toArray⟩ [] [] []) := ⟨if_pos (by omega)⟩
  have HC := Sec.mk c1
  have HM := Sec.mk c4
  clear hT c1 c2 c3 c4 c6 m1 cv d9 cr
  go_enter Tryd.func7, Tryd.ntmps7
  go_wp2_with (go_at_call 25; refine CV.out.mono ?_; intro e w1 hw1; obtain ⟨rfl, hb⟩ := hw1; have HB := Sec.mk hb; clear hb)
  obtain ⟨w2, hw2⟩ : ∃ w2, w1.alloc (.cells #[.int .i64 0, .int .i64 0, .string ⟨#[]⟩, .slice none 0 0, .slice none 0 0, .slice none 0 0] 26) = w2 := ⟨_, rfl⟩
  rw [hw2]
  go_loopw [6, 7] (fun v6 v7 wr => ∃ i : Nat, v7 = .int .i64 i ∧ i ≤ m ∧ v6 = .string ⟨(Lib.repeatL s.data.toList i).toArray⟩ ∧ wr = w2) (fun _ v7 _ => m - (intOf v7).toNat)
  case atStart => exact ⟨0, rfl, Nat.zero_le _, rfl, rfl⟩
  case round =>
    obtain ⟨i, rfl, hi, rfl, rfl⟩ := hrel
    by_cases hin : i < m
    · have hz : (ByteArray.mk (Lib.repeatL s.data.toList i).toArray).size ≤ 4096 * 4096 := by
        rw [repeat_size]
        exact Nat.mul_le_mul (by have := HM.out; omega) (by rw [Array.length_toList]; exact HC.out)
      have hz2 := HC.out
      have hsum : ((ByteArray.mk (Lib.repeatL s.data.toList i).toArray).size : Int) + (s.size : Int) ≤ 9223372036854775807 := by omega
      have hsum' : (ByteArray.mk (Lib.repeatL s.data.toList i).toArray).size + s.size ≤ 9223372036854775807 := by omega
      have hap : ByteArray.mk (Lib.repeatL s.data.toList i).toArray ++ s = ⟨(Lib.repeatL s.data.toList (i + 1)).toArray⟩ := repeat_snoc s i
      have HAP := Sec.mk hap
      have hm4 := HM.out
      have hw1 : wrap64 ((i : Int) + 1) = ((i + 1 : Nat) : Int) := by unfold wrap64; omega
      clear hap hz hz2
      generalize ByteArray.mk (Lib.repeatL s.data.toList i).toArray = T at *
      go_wp2
      go_roundw
      case rel => exact ⟨i + 1, by first | rfl | rw [hw1] | go_num, by omega, by rw [HAP.out], by first | rfl | trivial⟩
      case measure => simp [intOf, hw1]; omega
    · obtain rfl : i = m := by omega
      go_upto_region 13 with (go_at_call 24; (refine (str_said _ _).mono ?_; intro e w4 hw4; obtain ⟨rfl, hb4⟩ := hw4; rw [← hw2] at hb4; have HB4 := Sec.mk hb4; have hl := laid_after _ _ _ _ hb4; obtain ⟨hc, hfr, hz⟩ := hl; have d0 := hc 0 _ rfl; have d1 := hc 1 _ rfl; have d2 := hc 2 _ rfl; have d3 := hc 3 _ rfl; have d4 := hc 4 _ rfl; have d5 := hc 5 _ rfl; have f0 := hfr 0; have f1 := hfr 1; have f2 := hfr 2; have f3 := hfr 3; have f4 := hfr 4; have f5 := hfr 5; clear hc hfr hb4))
      have g0 : w4.cell? ⟨w1.heap.size, 0, none⟩ = some (.int .i64 0) := d0
      have g1 : w4.cell? ⟨w1.heap.size, 1, none⟩ = some (.int .i64 0) := d1
      have g2 : w4.cell? ⟨w1.heap.size, 2, none⟩ = some (.string ⟨#[]⟩) := d2
      have g3 : w4.cell? ⟨w1.heap.size, 3, none⟩ = some (.slice none 0 0) := d3
      have g4 : w4.cell? ⟨w1.heap.size, 4, none⟩ = some (.slice none 0 0) := d4
      have g5 : w4.cell? ⟨w1.heap.size, 5, none⟩ = some (.slice none 0 0) := d5
      obtain ⟨w3, hw3⟩ : ∃ w3, ((((((w4.setCell ⟨w1.heap.size, 0, none⟩ (.int .i64 4)).setCell ⟨w1.heap.size, 1, none⟩ (.int .i64 0)).setCell ⟨w1.heap.size, 2, none⟩ (.string ⟨(Lib.repeatL s.data.toList i).toArray⟩)).setCell ⟨w1.heap.size, 3, none⟩ (.slice none 0 0)).setCell ⟨w1.heap.size, 4, none⟩ (.slice none 0 0)).setCell ⟨w1.heap.size, 5, none⟩ (.slice none 0 0)) = w3 := ⟨_, rfl⟩
      have LT : w1.heap.size < w3.heap.size := by rw [← hw3]; simpa [World.setCell] using hz
      have b3 : Below w.heap.size w w3 := by rw [← hw3]; (iterate 6 refine below_set ?_ HB.out.size); exact HB.out.trans ((below_laid HB4.out).mono HB.out.size)
      have B3 := Sec.mk b3
      rw [hw3]
      have a0 : w3.cell? ⟨w1.heap.size, 0, none⟩ = some (.int .i64 4) := by rw [← hw3]; simp [go_sem, g0, g1, g2, g3, g4, g5]
      have a1 : w3.cell? ⟨w1.heap.size, 1, none⟩ = some (.int .i64 0) := by rw [← hw3]; simp [go_sem, g0, g1, g2, g3, g4, g5]
      have a2 : w3.cell? ⟨w1.heap.size, 2, none⟩ = some (.string ⟨(Lib.repeatL s.data.toList i).toArray⟩) := by rw [← hw3]; simp [go_sem, g0, g1, g2, g3, g4, g5]
      have a3 : w3.cell? ⟨w1.heap.size, 3, none⟩ = some (.slice none 0 0) := by rw [← hw3]; simp [go_sem, g0, g1, g2, g3, g4, g5]
      have a4 : w3.cell? ⟨w1.heap.size, 4, none⟩ = some (.slice none 0 0) := by rw [← hw3]; simp [go_sem, g0, g1, g2, g3, g4, g5]
      have a5 : w3.cell? ⟨w1.heap.size, 5, none⟩ = some (.slice none 0 0) := by rw [← hw3]; simp [go_sem, g0, g1, g2, g3, g4, g5]
      clear hw3 b3 d0 d1 d2 d3 d4 d5 f0 f1 f2 f3 f4 f5 g0 g1 g2 g3 g4 g5 hw2 hin hi
      go_region_with (first | (go_at_call 26; (refine (CR.out _ (by first | exact .inl rfl | exact .inr rfl) _).mono ?_; intro e w4 hw4; obtain ⟨cs, rfl, hf, hb4⟩ := hw4; have hr4 := hf.rd; rw [HV.out] at hr4; obtain ⟨k2, h2', t2, A32, n32, c32, A42, n42, c42, A52, n52, c52, rfl⟩ := hr4.form; have e0 := (hb4.cell (p := ⟨w1.heap.size, 0, none⟩) LT).trans a0; have e1 := (hb4.cell (p := ⟨w1.heap.size, 1, none⟩) LT).trans a1; have e2 := (hb4.cell (p := ⟨w1.heap.size, 2, none⟩) LT).trans a2; have e3 := (hb4.cell (p := ⟨w1.heap.size, 3, none⟩) LT).trans a3; have e4 := (hb4.cell (p := ⟨w1.heap.size, 4, none⟩) LT).trans a4; have e5 := (hb4.cell (p := ⟨w1.heap.size, 5, none⟩) LT).trans a5; have BS4 := Sec.mk (below_then' B3.out ((Below.refl w3.heap.size w3).drew.trans hb4)); have cg : Calls Tryd.prog 19 #[.agg #[.int .i64 k2, .int .i64 h2', .string t2, .slice A32 n32 c32, .slice A42 n42 c42, .slice A52 n52 c52, .int .i64 0], .agg #[.int .i64 4, .int .i64 0, .string ⟨(Lib.repeatL s.data.toList i).toArray⟩, .slice none 0 0, .slice none 0 0, .slice none 0 0]] w4 (Yes w4) := says_self _ [.int .i64 k2, .int .i64 h2', .string t2, .slice A32 n32 c32, .slice A42 n42 c42, .slice A52 n52 c52] [.int .i64 4, .int .i64 0, .string ⟨(Lib.repeatL s.data.toList i).toArray⟩, .slice none 0 0, .slice none 0 0, .slice none 0 0] w4 _ hr4 (rdF_plain (w := w4) (lo := 0) (by rw [repeat_size]; exact Nat.le_trans (Nat.mul_le_mul HM.out (by rw [Array.length_toList]; exact HC.out)) (by decide : 4096 * 4096 ≤ reach))).rd (Nat.le_refl _); have CG := Sec.mk cg; clear cg hf hr4 hb4)) | (go_at_call 19; refine CG.out.mono ?_; intro e w5 hw5; obtain ⟨rfl, hb5⟩ := hw5; have BS5 := Sec.mk (below_then' BS4.out hb5); clear hb5))
      all_goals
        go_wp2
        go_ret
        exact ⟨rfl, BS5.out⟩

theorem fnRepeat_walk (VS : ValidSaid) (s : ByteArray) (n : Int) (w : World) (hT : Tabs w) (hn : -9223372036854775808 ≤ n ∧ n ≤ 9223372036854775807) :
    Calls Tryd.prog 7 #[.string s, .int .i64 n] w (Yes w) := by
  by_cases hs : s.size ≤ 2147483647
  · by_cases ho : s.size ≤ 4096 ∧ Lib.validD s.data.toList = true ∧ n ≠ 0 ∧ n ≤ 4096 ∧ -4096 ≤ n ∧ (s.size : Int) * n ≤ 65536
    · obtain ⟨c1, c2, c3, c4, c5, c6⟩ := ho
      by_cases hp : n < 0
      · exact fnRepeat_neg VS s n w hT c1 c2 hp c5 c6
      · obtain ⟨m, rfl⟩ := Int.eq_ofNat_of_zero_le (Int.not_lt.1 hp)
        exact fnRepeat_pos VS s m w hT c1 c2 (by omega) (by omega) c6
    · exact fnRepeat_out VS s n w hs hT hn ho
  · exact fnRepeat_long s n w (by omega)

end Go.Proofs.YtpamlgdcnmcedaaDoor
