/-
  Two decimals compared; a decimal shifted down.
-/
import Derived.Test.YtpamlgdcnmcedaaGreatDoorHalf
namespace Go.Proofs.YtpamlgdcnmcedaaGreatDoor
set_option linter.unusedVariables false
set_option linter.unusedSimpArgs false
open Go.RowKit
open Dc

set_option maxHeartbeats 800000 in
set_option maxRecDepth 100000 in
theorem shift_any (w : World) (lo g : Nat) (v : Value) (ds : List Nat) (dp : Int) (k : Nat) (h : DecAt w lo g v ds dp) (hn : Nrm ds) (hz : ds.length ≤ 100) (hk0 : 1 ≤ k) (hk : k ≤ 59) (hd0 : -100 ≤ dp) (hd1 : dp ≤ 100) :
    Calls Tryz.prog 102 #[.pointer (some ⟨g, 0, none⟩), .int .i64 (-(k : Int))] w (HalfPost w lo g ds dp k) := by
  have CH := Sec.mk (half_any w lo g v ds dp k h hn hz hk0 hk hd0 hd1)
  clear h hn hz hd0 hd1
  have d1 : decide (59 < -(k : Int)) = false := decide_eq_false (by omega)
  have d2 : decide (-(k : Int) < -59) = false := decide_eq_false (by omega)
  have d3 : decide (0 < -(k : Int)) = false := decide_eq_false (by omega)
  have d4 : decide (-(k : Int) < 0) = true := decide_eq_true (by omega)
  have d5 : decide ((59 : Int) < (k : Int)) = false := decide_eq_false (by omega)
  have d6 : decide (59 < k) = false := decide_eq_false (by omega)
  have d7 : decide ((0 : Int) < (k : Int)) = true := decide_eq_true (by omega)
  have d8 : decide (0 < k) = true := decide_eq_true (by omega)
  have d9 : decide ((k : Int) < 0) = false := decide_eq_false (by omega)
  go_enter Tryz.func102, Tryz.ntmps102
  go_wp2_with fail
  refine wp_loop_rounds 1 ?_
  rw [rounds_succ]
  go_wp2_with fail
  refine wp_loop_rounds 1 ?_
  rw [rounds_succ]
  go_wp2_with (go_at_call 133; refine CH.out.mono ?_; intro e w1 hw1; obtain ⟨rfl, hw1⟩ := hw1; have HW := Sec.mk hw1; clear hw1)
  go_end0
  exact ⟨rfl, HW.out⟩

/-- What cmp hands back; nothing that was there turns. -/
def CmpPost (w : World) (x : List Nat) (dpx : Int) (y : List Nat) (dpy : Int) (e : Ending) (w' : World) : Prop := ∃ r : Int, e = .returned (.int .i64 r) ∧ IsCmp x dpx y dpy r ∧ Below w.heap.size w w'
theorem below_drewN (w : World) (q : Nat) : Below w.heap.size w (w.drewN q) := ⟨rfl, rfl, rfl, Nat.le_refl _, fun _ _ => rfl⟩
theorem DecAt.below {w w' : World} {lo g : Nat} {v : Value} {ds : List Nat} {dp : Int} (h : DecAt w lo g v ds dp) (hb : Below w.heap.size w w') : DecAt w' lo g v ds dp := h.keep hb.size (fun b _ hb2 => hb.block b hb2)

set_option maxHeartbeats 1600000 in
set_option maxRecDepth 100000 in
theorem cmp_any (w : World) (lx gx : Nat) (vx : Value) (x : List Nat) (dpx : Int) (ly gy : Nat) (vy : Value) (y : List Nat) (dpy : Int) (hx : DecAt w lx gx vx x dpx) (hy : DecAt w ly gy vy y dpy) (nx : x ≠ []) (tx : Ten x) (ty : Ten y)
    (zx : x.length ≤ 1000) (zy : y.length ≤ 1000) (b1 : -1000 ≤ dpx) (b2 : dpx ≤ 1000) (b3 : -1000 ≤ dpy) (b4 : dpy ≤ 1000) :
    Calls Tryz.prog 136 #[.pointer (some ⟨gx, 0, none⟩), .pointer (some ⟨gy, 0, none⟩)] w (CmpPost w x dpx y dpy) := by
  obtain ⟨Ax, cx, rfl, hlx, _⟩ := hx.form
  obtain ⟨Ay, cy, rfl, hly, _⟩ := hy.form
  obtain ⟨n, hn⟩ : ∃ n, x.length = n := ⟨_, rfl⟩
  obtain ⟨m, hm⟩ : ∃ m, y.length = m := ⟨_, rfl⟩
  have hn1 : 1 ≤ n := by rw [← hn]; exact List.length_pos_iff.2 nx
  have a0 := hx.c0
  have a1 := hx.c1
  have e0 := hy.c0
  have e1 := hy.c1
  rw [hn] at a0 hlx zx
  rw [hm] at e0 hly zy
  have HX := Sec.mk hx
  have HY := Sec.mk hy
  have HT := Sec.mk (And.intro tx (And.intro ty nx))
  have HL := Sec.mk (And.intro hn hm)
  clear hx hy tx ty nx hn hm
  have t1 : ((n : Int) == 0) = false := by simp; omega
  have t2 : (n == 0) = false := by simp; omega
  rcases Nat.eq_zero_or_pos m with hm0 | hm0
  · subst hm0
    have t3 : (((0 : Nat) : Int) == 0) = true := rfl
    have w1 : IntKind.i64.wrap ((n : Int) - ((0 : Nat) : Int)) = (n : Int) := IntWalk.i64_in _ (by omega)
    have w2 : IntKind.i64.wrap ((n : Int) - 0) = (n : Int) := IntWalk.i64_in _ (by omega)
    have w3 : IntKind.i64.wrap (n : Int) = (n : Int) := IntWalk.i64_in _ (by omega)
    go_enter Tryz.func136, Tryz.ntmps136
    go_wp2_with fail
    go_quiet (fail)
    go_wp2_with fail
    go_ret
    refine ⟨n, rfl, .inl ⟨.inr (List.eq_nil_of_length_eq_zero HL.out.2), ?_⟩, below_drewN _ _⟩
    rw [HL.out.1, HL.out.2]; simp
  · have t3 : ((m : Int) == 0) = false := by simp; omega
    have t4 : (m == 0) = false := by simp; omega
    have hym : y ≠ [] := fun e => by have := HL.out.2; rw [e] at this; simp at this; omega
    have HYM := Sec.mk hym
    clear hym
    by_cases hdp : dpx = dpy
    · subst hdp
      have t5 : (dpx == dpx) = true := by simp
      have t6 : (dpx != dpx) = false := by simp
      go_enter Tryz.func136, Tryz.ntmps136
      go_wp2_with fail
      go_quiet (fail)
      go_wp2_with fail
      generalize hwq : World.drewN w _ = wq
      have hb : Below w.heap.size w wq := by rw [← hwq]; exact below_drewN _ _
      have hx2 := HX.out.below hb
      have hy2 := HY.out.below hb
      clear hwq a0 a1 e0 e1 t5 t6
      have a0 := hx2.c0
      have e0 := hy2.c0
      rw [HL.out.1] at a0
      rw [HL.out.2] at e0
      have HB := Sec.mk hb
      have CX := Sec.mk (fun i (hi : i ≤ 100000) => digit_any wq lx gx _ x dpx i hx2 (by rw [HL.out.1]; exact zx) hi)
      have CY := Sec.mk (fun i (hi : i ≤ 100000) => digit_any wq ly gy _ y dpx i hy2 (by rw [HL.out.2]; exact zy) hi)
      clear hx2 hy2 hb HX HY
      go_loopw [5] (fun v5 wr => ∃ i : Nat, v5 = .int .i64 (i : Int) ∧ i ≤ 2000 ∧ (∀ j, j < i → x.getD j 0 = y.getD j 0) ∧ wr = wq) (fun v5 _ => 2000 - (intOf v5).toNat)
      case atStart => exact ⟨0, rfl, by omega, fun j hj => by omega, rfl⟩
      case round =>
        obtain ⟨i, rfl, hi, hj, e⟩ := hrel
        have e' := e.symm
        subst e'
        clear e
        have HJ := Sec.mk hj
        clear hj
        by_cases hgo : i < n ∨ i < m
        · have dx : x.getD i 0 < 10 := getD_ten HT.out.1 i
          have dy : y.getD i 0 < 10 := getD_ten HT.out.2.1 i
          have hi2 : i < 1000 := by omega
          obtain ⟨p, hp⟩ : ∃ p, x.getD i 0 = p := ⟨_, rfl⟩
          obtain ⟨q, hq⟩ : ∃ q, y.getD i 0 = q := ⟨_, rfl⟩
          have cx := CX.out i (by omega)
          have cy := CY.out i (by omega)
          rw [hp] at cx dx
          rw [hq] at cy dy
          have C1 := Sec.mk cx
          have C2 := Sec.mk cy
          have HP := Sec.mk (And.intro hp hq)
          clear cx cy hp hq
          have g1 : (decide (i < n) = true) ∨ (decide (i < n) = false ∧ decide (i < m) = true) := by
            by_cases h : i < n
            · exact .inl (decide_eq_true h)
            · exact .inr ⟨decide_eq_false h, decide_eq_true (hgo.resolve_left h)⟩
          clear hgo
          by_cases hpq : p = q
          · have HPQ := Sec.mk hpq
            have t7 : ((p : Int) != (q : Int)) = false := by rw [hpq]; simp
            have t8 : ((p : Int) == (q : Int)) = true := by rw [hpq]; simp
            clear hpq
            rcases g1 with g1 | ⟨g1, g2⟩
            · go_wp2_with (first | (go_at_call 138; (with_reducible refine C1.out.mono ?_); rintro e w' ⟨rfl, rfl⟩) | (go_at_call 138; (with_reducible refine C2.out.mono ?_); rintro e w' ⟨rfl, rfl⟩))
              go_roundw
              case rel => exact ⟨i + 1, by go_num, by omega, fun j hj => by
                by_cases h : j = i
                · rw [h, HP.out.1, HP.out.2]; exact HPQ.out
                · exact HJ.out j (by omega), by first | rfl | trivial⟩
              case measure => simp [intOf]; omega
            · go_wp2_with (first | (go_at_call 138; (with_reducible refine C1.out.mono ?_); rintro e w' ⟨rfl, rfl⟩) | (go_at_call 138; (with_reducible refine C2.out.mono ?_); rintro e w' ⟨rfl, rfl⟩))
              go_roundw
              case rel => exact ⟨i + 1, by go_num, by omega, fun j hj => by
                by_cases h : j = i
                · rw [h, HP.out.1, HP.out.2]; exact HPQ.out
                · exact HJ.out j (by omega), by first | rfl | trivial⟩
              case measure => simp [intOf]; omega
          · have HPQ := Sec.mk hpq
            have t7 : ((p : Int) != (q : Int)) = true := by simp; omega
            have t8 : ((p : Int) == (q : Int)) = false := by simp; omega
            have t9 : (p == q) = false := by simpa using hpq
            have t10 : (p != q) = true := by simpa using hpq
            clear hpq
            have hres : CmpPost w x dpx y dpx (.returned (.int .i64 ((p : Int) - (q : Int)))) wq := by
              refine ⟨_, rfl, .inr (.inr ⟨HT.out.2.2, HYM.out, rfl, i, HJ.out, ?_, .inl ?_⟩), HB.out⟩
              · rw [HP.out.1, HP.out.2]
              · rw [HP.out.1, HP.out.2]; exact HPQ.out
            have HRES := Sec.mk hres
            clear hres
            rcases g1 with g1 | ⟨g1, g2⟩
            · go_wp2_with (first | (go_at_call 138; (with_reducible refine C1.out.mono ?_); rintro e w' ⟨rfl, rfl⟩) | (go_at_call 138; (with_reducible refine C2.out.mono ?_); rintro e w' ⟨rfl, rfl⟩))
              go_ret
              exact HRES.out
            · go_wp2_with (first | (go_at_call 138; (with_reducible refine C1.out.mono ?_); rintro e w' ⟨rfl, rfl⟩) | (go_at_call 138; (with_reducible refine C2.out.mono ?_); rintro e w' ⟨rfl, rfl⟩))
              go_ret
              exact HRES.out
        · have g1 : decide (i < n) = false := decide_eq_false (fun h => hgo (.inl h))
          have g2 : decide (i < m) = false := decide_eq_false (fun h => hgo (.inr h))
          have hres : CmpPost w x dpx y dpx (.returned (.int .i64 0)) wq := by
            refine ⟨0, rfl, .inr (.inr ⟨HT.out.2.2, HYM.out, rfl, i, HJ.out, ?_, .inr ?_⟩), HB.out⟩
            · have hx0 : x.getD i 0 = 0 := by rw [List.getD_eq_getElem?_getD, List.getElem?_eq_none (by rw [HL.out.1]; omega)]; rfl
              have hy0 : y.getD i 0 = 0 := by rw [List.getD_eq_getElem?_getD, List.getElem?_eq_none (by rw [HL.out.2]; omega)]; rfl
              rw [hx0, hy0]; rfl
            · rw [HL.out.1, HL.out.2]; omega
          have HRES := Sec.mk hres
          clear hres hgo
          go_wp2_with fail
          go_ret
          exact HRES.out
    · have t5 : (dpx == dpy) = false := by simpa using hdp
      have t6 : (dpx != dpy) = true := by simpa using hdp
      have w1 : IntKind.i64.wrap (dpx - dpy) = dpx - dpy := IntWalk.i64_in _ (by omega)
      have HDP := Sec.mk hdp
      clear hdp
      go_enter Tryz.func136, Tryz.ntmps136
      go_wp2_with fail
      go_quiet (fail)
      go_wp2_with fail
      generalize hwq : World.drewN w _ = wq
      have hb : Below w.heap.size w wq := by rw [← hwq]; exact below_drewN _ _
      have hx2 := HX.out.below hb
      have hy2 := HY.out.below hb
      clear hwq a0 a1 e0 e1
      have a1 := hx2.c1
      have e1 := hy2.c1
      have HB := Sec.mk hb
      clear hx2 hy2 hb
      go_quiet (fail)
      go_wp2_with fail
      go_ret
      exact ⟨dpx - dpy, rfl, .inr (.inl ⟨HT.out.2.2, HYM.out, HDP.out, rfl⟩), HB.out.trans ((below_drewN _ _).mono HB.out.size)⟩

end Go.Proofs.YtpamlgdcnmcedaaGreatDoor
