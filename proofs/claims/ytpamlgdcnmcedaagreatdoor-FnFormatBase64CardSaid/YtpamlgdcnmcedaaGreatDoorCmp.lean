/-
  spec.Cmp and spec.Same where both sides read as one value: 0, true.
-/
import Derived.Test.YtpamlgdcnmcedaaGreatDoorFit
namespace Go.Proofs.YtpamlgdcnmcedaaGreatDoor
set_option linter.unusedVariables false
set_option linter.unusedSimpArgs false
open Go.RowKit

theorem bytesLess_self (l : List UInt8) : Op.bytesLess l l = false := by
  induction l with
  | nil => rfl
  | cons a l ih => simp [Op.bytesLess, ih, UInt8.lt_irrefl]

/-- It hands back 0, and what was there before is as it was. -/
def Nought (w : World) (e : Ending) (w' : World) : Prop := e = .returned (.int .i64 0) ∧ Below w.heap.size w w'
theorem Below.drewN' {B : Nat} {w : World} (n : Nat) : Below B w (w.drewN n) := ⟨rfl, rfl, rfl, Nat.le_refl _, fun _ _ => rfl⟩

set_option maxHeartbeats 400000 in
theorem texts_self (s : ByteArray) (w : World) : Calls Tryz.prog 72 #[.string s, .string s] w fun e w' => e = .returned (.int .i64 0) ∧ w = w' := by
  have h1 := bytesLess_self s.toList
  have h2 : (s.toList == s.toList) = true := by simp
  go_enter Tryz.func72, Tryz.ntmps72
  go_wp2
  go_ret
  exact ⟨rfl, rfl⟩

set_option maxHeartbeats 400000 in
theorem sign_zero (w : World) : Calls Tryz.prog 71 #[.int .i64 0] w fun e w' => e = .returned (.int .i64 0) ∧ w = w' := by
  go_enter Tryz.func71, Tryz.ntmps71
  go_wp2
  go_ret
  exact ⟨rfl, rfl⟩

set_option maxHeartbeats 400000 in
set_option maxRecDepth 100000 in
theorem keys_self (ks : List ByteArray) (A A' : Option Addr) (n c c' B : Nat) (w : World) (hn : ks.length = n) (hz : n ≤ reach) (h1 : RdS w B A ks) (h2 : RdS w B A' ks) (hB : B ≤ w.heap.size) :
    Calls Tryz.prog 74 #[.slice A n c, .slice A' n c'] w (Nought w) := by
  have hz' : n ≤ 140737488351232 := hz
  have HN := Sec.mk hn
  have H1 := Sec.mk h1
  have H2 := Sec.mk h2
  have HB := Sec.mk hB
  clear hn hz h1 h2 hB
  go_enter Tryz.func74, Tryz.ntmps74
  go_wp2_with fail
  go_loopw [5, 6] (fun v5 _ wr => ∃ i : Nat, v5 = .int .i64 i ∧ i ≤ n ∧ Below w.heap.size w wr) (fun v5 _ _ => n - (intOf v5).toNat)
  case atStart => exact ⟨0, rfl, Nat.zero_le _, Below.refl _ _⟩
  case round =>
    obtain ⟨i, rfl, hi, hb⟩ := hrel
    have BL := Sec.mk hb
    clear hb
    by_cases hin : i < n
    · obtain ⟨ky, hky⟩ : ∃ x, ks[i]? = some x := ⟨ks[i]'(by rw [HN.out]; exact hin), by rw [List.getElem?_eq_getElem]⟩
      have hs := (Same.of_below BL.out).mono HB.out
      obtain ⟨ad, e1, hc1, _⟩ := (H1.out.same hs).cells hky
      obtain ⟨ad', e2, hc2, _⟩ := (H2.out.same hs).cells hky
      subst e1
      subst e2
      clear hky hs
      have w2 : (0 : Int) ≤ i := by omega
      have w3 : (i : Int) < n := by omega
      go_upto_region 4 with fail
      refine wp_region_still_tail 8 (by kernel_rfl) (by kernel_rfl) ?_
      simp only [List.take_succ_cons, List.take_zero, List.drop_succ_cons, List.drop_zero]
      iterate 8 still_step
      refine wpStill_nil ?_
      clear w2 w3
      obtain ⟨wd, hwd⟩ : ∃ wd, wr.drew = wd := ⟨_, rfl⟩
      have hbd : Below w.heap.size w wd := by rw [← hwd]; exact BL.out.drew
      change wpList _ _ _ _ _ wr.drew
      rw [hwd]
      have BD := Sec.mk hbd
      clear hbd hwd
      go_wp2_with (go_at_call 72; refine (texts_self _ _).mono ?_; rintro e w' ⟨rfl, rfl⟩)
      go_roundw
      case rel => exact ⟨i + 1, by go_num, by omega, BD.out⟩
      case measure => simp [intOf]; omega
    · go_wp2
      go_ret
      exact ⟨by simp, BL.out⟩

/-- Cmp hands back 0 at every value of at most n parts. -/
def CmpUpTo (n : Nat) : Prop := ∀ (x : V), V.cnt x ≤ n → ∀ (cs cs' : List Value) (w : World) (B : Nat), Rd w B x cs → Rd w B x cs' → B ≤ w.heap.size →
    Calls Tryz.prog 55 #[.agg cs.toArray, .agg cs'.toArray] w (Nought w)

set_option maxHeartbeats 800000 in
set_option maxRecDepth 100000 in
theorem lists_self (m : Nat) (ih : CmpUpTo m) (l : List V) (hm : V.cntL l ≤ m) (A A' : Option Addr) (n c c' B : Nat) (w : World) (hn : l.length = n) (hz : n ≤ reach) (h1 : RdL w B A 0 l) (h2 : RdL w B A' 0 l) (hB : B ≤ w.heap.size) :
    Calls Tryz.prog 73 #[.slice A n c, .slice A' n c'] w (Nought w) := by
  have hz' : n ≤ 140737488351232 := hz
  have HN := Sec.mk hn
  have H1 := Sec.mk h1
  have H2 := Sec.mk h2
  have HB := Sec.mk hB
  have HM := Sec.mk hm
  clear hn hz h1 h2 hB hm
  go_enter Tryz.func73, Tryz.ntmps73
  go_wp2_with fail
  go_loopw [5, 6] (fun v5 _ wr => ∃ i : Nat, v5 = .int .i64 i ∧ i ≤ n ∧ Below w.heap.size w wr) (fun v5 _ _ => n - (intOf v5).toNat)
  case atStart => exact ⟨0, rfl, Nat.zero_le _, Below.refl _ _⟩
  case round =>
    obtain ⟨i, rfl, hi, hb⟩ := hrel
    have BL := Sec.mk hb
    clear hb
    by_cases hin : i < n
    · obtain ⟨x, hx⟩ : ∃ x, l[i]? = some x := ⟨l[i]'(by rw [HN.out]; exact hin), by rw [List.getElem?_eq_getElem]⟩
      have hs := (Same.of_below BL.out).mono HB.out
      obtain ⟨ad, k1, h1, t1, A31, n31, c31, A41, n41, c41, A51, n51, c51, e1, hr1, a0, a1, a2, a3, a4, a5⟩ := RdL.cells (RdL.same hs l A 0 H1.out) hx
      obtain ⟨ad', k2, h2, t2, A32, n32, c32, A42, n42, c42, A52, n52, c52, e2, hr2, b0, b1, b2, b3, b4, b5⟩ := RdL.cells (RdL.same hs l A' 0 H2.out) hx
      subst e1
      subst e2
      have hcx : V.cnt x ≤ m := Nat.le_trans (V.cnt_le_get hx) HM.out
      have hs2 : Same B wr wr.drew := fun _ _ => rfl
      have cC := ih x hcx _ _ wr.drew B (Rd.same hs2 x _ hr1) (Rd.same hs2 x _ hr2) (Nat.le_trans HB.out BL.out.size)
      have CC := Sec.mk cC
      clear hx hs hr1 hr2 hcx hs2 cC
      have w2 : (0 : Int) ≤ i := by omega
      have w3 : (i : Int) < n := by omega
      go_upto_region 4 with fail
      refine wp_region_still_tail 8 (by kernel_rfl) (by kernel_rfl) ?_
      simp only [List.take_succ_cons, List.take_zero, List.drop_succ_cons, List.drop_zero]
      iterate 8 still_step
      refine wpStill_nil ?_
      clear w2 w3
      obtain ⟨wd, hwd⟩ : ∃ wd, wr.drew = wd := ⟨_, rfl⟩
      have hbd : Below w.heap.size w wd := by rw [← hwd]; exact BL.out.drew
      change wpList _ _ _ _ _ wr.drew
      rw [hwd]
      rw [hwd] at CC
      have BD := Sec.mk hbd
      clear hbd hwd
      go_wp2_with (go_at_call 55; refine CC.out.mono ?_; intro e w' hw'; obtain ⟨rfl, hb'⟩ := hw'; have BE := Sec.mk (BD.out.trans (hb'.mono BD.out.size)); clear hb')
      go_roundw
      case rel => exact ⟨i + 1, by go_num, by omega, BE.out⟩
      case measure => simp [intOf]; omega
    · go_wp2
      go_ret
      exact ⟨by simp, BL.out⟩

set_option maxHeartbeats 800000 in
set_option maxRecDepth 100000 in
theorem cmp_self (m : Nat) : CmpUpTo m := by
  induction m with
  | zero => intro x hx; have := V.cnt_pos x; omega
  | succ m ih =>
    intro x hx cs cs' w B h1 h2 hB
    cases x with | mk k h t l ks vs =>
    rw [Rd] at h1 h2
    obtain ⟨A3, c3, A4, c4, A5, c5, rfl, ht, ⟨l3, m3, r3⟩, ⟨l4, m4, r4⟩, ⟨l5, m5, r5⟩⟩ := h1
    obtain ⟨A3', c3', A4', c4', A5', c5', rfl, ht', ⟨l3', m3', r3'⟩, ⟨l4', m4', r4'⟩, ⟨l5', m5', r5'⟩⟩ := h2
    obtain ⟨n3, hn3⟩ : ∃ n, l.length = n := ⟨_, rfl⟩
    obtain ⟨n4, hn4⟩ : ∃ n, ks.length = n := ⟨_, rfl⟩
    obtain ⟨n5, hn5⟩ : ∃ n, vs.length = n := ⟨_, rfl⟩
    rw [V.cnt] at hx
    have cL : ∀ w', Below w.heap.size w w' → Calls Tryz.prog 73 #[.slice A3 n3 c3, .slice A3' n3 c3'] w' (Nought w') := fun w' hb =>
      lists_self m ih l (by omega) A3 A3' n3 c3 c3' B w' hn3 (by omega) (RdL.same ((Same.of_below hb).mono hB) l A3 0 r3) (RdL.same ((Same.of_below hb).mono hB) l A3' 0 r3') (Nat.le_trans hB hb.size)
    have cK : ∀ w', Below w.heap.size w w' → Calls Tryz.prog 74 #[.slice A4 n4 c4, .slice A4' n4 c4'] w' (Nought w') := fun w' hb =>
      keys_self ks A4 A4' n4 c4 c4' B w' hn4 (by omega) (r4.same ((Same.of_below hb).mono hB)) (r4'.same ((Same.of_below hb).mono hB)) (Nat.le_trans hB hb.size)
    have cV : ∀ w', Below w.heap.size w w' → Calls Tryz.prog 73 #[.slice A5 n5 c5, .slice A5' n5 c5'] w' (Nought w') := fun w' hb =>
      lists_self m ih vs (by omega) A5 A5' n5 c5 c5' B w' hn5 (by omega) (RdL.same ((Same.of_below hb).mono hB) vs A5 0 r5) (RdL.same ((Same.of_below hb).mono hB) vs A5' 0 r5') (Nat.le_trans hB hb.size)
    rw [hn3, hn4, hn5]
    have CL := Sec.mk cL
    have CK := Sec.mk cK
    have CV := Sec.mk cV
    clear cL cK cV r3 r3' r4 r4' r5 r5' hn3 hn4 hn5 ih hx ht ht' l3 l3' l4 l4' l5 l5' m3 m3' m4 m4' m5 m5' hB
    have e0 : (k != k) = false := by simp
    have e1 : wrap64 (h - h) = 0 := by unfold wrap64; omega
    have b0 : Below w.heap.size w ((w.alloc (.cells #[.int .i64 k, .int .i64 h, .string t, .slice A3 n3 c3, .slice A4 n4 c4, .slice A5 n5 c5] 26)).alloc (.cells #[.int .i64 k, .int .i64 h, .string t, .slice A3' n3 c3', .slice A4' n4 c4', .slice A5' n5 c5'] 26)) :=
      ((Below.refl _ _).alloc (Nat.le_refl _) _).alloc (by simp) _
    have B0 := Sec.mk b0
    clear b0
    by_cases k3 : k = 3
    · subst k3
      go_enter Tryz.func55, Tryz.ntmps55
      go_wp2_with (go_at_call 71; refine (sign_zero _).mono ?_; rintro e w' ⟨rfl, rfl⟩)
      go_ret
      exact ⟨rfl, B0.out⟩
    · have q3 : (k == 3) = false := by simp [k3]
      clear k3
      by_cases k4 : k = 4
      · subst k4
        clear q3
        go_enter Tryz.func55, Tryz.ntmps55
        go_wp2_with (go_at_call 72; refine (texts_self _ _).mono ?_; rintro e w' ⟨rfl, rfl⟩)
        go_ret
        exact ⟨rfl, B0.out⟩
      · have q4 : (k == 4) = false := by simp [k4]
        clear k4
        by_cases k5 : k = 5
        · subst k5
          clear q3 q4
          go_enter Tryz.func55, Tryz.ntmps55
          go_wp2_with (first | (go_at_call 73; refine (CL.out _ B0.out).mono ?_; intro e w' hw'; obtain ⟨rfl, hb'⟩ := hw'; have BE := Sec.mk (B0.out.trans (hb'.mono B0.out.size)); clear hb') | (go_at_call 71; refine (sign_zero _).mono ?_; rintro e w' ⟨rfl, rfl⟩))
          go_ret
          exact ⟨rfl, BE.out⟩
        · have q5 : (k == 5) = false := by simp [k5]
          clear k5
          by_cases k6 : k = 6
          · subst k6
            clear q3 q4 q5
            go_enter Tryz.func55, Tryz.ntmps55
            go_wp2_with (first | (go_at_call 74; refine (CK.out _ B0.out).mono ?_; intro e w' hw'; obtain ⟨rfl, hb'⟩ := hw'; have d5 := hb'.cell (p := ⟨w.heap.size, 5, none⟩) (by simp; omega); have g5 := hb'.cell (p := ⟨w.heap.size + 1, 5, none⟩) (by simp); have BE := Sec.mk (B0.out.trans (hb'.mono B0.out.size)); clear hb') | (go_at_call 73; refine (CV.out _ BE.out).mono ?_; intro e w' hw'; obtain ⟨rfl, hb'⟩ := hw'; have BF := Sec.mk (BE.out.trans (hb'.mono BE.out.size)); clear hb') | (go_at_call 71; refine (sign_zero _).mono ?_; rintro e w' ⟨rfl, rfl⟩))
            go_ret
            exact ⟨rfl, BF.out⟩
          · have q6 : (k == 6) = false := by simp [k6]
            clear k6
            go_enter Tryz.func55, Tryz.ntmps55
            go_wp2
            go_ret
            exact ⟨rfl, B0.out⟩

/-- It hands back true, and what was there before is as it was. -/
def Yes (w : World) (e : Ending) (w' : World) : Prop := e = .returned (.bool true) ∧ Below w.heap.size w w'

set_option maxHeartbeats 800000 in
set_option maxRecDepth 100000 in
theorem same_self (x : V) (cs cs' : List Value) (w : World) (B : Nat) (h1 : Rd w B x cs) (h2 : Rd w B x cs') (hB : B ≤ w.heap.size) :
    Calls Tryz.prog 40 #[.agg cs.toArray, .agg cs'.toArray] w (Yes w) := by
  have cC : ∀ w', Below w.heap.size w w' → Calls Tryz.prog 55 #[.agg cs.toArray, .agg cs'.toArray] w' (Nought w') := fun w' hb =>
    cmp_self (V.cnt x) x (Nat.le_refl _) cs cs' w' B (Rd.same ((Same.of_below hb).mono hB) x cs h1) (Rd.same ((Same.of_below hb).mono hB) x cs' h2) (Nat.le_trans hB hb.size)
  obtain ⟨k1, h1', t1, A31, n31, c31, A41, n41, c41, A51, n51, c51, rfl⟩ := h1.form
  obtain ⟨k2, h2', t2, A32, n32, c32, A42, n42, c42, A52, n52, c52, rfl⟩ := h2.form
  have CC := Sec.mk cC
  clear cC h1 h2 hB
  have b0 : Below w.heap.size w ((w.alloc (.cells #[.int .i64 k1, .int .i64 h1', .string t1, .slice A31 n31 c31, .slice A41 n41 c41, .slice A51 n51 c51] 26)).alloc (.cells #[.int .i64 k2, .int .i64 h2', .string t2, .slice A32 n32 c32, .slice A42 n42 c42, .slice A52 n52 c52] 26)) :=
    ((Below.refl _ _).alloc (Nat.le_refl _) _).alloc (by simp) _
  have B0 := Sec.mk b0
  clear b0
  go_enter Tryz.func40, Tryz.ntmps40
  go_wp2_with (go_at_call 55; refine (CC.out _ B0.out).mono ?_; intro e w' hw'; obtain ⟨rfl, hb'⟩ := hw'; have BE := Sec.mk (B0.out.trans (hb'.mono B0.out.size)); clear hb')
  go_ret
  exact ⟨rfl, BE.out⟩

set_option maxHeartbeats 800000 in
set_option maxRecDepth 100000 in
theorem told_self (x : V) (cs cs' : List Value) (w : World) (B : Nat) (h1 : Rd w B x cs) (h2 : Rd w B x cs') (hB : B ≤ w.heap.size) :
    Calls Tryz.prog 20 #[.agg (cs ++ [Value.int .i64 0]).toArray, .agg cs'.toArray, .int .i64 0] w (Yes w) := by
  have cC : ∀ w', Below w.heap.size w w' → Calls Tryz.prog 40 #[.agg cs.toArray, .agg cs'.toArray] w' (Yes w') := fun w' hb =>
    same_self x cs cs' w' B (Rd.same ((Same.of_below hb).mono hB) x cs h1) (Rd.same ((Same.of_below hb).mono hB) x cs' h2) (Nat.le_trans hB hb.size)
  obtain ⟨k1, h1', t1, A31, n31, c31, A41, n41, c41, A51, n51, c51, rfl⟩ := h1.form
  obtain ⟨k2, h2', t2, A32, n32, c32, A42, n42, c42, A52, n52, c52, rfl⟩ := h2.form
  have CC := Sec.mk cC
  clear cC h1 h2 hB
  have b0 : Below w.heap.size w ((w.alloc (.cells #[.int .i64 k1, .int .i64 h1', .string t1, .slice A31 n31 c31, .slice A41 n41 c41, .slice A51 n51 c51, .int .i64 0] 36)).alloc (.cells #[.int .i64 k2, .int .i64 h2', .string t2, .slice A32 n32 c32, .slice A42 n42 c42, .slice A52 n52 c52] 26)) :=
    ((Below.refl _ _).alloc (Nat.le_refl _) _).alloc (by simp) _
  have B0 := Sec.mk b0
  clear b0
  go_enter Tryz.func20, Tryz.ntmps20
  go_wp2_with (go_at_call 40; refine (CC.out _ B0.out).mono ?_; intro e w' hw'; obtain ⟨rfl, hb'⟩ := hw'; have BE := Sec.mk (B0.out.trans (hb'.mono B0.out.size)); clear hb')
  go_ret
  exact ⟨rfl, BE.out⟩


end Go.Proofs.YtpamlgdcnmcedaaGreatDoor
