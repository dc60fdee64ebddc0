/-
  impl.Split at whatever two right values with short texts.
-/
import Derived.Test.YtpamlgdcnmcedaaDoorSp
namespace Go.Proofs.YtpamlgdcnmcedaaDoor
set_option linter.unusedVariables false
set_option linter.unusedSimpArgs false
open Go.RowKit

set_option maxHeartbeats 400000 in
set_option maxRecDepth 100000 in
theorem zzSplitF (v u : Value) (W : World) (P : Value → World → Prop) (h : Calls Tryd.prog 51 #[v, u] W fun e W1 => ∃ r, e = .returned r ∧ P r W1) :
    Calls Tryd.prog 37 #[v, u] W fun e W1 => ∃ r, e = .returned r ∧ P r W1 := by
  have H := Sec.mk h
  clear h
  go_enter Tryd.func37, Tryd.ntmps37
  go_wp2_with (go_at_call 51; refine H.out.mono ?_; intro e w1 hw1; obtain ⟨r, rfl, hp⟩ := hw1; have HP := Sec.mk hp; clear hp)
  go_ret
  exact ⟨_, rfl, HP.out⟩

set_option maxHeartbeats 1600000 in
set_option maxRecDepth 100000 in
theorem splitDoor (x y : V) (cs ds : List Value) (w : World) (B : Nat) (hr : Rd w B x cs) (hr' : Rd w B y ds) (hB : B ≤ w.heap.size) (hx : x.good) (hy : y.good) (hcx : x.cnt ≤ 1000000) (hcy : y.cnt ≤ 1000000) (hs : x.str.size ≤ 4096) (ht : y.str.size ≤ 4096) (hT : Tabs w) (h2 : 2 ≤ w.heap.size) :
    Calls Tryd.prog 23 #[.agg cs.toArray, .agg ds.toArray] w fun e w' => ∃ l, splitOk x y l ∧ Gives (splitV x y l) (split_end x y) w e w' := by
  have cT1 : ∀ W, Below w.heap.size w W → Calls Tryd.prog 30 #[.agg cs.toArray] W fun e w' => ∃ v, e = .returned (.tuple #[v, .bool true]) ∧ RdA w' W.heap.size w'.heap.size x v ∧ Below W.heap.size W w' := fun W hb =>
    toGo_upTo 1000000 (by omega) x hcx hx cs W B (Rd.same ((Same.of_below hb).mono hB) x cs hr) (Nat.le_trans hB hb.size)
  have cT2 : ∀ W, Below w.heap.size w W → Calls Tryd.prog 30 #[.agg ds.toArray] W fun e w' => ∃ v, e = .returned (.tuple #[v, .bool true]) ∧ RdA w' W.heap.size w'.heap.size y v ∧ Below W.heap.size W w' := fun W hb =>
    toGo_upTo 1000000 (by omega) y hcy hy ds W B (Rd.same ((Same.of_below hb).mono hB) y ds hr') (Nat.le_trans hB hb.size)
  obtain ⟨k1, h1', t1, A31, n31, c31, A41, n41, c41, A51, n51, c51, rfl⟩ := hr.form
  obtain ⟨k2, h2', t2, A32, n32, c32, A42, n42, c42, A52, n52, c52, rfl⟩ := hr'.form
  have CT1 := Sec.mk cT1
  have CT2 := Sec.mk cT2
  have HG := Sec.mk (And.intro hx (And.intro hy (And.intro hs (And.intro ht (And.intro hT h2)))))
  clear cT1 cT2 hr hr' hB hcx hcy hx hy hs ht hT h2
  go_enter Tryd.func23, Tryd.ntmps23
  go_wp2_with fail
  obtain ⟨wa, hwa⟩ : ∃ wa, (w.alloc (.cells #[.int .i64 k1, .int .i64 h1', .string t1, .slice A31 n31 c31, .slice A41 n41 c41, .slice A51 n51 c51] 26)).alloc (.cells #[.int .i64 k2, .int .i64 h2', .string t2, .slice A32 n32 c32, .slice A42 n42 c42, .slice A52 n52 c52] 26) = wa := ⟨_, rfl⟩
  have hba : Below w.heap.size w wa := by rw [← hwa]; exact ((Below.refl _ _).alloc (Nat.le_refl _) _).alloc (by simp) _
  have hsz : wa.heap.size = w.heap.size + 1 + 1 := by rw [← hwa]; simp
  have hbx : ∀ j v, #[Value.int .i64 k2, .int .i64 h2', .string t2, .slice A32 n32 c32, .slice A42 n42 c42, .slice A52 n52 c52][j]? = some v → wa.cell? ⟨w.heap.size + 1, j, none⟩ = some v := by
    rw [← hwa]
    have := box_after (w.alloc (.cells #[.int .i64 k1, .int .i64 h1', .string t1, .slice A31 n31 c31, .slice A41 n41 c41, .slice A51 n51 c51] 26)) #[.int .i64 k2, .int .i64 h2', .string t2, .slice A32 n32 c32, .slice A42 n42 c42, .slice A52 n52 c52] 26 ((w.alloc (.cells #[.int .i64 k1, .int .i64 h1', .string t1, .slice A31 n31 c31, .slice A41 n41 c41, .slice A51 n51 c51] 26)).alloc (.cells #[.int .i64 k2, .int .i64 h2', .string t2, .slice A32 n32 c32, .slice A42 n42 c42, .slice A52 n52 c52] 26)) (Below.refl _ _)
    rw [World.size_alloc] at this
    exact this
  rw [hwa]
  have HBA := Sec.mk hba
  have HSZ := Sec.mk hsz
  have HBX := Sec.mk hbx
  clear hba hsz hbx hwa
  refine (CT1.out _ (HBA.out.alloc HBA.out.size _)).mono ?_
  intro e w1 hw1
  obtain ⟨v, rfl, hv, hb1⟩ := hw1
  have hbx1 : ∀ j z, #[Value.int .i64 k2, .int .i64 h2', .string t2, .slice A32 n32 c32, .slice A42 n42 c42, .slice A52 n52 c52][j]? = some z → w1.cell? ⟨w.heap.size + 1, j, none⟩ = some z := fun j z hj =>
    (hb1.cell (p := ⟨w.heap.size + 1, j, none⟩) (by show w.heap.size + 1 < _; rw [World.size_alloc, HSZ.out]; omega)).trans (((Below.refl _ _).alloc (Nat.le_refl _) _).cell (p := ⟨w.heap.size + 1, j, none⟩) (by show w.heap.size + 1 < _; rw [HSZ.out]; omega) |>.trans (HBX.out j z hj))
  have a0 := hbx1 0 _ rfl
  have a1 := hbx1 1 _ rfl
  have a2 := hbx1 2 _ rfl
  have a3 := hbx1 3 _ rfl
  have a4 := hbx1 4 _ rfl
  have a5 := hbx1 5 _ rfl
  have HV := Sec.mk hv
  have HB1 := Sec.mk hb1
  clear hv hb1 hbx1
  go_wp2_with fail
  refine (CT2.out _ (HBA.out.trans ((below_laid HB1.out).mono HBA.out.size))).mono ?_
  intro e w2 hw2
  obtain ⟨u, rfl, hu, hb2⟩ := hw2
  have cS := fun (W : World) (hb : Below w.heap.size w W) => zzSplitF v u W (fun r W1 => ∃ l, splitOk x y l ∧ Below W.heap.size W W1 ∧ Calls Tryd.prog 31 #[r] W1 (Gives (splitV x y l) (split_end x y) W1)) (split_both x y v u HV.out hu HG.out.1 HG.out.2.1 HG.out.2.2.1 HG.out.2.2.2.1 W (HG.out.2.2.2.2.1.same (Same.of_below hb) HG.out.2.2.2.2.2) (Nat.le_trans HG.out.2.2.2.2.2 hb.size))
  have CS := Sec.mk cS
  have HB2 := Sec.mk (below_then HB1.out hb2)
  clear cS hu hb2 a0 a1 a2 a3 a4 a5
  go_wp2_with fail
  refine (CS.out _ (HBA.out.trans ((below_laid HB2.out).mono HBA.out.size))).mono ?_
  intro e w3 hw3
  obtain ⟨r, rfl, l, hok, hb3, hres⟩ := hw3
  have OK := Sec.mk hok
  clear hok
  have HR := Sec.mk hres
  have HB3 := Sec.mk (below_then HB2.out hb3)
  clear hb3 hres
  go_wp2_with fail
  refine HR.out.mono ?_
  intro e w4 hw4
  obtain ⟨cs, rfl, hf, hb4⟩ := hw4
  obtain ⟨k3, h3', t3, A33, n33, c33, A43, n43, c43, A53, n53, c53, rfl⟩ := hf.rd.form
  have hb := below_then HB3.out hb4
  obtain ⟨hc, hfr, hz⟩ := laid_after _ _ _ _ hb
  rw [HSZ.out] at hc hfr hz
  have HB := Sec.mk hb
  have HF := Sec.mk hf
  have HS := Sec.mk HB3.out.size
  clear hb hb4 hf
  have d0 := hc 0 _ rfl
  have d1 := hc 1 _ rfl
  have d2 := hc 2 _ rfl
  have d3 := hc 3 _ rfl
  have d4 := hc 4 _ rfl
  have d5 := hc 5 _ rfl
  have d6 := hc 6 _ rfl
  have f0 := hfr 0
  have f1 := hfr 1
  have f2 := hfr 2
  have f3 := hfr 3
  have f4 := hfr 4
  have f5 := hfr 5
  have f6 := hfr 6
  clear hc hfr
  go_wp2_with fail
  refine bodyPost_ret (v := .agg #[.int .i64 k3, .int .i64 h3', .string t3, .slice A33 n33 c33, .slice A43 n43 c43, .slice A53 n53 c53, .int .i64 (split_end x y)]) (by simp [results, Tryd.results23, go_sem, *]) rfl ⟨l, OK.out, [.int .i64 k3, .int .i64 h3', .string t3, .slice A33 n33 c33, .slice A43 n43 c43, .slice A53 n53 c53], rfl, ?_, ?_⟩
  · have hs := HS.out
    rw [World.size_alloc, HSZ.out] at hs
    refine RdF.same HF.out ?_ (by omega) (by simp [World.setCell])
    iterate 7 refine SameIn.set ?_ (by omega)
    exact fun _ _ _ => rfl
  · iterate 7 refine below_set ?_ (by omega)
    exact HBA.out.trans ((below_laid HB.out).mono HBA.out.size)


end Go.Proofs.YtpamlgdcnmcedaaDoor
