/-
  impl.mapToGo, and impl.toGo at every right value.
-/
import Derived.Test.YtpamlgdcnmcedaaGreatDoorToGo
import Derived.Test.YtpamlgdcnmcedaaGreatDoorPairs
import Derived.StringKeys
namespace Go.Proofs.YtpamlgdcnmcedaaGreatDoor
set_option linter.unusedVariables false
set_option linter.unusedSimpArgs false
open Go.RowKit
open Go.Maps (string_keyed)

/-- One entry more. -/
theorem map_step {s i : Nat} {ks : List ByteArray} {vs : List V} {xs : List Value} {k : ByteArray} {x : V} {v : Value} {w w0 wr w1 w2 : World} (hsz : w.heap.size = s) (hr : rises ks) (hk : ks[i]? = some k) (hx : vs[i]? = some x)
    (hb : Below s w wr) (hs : s + 2 ≤ wr.heap.size) (hd : RdAV wr (s + 2) wr.heap.size (vs.take i) xs) (hb1 : Below wr.heap.size wr w1) (hv : RdA w1 wr.heap.size w1.heap.size x v) (hsm : Same (s + 1) w0 w1)
    (ho : w2.ownsMap Tryz.prog 9 heldR (s + 1) (i + 1) ((DataW.map (pairs (ks.take i) xs)).put (.string k.data.toList) (.held v))) (hg : w1.grownBy w2 (some (s + 1))) :
    Below s w w2 ∧ Same (s + 1) w0 w2 ∧ s + 2 ≤ w2.heap.size ∧
      ∃ xs, w2.ownsMap Tryz.prog 9 heldR (s + 1) (i + 1) (.map (pairs (ks.take (i + 1)) xs)) ∧ RdAV w2 (s + 2) w2.heap.size (vs.take (i + 1)) xs := by
  have hl : xs.length = i := by
    rw [RdAV.length _ _ hd, List.length_take]
    have := (List.getElem?_eq_some_iff.1 hx).1
    omega
  rw [put_next hr hk hl] at ho
  subst hsz
  have z1 : wr.heap.size ≤ w1.heap.size := hb1.size
  have z2 : w1.heap.size ≤ w2.heap.size := hg.size
  have hg' : SameIn (w.heap.size + 2) w1.heap.size w1 w2 := SameIn.of_grown hg (by omega)
  refine ⟨below_grown_ge (below_then hb hb1) hg (by omega) (by omega), hsm.trans (fun b hb => hg.block b (by omega) (fun e => by injection e with e; omega)), by omega, _, ho, ?_⟩
  rw [take_snoc hx]
  exact RdAV.snoc _ _ _ _ (RdAV.same hg' (Nat.le_refl _) z2 _ _ (RdAV.same (SameIn.of_below hb1) (Nat.le_refl _) z1 _ _ hd)) (RdA.same hg' (by omega) z2 _ _ (RdA.same (fun _ _ _ => rfl) (by omega) (Nat.le_refl _) _ _ hv))

set_option maxHeartbeats 1600000 in
set_option maxRecDepth 100000 in
theorem mapToGo_any (m : Nat) (ih : ToGoUpTo m) (k h : Int) (t : ByteArray) (v3 : Value) (ks : List ByteArray) (vs : List V) (hm : V.cntL vs ≤ m) (hgood : V.goodL vs) (hris : rises ks) (A4 A5 : Option Addr) (n c4 c5 B : Nat) (w : World)
    (hn4 : ks.length = n) (hn5 : vs.length = n) (hz : n ≤ 1000000000) (h4 : RdS w B A4 ks) (h5 : RdL w B A5 0 vs) (hB : B ≤ w.heap.size) (hv3 : ∃ A c d, v3 = .slice A c d) :
    Calls Tryz.prog 28 #[.agg #[.int .i64 k, .int .i64 h, .string t, v3, .slice A4 n c4, .slice A5 n c5]] w fun e w' =>
      ∃ b xs, e = .returned (.tuple #[.map (some b), .bool true]) ∧ w.heap.size ≤ b ∧ b < w'.heap.size ∧ w'.ownsMap Tryz.prog 9 heldR b n (.map (pairs ks xs)) ∧ RdAV w' w.heap.size w'.heap.size vs xs ∧ Below w.heap.size w w' := by
  obtain ⟨A3, n3, c3, rfl⟩ := hv3
  have hmk : ∀ W : World, (Instr.makeMap 64 (some (.int .i64 (n : Int)))).run Tryz.prog W = .ok (.map (some W.heap.size)) (W.alloc (.map #[] 0)) := fun W => by kernel_rfl
  obtain ⟨o1, ho1⟩ : ∃ o, Obj.cells #[Value.int .i64 k, .int .i64 h, .string t, .slice A3 n3 c3, .slice A4 n c4, .slice A5 n c5] 26 = o := ⟨_, rfl⟩
  obtain ⟨w0, hw0⟩ : ∃ w0, (w.alloc o1).alloc (.map #[] 0) = w0 := ⟨_, rfl⟩
  have ho : w0.ownsMap Tryz.prog 9 heldR (w.heap.size + 1) 0 (.map []) := by
    rw [← hw0]
    have := World.ownsMap_made (H := Value) (w.alloc o1) Tryz.prog 9 heldR
    rwa [World.size_alloc] at this
  have hb0 : Below w.heap.size w w0 := by rw [← hw0]; exact ((Below.refl _ _).alloc (Nat.le_refl _) _).alloc (by simp) _
  have hsz : w0.heap.size = w.heap.size + 2 := by rw [← hw0]; simp
  have hbx : ∀ w', Same (w.heap.size + 1) w0 w' → (∀ j v, #[Value.int .i64 k, .int .i64 h, .string t, .slice A3 n3 c3, .slice A4 n c4, .slice A5 n c5][j]? = some v → w'.cell? ⟨w.heap.size, j, none⟩ = some v) := by
    intro w' hs j v hj
    have e : w'.heap[w.heap.size]? = some o1 := by
      rw [hs _ (by omega), ← hw0]
      have := Below.heap_alloc (w.alloc o1) (.map #[] 0) w.heap.size (by simp)
      rw [this]
      exact heap_alloc_new w o1
    rw [← ho1] at e
    simp [World.cell?, e, hj]
  have HN4 := Sec.mk hn4
  have HN5 := Sec.mk hn5
  have H4 := Sec.mk h4
  have H5 := Sec.mk h5
  have HB := Sec.mk hB
  have HM := Sec.mk hm
  have HG := Sec.mk hgood
  have HR := Sec.mk hris
  have HO := Sec.mk ho
  have HB0 := Sec.mk hb0
  have HSZ := Sec.mk hsz
  have HBX := Sec.mk hbx
  have b4 := hbx w0 (Same.refl _ _) 4 _ rfl
  have b5 := hbx w0 (Same.refl _ _) 5 _ rfl
  rw [← ho1] at hw0
  clear hn4 hn5 h4 h5 hB hm hgood hris ho hb0 hsz hbx ho1
  go_enter Tryz.func28, Tryz.ntmps28
  go_wp2_with fail
  go_loopw [5, 6, 7, 8, 23] (fun _ _ _ _ v23 wr => ∃ i : Nat, v23 = .int .i64 i ∧ i ≤ n ∧ Below w.heap.size w wr ∧ Same (w.heap.size + 1) w0 wr ∧ w.heap.size + 2 ≤ wr.heap.size ∧
      ∃ xs, wr.ownsMap Tryz.prog 9 heldR (w.heap.size + 1) i (.map (pairs (ks.take i) xs)) ∧ RdAV wr (w.heap.size + 2) wr.heap.size (vs.take i) xs) (fun _ _ _ _ v23 _ => n - (intOf v23).toNat)
  case atStart => exact ⟨0, rfl, Nat.zero_le _, HB0.out, Same.refl _ _, by rw [HSZ.out]; exact Nat.le_refl _, [], by simpa [pairs] using HO.out, by simp [RdAV]⟩
  case round =>
    obtain ⟨i, rfl, hi, hb, hsame, hs, xs, ho, hd⟩ := hrel
    have BL := Sec.mk hb
    have SM := Sec.mk hsame
    have OW := Sec.mk ho
    have HD := Sec.mk hd
    have HS := Sec.mk hs
    clear b4 b5 hb ho hd hs hw0
    have b4 := HBX.out wr hsame 4 _ rfl
    have b5 := HBX.out wr hsame 5 _ rfl
    clear hsame
    by_cases hin : i < n
    · obtain ⟨ky, hky⟩ : ∃ x, ks[i]? = some x := ⟨ks[i]'(by rw [HN4.out]; exact hin), by rw [List.getElem?_eq_getElem]⟩
      obtain ⟨x, hx⟩ : ∃ x, vs[i]? = some x := ⟨vs[i]'(by rw [HN5.out]; exact hin), by rw [List.getElem?_eq_getElem]⟩
      have hsm := (Same.of_below BL.out).mono HB.out
      obtain ⟨ad, e1, hc1, hzk⟩ := (H4.out.same hsm).cells hky
      subst e1
      obtain ⟨ad5, k', h', t', A3', n3', c3', A4', n4', c4', A5', n5', c5', e1, hr1, a0, a1, a2, a3, a4, a5⟩ := RdL.cells (RdL.same hsm vs A5 0 H5.out) hx
      subst e1
      have hcx : V.cnt x ≤ m := Nat.le_trans (V.cnt_le_get hx) HM.out
      have hgx := V.goodL_get HG.out hx
      have cT := ih x hcx hgx _ wr B hr1 (Nat.le_trans HB.out BL.out.size)
      have CT := Sec.mk cT
      have HX := Sec.mk hx
      have HK := Sec.mk hky
      have hprev : (decide ((0 : Int) < (i : Int)) = false ∧ decide (0 < i) = false) ∨ ∃ kz, 0 < i ∧ wr.cell? (ad.add (i - 1)) = some (.string kz) ∧ Op.bytesLess kz.toList ky.toList = true := by
        rcases Nat.eq_zero_or_pos i with e | e
        · exact .inl ⟨decide_eq_false (by omega), decide_eq_false (by omega)⟩
        · right
          obtain ⟨kz, hkz⟩ : ∃ x, ks[i - 1]? = some x := ⟨ks[i - 1]'(by rw [HN4.out]; omega), by rw [List.getElem?_eq_getElem]⟩
          obtain ⟨ad', e2, hc2, _⟩ := (H4.out.same hsm).cells hkz
          obtain rfl : ad = ad' := by injection e2
          refine ⟨kz, e, hc2, ?_⟩
          have := HR.out (i - 1) kz ky hkz (by rw [show i - 1 + 1 = i from by omega]; exact hky)
          unfold sLess at this
          rw [Lib.toList_data, Lib.toList_data]
          exact this
      clear hx hsm hr1 hcx hgx cT hky
      have hkm : ky.size ≤ maxLen := by unfold maxLen; have : ky.size ≤ 140737488351232 := hzk; omega
      have HKM := Sec.mk hkm
      have HZK := Sec.mk hzk
      clear hkm hzk
      rcases hprev with ⟨hi0, hi1⟩ | ⟨kz, hpos, hcz, hlz⟩
      · go_wp2_with fail
        refine CT.out.mono ?_
        intro e w1 hw1
        obtain ⟨v, rfl, hv, hb1⟩ := hw1
        have hsz1 : wr.heap.size ≤ w1.heap.size := hb1.size
        have hown1 : w1.ownsMap Tryz.prog 9 heldR (w.heap.size + 1) i (.map (pairs (ks.take i) xs)) := OW.out.kept (grown_none hb1) (by simp)
        have hsm1 : Same (w.heap.size + 1) w0 w1 := SM.out.trans ((Same.of_below hb1).mono (by have := HS.out; omega))
        have c4 := HBX.out w1 hsm1 4 _ rfl
        have c5 := HBX.out w1 hsm1 5 _ rfl
        have hform := hv.form (V.goodL_get HG.out HX.out)
        have HV := Sec.mk hv
        have HB1 := Sec.mk hb1
        have HSZ1 := Sec.mk hsz1
        have HOWN1 := Sec.mk hown1
        have HSM1 := Sec.mk hsm1
        clear hv hb1 hsz1 hown1 hsm1 b4 b5
        rcases hform with rfl | ⟨ty, u', rfl⟩
        · go_wp2_with (at_mapUpdate; refine wpList_mapUpdate_own _ rfl _ _ _ 64 rfl 9 20 (string_keyed Tryz.underlying9) Tryz.underlying64 heldR (w.heap.size + 1) i _ rfl HOWN1.out (by unfold maxLen; omega) _ _ (.string ky.data.toList) rfl rfl (WideMaps.keyOf_string_mk Tryz.underlying9 HKM.out) (.held .nilIface) [] rfl ?_)
          intro w2 hown2 hgrow2
          have FIN := Sec.mk (map_step rfl HR.out HK.out HX.out BL.out HS.out HD.out HB1.out HV.out HSM1.out hown2 hgrow2)
          clear hown2 hgrow2
          go_wp2_with fail
          go_roundw
          case rel => exact ⟨i + 1, by go_num, by omega, FIN.out⟩
          case measure => simp [intOf]; omega
        · go_wp2_with (at_mapUpdate; refine wpList_mapUpdate_own _ rfl _ _ _ 64 rfl 9 20 (string_keyed Tryz.underlying9) Tryz.underlying64 heldR (w.heap.size + 1) i _ rfl HOWN1.out (by unfold maxLen; omega) _ _ (.string ky.data.toList) rfl rfl (WideMaps.keyOf_string_mk Tryz.underlying9 HKM.out) (.held (.iface ty u')) [] rfl ?_)
          intro w2 hown2 hgrow2
          have FIN := Sec.mk (map_step rfl HR.out HK.out HX.out BL.out HS.out HD.out HB1.out HV.out HSM1.out hown2 hgrow2)
          clear hown2 hgrow2
          go_wp2_with fail
          go_roundw
          case rel => exact ⟨i + 1, by go_num, by omega, FIN.out⟩
          case measure => simp [intOf]; omega
      · go_wp2_with fail
        refine CT.out.mono ?_
        intro e w1 hw1
        obtain ⟨v, rfl, hv, hb1⟩ := hw1
        have hsz1 : wr.heap.size ≤ w1.heap.size := hb1.size
        have hown1 : w1.ownsMap Tryz.prog 9 heldR (w.heap.size + 1) i (.map (pairs (ks.take i) xs)) := OW.out.kept (grown_none hb1) (by simp)
        have hsm1 : Same (w.heap.size + 1) w0 w1 := SM.out.trans ((Same.of_below hb1).mono (by have := HS.out; omega))
        have c4 := HBX.out w1 hsm1 4 _ rfl
        have c5 := HBX.out w1 hsm1 5 _ rfl
        have hform := hv.form (V.goodL_get HG.out HX.out)
        have HV := Sec.mk hv
        have HB1 := Sec.mk hb1
        have HSZ1 := Sec.mk hsz1
        have HOWN1 := Sec.mk hown1
        have HSM1 := Sec.mk hsm1
        clear hv hb1 hsz1 hown1 hsm1 b4 b5
        rcases hform with rfl | ⟨ty, u', rfl⟩
        · go_wp2_with (at_mapUpdate; refine wpList_mapUpdate_own _ rfl _ _ _ 64 rfl 9 20 (string_keyed Tryz.underlying9) Tryz.underlying64 heldR (w.heap.size + 1) i _ rfl HOWN1.out (by unfold maxLen; omega) _ _ (.string ky.data.toList) rfl rfl (WideMaps.keyOf_string_mk Tryz.underlying9 HKM.out) (.held .nilIface) [] rfl ?_)
          intro w2 hown2 hgrow2
          have FIN := Sec.mk (map_step rfl HR.out HK.out HX.out BL.out HS.out HD.out HB1.out HV.out HSM1.out hown2 hgrow2)
          clear hown2 hgrow2
          go_wp2_with fail
          go_roundw
          case rel => exact ⟨i + 1, by go_num, by omega, FIN.out⟩
          case measure => simp [intOf]; omega
        · go_wp2_with (at_mapUpdate; refine wpList_mapUpdate_own _ rfl _ _ _ 64 rfl 9 20 (string_keyed Tryz.underlying9) Tryz.underlying64 heldR (w.heap.size + 1) i _ rfl HOWN1.out (by unfold maxLen; omega) _ _ (.string ky.data.toList) rfl rfl (WideMaps.keyOf_string_mk Tryz.underlying9 HKM.out) (.held (.iface ty u')) [] rfl ?_)
          intro w2 hown2 hgrow2
          have FIN := Sec.mk (map_step rfl HR.out HK.out HX.out BL.out HS.out HD.out HB1.out HV.out HSM1.out hown2 hgrow2)
          clear hown2 hgrow2
          go_wp2_with fail
          go_roundw
          case rel => exact ⟨i + 1, by go_num, by omega, FIN.out⟩
          case measure => simp [intOf]; omega
    · go_wp2_with fail
      go_ret2
      obtain rfl : i = n := by omega
      have e4 : ks.take i = ks := List.take_of_length_le (by rw [HN4.out]; exact Nat.le_refl _)
      have e5 : vs.take i = vs := List.take_of_length_le (by rw [HN5.out]; exact Nat.le_refl _)
      have OW2 := OW.out
      have HD2 := HD.out
      rw [e4] at OW2
      rw [e5] at HD2
      exact ⟨w.heap.size + 1, xs, rfl, by omega, by have := HS.out; omega, OW2, RdAV.same (fun _ _ _ => rfl) (by omega) (Nat.le_refl _) _ _ HD2, BL.out⟩

/-- A value that leads nowhere. -/
theorem RdA.leaf {w : World} {lo B : Nat} {k hh : Int} {t : ByteArray} {l : List V} {ks : List ByteArray} {vs : List V} {v : Value} (h5 : k ≠ 5) (h6 : k ≠ 6)
    (h : (k = 0 ∧ v = .nilIface) ∨ (k = 1 ∧ v = .iface 4 (.bool false)) ∨ (k = 2 ∧ v = .iface 4 (.bool true)) ∨ (k = 3 ∧ v = numA hh) ∨ (k = 4 ∧ v = .iface 9 (.string t))) : RdA w lo B (.mk k hh t l ks vs) v := by
  rw [RdA]
  rcases h with ⟨rfl, rfl⟩ | ⟨rfl, rfl⟩ | ⟨rfl, rfl⟩ | ⟨rfl, rfl⟩ | ⟨rfl, rfl⟩ <;> simp

set_option maxHeartbeats 1600000 in
set_option maxRecDepth 100000 in
theorem toGo_step (m : Nat) (hm1 : m ≤ 1000000000) (ih : ToGoUpTo m) : ToGoUpTo (m + 1) := by
  intro x hm hg cs w B hr hB
  cases x with | mk k h t l ks vs =>
  rw [Rd] at hr
  obtain ⟨A3, c3, A4, c4, A5, c5, rfl, ht, ⟨l3, m3, r3⟩, ⟨l4, m4, r4⟩, ⟨l5, m5, r5⟩⟩ := hr
  rw [V.good] at hg
  obtain ⟨ga, gb, gt, gl, gs, gr, gv⟩ := hg
  obtain ⟨g0, g1, g2, g3, g4, g5, g6⟩ := ga
  obtain ⟨n3, hn3⟩ : ∃ n, l.length = n := ⟨_, rfl⟩
  obtain ⟨n4, hn4⟩ : ∃ n, ks.length = n := ⟨_, rfl⟩
  have hn5 : vs.length = n4 := by rw [← g6, hn4]
  rw [V.cnt] at hm
  have z1 := V.length_le_cntL l
  have z2 := V.length_le_cntL vs
  have hk : k = 0 ∨ k = 1 ∨ k = 2 ∨ k = 3 ∨ k = 4 ∨ k = 5 ∨ k = 6 := by omega
  rw [hn3, hn4, hn5]
  have hal : Below w.heap.size w (w.alloc (.cells #[.int .i64 k, .int .i64 h, .string t, .slice A3 n3 c3, .slice A4 n4 c4, .slice A5 n4 c5] 26)) := (Below.refl _ _).alloc (Nat.le_refl _) _
  have cl := listToGo_any m ih l (by omega) gl A3 n3 c3 B (w.alloc (.cells #[.int .i64 k, .int .i64 h, .string t, .slice A3 n3 c3, .slice A4 n4 c4, .slice A5 n4 c5] 26)) hn3 (by omega) (RdL.same ((Same.of_below hal).mono hB) l A3 0 r3) (Nat.le_trans hB hal.size)
  have cm := mapToGo_any m ih k h t (.slice A3 n3 c3) ks vs (by omega) gv gr A4 A5 n4 c4 c5 B (w.alloc (.cells #[.int .i64 k, .int .i64 h, .string t, .slice A3 n3 c3, .slice A4 n4 c4, .slice A5 n4 c5] 26)) hn4 hn5 (by omega) (r4.same ((Same.of_below hal).mono hB)) (RdL.same ((Same.of_below hal).mono hB) vs A5 0 r5) (Nat.le_trans hB hal.size) ⟨_, _, _, rfl⟩
  have CL := Sec.mk cl
  have CM := Sec.mk cm
  have HL := Sec.mk hn3
  have HZ := Sec.mk (show n3 ≤ 1000000000 ∧ n4 ≤ 1000000000 by omega)
  have HAL := Sec.mk hal
  have GB := Sec.mk gb
  clear r3 r4 r5 hal cl cm hn3 hn4 hn5 z1 z2 g0 g1 g2 g3 g4 g5 g6 gb gt gl gs gr gv ht l3 m3 l4 m4 l5 m5 hm hm1 ih
  rcases hk with rfl | rfl | rfl | rfl | rfl | rfl | rfl
  · go_enter Tryz.func14, Tryz.ntmps14
    go_wp2
    go_ret2
    exact ⟨_, rfl, RdA.leaf (by decide) (by decide) (.inl ⟨rfl, rfl⟩), HAL.out⟩
  · go_enter Tryz.func14, Tryz.ntmps14
    go_wp2
    go_ret2
    exact ⟨_, rfl, RdA.leaf (by decide) (by decide) (.inr (.inl ⟨rfl, rfl⟩)), HAL.out⟩
  · go_enter Tryz.func14, Tryz.ntmps14
    go_wp2
    go_ret2
    exact ⟨_, rfl, RdA.leaf (by decide) (by decide) (.inr (.inr (.inl ⟨rfl, rfl⟩))), HAL.out⟩
  · refine (toGo_num h t _ _ _ w GB.out).mono ?_
    rintro e w' ⟨rfl, hb⟩
    exact ⟨_, rfl, RdA.leaf (by decide) (by decide) (.inr (.inr (.inr (.inl ⟨rfl, rfl⟩)))), hb⟩
  · go_enter Tryz.func14, Tryz.ntmps14
    go_wp2
    go_ret2
    exact ⟨_, rfl, RdA.leaf (by decide) (by decide) (.inr (.inr (.inr (.inr ⟨rfl, rfl⟩)))), HAL.out⟩
  · go_enter Tryz.func14, Tryz.ntmps14
    go_wp2_with (go_at_call 27; refine CL.out.mono ?_; intro e w1 hw1; obtain ⟨g, rfl, hw2⟩ := hw1; have HW := Sec.mk hw2; clear hw2)
    refine bodyPost_ret (v := .tuple #[.iface 61 (.slice (some ⟨g, 0, none⟩) n3 n3), .bool true]) (by simp [results, Tryz.results14, go_sem, *]) rfl ⟨_, rfl, ?_, below_laid HW.out.2.2⟩
    obtain ⟨hg1, hl1, hb1⟩ := HW.out
    obtain ⟨hz, _⟩ := HZ.out
    obtain rfl := HL.out
    rw [RdA]
    refine ⟨by simp, by simp, by simp, by simp, by simp, fun _ => ⟨_, _, rfl, Nat.le_refl _, by unfold reach; omega, ?_⟩, by simp⟩
    exact RdAL.same (fun _ _ _ => rfl) (by simp) (Nat.le_refl _) _ _ _ hl1
  · go_enter Tryz.func14, Tryz.ntmps14
    go_wp2_with (go_at_call 28; refine CM.out.mono ?_; intro e w1 hw1; obtain ⟨g, xs, rfl, hw2⟩ := hw1; have HW := Sec.mk hw2; clear hw2)
    refine bodyPost_ret (v := .tuple #[.iface 64 (.map (some g)), .bool true]) (by simp [results, Tryz.results14, go_sem, *]) rfl ⟨_, rfl, ?_, below_laid HW.out.2.2.2.2⟩
    obtain ⟨hg1, hg2, ho1, hl1, hb1⟩ := HW.out
    obtain ⟨_, hz⟩ := HZ.out
    rw [World.size_alloc] at hg1
    rw [RdA]
    refine ⟨by simp, by simp, by simp, by simp, by simp, by simp, fun _ => ⟨_, _, _, rfl, by omega, hg2, by unfold reach; omega, ho1, ?_⟩⟩
    exact RdAV.same (fun _ _ _ => rfl) (by simp) (Nat.le_refl _) _ _ hl1

/-- toGo makes of a right value what reads the same. -/
theorem toGo_upTo : ∀ m : Nat, m ≤ 1000000001 → ToGoUpTo m
  | 0, _ => fun x hx => by have := V.cnt_pos x; omega
  | m + 1, h => toGo_step m (by omega) (toGo_upTo m (by omega))

end Go.Proofs.YtpamlgdcnmcedaaGreatDoor
