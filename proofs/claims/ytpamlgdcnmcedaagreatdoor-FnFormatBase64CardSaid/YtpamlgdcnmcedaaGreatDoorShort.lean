/-
  The shortest digits of half of an odd number are its own.
-/
import Derived.Test.YtpamlgdcnmcedaaGreatDoorUpD
import Derived.Test.YtpamlgdcnmcedaaGreatDoorNum
namespace Go.Proofs.YtpamlgdcnmcedaaGreatDoor
set_option linter.unusedVariables false
set_option linter.unusedSimpArgs false
open Go.RowKit
open Dc

/-- A decimal that was made of n and divided by 2 to the power k. -/
def MadeOf (w : World) (B g : Nat) (n k : Nat) (wx : World) : Prop := ∃ v ds dp, DecAt wx B g v ds dp ∧ Nrm ds ∧ ds.length ≤ 200 ∧ -1000 ≤ dp ∧ dp ≤ 1000 ∧ DV ds dp n k
theorem trim_digs_nrm {n : Nat} (h : 0 < n) : Nrm (trimL (digs n)) := by
  obtain ⟨_, _, hl⟩ := trimL_eq (digs n)
  exact ⟨trimL_ten (digs_ten n), trimL_ne (by rw [digs_num]; exact h), trimL_head (digs_head n h), hl⟩
/-- Behind newDecimal, ahead of shift. -/
theorem shift_new {w w' : World} {g k n : Nat} {v : Value} (h : DecAt w' w.heap.size g v (trimL (digs n)) ((digs n).length : Int)) (h0 : 0 < n) (hn : n ≤ 100000000000000000) (hk0 : 1 ≤ k) (hk : k ≤ 59) :
    Calls Tryz.prog 102 #[.pointer (some ⟨g, 0, none⟩), .int .i64 (-(k : Int))] w' fun e wx => e = .returned (.tuple #[]) ∧ MadeOf w' w.heap.size g n k wx ∧ w'.grownBy wx (some g) := by
  have hl : (digs n).length ≤ 17 + 1 := digs_len 17 n (by omega)
  have hl2 := trimL_len (digs n)
  refine (shift_any w' _ g v _ _ k h (trim_digs_nrm h0) (by omega) hk0 hk (by omega) (by omega)).mono ?_
  rintro e wx ⟨rfl, ⟨v', ds', dp', a1, a2, a3, a4, a5, a6⟩, hg⟩
  exact ⟨rfl, ⟨v', ds', dp', a1, a2, a3, a4, a5, a6 n (DV.digs n).trim⟩, hg⟩
theorem MadeOf.below {w wx wy : World} {B g n k : Nat} (h : MadeOf w B g n k wx) (hb : Below wx.heap.size wx wy) : MadeOf w B g n k wy := by
  obtain ⟨v, ds, dp, h1, rest⟩ := h
  exact ⟨v, ds, dp, h1.below hb, rest⟩

theorem pointOf_bounds {ds : List Nat} {dp : Int} (h0 : 0 ≤ dp) (h1 : dp ≤ 100) : -1000 ≤ pointOf ds dp ∧ pointOf ds dp ≤ 1000 := by unfold pointOf; split <;> omega
/-- What is cut off below is less than the lower edge. -/
theorem cmp_low {h i n k : Nat} {x : List Nat} {dpx r : Int} (hi : i ≤ (front h).length) (nx : Nrm x) (hx : DV x dpx n k) (hgap : ∀ D, D ≤ h / 2 → D * 2 ^ k < n)
    (hc : IsCmp x dpx (trimL ((front h ++ [5]).take i)) (pointOf (trimL ((front h ++ [5]).take i)) ((front h).length : Int)) r) : 0 < r := by
  rw [List.take_append_of_le_length hi] at hc
  obtain ⟨D, hD, hdv⟩ := down_dv (front_num h) hi
  by_cases he : trimL ((front h).take i) = []
  · exact cmp_gt (j := 0) (B := D) hc hx nx (.inl he) (by have := hgap D hD; simpa using this)
  · refine cmp_gt (j := 0) (B := D) hc hx nx (.inr ⟨take_nrm (front_ten h) (front_head h) he, ?_⟩) (by have := hgap D hD; simpa using this)
    unfold pointOf
    rw [if_neg he]
    exact hdv.trim
/-- What is rounded up is more than the upper edge. -/
theorem cmp_high {h i j mant : Nat} {u y : List Nat} {dpu dpy r : Int} (hi : i ≤ (front h).length) (ho : h % 2 = 1) (hj0 : 1 ≤ j) (hm : 2 * mant = h * 2 ^ j) (hu : IsUp (front h ++ [5]) i ((front h).length : Int) u dpu) (ny : Nrm y) (hy : DV y dpy (2 * mant + 1) (j + 1))
    (hc : IsCmp u dpu y dpy r) : 0 < r := by
  obtain ⟨nu, U, hU, hdv⟩ := up_dv (front_num h) (front_ten h) (front_head h) hi hu
  exact cmp_gt hc hdv nu (.inr ⟨ny, hy⟩) (by have := high_gap ho hj0 hm hU; simpa using this)
theorem up_facts {h i : Nat} {u : List Nat} {dpu : Int} (hh : h < 9007199254740992) (hi : i ≤ (front h).length) (hu : IsUp (front h ++ [5]) i ((front h).length : Int) u dpu) : u ≠ [] ∧ Ten u ∧ u.length ≤ 1000 ∧ -1000 ≤ dpu ∧ dpu ≤ 1000 := by
  have hl := front_len hh
  obtain ⟨nu, _⟩ := up_dv (front_num h) (front_ten h) (front_head h) hi hu
  refine ⟨nu.ne, nu.ten, ?_⟩
  rcases hu with ⟨m, d, hm, _, _, rfl, rfl⟩ | ⟨rfl, rfl⟩
  · rw [List.length_append, List.length_take, List.length_append]
    simp; omega
  · simp; omega
/-- The lower edge, at a world that w4 grew into. -/
def LowIs (w4 : World) (h : Nat) (v10 : Value) (wx : World) : Prop := ∃ B gl n k, v10 = .pointer (some ⟨gl, 0, none⟩) ∧ MadeOf w4 B gl n k wx ∧ (∀ D, D ≤ h / 2 → D * 2 ^ k < n) ∧ Below w4.heap.size w4 wx
def EdgeIs (v11 : Value) : Prop := ∃ ed : Int, v11 = .int .i64 ed ∧ 0 ≤ ed ∧ ed ≤ 1
theorem low_one {h j mant : Nat} (ho : h % 2 = 1) (hj0 : 1 ≤ j) (hm : 2 * mant = h * 2 ^ j) : ∀ D, D ≤ h / 2 → D * 2 ^ (j + 1) < 2 * mant - 1 := fun D hD => low_gap ho hj0 hm hD
theorem low_two {h j mant : Nat} (ho : h % 2 = 1) (hj0 : 1 ≤ j) (hm : 2 * mant = h * 2 ^ j) : ∀ D, D ≤ h / 2 → D * 2 ^ (j + 2) < 4 * mant - 1 := fun D hD => by
  have := low_gap ho hj0 hm hD
  have e : D * 2 ^ (j + 2) = 2 * (D * 2 ^ (j + 1)) := by rw [show j + 2 = j + 1 + 1 from rfl, Nat.pow_succ]; ac_rfl
  omega

set_option maxHeartbeats 3200000 in
set_option maxRecDepth 100000 in
theorem short_any (w : World) (lo g : Nat) (v : Value) (h mant j : Nat) (hd : DecAt w lo g v (front h ++ [5]) ((front h).length : Int)) (ho : h % 2 = 1) (hh : h < 9007199254740992) (hj0 : 1 ≤ j) (hj : j ≤ 53) (hm : 2 * mant = h * 2 ^ j) (hm1 : 4503599627370496 ≤ mant) (hm2 : mant < 9007199254740992) :
    Calls Tryz.prog 103 #[.pointer (some ⟨g, 0, none⟩), .int .u64 (mant : Int), .int .i64 (52 - (j : Int)), .agg #[.int .i64 52, .int .i64 11, .int .i64 (-1023)]] w fun e w' => e = .returned (.pointer (some ⟨g, 0, none⟩)) ∧ Below w.heap.size w w' := by
  have ca : ∀ W, Calls Tryz.prog 101 #[.int .u64 (2 * (mant : Int) + 1)] W (NewDIs W (trimL (digs (2 * mant + 1))) ((digs (2 * mant + 1)).length : Int)) := fun W => by
    have := newDecimal_any (2 * mant + 1) W (by omega) (by omega)
    rwa [show ((2 * mant + 1 : Nat) : Int) = 2 * (mant : Int) + 1 from by omega] at this
  have cb : ∀ W, Calls Tryz.prog 101 #[.int .u64 (2 * (mant : Int) - 1)] W (NewDIs W (trimL (digs (2 * mant - 1))) ((digs (2 * mant - 1)).length : Int)) := fun W => by
    have := newDecimal_any (2 * mant - 1) W (by omega) (by omega)
    rwa [show ((2 * mant - 1 : Nat) : Int) = 2 * (mant : Int) - 1 from by omega] at this
  have cc : ∀ W, Calls Tryz.prog 101 #[.int .u64 (4 * (mant : Int) - 1)] W (NewDIs W (trimL (digs (4 * mant - 1))) ((digs (4 * mant - 1)).length : Int)) := fun W => by
    have := newDecimal_any (4 * mant - 1) W (by omega) (by omega)
    rwa [show ((4 * mant - 1 : Nat) : Int) = 4 * (mant : Int) - 1 from by omega] at this
  have CA := Sec.mk ca
  have CB := Sec.mk cb
  have CC := Sec.mk cc
  clear ca cb cc
  have hform : ∀ W, Below (w.alloc (.cells #[.int .i64 52, .int .i64 11, .int .i64 (-1023)] 166)).heap.size (w.alloc (.cells #[.int .i64 52, .int .i64 11, .int .i64 (-1023)] 166)) W → W.cell? ⟨w.heap.size, 0, none⟩ = some (.int .i64 52) ∧ W.cell? ⟨w.heap.size, 2, none⟩ = some (.int .i64 (-1023)) := fun W hb =>
    ⟨box_after w _ _ W hb 0 _ rfl, box_after w _ _ W hb 2 _ rfl⟩
  have HF := Sec.mk hform
  clear hform
  have HD := Sec.mk hd
  have HJ := Sec.mk (And.intro ho (And.intro hh (And.intro hj0 (And.intro hj hm))))
  clear hd ho hh hm
  have q1 : ((mant : Int) == 0) = false := by simp; omega
  go_enter Tryz.func103, Tryz.ntmps103
  go_wp2_with fail
  refine (CA.out _).mono ?_
  rintro e w1 ⟨gh, vh, rfl, hgh, hdh, hb1⟩
  have hf1 := HF.out w1 hb1
  have f0 := hf1.1
  have f2 := hf1.2
  have cs := shift_new hdh (by omega) (by omega) (k := j + 1) (by omega) (by omega)
  rw [show (-((j + 1 : Nat) : Int)) = 52 - (j : Int) - 52 - 1 from by omega] at cs
  have CS := Sec.mk cs
  have HB1 := Sec.mk hb1
  have HGH := Sec.mk hgh
  clear hf1 hdh hb1 cs hgh
  go_wp2_with fail
  refine CS.out.mono ?_
  rintro e w2 ⟨rfl, hmh, hg2⟩
  have hb2 : Below (w.alloc (.cells #[.int .i64 52, .int .i64 11, .int .i64 (-1023)] 166)).heap.size (w.alloc (.cells #[.int .i64 52, .int .i64 11, .int .i64 (-1023)] 166)) w2 :=
    HB1.out.grown hg2 HB1.out.size (fun k e => by have e' : gh = k := Option.some.inj e; have := HGH.out; omega)
  have HMH := Sec.mk hmh
  have HB2 := Sec.mk hb2
  clear f0 f2 hmh hb2 hg2
  go_wp2_with fail
  refine (CB.out _).mono ?_
  rintro e w3 ⟨gl, vl, rfl, hgl, hdl, hb3⟩
  have hf3 := HF.out w3 (below_then HB2.out hb3)
  have f0 := hf3.1
  have f2 := hf3.2
  have cs := shift_new hdl (by omega) (by omega) (k := j + 1) (by omega) (by omega)
  rw [show (-((j + 1 : Nat) : Int)) = 52 - (j : Int) - 52 - 1 from by omega] at cs
  have CS2 := Sec.mk cs
  have HB3 := Sec.mk hb3
  have HGL := Sec.mk hgl
  clear hf3 hdl hb3 cs hgl
  go_wp2_with fail
  refine CS2.out.mono ?_
  rintro e w4 ⟨rfl, hml, hg4⟩
  have hb4 : Below w2.heap.size w2 w4 := HB3.out.grown hg4 HB3.out.size (fun k e => by have e' : gl = k := Option.some.inj e; have := HGL.out; omega)
  have hmh4 := HMH.out.below hb4
  have hb04 := below_then HB2.out hb4
  have hf4 := HF.out w4 hb04
  have f0' := hf4.1
  have f2' := hf4.2
  have HMH4 := Sec.mk hmh4
  have HML := Sec.mk hml
  have HB04 := Sec.mk hb04
  clear f0 f2 hml hg4 hb4 hmh4 hb04 hf4 HMH HB2 HB3 CS CS2 HGH HB1
  go_upto_region 7 with fail
  obtain ⟨bq, hbq⟩ : ∃ bq, decide (mant = 4503599627370496) = bq := ⟨_, rfl⟩
  have HBQ := Sec.mk hbq
  clear hbq
  go_cut [53] (fun v53 wx => v53 = .bool bq ∧ wx = w4)
  case first =>
    by_cases he : mant = 4503599627370496
    · have e1 : bq = true := by rw [← HBQ.out]; exact decide_eq_true he
      have d1 : ((mant : Int) == 4503599627370496) = true := by simp [he]
      have d2 : decide (-1022 < 52 - (j : Int)) = true := decide_eq_true (by omega)
      have HE := Sec.mk he
      have E1 := Sec.mk e1
      clear he e1
      go_wp2_with fail
      go_meet
      exact ⟨by rw [E1.out], rfl⟩
    · have e1 : bq = false := by rw [← HBQ.out]; exact decide_eq_false he
      have d1 : ((mant : Int) == 4503599627370496) = false := by simp; omega
      have HE := Sec.mk he
      have E1 := Sec.mk e1
      clear he e1
      go_wp2_with fail
      go_meet
      exact ⟨by rw [E1.out], rfl⟩
  case rest =>
    obtain ⟨rfl, rfl⟩ := hcut
    go_upto_if 53 with fail
    go_cut [10] (fun v10 wx => LowIs wc h v10 wx)
    case first =>
      cases bq
      · have FIN := Sec.mk (show LowIs wc h (.pointer (some ⟨gl, 0, none⟩)) wc from ⟨_, gl, _, _, rfl, HML.out, low_one HJ.out.1 HJ.out.2.2.1 HJ.out.2.2.2.2, Below.refl _ _⟩)
        go_wp2_with fail
        go_meet
        exact FIN.out
      · go_wp2_with fail
        refine (CC.out _).mono ?_
        rintro e w5 ⟨gl2, vl2, rfl, hgl2, hdl2, hb5⟩
        have hf5 := HF.out w5 (below_then HB04.out hb5)
        have g0 := hf5.1
        have cs := shift_new hdl2 (by omega) (by omega) (k := j + 2) (by omega) (by omega)
        rw [show (-((j + 2 : Nat) : Int)) = 52 - (j : Int) - 52 - 2 from by omega] at cs
        have CS3 := Sec.mk cs
        have HB5 := Sec.mk hb5
        have HGL2 := Sec.mk hgl2
        clear hf5 hdl2 hb5 cs hgl2
        go_wp2_with fail
        refine CS3.out.mono ?_
        rintro e w6 ⟨rfl, hml6, hg6⟩
        have hb6 : Below wc.heap.size wc w6 := HB5.out.grown hg6 HB5.out.size (fun k e => by have e' : gl2 = k := Option.some.inj e; have := HGL2.out; omega)
        have FIN := Sec.mk (show LowIs wc h (.pointer (some ⟨gl2, 0, none⟩)) w6 from ⟨_, gl2, _, _, rfl, hml6, low_two HJ.out.1 HJ.out.2.2.1 HJ.out.2.2.2.2, hb6⟩)
        clear hml6 hg6 hb6
        go_wp2_with fail
        go_meet
        exact FIN.out
    case rest =>
      obtain ⟨BL, gl2, nl, kl, rfl, hml2, hgap, hbl⟩ := hcut
      have hbw := below_laid (below_then HB04.out hbl)
      have hmh := HMH4.out.below hbl
      have hda := HD.out.below hbw
      have HMHZ := Sec.mk hmh
      have HMLZ := Sec.mk (And.intro hml2 hgap)
      have HDA := Sec.mk hda
      have HBW := Sec.mk hbw
      clear hml2 hgap hbl hbw hmh hda HMH4 HML HB04 HD HF CA CB CC HBQ HGL f0' f2'
      go_upto_if 67 with fail
      go_cut [11] (fun v11 wx => EdgeIs v11 ∧ wx = wc)
      case first =>
        go_wp2_with fail
        all_goals
          go_meet
          first
            | exact ⟨⟨1, rfl, by decide, by decide⟩, rfl⟩
            | exact ⟨⟨0, rfl, by decide, by decide⟩, rfl⟩
      case rest =>
        obtain ⟨⟨ed, rfl, hed0, hed1⟩, rfl⟩ := hcut
        have hfl := front_len HJ.out.2.1
        obtain ⟨F, hF⟩ : ∃ F, (front h).length = F := ⟨_, rfl⟩
        have hL : (front h ++ [5]).length = F + 1 := by rw [List.length_append, hF]; rfl
        have HFL := Sec.mk (And.intro hF hL)
        rw [hF] at hfl
        clear hF hL
        go_wp2_with fail
        go_loopw [12, 13, 14, 15, 16] (fun v12 _ _ _ _ wr => ∃ i : Nat, v12 = .int .i64 (i : Int) ∧ i ≤ F + 1 ∧ Below wc.heap.size wc wr) (fun v12 _ _ _ _ _ => F + 1 - (intOf v12).toNat)
        case atStart => exact ⟨0, rfl, Nat.zero_le _, Below.refl _ _⟩
        case round =>
          obtain ⟨i, rfl, hi, hb⟩ := hrel
          have hda := HDA.out.below hb
          obtain ⟨A, c, ev, _, _⟩ := hda.form
          have c0 := hda.c0
          rw [ev, HFL.out.2] at c0
          have HB := Sec.mk hb
          have HDR := Sec.mk hda
          clear hda ev hb
          by_cases hin : i < F + 1
          · have hiF : i ≤ (front h).length := by rw [HFL.out.1]; omega
            have cd := down_any wr lo g v (front h ++ [5]) ((front h).length : Int) i HDR.out (half_nrm h).ten (by rw [HFL.out.2]; omega) (by rw [HFL.out.2]; exact hin)
            have CD := Sec.mk cd
            have HIF := Sec.mk hiF
            clear cd hiF
            go_wp2_with fail
            refine CD.out.mono ?_
            rintro e wa ⟨v5, rfl, gd, vd, rfl, hdd, hba⟩
            have hda2 := HDR.out.below hba
            have cu := up_any wa lo g v (front h ++ [5]) ((front h).length : Int) i hda2 (half_nrm h).ten (by rw [HFL.out.2]; omega) (by rw [HFL.out.2]; exact hin) (by rw [HFL.out.1]; omega) (by rw [HFL.out.1]; omega)
            have CU := Sec.mk cu
            have HDD := Sec.mk hdd
            have HBA := Sec.mk hba
            clear hda2 cu hdd hba
            go_wp2_with fail
            refine CU.out.mono ?_
            rintro e wb ⟨v5, u, dpu, rfl, ⟨gu, vu, rfl, hdu, hbb⟩, hup⟩
            have hbwb := below_then HB.out (below_then HBA.out hbb)
            obtain ⟨vlow, xlow, dlow, hlow, nlow, zlow, lb1, lb2, hlv⟩ := HMLZ.out.1.below hbwb
            have hdd2 := HDD.out.below hbb
            have hpb := pointOf_bounds (ds := trimL ((front h ++ [5]).take i)) (dp := ((front h).length : Int)) (by omega) (by rw [HFL.out.1]; omega)
            have hten : Ten (trimL ((front h ++ [5]).take i)) := trimL_ten (fun d hd => (half_nrm h).ten d (List.mem_of_mem_take hd))
            have htl : (trimL ((front h ++ [5]).take i)).length ≤ 1000 := by
              have := trimL_len ((front h ++ [5]).take i)
              rw [List.length_take, HFL.out.2] at this
              omega
            have C1 := Sec.mk (cmp_any wb BL gl2 vlow xlow dlow _ gd vd _ _ hlow hdd2 nlow.ne nlow.ten hten (by omega) htl lb1 lb2 hpb.1 hpb.2)
            have HLOW := Sec.mk (And.intro nlow hlv)
            have HBWB := Sec.mk hbwb
            have HDU := Sec.mk (And.intro hdu hup)
            clear hbwb hlow nlow zlow lb1 lb2 hlv hdd2 hpb hten htl hdu hup hbb c0
            go_wp2_with fail
            refine C1.out.mono ?_
            rintro e wd ⟨r1, rfl, hr1, hbd⟩
            have hr1p := cmp_low HIF.out HLOW.out.1 HLOW.out.2 HMLZ.out.2 hr1
            have d1 : decide (r1 < ed) = false := decide_eq_false (by omega)
            obtain ⟨vhi, xhi, dhi, hhi, nhi, zhi, hb1, hb2, hhv⟩ := HMHZ.out.below (below_then HBWB.out hbd)
            have hdu2 := HDU.out.1.below hbd
            obtain ⟨uf1, uf2, uf3, uf4, uf5⟩ := up_facts HJ.out.2.1 HIF.out HDU.out.2
            have C2 := Sec.mk (cmp_any wd _ gu vu u dpu _ gh vhi xhi dhi hdu2 hhi uf1 uf2 nhi.ten uf3 (by omega) uf4 uf5 hb1 hb2)
            have HHI := Sec.mk (And.intro nhi hhv)
            have HBD := Sec.mk (below_then HBWB.out hbd)
            clear hr1 hr1p hhi nhi zhi hb1 hb2 hhv hdu2 uf1 uf2 uf3 uf4 uf5 hbd
            go_wp2_with fail
            refine C2.out.mono ?_
            rintro e wf ⟨r2, rfl, hr2, hbf⟩
            have hr2p := cmp_high HIF.out HJ.out.1 HJ.out.2.2.1 HJ.out.2.2.2.2 HDU.out.2 HHI.out.1 HHI.out.2 hr2
            have d2 : decide (r2 < ed) = false := decide_eq_false (by omega)
            have HBF := Sec.mk (below_then HBD.out hbf)
            clear hr2 hr2p hbf
            go_wp2_with fail
            go_roundw
            case rel => exact ⟨i + 1, by go_num, by omega, HBF.out⟩
            case measure => simp [intOf]; omega
          · go_wp2_with fail
            go_ret
            exact ⟨rfl, below_then HBW.out HB.out⟩

end Go.Proofs.YtpamlgdcnmcedaaGreatDoor
