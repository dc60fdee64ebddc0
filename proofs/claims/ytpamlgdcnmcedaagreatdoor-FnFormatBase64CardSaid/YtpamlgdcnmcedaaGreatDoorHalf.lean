/-
  A decimal divided by a power of two.
-/
import Derived.Test.YtpamlgdcnmcedaaGreatDoorNewD
import Derived.Laws.Bits64b
namespace Go.Proofs.YtpamlgdcnmcedaaGreatDoor
set_option linter.unusedVariables false
set_option linter.unusedSimpArgs false
open Go.RowKit
open Dc

/-- What half leaves. -/
def HalfPost (w : World) (lo g : Nat) (ds : List Nat) (dp : Int) (k : Nat) (e : Ending) (w' : World) : Prop :=
  e = .returned (.tuple #[]) ∧ (∃ v' ds' dp', DecAt w' lo g v' ds' dp' ∧ Nrm ds' ∧ ds'.length ≤ 200 ∧ -1000 ≤ dp' ∧ dp' ≤ 1000 ∧ ∀ A, DV ds dp A 0 → DV ds' dp' A k) ∧ w.grownBy w' (some g)

theorem pow_59 {k : Nat} (hk : k ≤ 59) : 2 ^ k ≤ 576460752303423488 := Nat.le_trans (Nat.pow_le_pow_right (by decide) hk) (by decide)
/-- The first digit comes within twenty places. -/
theorem half_near {ds : List Nat} {k i : Nat} (hn : Nrm ds) (hk : k ≤ 59) (h : ∀ j, j < i → pre ds j < 2 ^ k) : i ≤ 20 := by
  apply Classical.byContradiction
  intro hc
  have h1 := h 20 (by omega)
  have h2 : 10 ^ 19 ≤ pre ds 20 := pre_ge hn 19
  have h3 := pow_59 hk
  have h4 : (576460752303423488 : Nat) < 10 ^ 19 := by decide
  omega

theorem grown_up {w w' : World} {r : Option Nat} (h : w.grownBy w' none) : w.grownBy w' r := ⟨h.os, h.tape, h.output, h.size, fun k hk _ => h.block k hk (fun e => by cases e)⟩
/-- A row of digits that is being made: nothing of what was there turns. -/
structure Grow8 (w1 wr : World) (v : Value) (out : List Nat) : Prop where
  grown : w1.grownBy wr none
  row : wr.ownsRow w1.heap.size 5 1 v out.length (out.map d8)
theorem Grow8.start (w1 : World) : Grow8 w1 w1 (.slice none 0 0) [] := ⟨⟨rfl, rfl, rfl, Nat.le_refl _, fun _ _ _ => rfl⟩, World.ownsRow_nil ..⟩
theorem Grow8.form {w1 wr : World} {v : Value} {out : List Nat} (h : Grow8 w1 wr v out) : ∃ A c, v = .slice A out.length c := by
  rcases h.row.2 with ⟨e, h0⟩ | ⟨r, cap, cur, e, _⟩
  · exact ⟨none, 0, by rw [h0]; exact e⟩
  · exact ⟨_, _, e⟩
theorem Grow8.step {w1 wr wk : World} {r cap n d : Nat} {v : Value} {out : List Nat} (h : Grow8 w1 wr v out) (hl : out.length = n)
    (ho : wk.ownsRow w1.heap.size 5 1 (.slice (some ⟨r, 0, none⟩) (n + 1) cap) (n + 1) (out.map d8 ++ [.int .u8 (d : Int)])) (hg : (wr.alloc (.cells #[.int .u8 (d : Int)] 5)).grownBy wk v.ownBlock) :
    Grow8 w1 wk (.slice (some ⟨r, 0, none⟩) (n + 1) cap) (out ++ [d]) := by
  have hs := h.grown.size
  have hvb := h.row.lt
  have hgs := hg.size
  rw [World.size_alloc] at hgs
  refine ⟨⟨?_, ?_, ?_, by omega, fun k hk hne => ?_⟩, ?_⟩
  · exact hg.os.trans h.grown.os
  · exact hg.tape.trans h.grown.tape
  · exact hg.output.trans h.grown.output
  · rw [hg.block k (by rw [World.size_alloc]; omega) (fun e => by have := (hvb k e.symm).1; omega)]
    exact (Below.heap_alloc wr _ k (by omega)).trans (h.grown.block k hk hne)
  · rw [List.length_append, List.map_append, hl]
    exact ho
theorem low_bits (x k : Nat) (hx : x < 18446744073709551616) (hk : k ≤ 59) : bits BinOp.and IntKind.u64 (x : Int) (IntKind.u64.wrap (IntKind.u64.wrap (2 ^ k) - 1)) = ((x % 2 ^ k : Nat) : Int) := by
  have p := pow_59 hk
  have p0 := Nat.pow_pos (n := k) (show 0 < 2 by decide)
  have e1 : IntKind.u64.wrap (2 ^ k) = ((2 ^ k : Nat) : Int) := by
    rw [show (2 : Int) ^ k = ((2 ^ k : Nat) : Int) from by norm_cast, wrap_u64]
    omega
  have e2 : IntKind.u64.wrap (((2 ^ k : Nat) : Int) - 1) = ((2 ^ k - 1 : Nat) : Int) := by
    rw [wrap_u64]
    omega
  rw [e1, e2, bits_and_u64_nat x (2 ^ k - 1) hx (by omega), Nat.and_two_pow_sub_one_eq_mod]
theorem land_low (a k : Nat) : a &&& (2 ^ k - 1) = a % 2 ^ k := Nat.and_two_pow_sub_one_eq_mod a k

set_option maxHeartbeats 1600000 in
set_option maxRecDepth 100000 in
theorem half_any (w : World) (lo g : Nat) (v : Value) (ds : List Nat) (dp : Int) (k : Nat) (h : DecAt w lo g v ds dp) (hn : Nrm ds) (hz : ds.length ≤ 100) (hk0 : 1 ≤ k) (hk : k ≤ 59) (hd0 : -100 ≤ dp) (hd1 : dp ≤ 100) :
    Calls Tryz.prog 133 #[.pointer (some ⟨g, 0, none⟩), .int .i64 (k : Int)] w (HalfPost w lo g ds dp k) := by
  obtain ⟨i0, hi0, hz0, hz1, hz2⟩ := info_parts infoB
  obtain ⟨A, c, rfl, hlc, hcell⟩ := h.form
  obtain ⟨n, hn0⟩ : ∃ n, ds.length = n := ⟨_, rfl⟩
  have hnpos : 1 ≤ n := by rw [← hn0]; exact List.length_pos_iff.2 hn.ne
  have c0 := h.c0
  rw [hn0] at c0 hlc hz
  have H := Sec.mk h
  have HN := Sec.mk hn
  have HL := Sec.mk hn0
  have HC := Sec.mk hcell
  have p59 := pow_59 hk
  clear h hn hcell
  go_enter Tryz.func133, Tryz.ntmps133
  go_wp2_with fail
  go_loopw [4, 5] (fun v4 v5 wr => ∃ i : Nat, v5 = .int .i64 (i : Int) ∧ v4 = .int .u64 ((pre ds i : Nat) : Int) ∧ (∀ j, j < i → pre ds j < 2 ^ k) ∧ wr = w) (fun _ v5 _ => 21 - (intOf v5).toNat)
  case atStart => exact ⟨0, rfl, rfl, fun j hj => by omega, rfl⟩
  case round =>
    obtain ⟨i, rfl, rfl, hj, e⟩ := hrel
    have e' := e.symm
    subst e'
    clear e
    have hi := half_near HN.out hk hj
    obtain ⟨m, hm⟩ : ∃ m, pre ds i = m := ⟨_, rfl⟩
    rw [hm]
    have HM := Sec.mk hm
    have HJ := Sec.mk hj
    clear hj hm
    by_cases hlt : m < 2 ^ k
    · have hm59 : m < 576460752303423488 := by omega
      have q1 : (((m : Int) / 2 ^ k) == 0) = true := by
        rw [show (2 : Int) ^ k = ((2 ^ k : Nat) : Int) from by norm_cast]
        rw [← Int.natCast_ediv, Nat.div_eq_of_lt hlt]; rfl
      have HJ2 := Sec.mk (show ∀ j, j < i + 1 → pre ds j < 2 ^ k from fun j hj => by
        by_cases h : j = i
        · rw [h, HM.out]; exact hlt
        · exact HJ.out j (by omega))
      have HS : Sec (pre ds (i + 1) = 10 * m + ds.getD i 0) := ⟨by rw [pre, HM.out]⟩
      clear hlt
      by_cases hin : i < n
      · obtain ⟨d, hd⟩ : ∃ d, ds[i]? = some d := ⟨_, List.getElem?_eq_getElem (by omega)⟩
        obtain ⟨ad, rfl, hc⟩ := HC.out i d hd
        have hc' : w.cell? (ad.add i) = some (.int .u8 (d : Int)) := hc
        have hd10 : d < 10 := HN.out.ten d (List.mem_of_getElem? hd)
        have HS2 : Sec (pre ds (i + 1) = m * 10 + d) := ⟨by rw [HS.out, List.getD_eq_getElem?_getD, hd]; simp; omega⟩
        have d1 : decide (n ≤ i) = false := decide_eq_false (by omega)
        clear hc hd HC H
        go_wp2_with fail
        go_roundw
        case rel => exact ⟨i + 1, by go_num, by rw [HS2.out]; go_num, HJ2.out, by first | rfl | trivial⟩
        case measure => simp [intOf]; omega
      · have HS2 : Sec (pre ds (i + 1) = m * 10) := ⟨by rw [HS.out, List.getD_eq_getElem?_getD, List.getElem?_eq_none (by omega)]; simp; omega⟩
        have d1 : decide (n ≤ i) = true := decide_eq_true (by omega)
        have d2 : ((m : Int) == 0) = false := by
          have := pre_ge HN.out (i - 1)
          have hp := Nat.pow_pos (n := i - 1) (show 0 < 10 by decide)
          rw [show i - 1 + 1 = i from by omega, HM.out] at this
          simp; omega
        have d3 : (m == 0) = false := by simpa using d2
        clear HC H
        go_wp2_with fail
        go_roundw
        case rel => exact ⟨i + 1, by go_num, by rw [HS2.out]; go_num, HJ2.out, by first | rfl | trivial⟩
        case measure => simp [intOf]; omega
    · have q1 : (((m : Int) / 2 ^ k) == 0) = false := by
        rw [show (2 : Int) ^ k = ((2 ^ k : Nat) : Int) from by norm_cast, ← Int.natCast_ediv]
        have := Nat.div_pos (show 2 ^ k ≤ m by omega) (Nat.pow_pos (n := k) (show 0 < 2 by decide))
        have e : ((m / 2 ^ k : Nat) : Int) ≠ 0 := by omega
        simpa using e
      have hi1 : 1 ≤ i := by
        rcases Nat.eq_zero_or_pos i with e | e
        · subst e
          have := HM.out
          rw [pre] at this
          have := Nat.pow_pos (n := k) (show 0 < 2 by decide)
          omega
        · exact e
      have hm10 : m < 10 * 2 ^ k := by
        have h1 := HJ.out (i - 1) (by omega)
        have h2 : pre ds i = 10 * pre ds (i - 1) + ds.getD (i - 1) 0 := by
          conv => lhs; rw [show i = i - 1 + 1 from by omega]
          rw [pre]
        have h3 := getD_ten HN.out.ten (i - 1)
        rw [HM.out] at h2
        omega
      have c1 := H.out.c1
      have f1 := H.out.f 1
      have lt := H.out.lt
      have HP := Sec.mk (H.out.point (dp - ((i : Int) - 1)))
      have HG := Sec.mk (grownSet' w g 1 (.int .i64 (dp - ((i : Int) - 1))))
      have HM10 := Sec.mk (And.intro hm10 hlt)
      clear hlt hm10 H HC HJ
      go_wp2_with fail
      generalize hw1 : w.setCell ⟨g, 1, none⟩ (.int .i64 (dp - ((i : Int) - 1))) = w1
      rw [hw1] at HP HG
      clear hw1 c0 c1 f1 lt
      obtain ⟨dq, hdq⟩ : ∃ dq, dp - ((i : Int) - 1) = dq := ⟨_, rfl⟩
      rw [hdq] at HP ⊢
      obtain ⟨ii, hii⟩ : ∃ ii, (i : Int) - 1 = ii := ⟨_, rfl⟩
      have HDQ := Sec.mk hdq
      clear hdq
      rw [hii]
      clear hii
      have hpk : 2 ^ k ≤ m := by have := HM10.out.2; omega
      have HPK := Sec.mk hpk
      clear hpk
      go_loopw [4, 5, 6] (fun v4 v5 v6 wr => ∃ (j : Nat) (out : List Nat) (x : Nat), v5 = .int .i64 (j : Int) ∧ v4 = .int .u64 (x : Int) ∧ j ≤ n + k + 21 ∧ Grow8 w1 wr v6 out ∧ Ten out ∧ pre ds j = 10 * numOf out * 2 ^ k + x ∧ x < 10 * 2 ^ k ∧ out.length + i = j ∧ out.head? ≠ some 0 ∧ (out = [] → 2 ^ k ≤ x)) (fun _ v5 _ _ => n + k + 22 - (intOf v5).toNat)
      case atStart => exact ⟨i, [], m, rfl, rfl, by omega, Grow8.start w1, fun d hd => by simp at hd, by rw [HM.out, numOf_nil]; simp, HM10.out.1, by simp, by simp, fun _ => HPK.out⟩
      case round =>
        obtain ⟨j, out, x, rfl, rfl, hj, hgr, ht, hpre, hx, hlen, hhd, hemp⟩ := hrel
        obtain ⟨A6, c6, rfl⟩ := hgr.form
        have HGR := Sec.mk hgr
        have hdec := HP.out.keep hgr.grown.size (fun b hb1 hb2 => hgr.grown.block b hb2 (fun e => by cases e))
        have c0 := hdec.c0
        have f0 := hdec.f 0
        have lt := hdec.lt
        rw [HL.out] at c0
        obtain ⟨L, hL⟩ : ∃ L, out.length = L := ⟨_, rfl⟩
        rw [hL] at hlen
        have hL2 : L ≤ 200 := by omega
        have HB := Sec.mk (And.intro ht (And.intro hpre (And.intro hx (And.intro hhd hemp))))
        have HLL := Sec.mk hL
        rw [hL]
        rw [hL] at HGR
        have HDEC := Sec.mk hdec
        clear hgr ht hpre hx hhd hemp hL hdec
        by_cases hgo : j < n ∨ 0 < x
        · have hjk : j ≤ n + k := by
            apply Classical.byContradiction
            intro hc
            have h1 := half_end (ds := ds) (k := k) (i := j) (by rw [HL.out]; omega)
            rw [HB.out.2.1, show 10 * numOf out * 2 ^ k = 10 * 2 ^ k * numOf out from by ac_rfl, Nat.mul_add_mod, Nat.mod_eq_of_lt HB.out.2.2.1] at h1
            omega
          obtain ⟨q10, hpre2, hx2⟩ := half_step HB.out.2.1 HB.out.2.2.1 HN.out.ten
          have hxb : x < 5764607523034234880 := by have := HB.out.2.2.1; omega
          obtain ⟨q, hq⟩ : ∃ q, x / 2 ^ k = q := ⟨_, rfl⟩
          obtain ⟨r, hr⟩ : ∃ r, x % 2 ^ k = r := ⟨_, rfl⟩
          have hrk : r < 576460752303423488 := by
            have := Nat.mod_lt x (Nat.pow_pos (n := k) (show 0 < 2 by decide))
            omega
          rw [hq, hr] at hpre2
          rw [hr] at hx2
          rw [hq] at q10
          have z1 : (x : Int) / 2 ^ k = (q : Int) := by
            rw [show (2 : Int) ^ k = ((2 ^ k : Nat) : Int) from by norm_cast, ← Int.natCast_ediv, hq]
          have z2 : IntKind.u8.wrap (q : Int) = (q : Int) := by
            have e1 : IntKind.u8.bits = 8 := rfl
            have e2 : IntKind.u8.signed = false := rfl
            unfold IntKind.wrap
            rw [e1, e2]
            simp only [Bool.false_and, Bool.false_eq_true, if_false]
            omega
          have z3 := low_bits x k (by omega) hk
          rw [hr] at z3
          have ht2 : Ten (out ++ [q]) := fun d hd => by
            rcases List.mem_append.1 hd with hd | hd
            · exact HB.out.1 d hd
            · simp at hd; omega
          have hhd2 : (out ++ [q]).head? ≠ some 0 := by
            rcases Nat.eq_zero_or_pos L with e | e
            · have e0 : out = [] := List.eq_nil_of_length_eq_zero (by rw [HLL.out]; exact e)
              have h1 := HB.out.2.2.2.2 e0
              have h2 := Nat.div_pos h1 (Nat.pow_pos (n := k) (show 0 < 2 by decide))
              rw [hq] at h2
              rw [e0]; simp; omega
            · have hne : out ≠ [] := fun e0 => by have := HLL.out; rw [e0] at this; simp at this; omega
              rw [List.head?_append]
              cases e0 : out.head? with
              | none => exact absurd (List.head?_eq_none_iff.1 e0) hne
              | some y => have := HB.out.2.2.2.1; rw [e0] at this; simpa using this
          have HQ := Sec.mk (And.intro q10 (And.intro hpre2 (And.intro hx2 (And.intro ht2 hhd2))))
          have HR := Sec.mk (And.intro hq hr)
          have hn1 : ∀ j u, [Value.int .u8 (q : Int)][j]? = some u → (wr.alloc (.cells #[.int .u8 (q : Int)] 5)).cell? ((⟨wr.heap.size, 0, none⟩ : Addr).add j) = some u := World.news_of_block (heap_alloc_new wr (.cells #[.int .u8 (q : Int)] 5))
          have hown := HGR.out.row
          rw [HLL.out] at hown
          have HO := Sec.mk hown
          have HN1 := Sec.mk hn1
          have hws := HGR.out.grown.size
          clear hpre2 hx2 ht2 hhd2 hq hr hn1 hown
          by_cases hin : j < n
          · obtain ⟨d, hd⟩ : ∃ d, ds[j]? = some d := ⟨_, List.getElem?_eq_getElem (by rw [HL.out]; exact hin)⟩
            clear hgo
            go_wp2_with (at_builtin; refine Classical.byContradiction fun hstop => ?_)
            refine hstop (wpList_append_lies _ rfl _ _ 45 rfl w1.heap.size 5 i0 (.int .u8 0) 1 1 Tryz.underlying45 hi0 hz0 hz1 hz2 rfl (by decide) (.slice A6 L c6) L (out.map d8) rfl (World.ownsRow.alloc HO.out _) ⟨wr.heap.size, 0, none⟩ 1 1 [.int .u8 (q : Int)] rfl rfl HN1.out one8 (by decide) (by unfold maxLen; omega) (by omega) (by simp; omega) (wr.heap.size + 1) (by simp) ?_)
            intro g' cap w3 ho3 hg3 hat hlt
            have hgr3 := HGR.out.step HLL.out ho3 hg3
            have hdec3 := HP.out.keep hgr3.grown.size (fun b hb1 hb2 => hgr3.grown.block b hb2 (fun e => by cases e))
            have c03 := hdec3.c0
            rw [HL.out] at c03
            have FIN := Sec.mk hgr3
            clear hgr3 ho3 hg3 hat hlt hstop c0 f0 lt
            obtain ⟨_, _, eA, _, hc3⟩ := hdec3.form
            obtain ⟨ad, rfl, hcd⟩ := hc3 j d hd
            injection eA with eA1 eA2 eA3
            subst eA1
            have hcd' : w3.cell? (ad.add j) = some (.int .u8 (d : Int)) := hcd
            have hd10 : d < 10 := HN.out.ten d (List.mem_of_getElem? hd)
            clear hc3 hcd hdec3 eA2 eA3
            have hnx : r * 10 + ds.getD j 0 = r * 10 + d := by rw [List.getD_eq_getElem?_getD, hd]; rfl
            have HNX := Sec.mk hnx
            clear hnx
            go_wp2_with fail
            go_roundw
            case rel => exact ⟨j + 1, out ++ [q], r * 10 + d, by go_num, by go_num, by omega, FIN.out, HQ.out.2.2.2.1, by rw [← HNX.out]; exact HQ.out.2.1, by rw [← HNX.out]; exact HQ.out.2.2.1, by rw [List.length_append, HLL.out, List.length_singleton]; omega, HQ.out.2.2.2.2, fun e => by simp at e⟩
            case measure => simp [intOf]; omega
          · have hx0 := hgo.resolve_left hin
            have d1 : decide (j < n) = false := decide_eq_false hin
            have d2 : decide (0 < x) = true := decide_eq_true hx0
            have d3 : decide ((0 : Int) < (x : Int)) = true := decide_eq_true (by omega)
            clear hgo
            go_wp2_with (at_builtin; refine Classical.byContradiction fun hstop => ?_)
            refine hstop (wpList_append_lies _ rfl _ _ 45 rfl w1.heap.size 5 i0 (.int .u8 0) 1 1 Tryz.underlying45 hi0 hz0 hz1 hz2 rfl (by decide) (.slice A6 L c6) L (out.map d8) rfl (World.ownsRow.alloc HO.out _) ⟨wr.heap.size, 0, none⟩ 1 1 [.int .u8 (q : Int)] rfl rfl HN1.out one8 (by decide) (by unfold maxLen; omega) (by omega) (by simp; omega) (wr.heap.size + 1) (by simp) ?_)
            intro g' cap w3 ho3 hg3 hat hlt
            have hgr3 := HGR.out.step HLL.out ho3 hg3
            have hdec3 := HP.out.keep hgr3.grown.size (fun b hb1 hb2 => hgr3.grown.block b hb2 (fun e => by cases e))
            have c03 := hdec3.c0
            rw [HL.out] at c03
            have FIN := Sec.mk hgr3
            clear hgr3 ho3 hg3 hat hlt hstop c0 f0 lt hdec3
            have hnx : r * 10 + ds.getD j 0 = r * 10 := by rw [List.getD_eq_getElem?_getD, List.getElem?_eq_none (by rw [HL.out]; omega)]; rfl
            have HNX := Sec.mk hnx
            clear hnx
            go_wp2_with fail
            go_roundw
            case rel => exact ⟨j + 1, out ++ [q], r * 10, by go_num, by go_num, by omega, FIN.out, HQ.out.2.2.2.1, by rw [← HNX.out]; exact HQ.out.2.1, by rw [← HNX.out]; exact HQ.out.2.2.1, by rw [List.length_append, HLL.out, List.length_singleton]; omega, HQ.out.2.2.2.2, fun e => by simp at e⟩
            case measure => simp [intOf]; omega
        · have d1 : decide (j < n) = false := decide_eq_false (fun h => hgo (.inl h))
          obtain rfl : x = 0 := by omega
          have hown := HGR.out.row
          have hlt1 := HP.out.lt
          have h9 : DecAt (wr.setCell ⟨g, 0, none⟩ (.slice A6 L c6)) lo g (.slice A6 L c6) out dq := by
            refine HDEC.out.put (row_base hown (Nat.le_trans HP.out.base (by omega))) fun e => ?_
            have := (hown.lt g e).1
            omega
          have hgr9 : w1.grownBy (wr.setCell ⟨g, 0, none⟩ (.slice A6 L c6)) (some g) := grownSet (grown_up HGR.out.grown) 0 _
          have hjn : ds.length ≤ j := by
            rw [HL.out]
            exact Nat.le_of_not_lt fun h => hgo (.inl h)
          have hval : ∀ A, DV ds dp A 0 → DV (trimL out) dq A k := fun A hA => by
            have := half_out (out := out) (k := k) (i := j) (i0 := i) hA hjn (by rw [HLL.out]; exact hlen) (by rw [HB.out.2.1, Nat.add_zero])
            rw [HDQ.out] at this
            exact this
          have hpos : 0 < numOf out := by
            have h1 := pre_ge HN.out (j - 1)
            rw [show j - 1 + 1 = j from by omega, HB.out.2.1] at h1
            have hp := Nat.pow_pos (n := j - 1) (show 0 < 10 by decide)
            rcases Nat.eq_zero_or_pos (numOf out) with e | e
            · rw [e] at h1; simp at h1
            · exact e
          have hne := trimL_ne hpos
          have hnrm : Nrm (trimL out) := by
            obtain ⟨_, _, hl⟩ := trimL_eq out
            exact ⟨trimL_ten HB.out.1, hne, trimL_head HB.out.2.2.2.1, hl⟩
          have HT := Sec.mk (trim_any _ lo g _ out dq h9 HB.out.1 (by rw [HLL.out]; omega))
          have HZ := Sec.mk (And.intro hgr9 (And.intro hval (And.intro hne hnrm)))
          have HTL := Sec.mk (show (trimL out).length ≤ 200 from Nat.le_trans (trimL_len out) (by rw [HLL.out]; exact hL2))
          have HDB := Sec.mk (show -1000 ≤ dq ∧ dq ≤ 1000 by have := HDQ.out; omega)
          clear hown h9 hgr9 hjn hval hpos hne hnrm hgo
          have x0 : ((0 : Nat) : Int) = 0 := rfl
          go_wp2_with (go_at_call 131; refine HT.out.mono ?_; intro e w4 hw4; obtain ⟨rfl, ⟨v', hd'⟩, hg4⟩ := hw4; have HD' := Sec.mk hd'; have HG4 := Sec.mk hg4; clear hd' hg4)
          go_end0
          have hd' := HD'.out
          rw [if_neg HZ.out.2.2.1] at hd'
          exact ⟨rfl, ⟨v', trimL out, dq, hd', HZ.out.2.2.2, HTL.out, HDB.out.1, HDB.out.2, HZ.out.2.1⟩, (HG.out.trans HZ.out.1).trans HG4.out⟩

end Go.Proofs.YtpamlgdcnmcedaaGreatDoor
