/-
  impl.toGo at every value that Fit lets by: the program's value, read as the same tree; listToGo, mapToGo.
-/
import Derived.Test.YtpamlgdcnmcedaaGreatDoorAny
import Derived.OwnWalk
import Derived.Laws.OwnMore
import Derived.Deep.OwnRows
namespace Go.Proofs.YtpamlgdcnmcedaaGreatDoor
set_option linter.unusedVariables false
set_option linter.unusedSimpArgs false
open Go.RowKit

/-- toGo at every right value of at most m parts. -/
def ToGoUpTo (m : Nat) : Prop := ∀ (x : V), V.cnt x ≤ m → x.good → ∀ (cs : List Value) (w : World) (B : Nat), Rd w B x cs → B ≤ w.heap.size →
    Calls Tryz.prog 14 #[.agg cs.toArray] w fun e w' => ∃ v, e = .returned (.tuple #[v, .bool true]) ∧ RdA w' w.heap.size w'.heap.size x v ∧ Below w.heap.size w w'

theorem own_nils (W : World) (base e n : Nat) (hb : base ≤ W.heap.size) (hm : n ≤ maxLen) :
    (W.alloc (.cells (madeCells #[.nilIface] n) e)).ownsRow base e 1 (.slice (some ⟨W.heap.size, 0, none⟩) n n) n (madeCells #[.nilIface] n).toList :=
  World.ownsRow_lit (base := base) (e := e) (size := 1) W (madeCells #[.nilIface] n) n hb hm (by simp [size_madeCells])
theorem below_grown_ge {B : Nat} {w w1 w2 : World} {g : Nat} (h : Below B w w1) (hg : w1.grownBy w2 (some g)) (hB : B ≤ w1.heap.size) (hBg : B ≤ g) : Below B w w2 :=
  h.grown hg hB (fun k e => by injection e with e; omega)
theorem own_cell1 {w : World} {base e g n cap : Nat} {xs : List Value} (h : w.ownsRow base e 1 (.slice (some ⟨g, 0, none⟩) n cap) n xs) (i : Nat) (hi : i < n) : ∃ u, w.cell? ⟨g, i, none⟩ = some u := by
  have hl : xs.length = n := by have := h.1; omega
  exact ⟨xs[i]'(by omega), by rw [h.cellAt i (by omega), List.getElem?_eq_getElem]⟩

theorem own_frozen1 {w : World} {base e g n cap : Nat} {xs : List Value} (h : w.ownsRow base e 1 (.slice (some ⟨g, 0, none⟩) n cap) n xs) (i : Nat) : w.frozen? ⟨g, i, none⟩ = false := by
  rcases h.2 with ⟨h', _⟩ | ⟨g', cap', cur, h', _, hg, _⟩
  · cases h'
  · have e : g = g' := by injection h' with h'; injection h' with h'; injection h'
    subst e
    simp [World.frozen?, hg]
theorem grown_none {w w' : World} (h : Below w.heap.size w w') : w.grownBy w' none := ⟨h.os, h.tape, h.output, h.size, fun i hi _ => h.block i hi⟩
theorem add_plain (g j : Nat) : (⟨g, 0, none⟩ : Addr).add j = ⟨g, j, none⟩ := by unfold Addr.add; split <;> simp_all

set_option maxHeartbeats 800000 in
set_option maxRecDepth 100000 in
theorem listToGo_any (m : Nat) (ih : ToGoUpTo m) (l : List V) (hm : V.cntL l ≤ m) (hgood : V.goodL l) (A : Option Addr) (n c B : Nat) (w : World) (hn : l.length = n) (hz : n ≤ 1000000000) (h1 : RdL w B A 0 l) (hB : B ≤ w.heap.size) :
    Calls Tryz.prog 27 #[.slice A n c] w fun e w' => ∃ g, e = .returned (.tuple #[.slice (some ⟨g, 0, none⟩) n n, .bool true]) ∧ w.heap.size ≤ g ∧ RdAL w' w.heap.size w'.heap.size (some ⟨g, 0, none⟩) 0 l ∧ Below w.heap.size w w' := by
  have HN := Sec.mk hn
  have H1 := Sec.mk h1
  have HB := Sec.mk hB
  have HM := Sec.mk hm
  have HG := Sec.mk hgood
  have hmk : ∀ W : World, (Instr.makeSlice 61 (.int .i64 (n : Int)) (.int .i64 (n : Int))).run Tryz.prog W = .ok (.slice (some ⟨W.heap.size, 0, none⟩) n n) (W.alloc (.cells (madeCells #[.nilIface] n) 20)) := fun W =>
    run_make_row' 61 20 .nilIface 16 Tryz.underlying61 (by kernel_rfl) rfl .i64 .i64 n (by omega) (by omega) W
  obtain ⟨w0, hw0⟩ : ∃ w0, w.alloc (.cells (madeCells #[.nilIface] n) 20) = w0 := ⟨_, rfl⟩
  have ho := own_nils w w.heap.size 20 n (Nat.le_refl _) (by unfold maxLen; omega)
  rw [hw0] at ho
  have hb0 : Below w.heap.size w w0 := by rw [← hw0]; exact (Below.refl _ _).alloc (Nat.le_refl _) _
  have hsz : w0.heap.size = w.heap.size + 1 := by rw [← hw0]; simp
  have HO := Sec.mk ho
  have HB0 := Sec.mk hb0
  have HSZ := Sec.mk hsz
  clear hn h1 hB hm hgood ho hb0 hsz
  go_enter Tryz.func27, Tryz.ntmps27
  go_wp2_with fail
  go_loopw [5, 6, 7, 8, 14] (fun _ _ _ _ v14 wr => ∃ i : Nat, v14 = .int .i64 i ∧ i ≤ n ∧ Below w.heap.size w wr ∧ ∃ xs, wr.ownsRow w.heap.size 20 1 (.slice (some ⟨w.heap.size, 0, none⟩) n n) n xs ∧ w.heap.size + 1 ≤ wr.heap.size ∧
      ∀ j x, j < i → l[j]? = some x → ∃ v, xs[j]? = some v ∧ RdA wr (w.heap.size + 1) wr.heap.size x v) (fun _ _ _ _ v14 _ => n - (intOf v14).toNat)
  case atStart => exact ⟨0, rfl, Nat.zero_le _, HB0.out, _, HO.out, by rw [HSZ.out]; exact Nat.le_refl _, fun j x hj => by omega⟩
  case round =>
    obtain ⟨i, rfl, hi, hb, xs, ho, hs, hd⟩ := hrel
    have BL := Sec.mk hb
    have OW := Sec.mk ho
    have HD := Sec.mk hd
    have HS := Sec.mk hs
    clear hb ho hd hs hw0
    by_cases hin : i < n
    · obtain ⟨x, hx⟩ : ∃ x, l[i]? = some x := ⟨l[i]'(by rw [HN.out]; exact hin), by rw [List.getElem?_eq_getElem]⟩
      have hsm := (Same.of_below BL.out).mono HB.out
      obtain ⟨ad, k', h', t', A3', n3', c3', A4', n4', c4', A5', n5', c5', e1, hr1, a0, a1, a2, a3, a4, a5⟩ := RdL.cells (RdL.same hsm l A 0 H1.out) hx
      subst e1
      have hcx : V.cnt x ≤ m := Nat.le_trans (V.cnt_le_get hx) HM.out
      have hgx := V.goodL_get HG.out hx
      obtain ⟨o1, ho1⟩ : ∃ o, Obj.cells [Value.int .i64 k', .int .i64 h', .string t', .slice A3' n3' c3', .slice A4' n4' c4', .slice A5' n5' c5'].toArray 26 = o := ⟨_, rfl⟩
      have hal : Below wr.heap.size wr (wr.alloc o1) := (Below.refl _ _).alloc (Nat.le_refl _) _
      have cT := ih x hcx hgx _ (wr.alloc o1) B (Rd.same ((Same.of_below hal).mono (Nat.le_trans HB.out BL.out.size)) x _ hr1) (Nat.le_trans HB.out (Nat.le_trans BL.out.size hal.size))
      rw [← ho1] at cT
      have CT := Sec.mk cT
      have HX := Sec.mk hx
      clear hx hsm hr1 hcx hgx cT ho1 hal
      go_wp2_with fail
      refine CT.out.mono ?_
      intro e w1 hw1
      obtain ⟨v, rfl, hv, hb1⟩ := hw1
      rw [World.size_alloc] at hv
      have hb1' := below_laid hb1
      have hsz1 : wr.heap.size ≤ w1.heap.size := hb1'.size
      have ho1 : w1.ownsRow w.heap.size 20 1 (.slice (some ⟨w.heap.size, 0, none⟩) n n) n xs := OW.out.kept (grown_none hb1') (.inr (by simp [Value.ownBlock]))
      obtain ⟨u, hu⟩ := own_cell1 ho1 i hin
      have hf := own_frozen1 ho1 i
      obtain ⟨so, sg⟩ := ho1.stored i v
      have hlt : w.heap.size < w1.heap.size := Nat.lt_of_lt_of_le HS.out hsz1
      have hform := hv.form (V.goodL_get HG.out HX.out)
      have fin : Below w.heap.size w (w1.setCell ⟨w.heap.size, i, none⟩ v) ∧ ∃ xs, (w1.setCell ⟨w.heap.size, i, none⟩ v).ownsRow w.heap.size 20 1 (.slice (some ⟨w.heap.size, 0, none⟩) n n) n xs ∧ w.heap.size + 1 ≤ (w1.setCell ⟨w.heap.size, i, none⟩ v).heap.size ∧
          ∀ j x, j < i + 1 → l[j]? = some x → ∃ v', xs[j]? = some v' ∧ RdA (w1.setCell ⟨w.heap.size, i, none⟩ v) (w.heap.size + 1) (w1.setCell ⟨w.heap.size, i, none⟩ v).heap.size x v' := by
        have hl : xs.length = n := by have := OW.out.1; omega
        have hse : (w1.setCell ⟨w.heap.size, i, none⟩ v).heap.size = w1.heap.size := by simp [World.setCell]
        refine ⟨(below_then BL.out hb1').setCell (Nat.le_refl _) v, xs.set i v, so, by rw [hse]; omega, fun j y hj hy => ?_⟩
        rw [hse]
        by_cases hji : j = i
        · subst hji
          have e : y = x := by have := HX.out; rw [hy] at this; injection this
          subst e
          exact ⟨v, by rw [List.getElem?_set_self (by omega)], RdA.same (SameIn.of_grown sg (by have := HS.out; omega)) (by have := HS.out; omega) (Nat.le_refl _) y v hv⟩
        · obtain ⟨v', h1, h2⟩ := HD.out j y (by omega) hy
          refine ⟨v', by rw [List.getElem?_set_ne (by omega)]; exact h1, ?_⟩
          exact RdA.same (SameIn.of_grown sg (by omega)) (Nat.le_refl _) (Nat.le_refl _) y v' (RdA.same (SameIn.of_below hb1') (Nat.le_refl _) hsz1 y v' h2)
      have FIN := Sec.mk fin
      clear fin so sg hv hb1 hb1' ho1 hlt
      rcases hform with rfl | ⟨ty, u', rfl⟩
      all_goals
        go_wp2
        go_roundw
        case rel => exact ⟨i + 1, by go_num, by omega, FIN.out⟩
        case measure => simp [intOf]; omega
    · go_wp2
      go_ret2
      obtain rfl : i = n := by omega
      refine ⟨w.heap.size, rfl, Nat.le_refl _, RdAL.of l 0 fun j x hx => ?_, BL.out⟩
      have hj : j < i := by rw [← HN.out]; exact (List.getElem?_eq_some_iff.1 hx).1
      obtain ⟨v, h1, h2⟩ := HD.out j x hj hx
      refine ⟨_, v, rfl, Nat.le_refl _, HS.out, RdA.same (fun _ _ _ => rfl) (by omega) (Nat.le_refl _) x v h2, ?_⟩
      rw [Nat.zero_add, add_plain, OW.out.cellAt j (by omega)]
      exact h1

end Go.Proofs.YtpamlgdcnmcedaaGreatDoor
