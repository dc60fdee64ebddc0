/-
  A decimal of package strconv in memory: its digits in a row of the call's own; trim, digit.
-/
import Derived.Test.YtpamlgdcnmcedaaGreatDoorDecP
import Derived.Test.YtpamlgdcnmcedaaGreatDoorApp
import Derived.Test.YtpamlgdcnmcedaaGreatDoorGood
import Derived.Deep.LoopGhost
import Derived.Deep.QuietTactic
import Derived.BigQuiet
import Derived.StillTailTactics
import Derived.Laws.OwnMore
import Derived.IntWalk
namespace Go.Proofs.YtpamlgdcnmcedaaGreatDoor
set_option linter.unusedVariables false
set_option linter.unusedSimpArgs false
open Go.RowKit
open Dc

theorem grownSet' (w : World) (g i : Nat) (v : Value) : w.grownBy (w.setCell ⟨g, i, none⟩ v) (some g) :=
  ⟨rfl, rfl, rfl, by simp [World.setCell], fun k _ hk => Below.heap_setCell w ⟨g, i, none⟩ v k (fun e => hk (by rw [e]))⟩
def d8 (d : Nat) : Value := .int .u8 (d : Int)
/-- The decimal at block g: its digits ds in a row that v leads to, at or behind lo. -/
structure DecAt (w : World) (lo g : Nat) (v : Value) (ds : List Nat) (dp : Int) : Prop where
  box : w.heap[g]? = some (.cells #[v, .int .i64 dp] 173 (0, 0))
  row : w.ownsRow lo 5 1 v ds.length (ds.map d8)
  base : lo ≤ g
  ne : v.ownBlock ≠ some g
section
variable {w w' : World} {lo g : Nat} {v : Value} {ds : List Nat} {dp : Int}
theorem DecAt.lt (h : DecAt w lo g v ds dp) : g < w.heap.size := (Array.getElem?_eq_some_iff.1 h.box).1
theorem DecAt.c0 (h : DecAt w lo g v ds dp) : w.cell? ⟨g, 0, none⟩ = some v := by simp [World.cell?, h.box]
theorem DecAt.c1 (h : DecAt w lo g v ds dp) : w.cell? ⟨g, 1, none⟩ = some (.int .i64 dp) := by simp [World.cell?, h.box]
theorem DecAt.f (h : DecAt w lo g v ds dp) (j : Nat) : w.frozen? ⟨g, j, none⟩ = false := by simp [World.frozen?, h.box]
/-- The slice, told whole. -/
theorem DecAt.form (h : DecAt w lo g v ds dp) : ∃ A c, v = .slice A ds.length c ∧ ds.length ≤ c ∧ ∀ i d, ds[i]? = some d → ∃ ad, A = some ad ∧ w.cell? (ad.add i) = some (d8 d) := by
  rcases h.row.2 with ⟨e, h0⟩ | ⟨r, cap, cur, e, hb, hg, hn, _, _, ht⟩
  · have : ds = [] := List.eq_nil_of_length_eq_zero h0
    subst this
    exact ⟨none, 0, e, Nat.le_refl _, fun i d hd => by simp at hd⟩
  · refine ⟨_, _, e, hn, fun i d hd => ⟨_, rfl, ?_⟩⟩
    refine h.row.cells (g := r) (by rw [e]; rfl) i _ ?_
    rw [List.getElem?_map, hd]; rfl
theorem DecAt.keep (h : DecAt w lo g v ds dp) (hz : w.heap.size ≤ w'.heap.size) (hb : ∀ b, lo ≤ b → b < w.heap.size → w'.heap[b]? = w.heap[b]?) : DecAt w' lo g v ds dp := by
  have hlt := h.lt
  refine ⟨(hb g h.base hlt).trans h.box, ⟨h.row.1, ?_⟩, h.base, h.ne⟩
  rcases h.row.2 with hn | ⟨r, cap, cur, e, hB, hg, rest⟩
  · exact .inl hn
  · exact .inr ⟨r, cap, cur, e, hB, (hb r hB (Array.getElem?_eq_some_iff.1 hg).1).trans hg, rest⟩
/-- Another slice of its row: the first digits. -/
theorem DecAt.cut {A : Option Addr} {n c k : Nat} (h : DecAt w lo g (.slice A n c) ds dp) (hk : k ≤ ds.length) : DecAt (w.setCell ⟨g, 0, none⟩ (.slice A k c)) lo g (.slice A k c) (ds.take k) dp := by
  have hbox := h.box
  refine ⟨by simp [World.setCell, Array.getElem?_modify, hbox], ?_, h.base, ?_⟩
  · refine ⟨by simp, ?_⟩
    rw [List.length_take, Nat.min_eq_left hk]
    rcases h.row.2 with ⟨e, h0⟩ | ⟨r, cap, cur, e, hB, hg, hn, hcm, hcs, ht⟩
    · injection e with e1 e2 e3
      subst e1 e3
      exact .inl ⟨by rw [show k = 0 by omega], by omega⟩
    · injection e with e1 e2 e3
      subst e1 e3
      have hne : r ≠ g := fun e => h.ne (by rw [← e]; rfl)
      refine .inr ⟨r, c, cur, rfl, hB, ?_, by omega, hcm, hcs, ?_⟩
      · rw [Below.heap_setCell _ _ _ _ hne]; exact hg
      · rw [List.map_take, ← ht, List.take_take, Nat.min_eq_left (by omega), Nat.mul_one]
  · intro e
    apply h.ne
    cases A with
    | none => simp [Value.ownBlock] at e
    | some a => simpa [Value.ownBlock] using e
/-- Another point. -/
theorem DecAt.point (h : DecAt w lo g v ds dp) (q : Int) : DecAt (w.setCell ⟨g, 1, none⟩ (.int .i64 q)) lo g v ds q := by
  have hbox := h.box
  refine ⟨by simp [World.setCell, Array.getElem?_modify, hbox], h.row.kept (grownSet' w g 1 _) (.inr h.ne), h.base, h.ne⟩
/-- Another row. -/
theorem DecAt.put (h : DecAt w lo g v ds dp) {u : Value} {es : List Nat} (hr : w.ownsRow lo 5 1 u es.length (es.map d8)) (hne : u.ownBlock ≠ some g) : DecAt (w.setCell ⟨g, 0, none⟩ u) lo g u es dp := by
  have hbox := h.box
  exact ⟨by simp [World.setCell, Array.getElem?_modify, hbox], hr.kept (grownSet' w g 0 _) (.inr hne), h.base, hne⟩
end

theorem DecAt.drewN {w : World} {lo g : Nat} {v : Value} {ds : List Nat} {dp : Int} (h : DecAt w lo g v ds dp) (q : Nat) : DecAt (w.drewN q) lo g v ds dp := ⟨h.box, h.row, h.base, h.ne⟩
theorem grown_drewN {w w' : World} {r : Option Nat} (h : w.grownBy w' r) (q : Nat) : w.grownBy (w'.drewN q) r := ⟨h.os, h.tape, h.output, h.size, h.block⟩
theorem DecAt.drewS {w : World} {lo g : Nat} {v : Value} {ds : List Nat} {dp : Int} (h : DecAt w lo g v ds dp) : DecAt w.drew lo g v ds dp := ⟨h.box, h.row, h.base, h.ne⟩
theorem grown_drewS {w w' : World} {r : Option Nat} (h : w.grownBy w' r) : w.grownBy w'.drew r := ⟨h.os, h.tape, h.output, h.size, h.block⟩
theorem grownSet {w w' : World} {g : Nat} (h : w.grownBy w' (some g)) (i : Nat) (v : Value) : w.grownBy (w'.setCell ⟨g, i, none⟩ v) (some g) :=
  ⟨h.os, h.tape, h.output, by simpa [World.setCell] using h.size, fun k hk hne => (Below.heap_setCell w' ⟨g, i, none⟩ v k (fun e => hne (by rw [e]))).trans (h.block k hk hne)⟩
/-- What trim leaves. -/
def TrimPost (w : World) (lo g : Nat) (ds : List Nat) (dp : Int) (e : Ending) (w' : World) : Prop :=
  e = .returned (.pointer (some ⟨g, 0, none⟩)) ∧ (∃ v', DecAt w' lo g v' (trimL ds) (if trimL ds = [] then 0 else dp)) ∧ w.grownBy w' (some g)

set_option maxHeartbeats 800000 in
set_option maxRecDepth 100000 in
theorem trim_any (w : World) (lo g : Nat) (v : Value) (ds : List Nat) (dp : Int) (h : DecAt w lo g v ds dp) (ht : Ten ds) (hz : ds.length ≤ 1000) :
    Calls Tryz.prog 131 #[.pointer (some ⟨g, 0, none⟩)] w (TrimPost w lo g ds dp) := by
  have H := Sec.mk h
  have HT := Sec.mk ht
  have HZ := Sec.mk hz
  clear h ht hz
  go_enter Tryz.func131, Tryz.ntmps131
  go_wp2_with fail
  go_loopg [] ds.length (fun k wr => k ≤ ds.length ∧ w.grownBy wr (some g) ∧ ∃ v', DecAt wr lo g v' (ds.take k) dp ∧ trimL (ds.take k) = trimL ds)
  case atStart => exact ⟨Nat.le_refl _, ⟨rfl, rfl, rfl, Nat.le_refl _, fun _ _ _ => rfl⟩, v, by rw [List.take_length]; exact H.out, by rw [List.take_length]⟩
  case round =>
    obtain ⟨hk, hg, v', hd, htr⟩ := hrel
    obtain ⟨A, c, rfl, hlc, hcell⟩ := hd.form
    have hlen : (ds.take gk).length = gk := by rw [List.length_take]; omega
    rw [hlen] at hlc
    have c0 := hd.c0
    have c1 := hd.c1
    have f0 := hd.f 0
    have f1 := hd.f 1
    rw [hlen] at c0
    have lt := hd.lt
    have HD := Sec.mk hd
    have HG := Sec.mk hg
    have HTR := Sec.mk htr
    have hgk : gk ≤ 1000 := Nat.le_trans hk HZ.out
    clear hd hg htr hlen
    rcases Nat.eq_zero_or_pos gk with h0 | h0
    · have g1 : decide ((0 : Int) < (gk : Int)) = false := decide_eq_false (by omega)
      have g2 : decide (0 < gk) = false := decide_eq_false (by omega)
      subst h0
      clear hcell
      have k0 : ((0 : Nat) : Int) = 0 := rfl
      rw [k0] at g1
      go_wp2_with fail
      go_quiet (fail)
      generalize hwq : World.drewN wr _ = wq
      have hd2 : DecAt wq lo g (.slice A (ds.take 0).length c) (ds.take 0) dp := by rw [← hwq]; exact HD.out.drewN _
      have hg2 : w.grownBy wq (some g) := by rw [← hwq]; exact grown_drewN HG.out _
      clear hwq c0 c1 f0 f1 lt HD HG
      have c0 : wq.cell? ⟨g, 0, none⟩ = some (.slice A 0 c) := hd2.c0
      have f1 := hd2.f 1
      have c1 := hd2.c1
      have lt := hd2.lt
      have HD := Sec.mk hd2
      have HG := Sec.mk hg2
      clear hd2 hg2
      go_wp2_with fail
      go_ret
      have e : trimL ds = [] := by rw [← HTR.out, List.take_zero]; rfl
      refine ⟨rfl, ⟨.slice A 0 c, ?_⟩, grownSet HG.out _ _⟩
      rw [if_pos e, e]
      exact HD.out.point 0
    · have g1 : decide ((0 : Int) < (gk : Int)) = true := decide_eq_true (by omega)
      have g2 : decide (0 < gk) = true := decide_eq_true (by omega)
      obtain ⟨d, hd⟩ : ∃ d, (ds.take gk)[gk - 1]? = some d := ⟨_, List.getElem?_eq_getElem (by rw [List.length_take]; omega)⟩
      obtain ⟨ad, rfl, hce⟩ := hcell (gk - 1) d hd
      clear hcell
      have hce' : wr.cell? (ad.add (gk - 1)) = some (.int .u8 (d : Int)) := hce
      have s1 : IntKind.i64.wrap ((gk : Int) - 1) = (gk : Int) - 1 := IntWalk.i64_in _ (by omega)
      have s2 : (0 : Int) ≤ (gk : Int) - 1 := by omega
      have s3 : ((gk : Int) - 1).toNat = gk - 1 := by omega
      have s4 : (gk : Int) - 1 < gk := by omega
      have s5 : (1 : Int) ≤ (gk : Int) := by omega
      have s6 : 1 ≤ gk := by omega
      have s7 : gk - 1 < gk := by omega
      have s8 : (gk : Int) - 1 ≤ (c : Int) := by omega
      clear hce
      by_cases hd0 : d = 0
      · have t1 : ((d : Int) == 0) = true := by simp [hd0]
        go_wp2_with fail
        go_quiet (fail)
        go_wp2_with fail
        generalize hwq : World.drewN wr _ = wq
        have hd2 : DecAt wq lo g (.slice (some ad) (ds.take gk).length c) (ds.take gk) dp := by rw [← hwq]; exact HD.out.drewN _
        have hg2 : w.grownBy wq (some g) := by rw [← hwq]; exact grown_drewN HG.out _
        clear hwq c0 c1 f0 f1 lt HD HG hce'
        have hlen : (ds.take gk).length = gk := by rw [List.length_take]; omega
        have c0 := hd2.c0
        rw [hlen] at c0
        have HD := Sec.mk hd2
        have HG := Sec.mk hg2
        clear hd2 hg2
        have HL := Sec.mk hlen
        clear hlen
        refine wp_region_still_tail 12 (by kernel_rfl) (by kernel_rfl) ?_
        simp only [List.take_succ_cons, List.take_zero, List.drop_succ_cons, List.drop_zero]
        iterate 12 still_step
        refine wpStill_nil ?_
        clear s1 s2 s3 s4 s5 s6 s7 s8
        change wpList _ _ _ _ _ wq.drew
        generalize hwz : World.drew wq = wz
        have hd2 : DecAt wz lo g (.slice (some ad) (ds.take gk).length c) (ds.take gk) dp := by rw [← hwz]; exact HD.out.drewS
        have hg2 : w.grownBy wz (some g) := by rw [← hwz]; exact grown_drewS HG.out
        clear hwz c0 HD HG
        have f0 := hd2.f 0
        have lt := hd2.lt
        have c0 := hd2.c0
        have HD := Sec.mk hd2
        have HG := Sec.mk hg2
        clear hd2 hg2
        go_wp2_with fail
        go_roundg (gk - 1)
        case measure => omega
        case rel =>
          have h1 := HD.out.cut (k := gk - 1) (by rw [HL.out]; omega)
          rw [List.take_take, Nat.min_eq_left (Nat.sub_le gk 1)] at h1
          have h2 : ds.take gk = ds.take (gk - 1) ++ [d] := by
            have e : (ds.take gk)[gk - 1]? = ds[gk - 1]? := by rw [List.getElem?_take, if_pos (by omega)]
            rw [e] at hd
            rw [← take_snoc hd, show gk - 1 + 1 = gk from by omega]
          exact ⟨by omega, grownSet HG.out _ _, _, h1, by rw [← HTR.out, h2, hd0, trimL_zero]⟩
      · have t1 : ((d : Int) == 0) = false := by simp [hd0]
        go_wp2_with fail
        go_quiet (fail)
        clear s1 s2 s3 s4 s5 s6 s7 s8 hce'
        generalize hwq : World.drewN wr _ = wq
        have hd2 : DecAt wq lo g (.slice (some ad) (ds.take gk).length c) (ds.take gk) dp := by rw [← hwq]; exact HD.out.drewN _
        have hg2 : w.grownBy wq (some g) := by rw [← hwq]; exact grown_drewN HG.out _
        clear hwq c0 c1 f0 f1 lt HD HG
        have hlen : (ds.take gk).length = gk := by rw [List.length_take]; omega
        have c0 := hd2.c0
        rw [hlen] at c0
        have HD := Sec.mk hd2
        have HG := Sec.mk hg2
        clear hd2 hg2
        have HL := Sec.mk hlen
        clear hlen
        have z1 : ((gk : Int) == 0) = false := by simp; omega
        have z2 : (gk == 0) = false := by simp; omega
        go_wp2_with fail
        go_ret
        refine ⟨rfl, ⟨.slice (some ad) (ds.take gk).length c, ?_⟩, HG.out⟩
        have e : ds.take gk = trimL ds := by
          rw [← HTR.out]
          have e : (ds.take gk)[gk - 1]? = ds[gk - 1]? := by rw [List.getElem?_take, if_pos (by omega)]
          rw [e] at hd
          have h2 : ds.take gk = ds.take (gk - 1) ++ [d] := by rw [← take_snoc hd, show gk - 1 + 1 = gk from by omega]
          rw [h2, trimL_other _ _ hd0]
        have hne : trimL ds ≠ [] := by
          rw [← e]; intro e0
          have := HL.out
          rw [e0] at this
          simp at this
          omega
        rw [if_neg hne, ← e]
        exact HD.out

end Go.Proofs.YtpamlgdcnmcedaaGreatDoor
