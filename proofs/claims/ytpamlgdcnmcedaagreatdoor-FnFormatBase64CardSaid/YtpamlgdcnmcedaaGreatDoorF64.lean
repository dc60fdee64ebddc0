/-
  base64's Encode. base64.NewEncoding at the alphabet of gojq. base64's EncodeToString, gojq's funcToBase64, impl.FormatBase64.
-/
import Derived.Test.YtpamlgdcnmcedaaGreatDoorPk
import Derived.Test.YtpamlgdcnmcedaaGreatDoorToGo
import Derived.Deep.MidRow
import Derived.Deep.AppendLies
import Derived.Deep.QuietTactic
import Derived.BigQuiet
import Derived.Deep.RegionWith
import Derived.BigRegion
import Derived.Laws.BitsAllLaws
import Derived.Test.YtpamlgdcnmcedaaGreatDoorQd
import Derived.Lib.AppendStr
import Derived.Laws.IdiomCopy
import Derived.Lib.ConvBytes
import Derived.Laws.IdiomStrings
namespace Go.Proofs.YtpamlgdcnmcedaaGreatDoor
set_option linter.unusedVariables false
set_option linter.unusedSimpArgs false
open Go.RowKit

theorem wraps_u64 (n : Int) (h₀ : 0 ≤ n) (h₁ : n < 2 ^ 64) : IntKind.u64.wrap n = n := by
  simp [IntKind.wrap, IntKind.bits, IntKind.signed]
  omega
theorem and63u (x : Int) (h0 : 0 ≤ x) (h1 : x < 18446744073709551616) : bits .and .u64 x 63 = x % 64 := bits_mask .u64 64 (by decide) wraps_u64 6 (by decide) x h0 h1
theorem or_hi (a b : Nat) (hb : b < 256) (ha : a < 256) : bits .or .u64 ((a : Int) * 65536) ((b : Int) * 256) = ((a * 65536 + b * 256 : Nat) : Int) := by
  rw [bits_join .u64 64 (by decide) wraps_u64 16 _ _ (by omega) (by omega) (by omega) (by omega) (by omega) (by omega)]
  omega
theorem or_lo (x c : Nat) (hx : x < 16777216) (h8 : x % 256 = 0) (hc : c < 256) : bits .or .u64 (x : Int) (c : Int) = ((x + c : Nat) : Int) := by
  rw [bits_join .u64 64 (by decide) wraps_u64 8 _ _ (by omega) (by omega) (by omega) (by omega) (by omega) (by omega)]
  omega
/-- The encoding's letters and its sign. -/
def EncW (w : World) (g : Nat) : Prop := (∀ j, j < 64 → w.cell? ⟨g, j, none⟩ = some (.int .u8 ((letterL j).toNat : Int))) ∧ w.cell? ⟨g, 320, none⟩ = some (.int .i32 61)
def SrcAt (w : World) (gs : Nat) (src : List UInt8) : Prop := ∀ j c, src[j]? = some c → w.cell? ⟨gs, j, none⟩ = some (.int .u8 (c.toNat : Int))
/-- A row of N bytes that begins with out. -/
def BufAt (w : World) (gd N : Nat) (out : List UInt8) : Prop := ∃ D : Array Value, w.heap[gd]? = some (.cells D 5 (0, 0)) ∧ D.size = N ∧ ∀ (j : Nat) (c : UInt8), out[j]? = some c → D[j]? = some (Value.int .u8 (c.toNat : Int))
theorem BufAt.cell {w : World} {gd N : Nat} {out : List UInt8} (h : BufAt w gd N out) {j : Nat} (hj : j < N) : ∃ u, w.cell? ⟨gd, j, none⟩ = some u := by
  obtain ⟨D, h1, h2, _⟩ := h
  exact ⟨D[j]'(by omega), by rw [cell_of_row w gd j D _ _ h1, Array.getElem?_eq_getElem]⟩
theorem BufAt.frozen {w : World} {gd N : Nat} {out : List UInt8} (h : BufAt w gd N out) (j : Nat) : w.frozen? ⟨gd, j, none⟩ = false := by
  obtain ⟨D, h1, _⟩ := h
  simp [World.frozen?, h1]
theorem BufAt.put {w : World} {gd N o : Nat} {out : List UInt8} (h : BufAt w gd N out) (ho : out.length = o) (hN : o < N) (c : UInt8) : BufAt (w.setCell ⟨gd, o, none⟩ (.int .u8 (c.toNat : Int))) gd N (out ++ [c]) := by
  obtain ⟨D, h1, h2, h3⟩ := h
  refine ⟨D.setIfInBounds o (.int .u8 (c.toNat : Int)), by simp [World.setCell, Array.getElem?_modify, h1], by simpa using h2, fun j d hj => ?_⟩
  rw [List.getElem?_append] at hj
  split at hj
  · rw [Array.getElem?_setIfInBounds, if_neg (by omega)]
    exact h3 j d hj
  · have hj0 : j - out.length = 0 := by
      have := (List.getElem?_eq_some_iff.1 hj).1
      simp at this; omega
    rw [hj0] at hj
    obtain rfl : c = d := by simpa using hj
    obtain rfl : j = o := by omega
    rw [Array.getElem?_setIfInBounds, if_pos rfl, if_pos (by omega)]
def sliceLen : Value → Nat
  | .slice _ n _ => n
  | _ => 0
/-- Encode at work. -/
structure EL (w0 w : World) (gd N : Nat) (out : List UInt8) : Prop where
  buf : BufAt w gd N out
  grown : w0.grownBy w (some gd)
section
variable {w0 w : World} {gd N : Nat} {out : List UInt8}
theorem EL.put (h : EL w0 w gd N out) {o : Nat} (ho : out.length = o) (hN : o < N) (c : UInt8) : EL w0 (w.setCell ⟨gd, o, none⟩ (.int .u8 (c.toNat : Int))) gd N (out ++ [c]) :=
  ⟨h.buf.put ho hN c, h.grown.trans ⟨rfl, rfl, rfl, by simp [World.setCell], fun k _ hk => Below.heap_setCell _ _ _ _ (fun e => hk (by simp [e]))⟩⟩
theorem EL.pad (h : EL w0 w gd N out) {o : Nat} (ho : out.length = o) (hN : o < N) : EL w0 (w.setCell ⟨gd, o, none⟩ (.int .u8 61)) gd N (out ++ [61]) := h.put ho hN 61
theorem EL.drawn (h : EL w0 w gd N out) (q : Nat) : EL w0 (w.drewN q) gd N out := ⟨h.buf, ⟨h.grown.os, h.grown.tape, h.grown.output, h.grown.size, h.grown.block⟩⟩
theorem EL.enc (h : EL w0 w gd N out) {g : Nat} (hg : g ≠ gd) (hE : EncW w0 g) : EncW w g := by
  have hlt : g < w0.heap.size := World.block_lt_of_cell? w0 _ hE.2
  exact ⟨fun j hj => (h.grown.cell_far ⟨g, j, none⟩ hlt (fun e => hg (Option.some.inj e))).trans (hE.1 j hj), (h.grown.cell_far ⟨g, 320, none⟩ hlt (fun e => hg (Option.some.inj e))).trans hE.2⟩
theorem EL.src (h : EL w0 w gd N out) {gs : Nat} (hg : gs ≠ gd) {src : List UInt8} (hE : SrcAt w0 gs src) : SrcAt w gs src := fun j c hj =>
  (h.grown.cell_far ⟨gs, j, none⟩ (World.block_lt_of_cell? w0 _ (hE j c hj)) (fun e => hg (Option.some.inj e))).trans (hE j c hj)
end
theorem info64 : (Tryz.prog.info? 74).map (·.size) = some 64 := by kernel_rfl
theorem load64 {w : World} {g : Nat} (h : EncW w g) : ∃ L : List Value, w.rangeAt g 0 L ∧ (Tryz.prog.info? 74).map (·.size) = some L.length := by
  refine ⟨(List.range 64).map fun j => Value.int .u8 ((letterL j).toNat : Int), fun j v hj => ?_, by rw [List.length_map, List.length_range]; exact info64⟩
  rw [List.getElem?_map, Option.map_eq_some_iff] at hj
  obtain ⟨i, hi, rfl⟩ := hj
  obtain ⟨hlt, rfl⟩ := List.getElem?_eq_some_iff.1 hi
  rw [Nat.zero_add, List.getElem_range]
  rw [List.length_range] at hlt
  exact h.1 j hlt

theorem b64_more {src : List UInt8} {o : Nat} {a b c : UInt8} (h0 : src[o]? = some a) (h1 : src[o + 1]? = some b) (h2 : src[o + 2]? = some c) : b64 (src.drop o) = quad (three a b c) ++ b64 (src.drop (o + 3)) := by
  obtain ⟨l0, e0⟩ := List.getElem?_eq_some_iff.1 h0
  obtain ⟨l1, e1⟩ := List.getElem?_eq_some_iff.1 h1
  obtain ⟨l2, e2⟩ := List.getElem?_eq_some_iff.1 h2
  rw [List.drop_eq_getElem_cons l0, List.drop_eq_getElem_cons l1, List.drop_eq_getElem_cons l2, b64, e0, e1, e2]

set_option maxHeartbeats 6400000 in
set_option maxRecDepth 100000 in
theorem encode64_any (g gd gs n N cs : Nat) (A : Option Addr) (src : List UInt8) (w : World) (hn : src.length = n) (hz : n ≤ 100000000) (hN : (n + 2) / 3 * 4 = N) (hcs : n ≤ cs) (hA : A = some ⟨gs, 0, none⟩) (hE : EncW w g) (hS : SrcAt w gs src) (hD : BufAt w gd N []) (hg : g ≠ gd) (hs : gs ≠ gd) :
    Calls Tryz.prog 80 #[.pointer (some ⟨g, 0, none⟩), .slice (some ⟨gd, 0, none⟩) N N, .slice A n cs] w fun e w' => e = .returned (.tuple #[]) ∧ EL w w' gd N (b64 src) := by
  subst hA
  have hel0 : EL w w gd N [] := ⟨hD, ⟨rfl, rfl, rfl, Nat.le_refl _, fun _ _ _ => rfl⟩⟩
  obtain ⟨L, hL⟩ := load64 hE
  have HLL := Sec.mk hL
  have HE := Sec.mk hE
  have HS := Sec.mk hS
  have HG := Sec.mk (And.intro hg hs)
  have HNN := Sec.mk (And.intro hn (And.intro hz (And.intro hN hcs)))
  have HEL0 := Sec.mk hel0
  by_cases h0 : n = 0
  · have hb : src = [] := List.eq_nil_of_length_eq_zero (by omega)
    have HB := Sec.mk hb
    rw [h0]
    clear hE hS hD hg hs hn hz hN hcs hel0 hb h0 hL
    go_enter Tryz.func80, Tryz.ntmps80
    go_wp2_with fail
    refine bodyPost_ret (results_none rfl _ _ _) rfl ?_
    exact ⟨rfl, by rw [HB.out]; exact HEL0.out⟩
  · have t0 : ((n : Int) == 0) = false := by simp; omega
    clear hE hS hD hg hs hn hz hN hcs hel0 h0 hL
    go_enter Tryz.func80, Tryz.ntmps80
    go_wp2_with (refine wpList_load_mid (by rfl) 74 (.tmp 14) (by rfl) g 0 (by rfl) L _ HLL.out.1 Tryz.underlying74 (by rfl) HLL.out.2 ?_; (try simp only [Act.put, List.setIfInBounds_toArray, List.set_cons_zero, List.set_cons_succ]))
    try simp only [Act.put, List.setIfInBounds_toArray, List.set_cons_zero, List.set_cons_succ]
    go_loopw [1, 2, 6] (fun v1 v2 _ wr => ∃ (p1 p2 o1 o2 r R c2 : Nat) (out : List UInt8), v1 = .slice (some ⟨gd, p1, none⟩) R R ∧ v2 = .slice (some ⟨gs, p2, none⟩) r c2 ∧ (0 < R → p1 = o1) ∧ (0 < r → p2 = o2) ∧ o2 + r = n ∧ r ≤ c2 ∧ o1 + R = N ∧ out.length = o1 ∧ (r + 2) / 3 * 4 = R ∧ out ++ b64 (src.drop o2) = b64 src ∧ EL w wr gd N out) (fun _ v2 _ _ => sliceLen v2)
    case atStart => exact ⟨0, 0, 0, 0, n, N, cs, [], rfl, rfl, fun _ => rfl, fun _ => rfl, by omega, HNN.out.2.2.2, by omega, rfl, HNN.out.2.2.1, by simp, HEL0.out⟩
    case round =>
      obtain ⟨p1, p2, o1, o2, r, R, c2, out, rfl, rfl, hp1, hp2, hr, hc2, hR, hol, hrR, hob, hel⟩ := hrel
      have hr9 : r ≤ 100000000 := by have := HNN.out; omega
      have HO := Sec.mk (And.intro hr (And.intro hR (And.intro hol (And.intro hrR hob))))
      have HEL := Sec.mk hel
      by_cases h3 : 3 ≤ r
      · obtain rfl : o1 = p1 := (hp1 (by omega)).symm
        obtain rfl : o2 = p2 := (hp2 (by omega)).symm
        clear hr hR hol hob hel hp1 hp2
        obtain ⟨a, ha⟩ : ∃ a, src[o2]? = some a := ⟨_, List.getElem?_eq_getElem (by have := HO.out; have := HNN.out; omega)⟩
        obtain ⟨b, hb⟩ : ∃ b, src[o2 + 1]? = some b := ⟨_, List.getElem?_eq_getElem (by have := HO.out; have := HNN.out; omega)⟩
        obtain ⟨c, hc⟩ : ∃ c, src[o2 + 2]? = some c := ⟨_, List.getElem?_eq_getElem (by have := HO.out; have := HNN.out; omega)⟩
        have hsr := HEL.out.src HG.out.2 HS.out
        have s0 := hsr _ _ ha
        have s1 := hsr _ _ hb
        have s2 := hsr _ _ hc
        have HM := Sec.mk (b64_more ha hb hc)
        obtain ⟨p, hp⟩ : ∃ p, a.toNat = p := ⟨_, rfl⟩
        obtain ⟨q, hq⟩ : ∃ q, b.toNat = q := ⟨_, rfl⟩
        obtain ⟨z, hz⟩ : ∃ z, c.toNat = z := ⟨_, rfl⟩
        have hp8 : p < 256 := by rw [← hp]; exact a.toNat_lt
        have hq8 : q < 256 := by rw [← hq]; exact b.toNat_lt
        have hz8 : z < 256 := by rw [← hz]; exact c.toNat_lt
        rw [hp] at s0
        rw [hq] at s1
        rw [hz] at s2
        have m1 : decide ((3 : Int) ≤ (r : Int)) = true := decide_eq_true (by omega)
        have m2 : decide (3 ≤ r) = true := decide_eq_true h3
        have w1 : IntKind.u64.wrap ((p : Int) * 65536) = (p : Int) * 65536 := wraps_u64 _ (by omega) (by omega)
        have w2 : IntKind.u64.wrap ((q : Int) * 256) = (q : Int) * 256 := wraps_u64 _ (by omega) (by omega)
        obtain ⟨X, hX⟩ : ∃ X, p * 65536 + q * 256 + z = X := ⟨_, rfl⟩
        have r1 : bits .or .u64 ((p : Int) * 65536) ((q : Int) * 256) = (p : Int) * 65536 + (q : Int) * 256 := by rw [or_hi p q hq8 hp8]; omega
        have r2 : bits .or .u64 ((p : Int) * 65536 + (q : Int) * 256) (z : Int) = (X : Int) := by
          have := or_lo (p * 65536 + q * 256) z (by omega) (by omega) hz8
          rw [hX] at this
          rw [← this]
          congr 1
        have hX24 : X < 16777216 := by omega
        have HX := Sec.mk (show three a b c = X by unfold three; rw [hp, hq, hz, hX])
        clear ha hb hc hsr hp hq hz hX
        go_upto_region 3 with fail
        go_quiet (fail)
        have HEQ := Sec.mk (HEL.out.drawn nq)
        generalize World.drewN wr nq = wq at *
        have hR4 : 4 ≤ R := by have := HO.out; omega
        have hgd := HG.out.1
        have n3 : (3 : Int) < (R : Int) := by omega
        have n2 : (2 : Int) < (R : Int) := by omega
        have n1 : (1 : Int) < (R : Int) := by omega
        have n0 : (0 : Int) < (R : Int) := by omega
        have oN : o1 + 3 < N := by have := HO.out; omega
        obtain ⟨u3, c3⟩ := HEQ.out.buf.cell (j := o1 + 3) oN
        clear s0 s1 s2 w1 w2 r1 r2 m1 m2
        obtain ⟨d0, hd0⟩ : ∃ d, X / 262144 % 64 = d := ⟨_, rfl⟩
        have hl0 : d0 < 64 := by omega
        have b0 : bits .and .u64 ((X : Int) / 262144) 63 = (d0 : Int) := by rw [and63u _ (by omega) (by omega), ← hd0]; omega
        have e0 := (HEQ.out.enc HG.out.1 HE.out).1 d0 hl0
        have q0 : (d0 : Int) < 64 := by omega
        have z0 := HEQ.out.buf.frozen (o1)
        obtain ⟨v0, y0⟩ := HEQ.out.buf.cell (j := o1) (by omega)
        go_upto_region 6 with fail
        have HE0 := Sec.mk (HEQ.out.put (o := o1) (by have := HO.out; first | omega | (simp; omega)) (by omega) (letterL d0))
        have hd0' := Sec.mk hd0
        clear b0 e0 z0 y0 hd0 c3
        generalize World.setCell wq _ _ = x0 at *
        obtain ⟨d1, hd1⟩ : ∃ d, X / 4096 % 64 = d := ⟨_, rfl⟩
        have hl1 : d1 < 64 := by omega
        have b1 : bits .and .u64 ((X : Int) / 4096) 63 = (d1 : Int) := by rw [and63u _ (by omega) (by omega), ← hd1]; omega
        have e1 := (HE0.out.enc HG.out.1 HE.out).1 d1 hl1
        have q1 : (d1 : Int) < 64 := by omega
        have z1 := HE0.out.buf.frozen (o1 + 1)
        obtain ⟨v1, y1⟩ := HE0.out.buf.cell (j := o1 + 1) (by omega)
        go_upto_region 7 with fail
        have HE1 := Sec.mk (HE0.out.put (o := o1 + 1) (by have := HO.out; first | omega | (simp; omega)) (by omega) (letterL d1))
        have hd1' := Sec.mk hd1
        clear b1 e1 z1 y1 hd1
        generalize World.setCell x0 _ _ = x1 at *
        obtain ⟨d2, hd2⟩ : ∃ d, X / 64 % 64 = d := ⟨_, rfl⟩
        have hl2 : d2 < 64 := by omega
        have b2 : bits .and .u64 ((X : Int) / 64) 63 = (d2 : Int) := by rw [and63u _ (by omega) (by omega), ← hd2]; omega
        have e2 := (HE1.out.enc HG.out.1 HE.out).1 d2 hl2
        have q2 : (d2 : Int) < 64 := by omega
        have z2 := HE1.out.buf.frozen (o1 + 2)
        obtain ⟨v2, y2⟩ := HE1.out.buf.cell (j := o1 + 2) (by omega)
        go_upto_region 8 with fail
        have HE2 := Sec.mk (HE1.out.put (o := o1 + 2) (by have := HO.out; first | omega | (simp; omega)) (by omega) (letterL d2))
        have hd2' := Sec.mk hd2
        clear b2 e2 z2 y2 hd2
        generalize World.setCell x1 _ _ = x2 at *
        obtain ⟨d3, hd3⟩ : ∃ d, X % 64 = d := ⟨_, rfl⟩
        have hl3 : d3 < 64 := by omega
        have b3 : bits .and .u64 ((X : Int)) 63 = (d3 : Int) := by rw [and63u _ (by omega) (by omega), ← hd3]; omega
        have e3 := (HE2.out.enc HG.out.1 HE.out).1 d3 hl3
        have q3 : (d3 : Int) < 64 := by omega
        have z3 := HE2.out.buf.frozen (o1 + 3)
        obtain ⟨v3, y3⟩ := HE2.out.buf.cell (j := o1 + 3) (by omega)
        go_upto_region 9 with fail
        have HE3 := Sec.mk (HE2.out.put (o := o1 + 3) (by have := HO.out; first | omega | (simp; omega)) (by omega) (letterL d3))
        have hd3' := Sec.mk hd3
        clear b3 e3 z3 y3 hd3
        generalize World.setCell x2 _ _ = x3 at *
        have l3 : (3 : Int) ≤ (r : Int) := by omega
        have l3' : (r : Int) ≤ (c2 : Int) := by omega
        have l4 : (4 : Int) ≤ (R : Int) := by omega
        have FIN := Sec.mk (show (o1 + 4 + (R - 4) = N ∧ o2 + 3 + (r - 3) = n) ∧ (out ++ [letterL d0] ++ [letterL d1] ++ [letterL d2] ++ [letterL d3]).length = o1 + 4 ∧ (r - 3 + 2) / 3 * 4 = R - 4 ∧ (out ++ [letterL d0] ++ [letterL d1] ++ [letterL d2] ++ [letterL d3]) ++ b64 (src.drop (o2 + 3)) = b64 src from by
          have h1 := HO.out
          refine ⟨⟨by omega, by omega⟩, by simp; omega, by omega, ?_⟩
          rw [← h1.2.2.2.2, HM.out, HX.out]
          unfold quad
          rw [hd0'.out, hd1'.out, hd2'.out, hd3'.out]
          simp)
        clear q0 q1 q2 q3 n0 n1 n2 n3
        go_wp2_with fail
        go_roundw
        case rel =>
          refine ⟨if R = 4 then o1 else o1 + 4, if c2 = 3 then o2 else o2 + 3, o1 + 4, o2 + 3, r - 3, R - 4, c2 - 3, _, by split <;> rfl, by split <;> rfl, fun h => ?_, fun h => ?_, FIN.out.1.2, by omega, FIN.out.1.1, FIN.out.2.1, FIN.out.2.2.1, FIN.out.2.2.2, HE3.out⟩
          · rw [if_neg (by omega)]
          · rw [if_neg (by omega)]
        case measure => show r - 3 < r; omega
      · have HO := Sec.mk (And.intro hr (And.intro hR (And.intro hol (And.intro hrR (And.intro hob (And.intro hp1 hp2))))))
        have HEL := Sec.mk hel
        have m1 : decide ((3 : Int) ≤ (r : Int)) = false := decide_eq_false (by omega)
        have m2 : decide (3 ≤ r) = false := decide_eq_false (by omega)
        clear hr hR hol hob hel hp1 hp2
        have hr3 : r = 0 ∨ r = 1 ∨ r = 2 := by omega
        rcases hr3 with rfl | rfl | rfl
        · have hb : out = b64 src := by
            have h1 := HO.out
            have h2 : src.drop o2 = [] := List.drop_eq_nil_of_le (by have := HNN.out; omega)
            rw [h2, b64, List.append_nil] at h1
            exact h1.2.2.2.2.1
          have HB := Sec.mk hb
          clear hb
          go_wp2_with fail
          refine bodyPost_ret (results_none rfl _ _ _) rfl ?_
          exact ⟨rfl, by rw [← HB.out]; exact HEL.out⟩
        · obtain rfl : o1 = p1 := (HO.out.2.2.2.2.2.1 (by omega)).symm
          obtain rfl : o2 = p2 := (HO.out.2.2.2.2.2.2 (by omega)).symm
          obtain ⟨a, ha⟩ : ∃ a, src[o2]? = some a := ⟨_, List.getElem?_eq_getElem (by have := HO.out; have := HNN.out; omega)⟩
          have s0 := HEL.out.src HG.out.2 HS.out _ _ ha
          have hsd : src.drop o2 = [a] := by
            obtain ⟨l0, e0⟩ := List.getElem?_eq_some_iff.1 ha
            rw [List.drop_eq_getElem_cons l0, e0, List.drop_eq_nil_of_le (by have := HO.out; have := HNN.out; omega)]
          have HSD := Sec.mk hsd
          obtain ⟨p, hp⟩ : ∃ p, a.toNat = p := ⟨_, rfl⟩
          have hp8 : p < 256 := by rw [← hp]; exact a.toNat_lt
          rw [hp] at s0
          obtain ⟨X, hX⟩ : ∃ X, p * 65536 = X := ⟨_, rfl⟩
          have w1 : IntKind.u64.wrap ((p : Int) * 65536) = (X : Int) := by rw [← hX, wraps_u64 _ (by omega) (by omega)]; omega
          have hX24 : X < 16777216 := by omega
          have HX := Sec.mk (show three a 0 0 = X by unfold three; rw [hp, ← hX]; simp)
          have hR4 : R = 4 := by omega
          subst hR4
          have hgd := HG.out.1
          have oN : o1 + 3 < N := by have := HO.out; omega
          clear ha hsd hp hX
          go_upto_region 15 with fail
          clear s0 w1
          obtain ⟨d0, hd0⟩ : ∃ d, X / 262144 % 64 = d := ⟨_, rfl⟩
          have hl0 : d0 < 64 := by omega
          have b0 : bits .and .u64 ((X : Int) / 262144) 63 = (d0 : Int) := by rw [and63u _ (by omega) (by omega), ← hd0]; omega
          have e0 := (HEL.out.enc HG.out.1 HE.out).1 d0 hl0
          have q0 : (d0 : Int) < 64 := by omega
          have z0 := HEL.out.buf.frozen (o1)
          obtain ⟨v0, y0⟩ := HEL.out.buf.cell (j := o1) (by omega)
          go_upto_region 16 with fail
          have HE0 := Sec.mk (HEL.out.put (o := o1) (by have := HO.out; first | omega | (simp; omega)) (by omega) (letterL d0))
          have hd0' := Sec.mk hd0
          clear b0 e0 z0 y0 hd0
          generalize World.setCell wr _ _ = x0 at *
          obtain ⟨d1, hd1⟩ : ∃ d, X / 4096 % 64 = d := ⟨_, rfl⟩
          have hl1 : d1 < 64 := by omega
          have b1 : bits .and .u64 ((X : Int) / 4096) 63 = (d1 : Int) := by rw [and63u _ (by omega) (by omega), ← hd1]; omega
          have e1 := (HE0.out.enc HG.out.1 HE.out).1 d1 hl1
          have q1 : (d1 : Int) < 64 := by omega
          have z1 := HE0.out.buf.frozen (o1 + 1)
          obtain ⟨v1, y1⟩ := HE0.out.buf.cell (j := o1 + 1) (by omega)
          go_upto_region 17 with fail
          have HE1 := Sec.mk (HE0.out.put (o := o1 + 1) (by have := HO.out; first | omega | (simp; omega)) (by omega) (letterL d1))
          have hd1' := Sec.mk hd1
          clear b1 e1 z1 y1 hd1
          generalize World.setCell x0 _ _ = x1 at *
          have f9 := (HE1.out.enc HG.out.1 HE.out).2
          go_upto_region 18 with fail
          clear f9
          have f2 := (HE1.out.enc HG.out.1 HE.out).2
          have z2 := HE1.out.buf.frozen (o1 + 2)
          obtain ⟨v2, y2⟩ := HE1.out.buf.cell (j := o1 + 2) (by omega)
          have HE2 := Sec.mk (HE1.out.pad (o := o1 + 2) (by have := HO.out; first | omega | (simp; omega)) (by omega))
          go_upto_region 19 with fail
          clear f2 z2 y2
          generalize World.setCell x1 _ _ = x2 at *
          have f3 := (HE2.out.enc HG.out.1 HE.out).2
          have z3 := HE2.out.buf.frozen (o1 + 3)
          obtain ⟨v3, y3⟩ := HE2.out.buf.cell (j := o1 + 3) (by omega)
          have HE3 := Sec.mk (HE2.out.pad (o := o1 + 3) (by have := HO.out; first | omega | (simp; omega)) (by omega))
          go_wp2_with fail
          go_end0
          refine ⟨rfl, ?_⟩
          have e : b64 src = out ++ [letterL d0] ++ [letterL d1] ++ [61] ++ [61] := by
            rw [← HO.out.2.2.2.2.1, HSD.out, b64, HX.out]
            unfold quad
            rw [hd0'.out, hd1'.out]
            simp
          rw [e]
          exact HE3.out
        · obtain rfl : o1 = p1 := (HO.out.2.2.2.2.2.1 (by omega)).symm
          obtain rfl : o2 = p2 := (HO.out.2.2.2.2.2.2 (by omega)).symm
          obtain ⟨a, ha⟩ : ∃ a, src[o2]? = some a := ⟨_, List.getElem?_eq_getElem (by have := HO.out; have := HNN.out; omega)⟩
          obtain ⟨b, hb⟩ : ∃ b, src[o2 + 1]? = some b := ⟨_, List.getElem?_eq_getElem (by have := HO.out; have := HNN.out; omega)⟩
          have hsr := HEL.out.src HG.out.2 HS.out
          have s0 := hsr _ _ ha
          have s1 := hsr _ _ hb
          have hsd : src.drop o2 = [a, b] := by
            obtain ⟨l0, e0⟩ := List.getElem?_eq_some_iff.1 ha
            obtain ⟨l1, e1⟩ := List.getElem?_eq_some_iff.1 hb
            rw [List.drop_eq_getElem_cons l0, e0, List.drop_eq_getElem_cons l1, e1, List.drop_eq_nil_of_le (by have := HO.out; have := HNN.out; omega)]
          have HSD := Sec.mk hsd
          obtain ⟨p, hp⟩ : ∃ p, a.toNat = p := ⟨_, rfl⟩
          obtain ⟨q, hq⟩ : ∃ q, b.toNat = q := ⟨_, rfl⟩
          have hp8 : p < 256 := by rw [← hp]; exact a.toNat_lt
          have hq8 : q < 256 := by rw [← hq]; exact b.toNat_lt
          rw [hp] at s0
          rw [hq] at s1
          obtain ⟨X, hX⟩ : ∃ X, p * 65536 + q * 256 = X := ⟨_, rfl⟩
          have w1 : IntKind.u64.wrap ((p : Int) * 65536) = (p : Int) * 65536 := wraps_u64 _ (by omega) (by omega)
          have w2 : IntKind.u64.wrap ((q : Int) * 256) = (q : Int) * 256 := wraps_u64 _ (by omega) (by omega)
          have r1 : bits .or .u64 ((p : Int) * 65536) ((q : Int) * 256) = (X : Int) := by rw [or_hi p q hq8 hp8, hX]
          have hX24 : X < 16777216 := by omega
          have HX := Sec.mk (show three a b 0 = X by unfold three; rw [hp, hq, ← hX]; simp)
          have hR4 : R = 4 := by omega
          subst hR4
          have hgd := HG.out.1
          have oN : o1 + 3 < N := by have := HO.out; omega
          clear ha hb hsr hsd hp hq hX
          go_upto_region 21 with fail
          go_quiet (fail)
          have HEQ := Sec.mk (HEL.out.drawn nq)
          generalize World.drewN wr nq = wq at *
          clear s0 s1 w1 w2 r1
          obtain ⟨d0, hd0⟩ : ∃ d, X / 262144 % 64 = d := ⟨_, rfl⟩
          have hl0 : d0 < 64 := by omega
          have b0 : bits .and .u64 ((X : Int) / 262144) 63 = (d0 : Int) := by rw [and63u _ (by omega) (by omega), ← hd0]; omega
          have e0 := (HEQ.out.enc HG.out.1 HE.out).1 d0 hl0
          have q0 : (d0 : Int) < 64 := by omega
          have z0 := HEQ.out.buf.frozen (o1)
          obtain ⟨v0, y0⟩ := HEQ.out.buf.cell (j := o1) (by omega)
          go_upto_region 23 with fail
          have HE0 := Sec.mk (HEQ.out.put (o := o1) (by have := HO.out; first | omega | (simp; omega)) (by omega) (letterL d0))
          have hd0' := Sec.mk hd0
          clear b0 e0 z0 y0 hd0
          generalize World.setCell wq _ _ = x0 at *
          obtain ⟨d1, hd1⟩ : ∃ d, X / 4096 % 64 = d := ⟨_, rfl⟩
          have hl1 : d1 < 64 := by omega
          have b1 : bits .and .u64 ((X : Int) / 4096) 63 = (d1 : Int) := by rw [and63u _ (by omega) (by omega), ← hd1]; omega
          have e1 := (HE0.out.enc HG.out.1 HE.out).1 d1 hl1
          have q1 : (d1 : Int) < 64 := by omega
          have z1 := HE0.out.buf.frozen (o1 + 1)
          obtain ⟨v1, y1⟩ := HE0.out.buf.cell (j := o1 + 1) (by omega)
          go_upto_region 24 with fail
          have HE1 := Sec.mk (HE0.out.put (o := o1 + 1) (by have := HO.out; first | omega | (simp; omega)) (by omega) (letterL d1))
          have hd1' := Sec.mk hd1
          clear b1 e1 z1 y1 hd1
          generalize World.setCell x0 _ _ = x1 at *
          obtain ⟨d2, hd2⟩ : ∃ d, X / 64 % 64 = d := ⟨_, rfl⟩
          have hl2 : d2 < 64 := by omega
          have b2 : bits .and .u64 ((X : Int) / 64) 63 = (d2 : Int) := by rw [and63u _ (by omega) (by omega), ← hd2]; omega
          have e2 := (HE1.out.enc HG.out.1 HE.out).1 d2 hl2
          have q2 : (d2 : Int) < 64 := by omega
          have z2 := HE1.out.buf.frozen (o1 + 2)
          obtain ⟨v2, y2⟩ := HE1.out.buf.cell (j := o1 + 2) (by omega)
          go_upto_region 25 with fail
          have HE2 := Sec.mk (HE1.out.put (o := o1 + 2) (by have := HO.out; first | omega | (simp; omega)) (by omega) (letterL d2))
          have hd2' := Sec.mk hd2
          clear b2 e2 z2 y2 hd2
          generalize World.setCell x1 _ _ = x2 at *
          have f9 := (HE2.out.enc HG.out.1 HE.out).2
          go_upto_region 26 with fail
          clear f9
          have f3 := (HE2.out.enc HG.out.1 HE.out).2
          have z3 := HE2.out.buf.frozen (o1 + 3)
          obtain ⟨v3, y3⟩ := HE2.out.buf.cell (j := o1 + 3) (by omega)
          have HE3 := Sec.mk (HE2.out.pad (o := o1 + 3) (by have := HO.out; first | omega | (simp; omega)) (by omega))
          go_wp2_with fail
          go_end0
          refine ⟨rfl, ?_⟩
          have e : b64 src = out ++ [letterL d0] ++ [letterL d1] ++ [letterL d2] ++ [61] := by
            rw [← HO.out.2.2.2.2.1, HSD.out, b64, HX.out]
            unfold quad
            rw [hd0'.out, hd1'.out, hd2'.out]
            simp
          rw [e]
          exact HE3.out

end Go.Proofs.YtpamlgdcnmcedaaGreatDoor

namespace Go.Proofs.YtpamlgdcnmcedaaGreatDoor
set_option linter.unusedVariables false
set_option linter.unusedSimpArgs false
open Go.RowKit

/-- copy out of a string. -/
theorem run_copy_text (w : World) (ty : TypeId) (b o n c : Nat) (s : ByteArray) (hn : s.size = n) (hc : ∀ j, j < n → (w.cell? ⟨b, o + j, none⟩).isSome = true) (hf : ∀ j, j < n → w.frozen? ⟨b, o + j, none⟩ = false) :
    (Builtin.copy_ #[45, 9] ty #[.slice (some ⟨b, o, none⟩) n c, .string s]).run Tryz.prog w = .ok (goInt n) (w.setCells b o (Lib.strCells s)) := by
  have hi : (Tryz.prog.info? 5).map (·.size) = some 1 := by kernel_rfl
  have hl := Lib.run_firstCells_string (P := Tryz.prog) (w := w) 1 s
  have hst := run_storeCells_cells (P := Tryz.prog) b o (Lib.strCells s) 0 w (by rw [Lib.strCells_length, hn]; simpa using hc) (by rw [Lib.strCells_length, hn]; simpa using hf) (Lib.strCells_oneCell s)
  cases hq : Tryz.prog.info? 5 with
  | none => simp [hq] at hi
  | some i =>
    have hi' : i.size = 1 := by simpa [hq] using hi
    rw [hn] at hl
    have hm : Nat.min n n = n := Nat.min_self n
    simp [Builtin.copy_, run_underlying Tryz.underlying45, Builtin.lenOf, sizeOf, typeInfo, hq, hi', hn, hm, hl, hst]

theorem wpList_copy_text {w : World} {ops : Array Oper} {rest : List Oper} {o : Oper} {a : Act} {Q : Exit → Act → World → Prop} (hgd : o.guard = none) (d x : Operand)
    (ho : o.op = .call { callee := .builtin .copy, args := #[d, x], argTypes := #[45, 9] }) (b off n c : Nat) (hd : a.eval d = .slice (some ⟨b, off, none⟩) n c) (s : ByteArray) (hx : a.eval x = .string s) (hn : s.size = n)
    (hc : ∀ j, j < n → (w.cell? ⟨b, off + j, none⟩).isSome = true) (hf : ∀ j, j < n → w.frozen? ⟨b, off + j, none⟩ = false) (z : Int) (hz : (n : Int) = z)
    (h : wpList Tryz.prog ops Q rest (a.put o.dst (.int .i64 z)) (w.setCells b off (Lib.strCells s))) : wpList Tryz.prog ops Q (o :: rest) a w := by
  subst hz
  refine wpList_plain hgd fun K hK => ?_
  have hr := run_copy_text w o.type b off n c s hn hc hf
  unfold Oper.wp execOp
  simp only [ho, resolve, invoke, builtin, Sem.run_bind, Sem.run_pure, Result.andThen_ok, List.map_toArray, List.map_cons, List.map_nil, hd, hx, hr]
  exact hK _ _ h
theorem below_setCells {B b : Nat} {w0 : World} (hb : B ≤ b) : ∀ (vs : List Value) (o : Nat) (w : World), Below B w0 w → Below B w0 (w.setCells b o vs)
  | [], _, _, h => h
  | v :: r, o, w, h => by
    rw [World.setCells]
    exact below_setCells hb r (o + 1) _ (h.setCell (p := ⟨b, o, none⟩) hb v)
/-- A block of 322 cells of the call's own. -/
structure NW (w0 w : World) (g : Nat) : Prop where
  there : ∀ j, j < 322 → (w.cell? ⟨g, j, none⟩).isSome = true
  free : ∀ j, w.frozen? ⟨g, j, none⟩ = false
  below : Below g w0 w
theorem NW.put {w0 w : World} {g : Nat} (h : NW w0 w g) (o : Nat) (v : Value) : NW w0 (w.setCell ⟨g, o, none⟩ v) g := by
  refine ⟨fun j hj => ?_, fun j => ?_, h.below.setCell (p := ⟨g, o, none⟩) (Nat.le_refl _) v⟩
  · obtain ⟨u, hu⟩ := Option.isSome_iff_exists.1 (h.there j hj)
    obtain ⟨v', hv⟩ := cell?_setCell_some (p := ⟨g, o, none⟩) (x := v) hu
    rw [hv]; rfl
  · rw [World.frozen?_setCell]; exact h.free j
theorem NW.puts {w0 w : World} {g : Nat} (h : NW w0 w g) : ∀ (vs : List Value) (o : Nat), NW w0 (w.setCells g o vs) g := by
  intro vs
  induction vs generalizing w with
  | nil => intro o; exact h
  | cons v r ih => intro o; rw [World.setCells]; exact ih (h.put o v) (o + 1)
theorem NW.drawn {w0 w : World} {g : Nat} (h : NW w0 w g) (q : Nat) : NW w0 (w.drewN q) g := ⟨h.there, h.free, ⟨h.below.os, h.below.tape, h.below.output, h.below.size, h.below.block⟩⟩
/-- The letters lie in front, the sign behind; of the table behind the letters the places of letters i and on are free. -/
structure NL (w0 w : World) (g i : Nat) : Prop where
  nw : NW w0 w g
  enc : EncW w g
  tab : ∀ j, j < 256 → (∀ k, k < i → (letterL k).toNat ≠ j) → w.cell? ⟨g, 64 + j, none⟩ = some (.int .u8 255)
theorem NL.drawn {w0 w : World} {g i : Nat} (h : NL w0 w g i) (q : Nat) : NL w0 (w.drewN q) g i := ⟨h.nw.drawn q, h.enc, h.tab⟩
theorem NL.put {w0 w : World} {g i : Nat} (h : NL w0 w g i) {c : Nat} (hc : (letterL i).toNat = c) (hc8 : c < 256) (v : Value) : NL w0 (w.setCell ⟨g, 64 + c, none⟩ v) g (i + 1) := by
  refine ⟨h.nw.put _ _, ⟨fun j hj => ?_, ?_⟩, fun j hj hk => ?_⟩
  · rw [World.cell?_setCell_other _ _ _ _ (by first | (simp; done) | (simp; omega))]; exact h.enc.1 j hj
  · rw [World.cell?_setCell_other _ _ _ _ (by first | (simp; done) | (simp; omega))]; exact h.enc.2
  · have hne : c ≠ j := by rw [← hc]; exact hk i (Nat.lt_succ_self _)
    rw [World.cell?_setCell_other _ _ _ _ (by first | (simp; done) | (simp; omega))]
    exact h.tab j hj fun k hki => hk k (Nat.lt_succ_of_lt hki)

theorem letters_apart : ((List.range 64).all fun i => (List.range i).all fun k => (letterL k).toNat != (letterL i).toNat) = true := by kernel_rfl
theorem letters_ne {i k : Nat} (hi : i < 64) (hk : k < i) : (letterL k).toNat ≠ (letterL i).toNat := by
  have h1 := List.all_eq_true.1 letters_apart i (List.mem_range.2 hi)
  have h2 := List.all_eq_true.1 h1 k (List.mem_range.2 hk)
  simpa using h2
theorem letters_plain : ((List.range 64).all fun i => (letterL i).toNat != 10 && (letterL i).toNat != 13) = true := by kernel_rfl
theorem letters_no {i : Nat} (hi : i < 64) : (letterL i).toNat ≠ 10 ∧ (letterL i).toNat ≠ 13 := by
  have h1 := List.all_eq_true.1 letters_plain i (List.mem_range.2 hi)
  simpa using h1
theorem letters_at {i : Nat} (hi : i < 64) (W : World) : (Instr.index 9 (.string lettersB) (.int .i64 (i : Int))).run Tryz.prog W = .ok (.int .u8 ((letterL i).toNat : Int)) W := by
  have hs : lettersB.size = 64 := rfl
  rw [run_index_string W 9 lettersB .i64 (i : Int) Tryz.underlying9, dif_pos ⟨by omega, by rw [hs]; omega⟩]
  have e : letterL i = lettersL[i]'hi := by unfold letterL; rw [List.getD_eq_getElem?_getD, List.getElem?_eq_getElem hi]; rfl
  rw [e]
  rfl

set_option maxHeartbeats 3200000 in
set_option maxRecDepth 100000 in
theorem newEncoding_any (w : World) : Calls Tryz.prog 60 #[.string lettersB] w fun e w' => e = .returned (.pointer (some ⟨w.heap.size, 0, none⟩)) ∧ EncW w' w.heap.size ∧ Below w.heap.size w w' := by
  obtain ⟨s, hs⟩ : ∃ s, lettersB = s := ⟨_, rfl⟩
  have hsz : s.size = 64 := by rw [← hs]; rfl
  rw [hs]
  have HS := Sec.mk hs
  clear hs
  go_enter Tryz.func60, Tryz.ntmps60
  go_upto_region 4 with fail
  obtain ⟨w0, hw0⟩ : ∃ w0, w.alloc (Obj.cells Tryz.zeroCells136 136) = w0 := ⟨_, rfl⟩
  rw [hw0]
  have hc0 : w0.heap[w.heap.size]? = some (.cells Tryz.zeroCells136 136 (0, 0)) := by rw [← hw0]; exact heap_alloc_new w _
  have hsz0 : Tryz.zeroCells136.size = 322 := by kernel_rfl
  have hn0 : NW w w0 w.heap.size := by
    refine ⟨fun j hj => ?_, fun j => by simp [World.frozen?, hc0], by rw [← hw0]; exact (Below.refl _ _).alloc (Nat.le_refl _) _⟩
    rw [cell_of_row w0 _ j _ _ _ hc0, Array.getElem?_eq_getElem (by rw [hsz0]; exact hj)]
    rfl
  obtain ⟨u0, e0⟩ := Option.isSome_iff_exists.1 (hn0.there 320 (by omega))
  have f0 := hn0.free 320
  have HN0 := Sec.mk hn0
  have HU := Sec.mk e0
  clear hw0 hc0 hsz0 hn0
  go_upto_region 5 with fail
  have hn1 := HN0.out.put 320 (.int .i32 61)
  have h320 : (World.setCell w0 ⟨w.heap.size, 320, none⟩ (.int .i32 61)).cell? ⟨w.heap.size, 320, none⟩ = some (.int .i32 61) := World.cell?_setCell_same _ _ _ HU.out
  generalize World.setCell w0 _ _ = w1 at *
  have HN1 := Sec.mk hn1
  have H320 := Sec.mk h320
  clear hn1 h320 e0 f0
  have HSZ := Sec.mk hsz
  go_upto_region 6 with (refine wpList_copy_text (by rfl) _ _ (by rfl) w.heap.size 0 64 64 (by rfl) s (by rfl) HSZ.out (fun j hj => HN1.out.there (0 + j) (by omega)) (fun j _ => HN1.out.free (0 + j)) 64 rfl ?_; (try simp only [Act.put, List.setIfInBounds_toArray, List.set_cons_zero, List.set_cons_succ]))
  try simp only [Act.put, List.setIfInBounds_toArray, List.set_cons_zero, List.set_cons_succ]
  have hn2 := HN1.out.puts (Lib.strCells s) 0
  have he2 : EncW (World.setCells w1 w.heap.size 0 (Lib.strCells s)) w.heap.size := by
    refine ⟨fun j hj => ?_, ?_⟩
    · have hl : j < (Lib.strCells s).length := by rw [Lib.strCells_length, HSZ.out]; exact hj
      have h1 := World.cell?_setCells_in w.heap.size (Lib.strCells s) 0 w1 (fun i hi => HN1.out.there (0 + i) (by rw [Lib.strCells_length, HSZ.out] at hi; omega)) j hl
      rw [Nat.zero_add] at h1
      rw [h1]
      have h2 : (Lib.strCells s)[j]? = some (.int .u8 ((letterL j).toNat : Int)) := by
        rw [← HS.out]
        show (lettersL.map fun b => Value.int .u8 (b.toNat : Int))[j]? = _
        unfold letterL
        rw [List.getElem?_map, List.getD_eq_getElem?_getD, List.getElem?_eq_getElem (show j < lettersL.length from hj)]
        rfl
      rw [← h2, List.getElem?_eq_getElem]
    · rw [World.cell?_setCells_out w.heap.size (Lib.strCells s) 0 w1 _ (fun _ _ => .inr (by rw [Lib.strCells_length, HSZ.out]; show 0 + 64 ≤ 320; omega))]
      exact H320.out
  generalize World.setCells w1 _ _ _ = w2 at *
  have HN2 := Sec.mk (And.intro hn2 he2)
  clear hn2 he2
  go_upto_region 7 with (refine wpList_copy_text (by rfl) _ _ (by rfl) w.heap.size 64 256 256 (by rfl) _ (by rfl) (by kernel_rfl) (fun j hj => HN2.out.1.there (64 + j) (by omega)) (fun j _ => HN2.out.1.free (64 + j)) 256 rfl ?_; (try simp only [Act.put, List.setIfInBounds_toArray, List.set_cons_zero, List.set_cons_succ]))
  try simp only [Act.put, List.setIfInBounds_toArray, List.set_cons_zero, List.set_cons_succ]
  generalize hvs : Lib.strCells _ = vs
  have hv : vs = List.replicate 256 (Value.int .u8 255) := by rw [← hvs]; kernel_rfl
  clear hvs
  have hn3 : NL w (World.setCells w2 w.heap.size 64 vs) w.heap.size 0 := by
    have hlen : vs.length = 256 := by rw [hv, List.length_replicate]
    refine ⟨HN2.out.1.puts vs 64, ⟨fun j hj => ?_, ?_⟩, fun j hj _ => ?_⟩
    · rw [World.cell?_setCells_out w.heap.size vs 64 w2 _ (fun _ _ => .inl (by show j < 64; exact hj))]
      exact HN2.out.2.1 j hj
    · rw [World.cell?_setCells_out w.heap.size vs 64 w2 _ (fun _ _ => .inr (by rw [hlen]; show 64 + 256 ≤ 320; omega))]
      exact HN2.out.2.2
    · have h1 := World.cell?_setCells_in w.heap.size vs 64 w2 (fun i hi => HN2.out.1.there (64 + i) (by omega)) j (by omega)
      rw [h1]
      subst hv
      rw [List.getElem_replicate]
  generalize World.setCells w2 _ _ _ = w3 at *
  have HN3 := Sec.mk hn3
  clear hn3 hv
  go_wp2_with fail
  go_loopw [4] (fun v4 wr => ∃ i : Nat, v4 = .int .i64 (i : Int) ∧ i ≤ 64 ∧ NL w wr w.heap.size i) (fun v4 _ => 64 - (intOf v4).toNat)
  case atStart => exact ⟨0, rfl, by omega, HN3.out⟩
  case round =>
    obtain ⟨i, rfl, hi, hl⟩ := hrel
    have HL := Sec.mk hl
    clear hl
    by_cases hin : i < 64
    · obtain ⟨c, hc⟩ : ∃ c, (letterL i).toNat = c := ⟨_, rfl⟩
      have hc8 : c < 256 := by rw [← hc]; exact (letterL i).toNat_lt
      have hno := letters_no hin
      rw [hc] at hno
      have n1 : ((c : Int) == 10) = false := by simp; omega
      have n2 : ((c : Int) == 13) = false := by simp; omega
      have hix := letters_at hin
      rw [HS.out, hc] at hix
      have HC := Sec.mk hc
      have HIN := Sec.mk hin
      have c0 : (0 : Int) ≤ (c : Int) := by omega
      have c1 : (c : Int) < 256 := by omega
      have t1 := HL.out.tab c hc8 (fun k hk => by rw [← HC.out]; exact letters_ne HIN.out hk)
      clear hc hno
      go_upto_region 12 with fail
      go_quiet (fail)
      have HLQ := Sec.mk (HL.out.drawn nq)
      generalize World.drewN wr nq = wq at *
      go_upto_region 14 with fail
      clear t1
      have t1 := HLQ.out.tab c hc8 (fun k hk => by rw [← HC.out]; exact letters_ne HIN.out hk)
      have f1 := HLQ.out.nw.free (64 + c)
      have x1 : IntKind.u8.wrap (i : Int) = (i : Int) := wrap8 i (by omega)
      have FIN := Sec.mk ((HLQ.out.drawn 1).put HC.out hc8 (.int .u8 (i : Int)))
      go_region_with (fail)
      all_goals
        go_wp2_with fail
        go_roundw
        case rel => exact ⟨i + 1, by go_num, by omega, FIN.out⟩
        case measure => simp [intOf]; omega
    · obtain rfl : i = 64 := by omega
      go_wp2_with fail
      go_ret
      exact ⟨rfl, HL.out.enc, HL.out.nw.below⟩

end Go.Proofs.YtpamlgdcnmcedaaGreatDoor

namespace Go.Proofs.YtpamlgdcnmcedaaGreatDoor
set_option linter.unusedVariables false
set_option linter.unusedSimpArgs false
open Go.RowKit

set_option maxHeartbeats 800000 in
set_option maxRecDepth 100000 in
theorem encodedLen_any (g n N : Nat) (w : World) (hz : n ≤ 100000000) (hN : (n + 2) / 3 * 4 = N) (hE : EncW w g) :
    Calls Tryz.prog 79 #[.pointer (some ⟨g, 0, none⟩), .int .i64 (n : Int)] w fun e w' => e = .returned (.int .i64 (N : Int)) ∧ w' = w := by
  have c0 := hE.2
  have HN := Sec.mk hN
  have x1 : ((n : Int) + 2).tdiv 3 = (((n + 2) / 3 : Nat) : Int) := by
    rw [show (n : Int) + 2 = ((n + 2 : Nat) : Int) from by omega]
    exact (Int.ofNat_tdiv (n + 2) 3).symm
  have x2 : ((n : Int) + 2) / 3 * 4 = (N : Int) := by omega
  clear hE hN
  go_enter Tryz.func79, Tryz.ntmps79
  go_wp2_with fail
  go_ret
  exact ⟨rfl, rfl⟩

theorem b64_size {src : List UInt8} {n N : Nat} (hn : src.length = n) (hN : (n + 2) / 3 * 4 = N) : (b64 src).length = N := by rw [b64_len, hn, hN]
/-- The string of the row. -/
theorem conv_buf {w : World} {gd N : Nat} {T : List UInt8} (h : BufAt w gd N T) (hT : T.length = N) : (convert 45 9 (.slice (some ⟨gd, 0, none⟩) N N)).run Tryz.prog w = .ok (.string ⟨T.toArray⟩) w := by
  subst hT
  refine run_convert_bytes_back w _ _ 5 ⟨gd, 0, none⟩ T.length T Tryz.underlying45 Tryz.underlying5 Tryz.underlying9 fun j hj => ?_
  obtain ⟨D, h1, _, h3⟩ := h
  rw [show (⟨gd, 0, none⟩ : Addr).add j = ⟨gd, j, none⟩ from add_plain gd j, cell_of_row w gd j D _ _ h1]
  exact h3 j _ (by rw [List.getElem?_eq_getElem hj])
theorem fresh_buf (w : World) (N : Nat) : BufAt (w.alloc (.cells (madeCells #[.int .u8 0] N) 5)) w.heap.size N [] :=
  ⟨_, heap_alloc_new w _, by simp [size_madeCells], fun j c h => by simp at h⟩

set_option maxHeartbeats 1600000 in
set_option maxRecDepth 100000 in
theorem encodeTo_any (g gs n cs : Nat) (A : Option Addr) (src : List UInt8) (w : World) (hn : src.length = n) (hz : n ≤ 100000000) (hcs : n ≤ cs) (hA : A = some ⟨gs, 0, none⟩) (hE : EncW w g) (hS : SrcAt w gs src) (hgs : gs < w.heap.size) :
    Calls Tryz.prog 61 #[.pointer (some ⟨g, 0, none⟩), .slice A n cs] w fun e w' => e = .returned (.string ⟨(b64 src).toArray⟩) ∧ Below w.heap.size w w' := by
  subst hA
  obtain ⟨N, hN⟩ : ∃ N, (n + 2) / 3 * 4 = N := ⟨_, rfl⟩
  have hN9 : N ≤ 1000000000 := by omega
  have hmk : ∀ W : World, (Instr.makeSlice 45 (.int .i64 (N : Int)) (.int .i64 (N : Int))).run Tryz.prog W = .ok (.slice (some ⟨W.heap.size, 0, none⟩) N N) (W.alloc (.cells (madeCells #[.int .u8 0] N) 5)) := fun W =>
    run_make_row' 45 5 (.int .u8 0) 1 Tryz.underlying45 (by kernel_rfl) rfl .i64 .i64 N (by omega) (by omega) W
  obtain ⟨w1, hw1⟩ : ∃ w1, w.alloc (.cells (madeCells #[.int .u8 0] N) 5) = w1 := ⟨_, rfl⟩
  have hb1 : Below w.heap.size w w1 := by rw [← hw1]; exact (Below.refl _ _).alloc (Nat.le_refl _) _
  have hf1 : BufAt w1 w.heap.size N [] := by rw [← hw1]; exact fresh_buf w N
  have hg : g < w.heap.size := World.block_lt_of_cell? w _ hE.2
  have hE1 : EncW w1 g := ⟨fun j hj => (hb1.cell (p := ⟨g, j, none⟩) hg).trans (hE.1 j hj), (hb1.cell (p := ⟨g, 320, none⟩) hg).trans hE.2⟩
  have hS1 : SrcAt w1 gs src := fun j c hj => (hb1.cell (p := ⟨gs, j, none⟩) hgs).trans (hS j c hj)
  have CL := Sec.mk (encodedLen_any g n N w hz hN hE)
  have CE := Sec.mk (encode64_any g w.heap.size gs n N cs _ src w1 hn hz hN hcs rfl hE1 hS1 hf1 (by omega) (by omega))
  have HB1 := Sec.mk hb1
  have HL := Sec.mk (b64_size hn hN)
  clear hb1 hf1 hE1 hS1 hE hS hgs hg hn hcs hz hN
  go_enter Tryz.func61, Tryz.ntmps61
  go_wp2_with (go_at_call 79; refine CL.out.mono ?_; rintro e w' ⟨rfl, hw'⟩; obtain rfl : w = w' := hw'.symm)
  refine CE.out.mono ?_
  rintro e w2 ⟨rfl, hel⟩
  have hcv := conv_buf hel.buf HL.out
  have HB2 := Sec.mk (show Below w.heap.size w w2 from HB1.out.grown hel.grown HB1.out.size (fun k e => by have e' : w.heap.size = k := Option.some.inj e; omega))
  clear hel
  go_wp2_with fail
  go_ret
  exact ⟨rfl, HB2.out⟩

end Go.Proofs.YtpamlgdcnmcedaaGreatDoor
