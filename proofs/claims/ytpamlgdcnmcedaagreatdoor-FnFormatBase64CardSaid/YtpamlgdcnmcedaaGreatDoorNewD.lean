/-
  A decimal made of a whole number; a digit of it.
-/
import Derived.Test.YtpamlgdcnmcedaaGreatDoorDec
import Derived.Deep.AppendLies
import Derived.Lib.ConvBytes
namespace Go.Proofs.YtpamlgdcnmcedaaGreatDoor
set_option linter.unusedVariables false
set_option linter.unusedSimpArgs false
open Go.RowKit
open Dc

set_option maxHeartbeats 800000 in
set_option maxRecDepth 100000 in
theorem digit_any (w : World) (lo g : Nat) (v : Value) (ds : List Nat) (dp : Int) (i : Nat) (h : DecAt w lo g v ds dp) (hz : ds.length ≤ 1000) (hi : i ≤ 100000) :
    Calls Tryz.prog 138 #[.pointer (some ⟨g, 0, none⟩), .int .i64 (i : Int)] w fun e w' => e = .returned (.int .u8 ((ds.getD i 0 : Nat) : Int)) ∧ w' = w := by
  obtain ⟨A, c, rfl, hlc, hcell⟩ := h.form
  have c0 := h.c0
  clear h
  have d0 : decide ((0 : Int) ≤ (i : Int)) = true := decide_eq_true (by omega)
  obtain ⟨n, hn⟩ : ∃ n, ds.length = n := ⟨_, rfl⟩
  rw [hn] at c0 hlc hz
  by_cases hlt : i < n
  · obtain ⟨d, hd⟩ : ∃ d, ds[i]? = some d := ⟨_, List.getElem?_eq_getElem (by omega)⟩
    obtain ⟨ad, rfl, hc⟩ := hcell i d hd
    have hc' : w.cell? (ad.add i) = some (.int .u8 (d : Int)) := hc
    have e : ds.getD i 0 = d := by rw [List.getD_eq_getElem?_getD, hd]; rfl
    rw [e]
    clear hcell hc hd e hn
    go_enter Tryz.func138, Tryz.ntmps138
    go_wp2_with fail
    go_ret
    exact ⟨rfl, rfl⟩
  · have e : ds.getD i 0 = 0 := by rw [List.getD_eq_getElem?_getD, List.getElem?_eq_none (by omega)]; rfl
    rw [e]
    clear hcell e hn
    go_enter Tryz.func138, Tryz.ntmps138
    go_wp2_with fail
    go_ret
    exact ⟨rfl, rfl⟩

theorem one8 {d : Int} : ∀ u ∈ [Value.int .u8 d], u.oneCell' = true := by
  intro u hu
  obtain rfl : u = .int .u8 d := by simpa using hu
  rfl
theorem row_base {w : World} {b b' e n : Nat} {v : Value} {xs : List Value} (h : w.ownsRow b e 1 v n xs) (hb : b' ≤ b) : w.ownsRow b' e 1 v n xs := by
  refine ⟨h.1, ?_⟩
  rcases h.2 with h | ⟨g, cap, cur, h1, h2, rest⟩
  · exact .inl h
  · exact .inr ⟨g, cap, cur, h1, by omega, rest⟩
theorem digitsL_digs : ∀ n, digitsL n = (digs n).map (fun d => 48 + UInt8.ofNat d) := by
  refine digs_all _ (fun n h => ?_) (fun n h ih => ?_)
  · rw [digitsL_small h, digs_small h]; rfl
  · rw [digitsL_big h, digs_big h, ih, List.map_append]; rfl
theorem byte_digit {n i d : Nat} (h : (digs n)[i]? = some d) : ((digitsL n).getD i 0).toNat = 48 + d ∧ d < 10 := by
  have hd := digs_ten n d (List.mem_of_getElem? h)
  refine ⟨?_, hd⟩
  rw [digitsL_digs, List.getD_eq_getElem?_getD, List.getElem?_map, h]
  show (48 + UInt8.ofNat d).toNat = 48 + d
  have := digit_val d hd
  omega

/-- The loop of newDecimal: the decimal's block g, the bytes' block r, its digits so far. -/
structure NewD (w1 : World) (g : Nat) (wr : World) (v : Value) (ds : List Nat) : Prop where
  grown : w1.grownBy wr (some g)
  box : wr.heap[g]? = some (.cells #[v, .int .i64 0] 173 (0, 0))
  row : wr.ownsRow w1.heap.size 5 1 v ds.length (ds.map d8)
  lt : g < w1.heap.size
theorem NewD.step {w1 wr wk : World} {g r cap n d : Nat} {v : Value} {ds : List Nat} (h : NewD w1 g wr v ds) (hl : ds.length = n)
    (ho : wk.ownsRow w1.heap.size 5 1 (.slice (some ⟨r, 0, none⟩) (n + 1) cap) (n + 1) (ds.map d8 ++ [.int .u8 (d : Int)])) (hg : (wr.alloc (.cells #[.int .u8 (d : Int)] 5)).grownBy wk v.ownBlock) :
    NewD w1 g (wk.setCell ⟨g, 0, none⟩ (.slice (some ⟨r, 0, none⟩) (n + 1) cap)) (.slice (some ⟨r, 0, none⟩) (n + 1) cap) (ds ++ [d]) := by
  have hs := h.grown.size
  have hlt := h.lt
  have hvb := h.row.lt
  have hgs := hg.size
  rw [World.size_alloc] at hgs
  have hne : v.ownBlock ≠ some g := fun e => by have := (hvb g e).1; omega
  have hkeep : ∀ b, b < w1.heap.size → wk.heap[b]? = wr.heap[b]? := fun b hb => by
    rw [hg.block b (by rw [World.size_alloc]; omega) (fun e => by have := (hvb b e.symm).1; omega)]
    exact Below.heap_alloc wr _ b (by omega)
  have hrb : w1.heap.size ≤ r := by have := (ho.lt r rfl).1; exact this
  refine ⟨⟨?_, ?_, ?_, ?_, fun k hk hne => ?_⟩, ?_, ?_, h.lt⟩
  · exact hg.os.trans h.grown.os
  · exact hg.tape.trans h.grown.tape
  · exact hg.output.trans h.grown.output
  · simp [World.setCell]; omega
  · rw [Below.heap_setCell _ _ _ _ (fun e => hne (by rw [e])), hkeep k hk]
    exact h.grown.block k hk hne
  · have hb := (hkeep g hlt).trans h.box
    simp [World.setCell, Array.getElem?_modify, hb]
  · rw [List.length_append, List.map_append, hl]
    refine ho.kept (grownSet' wk g 0 _) (.inr fun e => ?_)
    have e' : r = g := by simpa [Value.ownBlock] using e
    omega

/-- Ahead of the store. -/
theorem NewD.mid {w1 wr wk : World} {g : Nat} {v : Value} {ds : List Nat} {o : Obj} (h : NewD w1 g wr v ds) (hg : (wr.alloc o).grownBy wk v.ownBlock) :
    wk.cell? ⟨g, 0, none⟩ = some v ∧ wk.frozen? ⟨g, 0, none⟩ = false ∧ g < wk.heap.size := by
  have hs := h.grown.size
  have hlt := h.lt
  have hvb := h.row.lt
  have hgs := hg.size
  rw [World.size_alloc] at hgs
  have hb : wk.heap[g]? = some (.cells #[v, .int .i64 0] 173 (0, 0)) := by
    rw [hg.block g (by rw [World.size_alloc]; omega) (fun e => by have := (hvb g e.symm).1; omega)]
    exact (Below.heap_alloc wr _ g (by omega)).trans h.box
  exact ⟨by simp [World.cell?, hb], by simp [World.frozen?, hb], by omega⟩
theorem NewD.form {w1 wr : World} {g : Nat} {v : Value} {ds : List Nat} (h : NewD w1 g wr v ds) : (∃ A c, v = .slice A ds.length c) ∧ wr.cell? ⟨g, 0, none⟩ = some v ∧ wr.frozen? ⟨g, 0, none⟩ = false ∧ wr.frozen? ⟨g, 1, none⟩ = false ∧ g < wr.heap.size := by
  refine ⟨?_, by simp [World.cell?, h.box], by simp [World.frozen?, h.box], by simp [World.frozen?, h.box], (Array.getElem?_eq_some_iff.1 h.box).1⟩
  rcases h.row.2 with ⟨e, h0⟩ | ⟨r, cap, cur, e, _⟩
  · exact ⟨none, 0, by rw [h0]; exact e⟩
  · exact ⟨_, _, e⟩

theorem trimL_ne {ds : List Nat} (h : 0 < numOf ds) : trimL ds ≠ [] := by
  intro e
  obtain ⟨k, ek, _⟩ := trimL_eq ds
  rw [e, List.nil_append] at ek
  rw [ek, numOf_zeros] at h
  omega
/-- The decimal that is handed back: a new one. -/
def NewDIs (w : World) (ds : List Nat) (dp : Int) (e : Ending) (w' : World) : Prop :=
  ∃ g v, e = .returned (.pointer (some ⟨g, 0, none⟩)) ∧ w.heap.size ≤ g ∧ DecAt w' w.heap.size g v ds dp ∧ Below w.heap.size w w'

set_option maxHeartbeats 1600000 in
set_option maxRecDepth 100000 in
theorem newDecimal_any (n : Nat) (w : World) (h0 : 0 < n) (hn : n ≤ 100000000000000000) :
    Calls Tryz.prog 101 #[.int .u64 (n : Int)] w (NewDIs w (trimL (digs n)) ((digs n).length : Int)) := by
  obtain ⟨i0, hi0, hz0, hz1, hz2⟩ := info_parts infoB
  have CU := Sec.mk (fun W => uint_any n W (by omega))
  have kc := fun (W : World) (s : ByteArray) => Lib.run_convert_string_bytes (P := Tryz.prog) W 9 45 5 s Tryz.underlying9 Tryz.underlying45 Tryz.underlying5
  have hm : (digs n).length ≤ 17 + 1 := digs_len 17 n (by omega)
  obtain ⟨m, hml⟩ : ∃ m, (digs n).length = m := ⟨_, rfl⟩
  have hdl : (digitsL n).length = m := by rw [digitsL_digs, List.length_map, hml]
  have hsz : (ByteArray.mk (digitsL n).toArray).size = m := by show (digitsL n).toArray.size = m; rw [List.size_toArray, hdl]
  have HML := Sec.mk (And.intro hml (And.intro hdl hsz))
  rw [hml] at hm
  have HN := Sec.mk (And.intro h0 hn)
  clear hml hdl h0 hn
  go_enter Tryz.func101, Tryz.ntmps101
  go_wp2_with (go_at_call 81; refine (CU.out _).mono ?_; intro e w1 hw1; obtain ⟨rfl, hb⟩ := hw1; have HB := Sec.mk hb; clear hb)
  obtain ⟨g, hgd⟩ : ∃ g, w.heap.size = g := ⟨_, rfl⟩
  obtain ⟨b, hbd⟩ : ∃ b, w1.heap.size = b := ⟨_, rfl⟩
  obtain ⟨wa, hwa⟩ : ∃ wa, w.alloc (.cells #[.slice none 0 0, .int .i64 0] 173) = wa := ⟨_, rfl⟩
  have hbs : wa.heap.size = g + 1 := by rw [← hwa, World.size_alloc, hgd]
  have hb1 : Below wa.heap.size wa w1 := by rw [← hwa]; exact HB.out
  have hgb : g < b := by have := hb1.size; rw [hbd, hbs] at this; omega
  have hbox1 : w1.heap[g]? = some (.cells #[.slice none 0 0, .int .i64 0] 173 (0, 0)) := by
    rw [hb1.block g (by omega), ← hwa, ← hgd]
    exact heap_alloc_new w _
  have hw01 : Below g w w1 := by
    have h1 : Below g w wa := by rw [← hwa, ← hgd]; exact (Below.refl _ _).alloc (Nat.le_refl _) _
    exact h1.trans (hb1.mono (by omega))
  generalize hw2 : Lib.bytesWorld w1 5 ⟨(digitsL n).toArray⟩ = w2
  have hsz2 : w2.heap.size = b + 1 := by rw [← hw2, Lib.bytesWorld_size, hbd]
  have hold : ∀ j, j < b → w2.heap[j]? = w1.heap[j]? := fun j hj => by rw [← hw2]; exact Lib.bytesWorld_at_old w1 _ _ j (by omega)
  have hcell : ∀ (i d : Nat), (digs n)[i]? = some d → w2.cell? ⟨b, i, none⟩ = some (.int .u8 (48 + (d : Int))) := fun i d hd => by
    have := Lib.bytesWorld_cell w1 5 ⟨(digitsL n).toArray⟩ i (by rw [HML.out.2.2, ← HML.out.1]; exact (List.getElem?_eq_some_iff.1 hd).1)
    rw [hw2, hbd] at this
    rw [this]
    have := (byte_digit hd).1
    show some (Value.int .u8 (((digitsL n).getD i 0).toNat : Int)) = _
    rw [this]
    rfl
  have hst : NewD w2 g w2 (.slice none 0 0) [] := ⟨⟨rfl, rfl, rfl, Nat.le_refl _, fun _ _ _ => rfl⟩, (hold g hgb).trans hbox1, World.ownsRow_nil .., by omega⟩
  have hw02 : Below g w w2 := by
    rw [← hw2]
    exact ⟨hw01.os, hw01.tape, hw01.output, by rw [Lib.bytesWorld_size]; exact Nat.le_succ_of_le hw01.size, fun j hj => (Lib.bytesWorld_at_old w1 _ _ j (by omega)).trans (hw01.block j hj)⟩
  have HG := Sec.mk (And.intro hgd hgb)
  have H02 := Sec.mk hw02
  have HC := Sec.mk hcell
  have HST := Sec.mk hst
  have HS2 := Sec.mk hsz2
  clear hb1 hbs hbox1 hw01 hold hcell hst hw02 hw2 HB hwa hsz2
  rw [hgd, hbd]
  clear hgd hbd
  go_loopw [5, 10] (fun _ v10 wr => ∃ (i : Nat) (v : Value), v10 = .int .i64 (i : Int) ∧ i ≤ m ∧ NewD w2 g wr v ((digs n).take i)) (fun _ v10 _ => m - (intOf v10).toNat)
  case atStart => exact ⟨0, .slice none 0 0, rfl, Nat.zero_le _, HST.out⟩
  case round =>
    obtain ⟨i, v, rfl, hi, hnd⟩ := hrel
    obtain ⟨⟨A, c, rfl⟩, c0, f0, f1, lt⟩ := hnd.form
    have hlen : ((digs n).take i).length = i := by rw [List.length_take, HML.out.1]; omega
    rw [hlen] at c0 hnd
    by_cases hin : i < m
    · obtain ⟨d, hd⟩ : ∃ d, (digs n)[i]? = some d := ⟨_, List.getElem?_eq_getElem (by rw [HML.out.1]; exact hin)⟩
      have hd10 := (byte_digit hd).2
      have hcb : wr.cell? ⟨b, i, none⟩ = some (.int .u8 (48 + (d : Int))) := by
        rw [World.cell?_of_block (w := w2) (hnd.grown.block b (by rw [HS2.out]; omega) (fun e => by have e' : b = g := Option.some.inj e; have := HG.out.2; omega))]
        exact HC.out i d hd
      have hn1 : ∀ j u, [Value.int .u8 (d : Int)][j]? = some u → (wr.alloc (.cells #[.int .u8 (d : Int)] 5)).cell? ((⟨wr.heap.size, 0, none⟩ : Addr).add j) = some u := World.news_of_block (heap_alloc_new wr (.cells #[.int .u8 (d : Int)] 5))
      have hown := hnd.row
      rw [hlen] at hown
      have e48 : IntKind.u8.wrap (48 + (d : Int) - 48) = (d : Int) := by
        have e1 : IntKind.u8.bits = 8 := rfl
        have e2 : IntKind.u8.signed = false := rfl
        unfold IntKind.wrap
        rw [e1, e2]
        simp only [Bool.false_and, Bool.false_eq_true, if_false]
        omega
      have hwz := hnd.grown.size
      have HND := Sec.mk hnd
      have HD := Sec.mk hd
      have HN1 := Sec.mk hn1
      have HO := Sec.mk hown
      have HL := Sec.mk hlen
      clear hnd hd hn1 hown hlen
      go_wp2_with (at_builtin; refine Classical.byContradiction fun hstop => ?_)
      refine hstop (wpList_append_lies _ rfl _ _ 45 rfl w2.heap.size 5 i0 (.int .u8 0) 1 1 Tryz.underlying45 hi0 hz0 hz1 hz2 rfl (by decide) (.slice A i c) i (((digs n).take i).map d8) rfl (World.ownsRow.alloc HO.out _) ⟨wr.heap.size, 0, none⟩ 1 1 [.int .u8 (d : Int)] rfl rfl HN1.out one8 (by decide) (by unfold maxLen; omega) (by omega) (by simp; omega) (wr.heap.size + 1) (by simp) ?_)
      intro g' cap w3 ho3 hg3 hat hlt
      have FIN := Sec.mk (HND.out.step HL.out ho3 hg3)
      have hmid := HND.out.mid hg3
      have c03 := hmid.1
      have f03 := hmid.2.1
      have l03 := hmid.2.2
      clear hmid ho3 hg3 hat hlt hstop
      go_wp2_with fail
      go_roundw
      case rel => exact ⟨i + 1, _, by go_num, by omega, by rw [take_snoc HD.out]; exact FIN.out⟩
      case measure => simp [intOf]; omega
    · obtain rfl : i = m := by omega
      have et : (digs n).take i = digs n := List.take_of_length_le (by rw [HML.out.1]; exact Nat.le_refl _)
      rw [et] at hnd
      have hd1 := hnd.box
      have c1 : wr.cell? ⟨g, 1, none⟩ = some (.int .i64 0) := by simp [World.cell?, hd1]
      have h1 : DecAt (wr.setCell ⟨g, 1, none⟩ (.int .i64 (i : Int))) g g (.slice A i c) (digs n) (i : Int) := by
        have hg' := HG.out.2
        have hrow := row_base (b' := g) hnd.row (by rw [HS2.out]; omega)
        refine ⟨by simp [World.setCell, Array.getElem?_modify, hd1], hrow.kept (grownSet' wr g 1 _) (.inr fun e => ?_), Nat.le_refl _, fun e => ?_⟩
        · have := (hnd.row.lt g e).1
          rw [HS2.out] at this; omega
        · have := (hnd.row.lt g e).1
          rw [HS2.out] at this; omega
      have ht := fun W v h => trim_any W g g v (digs n) (i : Int) h (digs_ten n) (by rw [HML.out.1]; omega)
      have hpos : trimL (digs n) ≠ [] := trimL_ne (by rw [digs_num]; exact HN.out.1)
      have HT := Sec.mk (ht _ _ h1)
      have HND := Sec.mk hnd
      have HP := Sec.mk hpos
      have hw01 : Below g w (wr.setCell ⟨g, 1, none⟩ (.int .i64 (i : Int))) := by
        have h2 : Below g w wr := H02.out.grown hnd.grown (by rw [HS2.out]; have := HG.out.2; omega) (fun k e => by have e' : g = k := Option.some.inj e; omega)
        exact h2.setCell (p := ⟨g, 1, none⟩) (Nat.le_refl g) _
      have HW := Sec.mk hw01
      clear hnd et hd1 h1 ht hpos hw01 hin hi
      go_wp2_with (go_at_call 131; refine HT.out.mono ?_; intro e w3 hw3; obtain ⟨rfl, ⟨v', hd'⟩, hg3⟩ := hw3; have HD' := Sec.mk hd'; have HG3 := Sec.mk hg3; clear hd' hg3)
      go_ret
      have hd' := HD'.out
      rw [if_neg HP.out] at hd'
      refine ⟨g, v', rfl, by rw [HG.out.1]; exact Nat.le_refl _, by rw [HG.out.1, HML.out.1]; exact hd', ?_⟩
      rw [HG.out.1]
      exact HW.out.grown HG3.out (by have := HW.out.size; rw [HG.out.1] at this; exact this) (fun k e => by have e' : g = k := Option.some.inj e; omega)

end Go.Proofs.YtpamlgdcnmcedaaGreatDoor
