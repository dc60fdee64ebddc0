/-
  impl.listFromGo at a list whose elements impl.fromGo reads back; impl.fromGo at such a list.
-/
import Derived.Test.YtpamlgdcnmcedaaDoorVr
import Derived.Test.YtpamlgdcnmcedaaDoorToGo
import Derived.Test.YtpamlgdcnmcedaaDoorNum
namespace Go.Proofs.YtpamlgdcnmcedaaDoor
set_option linter.unusedVariables false
set_option linter.unusedSimpArgs false
open Go.RowKit

/-- What fromGo gives: six cells that read as x, by new blocks. -/
def Back (x : V) (w : World) (e : Ending) (w' : World) : Prop := ∃ cs, e = .returned (.tuple #[.agg cs.toArray, .bool true]) ∧ RdF w' w.heap.size w'.heap.size x cs ∧ Below w.heap.size w w'
/-- fromGo reads each of these values back. -/
def FromGoAt (P : V → Prop) : Prop := ∀ (x : V), P x → ∀ (v : Value) (w : World) (lo B : Nat), RdA w lo B x v → B ≤ w.heap.size → Calls Tryd.prog 45 #[v] w (Back x w)

theorem LF.below {w w0 wr : World} {g : Nat} {rv : Value} {l : List V} {xs : List Value} (h : LF w0 g wr rv l xs) (hb : Below w.heap.size w w0) (hg : w.heap.size ≤ g) : Below w.heap.size w wr :=
  hb.grown h.1 hb.size (fun k e => by injection e with e; omega)
def Z6 (w : World) (g : Nat) : Prop := w.heap[g]? = some (.cells #[.int .i64 0, .int .i64 0, .string ⟨#[]⟩, .slice none 0 0, .slice none 0 0, .slice none 0 0] 26 (0, 0))
theorem Z6.cells {w : World} {g : Nat} (h : Z6 w g) : (w.cell? ⟨g, 0, none⟩ = some (.int .i64 0) ∧ w.cell? ⟨g, 1, none⟩ = some (.int .i64 0) ∧ w.cell? ⟨g, 2, none⟩ = some (.string ⟨#[]⟩) ∧ w.cell? ⟨g, 3, none⟩ = some (.slice none 0 0) ∧ w.cell? ⟨g, 4, none⟩ = some (.slice none 0 0) ∧ w.cell? ⟨g, 5, none⟩ = some (.slice none 0 0)) ∧
    w.frozen? ⟨g, 0, none⟩ = false ∧ w.frozen? ⟨g, 1, none⟩ = false ∧ w.frozen? ⟨g, 2, none⟩ = false ∧ w.frozen? ⟨g, 3, none⟩ = false ∧ w.frozen? ⟨g, 4, none⟩ = false ∧ w.frozen? ⟨g, 5, none⟩ = false := by
  unfold Z6 at h
  refine ⟨⟨?_, ?_, ?_, ?_, ?_, ?_⟩, ?_, ?_, ?_, ?_, ?_, ?_⟩ <;> simp [World.cell?, World.frozen?, h]
theorem news_two (w : World) (o : Obj) (cs : List Value) : ∀ j u, cs[j]? = some u → ((w.alloc o).alloc (.cells cs.toArray 26)).cell? ((⟨w.heap.size + 1, 0, none⟩ : Addr).add j) = some u := by
  have h := World.news_of_block (heap_alloc_new (w.alloc o) (.cells cs.toArray 26))
  rw [World.size_alloc] at h
  exact h

theorem lf_next {w0 wr w1 w2 w3 : World} {g g' cap i : Nat} {A' : Option Addr} {c' : Nat} {l : List V} {xs : List Value} {x : V} {cs : List Value} (h : LF w0 g wr (.slice A' i c') (l.take i) xs) (h1 : (l.take i).length = i) (h2 : l.take (i + 1) = l.take i ++ [x])
    (hb1 : Below wr.heap.size wr w1) (hb2 : Below w1.heap.size w1 w2) (hx : RdF w1 wr.heap.size w1.heap.size x cs)
    (ho : w3.ownsRow w0.heap.size 26 6 (.slice (some ⟨g', 0, none⟩) (i + 1) cap) (i + 1) (xs ++ cs)) (hg : w2.grownBy w3 (Value.slice A' i c').ownBlock) (hat : (Value.slice A' i c').ownBlock = some g' ∨ g' = w2.heap.size) :
    LF w0 g (w3.setCell ⟨g, 3, none⟩ (.slice (some ⟨g', 0, none⟩) (i + 1) cap)) (.slice (some ⟨g', 0, none⟩) (i + 1) cap) (l.take (i + 1)) (xs ++ cs) := by
  have e := LF.step h hb1 hb2 hx (Nat.le_refl _) (Nat.le_refl _) (by rw [h1]; exact ho) hg hat
  rw [h1, ← h2] at e
  exact e

set_option maxHeartbeats 1600000 in
set_option maxRecDepth 100000 in
theorem listFromGo_any (P : V → Prop) (ih : FromGoAt P) (hPf : ∀ x, P x → ∀ (w : World) (lo B : Nat) (v : Value), RdA w lo B x v → v = .nilIface ∨ ∃ t u, v = .iface t u) (l : List V) (hP : ∀ x ∈ l, P x) (A : Option Addr) (n c lo B : Nat) (w : World) (hn : l.length = n) (hz : n ≤ 1000000001) (h1 : RdAL w lo B A 0 l) (hB : B ≤ w.heap.size) :
    Calls Tryd.prog 54 #[.slice A n c] w (Back (.mk 5 0 ⟨#[]⟩ l [] []) w) := by
  obtain ⟨i0, hi0, hz0, hz1, hz2⟩ := info_parts infoV
  obtain ⟨w0, hw0⟩ : ∃ w0, (w.alloc (.cells #[.int .i64 0, .int .i64 0, .string ⟨#[]⟩, .slice none 0 0, .slice none 0 0, .slice none 0 0] 26)).alloc (.cells #[.int .i64 5, .int .i64 0, .string ⟨#[]⟩, .slice none 0 0, .slice none 0 0, .slice none 0 0] 26) = w0 := ⟨_, rfl⟩
  have hb0 : Below w.heap.size w w0 := by rw [← hw0]; exact ((Below.refl _ _).alloc (Nat.le_refl _) _).alloc (by simp) _
  have hsz : w0.heap.size = w.heap.size + 2 := by rw [← hw0]; simp
  have ho : O6 w0 (w.heap.size + 1) (.slice none 0 0) := by
    have h := heap_alloc_new (w.alloc (.cells #[.int .i64 0, .int .i64 0, .string ⟨#[]⟩, .slice none 0 0, .slice none 0 0, .slice none 0 0] 26)) (.cells #[.int .i64 5, .int .i64 0, .string ⟨#[]⟩, .slice none 0 0, .slice none 0 0, .slice none 0 0] 26)
    rw [World.size_alloc, hw0] at h
    exact h
  have hzz : Z6 w0 w.heap.size := by
    have h := heap_alloc_new w (.cells #[.int .i64 0, .int .i64 0, .string ⟨#[]⟩, .slice none 0 0, .slice none 0 0, .slice none 0 0] 26)
    have h' := Below.heap_alloc (w.alloc (.cells #[.int .i64 0, .int .i64 0, .string ⟨#[]⟩, .slice none 0 0, .slice none 0 0, .slice none 0 0] 26)) (.cells #[.int .i64 5, .int .i64 0, .string ⟨#[]⟩, .slice none 0 0, .slice none 0 0, .slice none 0 0] 26) w.heap.size (by simp)
    rw [hw0] at h'
    exact h'.trans h
  have HN := Sec.mk (And.intro hn hz)
  have H1 := Sec.mk h1
  have HB := Sec.mk hB
  have HP := Sec.mk hP
  have HB0 := Sec.mk hb0
  have HSZ := Sec.mk hsz
  have HO := Sec.mk ho
  have HZZ := Sec.mk hzz
  have HW0 := Sec.mk hw0
  clear hn hz h1 hB hP hb0 hsz ho hzz hw0
  go_enter Tryd.func54, Tryd.ntmps54
  go_wp2_with fail
  rw [HW0.out]
  go_loopw [6, 7, 8, 12] (fun _ _ _ v12 wr => ∃ i : Nat, v12 = .int .i64 i ∧ i ≤ n ∧ ∃ rv xs, LF w0 (w.heap.size + 1) wr rv (l.take i) xs) (fun _ _ _ v12 _ => n - (intOf v12).toNat)
  case atStart => exact ⟨0, rfl, Nat.zero_le _, _, _, LF.start HO.out⟩
  case round =>
    obtain ⟨i, rfl, hi, rv, xs, hlf⟩ := hrel
    have LFI := Sec.mk hlf
    have hn := HN.out.1
    have hz := HN.out.2
    clear hlf
    by_cases hin : i < n
    · obtain ⟨x, hx⟩ : ∃ x, l[i]? = some x := ⟨l[i]'(by rw [hn]; exact hin), by rw [List.getElem?_eq_getElem]⟩
      have hbw := LFI.out.below HB0.out (Nat.le_succ _)
      obtain ⟨ad, v, rfl, hlo, hbl, hxv, hcell⟩ := RdAL.get l 0 H1.out i x hx
      rw [Nat.zero_add] at hcell
      have hv0 : wr.cell? (ad.add i) = some v := ((Same.of_below hbw).mono HB.out |>.cell hbl i).trans hcell
      have hpx : P x := HP.out x (List.mem_of_getElem? hx)
      have cF := ih x hpx v wr lo B (RdA.same (SameIn.of_same ((Same.of_below hbw).mono HB.out)) (Nat.le_refl _) (Nat.le_refl _) x v hxv) (Nat.le_trans HB.out hbw.size)
      have CF := Sec.mk cF
      have hform := hPf x hpx _ _ _ _ hxv
      have htake : (l.take i).length = i := by rw [List.length_take]; omega
      have hnext : l.take (i + 1) = l.take i ++ [x] := by rw [List.take_add_one, hx]; rfl
      have TK := Sec.mk (And.intro htake hnext)
      obtain ⟨A', c', hrv, _⟩ := LFI.out.2.2.1.read
      rw [htake] at hrv
      clear hxv hcell hpx cF hbw htake hnext hx hlo hbl
      subst hrv
      have hlive : True := trivial
      rcases hform with rfl | ⟨ty, u', rfl⟩
      all_goals
        go_wp2_with fail
        refine CF.out.mono ?_
        intro e w1 hw1
        obtain ⟨cs, rfl, hf, hb1⟩ := hw1
        obtain ⟨k3, h3', t3, A33, n33, c33, A43, n43, c43, A53, n53, c53, rfl⟩ := hf.rd.form
        have hO1 : O6 w1 (w.heap.size + 1) (.slice A' i c') := O6.keep (hb1.block _ LFI.out.2.1.lt) LFI.out.2.1
        have a3 := hO1.cells.1.2.2.2.1
        have lt1 := hO1.lt
        have own1 := (LFI.out.2.2.1.later hb1).1.1
        rw [TK.out.1] at own1
        have hb2 : Below w1.heap.size w1 ((w1.alloc (.cells #[.int .i64 k3, .int .i64 h3', .string t3, .slice A33 n33 c33, .slice A43 n43 c43, .slice A53 n53 c53] 26)).alloc (.cells #[.int .i64 k3, .int .i64 h3', .string t3, .slice A33 n33 c33, .slice A43 n43 c43, .slice A53 n53 c53] 26)) := ((Below.refl _ _).alloc (Nat.le_refl _) _).alloc (by simp) _
        have hnw := news_two w1 (.cells #[.int .i64 k3, .int .i64 h3', .string t3, .slice A33 n33 c33, .slice A43 n43 c43, .slice A53 n53 c53] 26) [.int .i64 k3, .int .i64 h3', .string t3, .slice A33 n33 c33, .slice A43 n43 c43, .slice A53 n53 c53]
        have hbase : w0.heap.size ≤ w1.heap.size := Nat.le_trans LFI.out.1.size hb1.size
        have B1 := Sec.mk hb1
        have B2 := Sec.mk hb2
        have SF := Sec.mk hf
        have HO1 := Sec.mk hO1
        have OWN1 := Sec.mk own1
        have NW := Sec.mk hnw
        have HBS := Sec.mk hbase
        clear hb1 hb2 hf hO1 own1 hnw hbase
        go_wp2_with (at_builtin; refine wpList_append_lies _ rfl _ _ 23 rfl w0.heap.size 26 i0 _ 6 104 Tryd.underlying23 hi0 hz0 hz1 hz2 rfl (by decide) (.slice A' i c') i xs rfl ((OWN1.out.alloc _).alloc _) ⟨w1.heap.size + 1, 0, none⟩ 1 1 [.int .i64 k3, .int .i64 h3', .string t3, .slice A33 n33 c33, .slice A43 n43 c43, .slice A53 n53 c53] rfl rfl NW.out one_six (by decide) (by unfold maxLen; omega) (by omega) (by have := HBS.out; simp; omega) (w1.heap.size + 2) (by simp) ?_; intro g' cap w3 ho3 hg3 hat hlt; have hm := LF.mid LFI.out (below_then B1.out B2.out) hg3; have b3 := hm.cells.1.2.2.2.1; have fr3 := hm.cells.2; have fin := lf_next LFI.out TK.out.1 TK.out.2 B1.out B2.out SF.out ho3 hg3 (by simpa using hat); have FIN := Sec.mk fin; have HM := Sec.mk hm; clear hm fin ho3 hg3 hat hlt)
        go_wp2
        go_roundw
        case rel => exact ⟨i + 1, by go_num, by omega, _, _, FIN.out⟩
        case measure => simp [intOf]; omega
    · obtain rfl : i = n := by omega
      have hlt' : l.take i = l := List.take_of_length_le (by omega)
      have hlf := LFI.out
      rw [hlt'] at hlf
      have hbw := hlf.below HB0.out (Nat.le_succ _)
      have hz6 : Z6 wr w.heap.size := (hlf.1.block w.heap.size (by rw [HSZ.out]; omega) (fun e => by injection e with e; omega)).trans HZZ.out
      obtain ⟨⟨d0, d1, d2, d3, d4, d5⟩, f0, f1, f2, f3, f4, f5⟩ := hz6.cells
      obtain ⟨⟨a0, a1, a2, a3, a4, a5⟩, _⟩ := hlf.2.1.cells
      obtain ⟨A', c', hrv⟩ := hlf.2.2.1.form
      rw [hn] at hrv
      have hr := hlf.2.2.1.rdF (by rw [hn]; exact Nat.le_trans hz (by decide))
      have lt1 := hlf.2.1.lt
      have lt0 : w.heap.size < wr.heap.size := by omega
      subst hrv
      have HR := Sec.mk hr
      have HBW := Sec.mk hbw
      clear hlf hbw hz6 hr hlt' LFI
      go_wp2
      refine bodyPost_ret (v := .tuple #[.agg #[.int .i64 5, .int .i64 0, .string ⟨#[]⟩, .slice A' i c', .slice none 0 0, .slice none 0 0], .bool true]) (by simp [results, Tryd.results54, go_sem, *]) rfl ⟨[.int .i64 5, .int .i64 0, .string ⟨#[]⟩, .slice A' i c', .slice none 0 0, .slice none 0 0], rfl, ?_, ?_⟩
      · have hs := HSZ.out
        refine RdF.same HR.out ?_ (by omega) (by simp [World.setCell])
        iterate 6 refine SameIn.set ?_ (by omega)
        exact fun _ _ _ => rfl
      · iterate 6 refine below_set ?_ (Nat.le_refl _)
        exact HBW.out

set_option maxHeartbeats 800000 in
set_option maxRecDepth 100000 in
theorem fromGo_list (x : V) (v : Value) (w : World) (H : ∀ W, Below w.heap.size w W → Calls Tryd.prog 54 #[v] W (Back x W)) :
    Calls Tryd.prog 45 #[.iface 68 v] w (Back x w) := by
  have CF := Sec.mk H
  clear H
  go_enter Tryd.func45, Tryd.ntmps45
  go_wp2_with fail
  refine (CF.out _ ((Below.refl _ _).alloc (Nat.le_refl _) _)).mono ?_
  intro e w1 hw1
  obtain ⟨cs, rfl, hf, hb⟩ := hw1
  obtain ⟨k2, h2', t2, A32, n32, c32, A42, n42, c42, A52, n52, c52, rfl⟩ := hf.rd.form
  have hl := laid_after _ _ _ _ hb
  have HB := Sec.mk hb
  have HF := Sec.mk hf
  obtain ⟨hc, hfr, hz⟩ := hl
  clear hb hf
  have d0 := hc 0 _ rfl
  have d1 := hc 1 _ rfl
  have d2 := hc 2 _ rfl
  have d3 := hc 3 _ rfl
  have d4 := hc 4 _ rfl
  have d5 := hc 5 _ rfl
  have f0 := hfr 0
  have f1 := hfr 1
  have f2 := hfr 2
  have f3 := hfr 3
  have f4 := hfr 4
  have f5 := hfr 5
  clear hc hfr
  go_wp2_with fail
  refine bodyPost_ret (v := .tuple #[.agg #[.int .i64 k2, .int .i64 h2', .string t2, .slice A32 n32 c32, .slice A42 n42 c42, .slice A52 n52 c52], .bool true]) (by simp [results, Tryd.results45, go_sem, *]) rfl ⟨[.int .i64 k2, .int .i64 h2', .string t2, .slice A32 n32 c32, .slice A42 n42 c42, .slice A52 n52 c52], rfl, ?_, ?_⟩
  · have hf := HF.out
    rw [World.size_alloc] at hf
    refine RdF.same hf ?_ (Nat.le_succ _) (by simp [World.setCell])
    iterate 6 refine SameIn.set ?_ (Nat.lt_succ_self _)
    exact fun _ _ _ => rfl
  · iterate 6 refine below_set ?_ (Nat.le_refl _)
    exact below_laid HB.out

end Go.Proofs.YtpamlgdcnmcedaaDoor
