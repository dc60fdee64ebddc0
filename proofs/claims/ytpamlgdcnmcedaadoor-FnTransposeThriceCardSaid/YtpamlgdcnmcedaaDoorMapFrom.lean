/-
  impl.mapFromGo at maps of right values.
-/
import Derived.Test.YtpamlgdcnmcedaaDoorFromGo
import Derived.Test.YtpamlgdcnmcedaaDoorMr
import Derived.Test.YtpamlgdcnmcedaaDoorShelfI
import Derived.Deep.RegionLaw
import Derived.Deep.DeepCutAuto
import Derived.Deep.CutBlock
namespace Go.Proofs.YtpamlgdcnmcedaaDoor
set_option linter.unusedVariables false
set_option linter.unusedSimpArgs false
open Go.RowKit

/-- A map that is being made: its six cells lie in block g. -/
def M6 (w : World) (g : Nat) (kv rv : Value) : Prop := w.heap[g]? = some (.cells #[.int .i64 6, .int .i64 0, .string ⟨#[]⟩, .slice none 0 0, kv, rv] 26 (0, 0))
theorem M6.cells {w : World} {g : Nat} {kv rv : Value} (h : M6 w g kv rv) : (w.cell? ⟨g, 0, none⟩ = some (.int .i64 6) ∧ w.cell? ⟨g, 1, none⟩ = some (.int .i64 0) ∧ w.cell? ⟨g, 2, none⟩ = some (.string ⟨#[]⟩) ∧ w.cell? ⟨g, 3, none⟩ = some (.slice none 0 0) ∧ w.cell? ⟨g, 4, none⟩ = some kv ∧ w.cell? ⟨g, 5, none⟩ = some rv) ∧ w.frozen? ⟨g, 4, none⟩ = false ∧ w.frozen? ⟨g, 5, none⟩ = false := by
  unfold M6 at h
  refine ⟨⟨?_, ?_, ?_, ?_, ?_, ?_⟩, ?_, ?_⟩ <;> simp [World.cell?, World.frozen?, h]
theorem M6.lt {w : World} {g : Nat} {kv rv : Value} (h : M6 w g kv rv) : g < w.heap.size := by
  unfold M6 at h
  rcases Nat.lt_or_ge g w.heap.size with h' | h'
  · exact h'
  · rw [Array.getElem?_eq_none h'] at h; cases h
theorem M6.keep {w w' : World} {g : Nat} {kv rv : Value} (hb : w'.heap[g]? = w.heap[g]?) (h : M6 w g kv rv) : M6 w' g kv rv := hb.trans h
theorem M6.put {w : World} {g : Nat} {kv rv : Value} (h : M6 w g kv rv) (u v : Value) : M6 ((w.setCell ⟨g, 4, none⟩ u).setCell ⟨g, 5, none⟩ v) g u v := by
  unfold M6 at h ⊢
  simp [World.setCell, Array.getElem?_modify, h]

/-- The loop: w0 is the world ahead of it, g the block that the map is made in. -/
structure LM (w0 : World) (g : Nat) (wr : World) (kv rv : Value) (ks : List ByteArray) (vs : List V) (ys : List Value) : Prop where
  grown : w0.grownBy wr (some g)
  box : M6 wr g kv rv
  rows : MRow wr w0.heap.size kv rv ks vs ys
  lt : g < w0.heap.size
theorem LM.start {w0 : World} {g : Nat} (h : M6 w0 g (.slice none 0 0) (.slice none 0 0)) : LM w0 g w0 (.slice none 0 0) (.slice none 0 0) [] [] [] := ⟨⟨rfl, rfl, rfl, Nat.le_refl _, fun _ _ _ => rfl⟩, h, MRow.nil _ _, h.lt⟩
/-- Behind a round. -/
theorem LM.step {w0 wr wv : World} {g : Nat} {kv rv kv' rv' : Value} {ks ks' : List ByteArray} {vs vs' : List V} {ys ys' : List Value} (h : LM w0 g wr kv rv ks vs ys) (hb : wr.os = wv.os ∧ wr.tape = wv.tape ∧ wr.output = wv.output ∧ wr.heap.size ≤ wv.heap.size ∧ ∀ b, b < w0.heap.size → wv.heap[b]? = wr.heap[b]?)
    (hm : MRow wv w0.heap.size kv' rv' ks' vs' ys') : LM w0 g ((wv.setCell ⟨g, 4, none⟩ kv').setCell ⟨g, 5, none⟩ rv') kv' rv' ks' vs' ys' := by
  obtain ⟨h1, h2, h3, h4⟩ := h
  obtain ⟨b1, b2, b3, b4, b5⟩ := hb
  have hs := h1.size
  refine ⟨⟨?_, ?_, ?_, ?_, fun k hk hne => ?_⟩, (M6.keep (b5 g h4) h2).put _ _, ?_, h4⟩
  · exact b1.symm.trans h1.os
  · exact b2.symm.trans h1.tape
  · exact b3.symm.trans h1.output
  · simp [World.setCell]; omega
  · rw [heap_setCell_other _ _ k _ (fun e => hne (by rw [e])), heap_setCell_other _ _ k _ (fun e => hne (by rw [e])), b5 k hk, h1.block k hk hne]
  · refine hm.far (fun b hb1 _ => ?_) (by simp [World.setCell])
    rw [heap_setCell_other _ _ b _ (by show b ≠ g; omega), heap_setCell_other _ _ b _ (by show b ≠ g; omega)]

/-- In the midst of a round: kv, rv as the box has them, kvX, rvX as the rows stand. -/
structure Ph (wr X : World) (base g1 t : Nat) (kv rv kvX rvX : Value) (ksX : List ByteArray) (vsX : List V) (ysX : List Value) (x : V) (cs : List Value) : Prop where
  rows : MRow X base kvX rvX ksX vsX ysX
  box : M6 X g1 kv rv
  var : X.heap[t]? = some (.cells cs.toArray 26 (0, 0))
  base0 : wr.os = X.os ∧ wr.tape = X.tape ∧ wr.output = X.output ∧ wr.heap.size ≤ X.heap.size ∧ ∀ b, b < base → X.heap[b]? = wr.heap[b]?
  el : MCell X base kvX rvX x cs
  num : g1 < base ∧ base ≤ X.heap.size
  apart : (∀ g, rvX.ownBlock = some g → g ≠ t) ∧ (∀ g, kvX.ownBlock = some g → g ≠ t)
section
variable {wr X Y : World} {base g1 t : Nat} {kv rv kvX rvX : Value} {ksX : List ByteArray} {vsX : List V} {ysX : List Value} {x : V} {cs : List Value}
theorem heap_lt {w : World} {g : Nat} {o : Obj} (h : w.heap[g]? = some o) : g < w.heap.size := by
  rcases Nat.lt_or_ge g w.heap.size with h' | h'
  · exact h'
  · rw [Array.getElem?_eq_none h'] at h; cases h
theorem Ph.below (h : Ph wr X base g1 t kv rv kvX rvX ksX vsX ysX x cs) (hb : Below X.heap.size X Y) : Ph wr Y base g1 t kv rv kvX rvX ksX vsX ysX x cs := by
  obtain ⟨b1, b2, b3, b4, b5⟩ := h.base0
  refine ⟨h.rows.later hb, h.box.keep (hb.block g1 h.box.lt), (hb.block t (heap_lt h.var)).trans h.var, ⟨b1.trans hb.os.symm, b2.trans hb.tape.symm, b3.trans hb.output.symm, Nat.le_trans b4 hb.size, fun b hbb => (hb.block b (by have := h.num.2; omega)).trans (b5 b hbb)⟩, ?_, ⟨h.num.1, Nat.le_trans h.num.2 hb.size⟩, h.apart⟩
  obtain ⟨lo, B, h1, h2, h3, h4, h5⟩ := h.el
  exact ⟨lo, B, h1, Nat.le_trans h2 hb.size, h3, h4, h5.same (fun b hb1 hb2 => hb.block b (by omega)) (Nat.le_refl _) (Nat.le_refl _)⟩
theorem Ph.krow' {i : Nat} (h : Ph wr X base g1 t kv rv kvX rvX ksX vsX ysX x cs) (hb : Below X.heap.size X Y) (hl : ksX.length = i) : Y.ownsRow base 9 1 kvX i (ksX.map Value.string) := by
  have := (h.below hb).rows.krow
  rw [hl] at this
  exact this
theorem Ph.vrow' {i : Nat} (h : Ph wr X base g1 t kv rv kvX rvX ksX vsX ysX x cs) (hb : Below X.heap.size X Y) (hl : vsX.length = i) : Y.ownsRow base 26 6 rvX i ysX := by
  have := (h.below hb).rows.vrow
  rw [hl] at this
  exact this
theorem Ph.base' (h : Ph wr X base g1 t kv rv kvX rvX ksX vsX ysX x cs) (hb : Below X.heap.size X Y) : base ≤ Y.heap.size := (h.below hb).num.2
theorem Ph.growK {w1 : World} {g cap i : Nat} {k : ByteArray} (h : Ph wr X base g1 t kv rv kvX rvX ksX vsX ysX x cs) (hl : ksX.length = i)
    (ho : w1.ownsRow base 9 1 (.slice (some ⟨g, 0, none⟩) (i + 1) cap) (i + 1) (ksX.map Value.string ++ [.string k])) (hg : X.grownBy w1 kvX.ownBlock) (hat : kvX.ownBlock = some g ∨ g = X.heap.size) :
    Ph wr w1 base g1 t kv rv (.slice (some ⟨g, 0, none⟩) (i + 1) cap) rvX (ksX ++ [k]) vsX ysX x cs := by
  obtain ⟨b1, b2, b3, b4, b5⟩ := h.base0
  have hn := h.num
  have hkl := h.rows.krow.lt
  have htl := heap_lt h.var
  have hm : MRow w1 base (.slice (some ⟨g, 0, none⟩) (i + 1) cap) rvX (ksX ++ [k]) vsX ysX := by
    have := h.rows.growK (k := k) (g := g) (cap := cap) (by rw [hl]; exact ho) hg hat
    rw [hl] at this
    exact this
  refine ⟨hm, h.box.keep (hg.block g1 h.box.lt fun e => by have := (hkl g1 e.symm).1; omega), (hg.block t htl fun e => h.apart.2 t e.symm rfl).trans h.var,
    ⟨b1.trans hg.os.symm, b2.trans hg.tape.symm, b3.trans hg.output.symm, Nat.le_trans b4 hg.size, fun b hbb => (hg.block b (by omega) fun e => by have := (hkl b e.symm).1; omega).trans (b5 b hbb)⟩, ?_, ⟨hn.1, Nat.le_trans hn.2 hg.size⟩, h.apart.1, fun g' e => ?_⟩
  · obtain ⟨lo, B, h1, h2, h3, h4, h5⟩ := h.el
    refine ⟨lo, B, h1, Nat.le_trans h2 hg.size, h3, fun g' e => ?_, h5.same (fun b hb1 hb2 => hg.block b (by omega) fun e => by have := h4 b e.symm; omega) (Nat.le_refl _) (Nat.le_refl _)⟩
    have e' : g = g' := by simpa [Value.ownBlock] using e
    subst e'
    rcases hat with hat | hat
    · exact h4 g hat
    · omega
  · have e' : g = g' := by simpa [Value.ownBlock] using e
    subst e'
    rcases hat with hat | hat
    · exact h.apart.2 g hat
    · omega
/-- The values' row has grown, too. -/
theorem Ph.growV {w1 : World} {g cap i : Nat} (h : Ph wr X base g1 t kv rv kvX rvX ksX vsX ysX x cs) (hl : vsX.length = i)
    (ho : w1.ownsRow base 26 6 (.slice (some ⟨g, 0, none⟩) (i + 1) cap) (i + 1) (ysX ++ cs)) (hg : X.grownBy w1 rvX.ownBlock) (hat : rvX.ownBlock = some g ∨ g = X.heap.size) :
    MRow w1 base kvX (.slice (some ⟨g, 0, none⟩) (i + 1) cap) ksX (vsX ++ [x]) (ysX ++ cs) ∧ M6 w1 g1 kv rv ∧ (wr.os = w1.os ∧ wr.tape = w1.tape ∧ wr.output = w1.output ∧ wr.heap.size ≤ w1.heap.size ∧ ∀ b, b < base → w1.heap[b]? = wr.heap[b]?) := by
  obtain ⟨b1, b2, b3, b4, b5⟩ := h.base0
  have hn := h.num
  have hkl := h.rows.vrow.lt
  have hm : MRow w1 base kvX (.slice (some ⟨g, 0, none⟩) (i + 1) cap) ksX (vsX ++ [x]) (ysX ++ cs) := by
    have := h.rows.growV (g := g) (cap := cap) h.el (by rw [hl]; exact ho) hg hat
    rw [hl] at this
    exact this
  exact ⟨hm, h.box.keep (hg.block g1 h.box.lt fun e => by have := (hkl g1 e.symm).1; omega),
    ⟨b1.trans hg.os.symm, b2.trans hg.tape.symm, b3.trans hg.output.symm, Nat.le_trans b4 hg.size, fun b hbb => (hg.block b (by omega) fun e => by have := (hkl b e.symm).1; omega).trans (b5 b hbb)⟩⟩
end
theorem heap_new' (Y : World) (o : Obj) (g : Nat) (h : Y.heap.size = g) : (Y.alloc o).heap[g]? = some o := by subst h; exact heap_alloc_new Y o
theorem heap_old' {Y : World} {g : Nat} {o : Obj} (h : Y.heap[g]? = some o) (o' : Obj) : (Y.alloc o').heap[g]? = some o := (Below.heap_alloc Y o' g (heap_lt h)).trans h
theorem heap_dr' {Y : World} {g : Nat} {o : Obj} (h : Y.heap[g]? = some o) : Y.drew.heap[g]? = some o := h
theorem heap_grown {X wk : World} {g : Nat} {o : Obj} {C : Prop} {row : Option Nat} (hg : X.grownBy wk row) (hne : some g ≠ row) (h : X.heap[g]? = some o) (k : Sec (wk.heap[g]? = some o) → C) : C := k ⟨(hg.block g (heap_lt h) hne).trans h⟩
theorem var_cells {X : World} {t : Nat} {k h : Int} {s : ByteArray} {A3 A4 A5 : Option Addr} {n3 c3 n4 c4 n5 c5 : Nat} (hv : X.heap[t]? = some (.cells [Value.int .i64 k, .int .i64 h, .string s, .slice A3 n3 c3, .slice A4 n4 c4, .slice A5 n5 c5].toArray 26 (0, 0))) :
    X.cell? ⟨t, 0, none⟩ = some (.int .i64 k) ∧ X.cell? ⟨t, 1, none⟩ = some (.int .i64 h) ∧ X.cell? ⟨t, 2, none⟩ = some (.string s) ∧ X.cell? ⟨t, 3, none⟩ = some (.slice A3 n3 c3) ∧ X.cell? ⟨t, 4, none⟩ = some (.slice A4 n4 c4) ∧ X.cell? ⟨t, 5, none⟩ = some (.slice A5 n5 c5) ∧ t < X.heap.size := by
  have hl := heap_lt hv
  refine ⟨?_, ?_, ?_, ?_, ?_, ?_, hl⟩ <;> simp [World.cell?, hv]

set_option maxHeartbeats 4000000 in
set_option maxRecDepth 100000 in
theorem mapFromGo_any (m : Nat) (ih : FromGoUpTo m) (ks : List ByteArray) (vs : List V) (hgv : V.goodL vs) (hcnt : V.cntL vs ≤ m) (hm : m ≤ 1000000000) (hnb : V.nbL vs ≤ 1000000000) (hris : rises ks) (hlen : ks.length = vs.length) (hkz : ∀ k ∈ ks, k.size ≤ reach)
    (b nn : Nat) (xs : List Value) (w : World) (lo B : Nat) (hown : w.ownsMap Tryd.prog 9 heldR b nn (.map (pairs ks xs))) (hbB : b < B) (hvs : RdAV w lo B vs xs) (hB : B ≤ w.heap.size) :
    Calls Tryd.prog 55 #[.map (some b)] w (Back (.mk 6 0 ⟨#[]⟩ [] ks vs) w) := by
  obtain ⟨i0, hi0, hz0, hz1, hz2⟩ := info_parts infoV
  obtain ⟨j0, hj0, hy0, hy1, hy2⟩ := info_parts infoS
  obtain ⟨n, hn⟩ : ∃ n, ks.length = n := ⟨_, rfl⟩
  have hxl : xs.length = n := by rw [← hn, hlen]; exact (rdAV_length vs xs hvs).symm
  have hn1 : n ≤ 1000000000 := by have := V.length_le_cntL vs; omega
  obtain ⟨w0, hw0⟩ : ∃ w0, (w.alloc (.cells #[.int .i64 0, .int .i64 0, .string ⟨#[]⟩, .slice none 0 0, .slice none 0 0, .slice none 0 0] 26)).alloc (.cells #[.int .i64 6, .int .i64 0, .string ⟨#[]⟩, .slice none 0 0, .slice none 0 0, .slice none 0 0] 26) = w0 := ⟨_, rfl⟩
  have hb0 : Below w.heap.size w w0 := by rw [← hw0]; exact ((Below.refl _ _).alloc (Nat.le_refl _) _).alloc (by simp) _
  have hsz : w0.heap.size = w.heap.size + 2 := by rw [← hw0]; simp
  have ho : M6 w0 (w.heap.size + 1) (.slice none 0 0) (.slice none 0 0) := by
    have h := heap_alloc_new (w.alloc (.cells #[.int .i64 0, .int .i64 0, .string ⟨#[]⟩, .slice none 0 0, .slice none 0 0, .slice none 0 0] 26)) (.cells #[.int .i64 6, .int .i64 0, .string ⟨#[]⟩, .slice none 0 0, .slice none 0 0, .slice none 0 0] 26)
    rw [World.size_alloc, hw0] at h
    exact h
  have hzz : Z6 w0 w.heap.size := by
    have h := heap_alloc_new w (.cells #[.int .i64 0, .int .i64 0, .string ⟨#[]⟩, .slice none 0 0, .slice none 0 0, .slice none 0 0] 26)
    have h' := Below.heap_alloc (w.alloc (.cells #[.int .i64 0, .int .i64 0, .string ⟨#[]⟩, .slice none 0 0, .slice none 0 0, .slice none 0 0] 26)) (.cells #[.int .i64 6, .int .i64 0, .string ⟨#[]⟩, .slice none 0 0, .slice none 0 0, .slice none 0 0] 26) w.heap.size (by simp)
    rw [hw0] at h'
    exact h'.trans h
  have hown0 : w0.ownsMap Tryd.prog 9 heldR b nn (.map (pairs ks xs)) := owns_same hown (hb0.block b (by omega))
  have hms : Maps.size (DataW.map (pairs ks xs)) = n := by
    show (pairs ks xs).length = n
    rw [pairs_length ks xs (by rw [hn, hxl]), hn]
  have hsk := Tryd.sorted_keys b nn (.map (pairs ks xs)) heldR w0 hown0 (by rw [hms]; unfold maxLen; omega) (by rw [hms]; omega)
  have HN := Sec.mk (And.intro hn (And.intro hlen (And.intro hxl hn1)))
  have HV := Sec.mk (And.intro hgv (And.intro hcnt hnb))
  have HK := Sec.mk (And.intro hris hkz)
  have HO := Sec.mk (And.intro hown (And.intro hbB (And.intro hvs hB)))
  have H0 := Sec.mk (And.intro hb0 (And.intro hsz (And.intro ho hzz)))
  have HSK := Sec.mk hsk
  have HW0 := Sec.mk hw0
  have HM := Sec.mk hm
  clear hgv hcnt hnb hris hlen hkz hown hbB hvs hB hn hxl hn1 hb0 hsz ho hzz hown0 hms hsk hw0 hm
  go_enter Tryd.func55, Tryd.ntmps55
  go_wp2_with fail
  rw [HW0.out]
  refine (Tryd.maps_Keys (some b) _).mono ?_
  rintro e w1 ⟨rfl, rfl⟩
  go_wp2_with fail
  refine HSK.out.mono ?_
  intro e w1 hw1
  obtain ⟨v, ss, rfl, hperm, hrow, _, hb1⟩ := hw1
  obtain ⟨hs1, hs2⟩ := sorted_keys_eq (by rw [HN.out.1, HN.out.2.2.1]) HK.out.1 hperm
  rw [hs1, hs2] at hrow
  rw [HN.out.1] at hrow
  have hb01 : Below w0.heap.size w0 w1 := below_then ((Below.refl _ _).alloc (Nat.le_refl _) _) hb1
  obtain ⟨A, c, rfl⟩ : ∃ A c, v = .slice A n c := by
    rcases hrow.2 with ⟨e, h0⟩ | ⟨g, cap, cur, e, _⟩
    · exact ⟨none, 0, by rw [h0]; exact e⟩
    · exact ⟨_, _, e⟩
  rw [World.size_alloc, H0.out.2.1] at hrow
  have hbw := below_then H0.out.1 hb01
  have m1 : M6 w1 (w.heap.size + 1) (.slice none 0 0) (.slice none 0 0) := M6.keep (hb01.block _ (by rw [H0.out.2.1]; omega)) H0.out.2.2.1
  have z1 : Z6 w1 w.heap.size := (hb01.block _ (by rw [H0.out.2.1]; omega)).trans H0.out.2.2.2
  have ROW := Sec.mk hrow
  have BW := Sec.mk hbw
  have HS1 := Sec.mk (show w.heap.size + 3 ≤ w1.heap.size by have := hb1.size; rw [World.size_alloc, H0.out.2.1] at this; exact this)
  have HL0 := Sec.mk (LM.start m1)
  have HZ1 := Sec.mk z1
  clear hperm hrow hb1 hb01 hs1 hs2 hbw m1 z1
  go_wp2_with fail
  go_loopw [6, 7, 8, 14] (fun _ _ _ v14 wr => ∃ (i : Nat) (kv rv : Value) (ys : List Value), v14 = .int .i64 i ∧ i ≤ n ∧ LM w1 (w.heap.size + 1) wr kv rv (ks.take i) (vs.take i) ys) (fun _ _ _ v14 _ => n - (intOf v14).toNat)
  case atStart => exact ⟨0, _, _, _, rfl, Nat.zero_le _, HL0.out⟩
  case round =>
    obtain ⟨i, kv, rv, ys, rfl, hi, hlm⟩ := hrel
    have hbw : Below w.heap.size w wr := BW.out.grown hlm.grown BW.out.size (fun k e => by injection e with e; omega)
    have LMI := Sec.mk hlm
    by_cases hin : i < n
    · obtain ⟨ky, hky⟩ : ∃ x, ks[i]? = some x := ⟨ks[i]'(by rw [HN.out.1]; exact hin), by rw [List.getElem?_eq_getElem]⟩
      obtain ⟨x, hx⟩ : ∃ x, vs[i]? = some x := ⟨vs[i]'(by rw [← HN.out.2.1, HN.out.1]; exact hin), by rw [List.getElem?_eq_getElem]⟩
      obtain ⟨xi, hxi, hxv⟩ := rdAV_get vs xs HO.out.2.2.1 i x hx
      obtain ⟨gs, rfl, hgs, hgs2⟩ : ∃ gs, A = some ⟨gs, 0, none⟩ ∧ w.heap.size + 3 ≤ gs ∧ gs < w1.heap.size := by
        rcases ROW.out.2 with ⟨e, h0⟩ | ⟨g, cap, cur, e, hb, hg, _⟩
        · omega
        · injection e with e1 e2 e3
          refine ⟨g, e1, hb, ?_⟩
          rcases Nat.lt_or_ge g w1.heap.size with h | h
          · exact h
          · rw [Array.getElem?_eq_none h] at hg; cases hg
      have hkc : wr.cell? ⟨gs, i, none⟩ = some (.string ky) := by
        have h1 := World.ownsRow.cells ROW.out (g := gs) rfl i (.string ky) (by rw [List.getElem?_map, hky]; rfl)
        rw [add_plain] at h1
        exact (World.cell?_of_block (w := w1) (w' := wr) (a := ⟨gs, i, none⟩) (hlm.grown.block gs hgs2 (fun e => by injection e with e; omega))).trans h1
      have hkyz : ky.size ≤ reach := HK.out.2 ky (List.mem_of_getElem? hky)
      have hlk := lookup_pairs (w := wr) (owns_same HO.out.1 (hbw.block b (by have := HO.out.2.1; have := HO.out.2.2.2; omega))) HK.out.1 hky hxi (Nat.le_trans hkyz (by unfold reach maxLen; omega))
      have cF := ih x ⟨goodL_mem HV.out.1 (List.mem_of_getElem? hx), Nat.le_trans (V.cnt_le_get hx) HV.out.2.1, Nat.le_trans (nb_le_mem (List.mem_of_getElem? hx)) HV.out.2.2⟩ xi wr lo B (RdA.same (SameIn.of_same ((Same.of_below hbw).mono HO.out.2.2.2)) (Nat.le_refl _) (Nat.le_refl _) x xi hxv) (Nat.le_trans HO.out.2.2.2 hbw.size)
      have hform := hxv.form (goodL_mem HV.out.1 (List.mem_of_getElem? hx))
      have CF := Sec.mk cF
      have TK := Sec.mk (And.intro (show ks.take (i + 1) = ks.take i ++ [ky] by rw [List.take_add_one, hky]; rfl) (show vs.take (i + 1) = vs.take i ++ [x] by rw [List.take_add_one, hx]; rfl))
      have TL := Sec.mk (And.intro (show (ks.take i).length = i by rw [List.length_take, HN.out.1]; omega) (show (vs.take i).length = i by rw [List.length_take, ← HN.out.2.1, HN.out.1]; omega))
      obtain ⟨Ar, cr, hrv, _⟩ := hlm.rows.readV
      obtain ⟨Ak, ck, hkv, _⟩ := hlm.rows.readK (fun k hk => HK.out.2 k (List.mem_of_mem_take hk))
      rw [TL.out.2] at hrv
      rw [TL.out.1] at hkv
      subst hrv
      subst hkv
      have HKZ := Sec.mk hkyz
      have hn1 := HN.out.2.2.2
      clear hlm hbw hky hx hxi hxv hgs hgs2 hkyz cF
      go_upto_block 1 with fail
      go_cut [6, 7, 8] (fun _ _ _ wx => ∃ kv' rv' ys', LM w1 (w.heap.size + 1) wx kv' rv' (ks.take (i + 1)) (vs.take (i + 1)) ys')
      case first =>
        clear hform
        go_wp2_with fail
        refine CF.out.mono ?_
        intro e w2 hw2
        obtain ⟨cs, rfl, hf, hb2⟩ := hw2
        obtain ⟨k3, h3', t3, A33, n33, c33, A43, n43, c43, A53, n53, c53, rfl⟩ := hf.rd.form
        have B2 := Sec.mk hb2
        have SF := Sec.mk hf
        clear hb2 hf hlk
        go_upto_region 8 with fail
        obtain ⟨wB, hwB⟩ : ∃ wB, w2.alloc (.cells #[.int .i64 k3, .int .i64 h3', .string t3, .slice A33 n33 c33, .slice A43 n43 c43, .slice A53 n53 c53] 26) = wB := ⟨_, rfl⟩
        rw [hwB]
        have bB : Below w2.heap.size w2 wB := by rw [← hwB]; exact (Below.refl _ _).alloc (Nat.le_refl _) _
        have vB : wB.heap[w2.heap.size]? = some (.cells [.int .i64 k3, .int .i64 h3', .string t3, .slice A33 n33 c33, .slice A43 n43 c43, .slice A53 n53 c53].toArray 26 (0, 0)) := by rw [← hwB]; exact heap_alloc_new w2 _
        have hb2B := below_then B2.out bB
        have hrt : ∀ g, (Value.slice Ar i cr).ownBlock = some g → g < wr.heap.size := fun g e => (LMI.out.rows.vrow.lt g e).2
        have hkt : ∀ g, (Value.slice Ak i ck).ownBlock = some g → g < wr.heap.size := fun g e => (LMI.out.rows.krow.lt g e).2
        have hs2 := B2.out.size
        have hsB := bB.size
        have hs1r := LMI.out.grown.size
        have pb : Ph wr wB w1.heap.size (w.heap.size + 1) w2.heap.size (.slice Ak i ck) (.slice Ar i cr) (.slice Ak i ck) (.slice Ar i cr) (ks.take i) (vs.take i) ys x [.int .i64 k3, .int .i64 h3', .string t3, .slice A33 n33 c33, .slice A43 n43 c43, .slice A53 n53 c53] :=
          ⟨LMI.out.rows.later hb2B, LMI.out.box.keep (hb2B.block _ LMI.out.box.lt), vB, ⟨hb2B.os.symm, hb2B.tape.symm, hb2B.output.symm, hb2B.size, fun b hbb => hb2B.block b (by omega)⟩,
            ⟨wr.heap.size, w2.heap.size, hs1r, hsB, fun g e => .inl (hrt g e), fun g e => .inl (hkt g e), SF.out.same (fun b hb1 hb2' => bB.block b hb2') (Nat.le_refl _) (Nat.le_refl _)⟩, ⟨LMI.out.lt, by omega⟩, fun g e => by have := hrt g e; omega, fun g e => by have := hkt g e; omega⟩
        have PB := Sec.mk pb
        have KNE : Sec (∀ g, wB.heap.size ≤ g → some g ≠ (Value.slice Ak i ck).ownBlock) := ⟨fun g hgB e => by have := hkt g e.symm; omega⟩
        have NB : Sec (i + 1 ≤ maxLen ∧ (i + 1) * 16 ≤ 140737488355328 ∧ (i + 1) * 104 ≤ 140737488355328) := ⟨by unfold maxLen; omega, by omega, by omega⟩
        have KT := Sec.mk trivial
        obtain ⟨⟨_, _, _, _, a4, a5⟩, fr4, fr5⟩ := pb.box.cells
        have lt1 := pb.box.lt
        obtain ⟨e0, e1, e2, e3, e4, e5, lt2⟩ := var_cells vB
        have ne1 : ¬ w.heap.size = wB.heap.size := by omega
        have ltA : w.heap.size < wB.heap.size := by omega
        have ltB : w2.heap.size ≤ wB.heap.size := by omega
        have ltC : w2.heap.size < wB.heap.size + 1 := by omega
        have ltD : w.heap.size + 1 < wB.heap.size + 1 := by omega
        have ne2 : ¬ w2.heap.size = wB.heap.size + 1 := by omega
        have ne3 : ¬ w2.heap.size = wB.heap.size := by omega
        clear bB vB hb2B hrt hkt hs2 hsB hs1r pb hwB SF B2 CF HL0 HZ1 BW ROW hkc
        go_region_law
          (first
            | (have tk := KT; clear tk; refine step_append_lies _ (by rfl) _ _ _ (by rfl) w1.heap.size 9 j0 _ 1 16 Tryd.underlying24 hj0 hy0 hy1 hy2 rfl (by decide) (.slice Ak i ck) i ((ks.take i).map Value.string) (by rfl) (Ph.krow' PB.out (by repeat (first | with_reducible exact Below.refl _ _ | with_reducible refine below_dr ?_ | with_reducible refine below_up ?_ _)) TL.out.1) _ 1 1 [.string ky] (by rfl) (by rfl) (World.news_of_block (cs := #[.string ky]) (t := 9) (fr := (0, 0)) (by repeat (first | (with_reducible refine heap_new' _ _ _ ?_; simp; done) | with_reducible refine heap_dr' ?_ | with_reducible refine heap_old' ?_ _))) oneS (by decide) NB.out.1 NB.out.2.1 (Ph.base' PB.out (by repeat (first | with_reducible exact Below.refl _ _ | with_reducible refine below_dr ?_ | with_reducible refine below_up ?_ _))) _ rfl ?_; intro gk capk wk hok hgk hatk hltk; have PK := Sec.mk (Ph.growK (k := ky) (Ph.below PB.out (by repeat (first | with_reducible exact Below.refl _ _ | with_reducible refine below_dr ?_ | with_reducible refine below_up ?_ _))) TL.out.1 hok hgk hatk); (try (refine heap_grown (g := wB.heap.size) (o := .cells #[.int .i64 k3, .int .i64 h3', .string t3, .slice A33 n33 c33, .slice A43 n43 c43, .slice A53 n53 c53] 26) hgk (KNE.out _ (Nat.le_refl _)) ?_ ?_; (next => repeat (first | (with_reducible refine heap_new' _ _ _ ?_; simp; done) | with_reducible refine heap_dr' ?_ | with_reducible refine heap_old' ?_ _)); intro VS1)); (try (refine heap_grown (g := wB.heap.size + 1) (o := .cells #[.int .i64 k3, .int .i64 h3', .string t3, .slice A33 n33 c33, .slice A43 n43 c43, .slice A53 n53 c53] 26) hgk (KNE.out _ (Nat.le_succ _)) ?_ ?_; (next => repeat (first | (with_reducible refine heap_new' _ _ _ ?_; simp; done) | with_reducible refine heap_dr' ?_ | with_reducible refine heap_old' ?_ _)); intro VS2)); obtain ⟨⟨_, _, _, _, a4, a5⟩, fr4, fr5⟩ := PK.out.box.cells; have lt1 := PK.out.box.lt; obtain ⟨e0, e1, e2, e3, e4, e5, lt2⟩ := var_cells PK.out.var; clear KT hok hgk hatk hltk)
            | (refine step_append_lies _ (by rfl) _ _ _ (by rfl) w1.heap.size 26 i0 _ 6 104 Tryd.underlying23 hi0 hz0 hz1 hz2 rfl (by decide) (.slice Ar i cr) i ys (by rfl) (Ph.vrow' PK.out (by repeat (first | with_reducible exact Below.refl _ _ | with_reducible refine below_dr ?_ | with_reducible refine below_up ?_ _)) TL.out.2) _ 1 1 [.int .i64 k3, .int .i64 h3', .string t3, .slice A33 n33 c33, .slice A43 n43 c43, .slice A53 n53 c53] (by rfl) (by rfl) (World.news_of_block (cs := #[.int .i64 k3, .int .i64 h3', .string t3, .slice A33 n33 c33, .slice A43 n43 c43, .slice A53 n53 c53]) (t := 26) (fr := (0, 0)) (by repeat (first | with_reducible exact VS1.out | with_reducible exact VS2.out | (with_reducible refine heap_new' _ _ _ ?_; simp; done) | with_reducible refine heap_dr' ?_ | with_reducible refine heap_old' ?_ _))) one_six (by decide) NB.out.1 NB.out.2.2 (Ph.base' PK.out (by repeat (first | with_reducible exact Below.refl _ _ | with_reducible refine below_dr ?_ | with_reducible refine below_up ?_ _))) _ rfl ?_; intro gv capv wv hov hgv hatv hltv; have pv := Ph.growV (Ph.below PK.out (by repeat (first | with_reducible exact Below.refl _ _ | with_reducible refine below_dr ?_ | with_reducible refine below_up ?_ _))) TL.out.2 hov hgv hatv; obtain ⟨⟨_, _, _, _, a4, a5⟩, fr4, fr5⟩ := pv.2.1.cells; have lt1 := pv.2.1.lt; have FIN := Sec.mk (LM.step LMI.out pv.2.2 pv.1); clear pv hov hgv hatv hltv))
        all_goals
          (try simp only [Act.put, List.getElem_toArray, List.getElem_cons_succ, List.getElem_cons_zero, List.setIfInBounds_toArray, List.set_cons_zero, List.set_cons_succ])
          go_wp2_with fail
          go_meet
          rw [TK.out.1, TK.out.2]
          exact ⟨_, _, _, FIN.out⟩
      case rest =>
        obtain ⟨kv', rv', ys', hlm'⟩ := hcut
        have FIN := Sec.mk hlm'
        clear hlm'
        go_wp2
        go_roundw
        case rel => exact ⟨i + 1, kv', rv', ys', by go_num, by omega, FIN.out⟩
        case measure => simp [intOf]; omega
    · obtain rfl : n = i := by omega
      have ek : ks.take n = ks := List.take_of_length_le (by rw [HN.out.1]; exact Nat.le_refl _)
      have ev : vs.take n = vs := List.take_of_length_le (by rw [← HN.out.2.1, HN.out.1]; exact Nat.le_refl _)
      rw [ek, ev] at hlm
      have hn1 := HN.out.2.2.2
      have hr := hlm.rows.rdF HK.out.2 (by rw [HN.out.1]; unfold reach; omega) (by rw [← HN.out.2.1, HN.out.1]; unfold reach; omega)
      obtain ⟨Ar, cr, hrv, _⟩ := hlm.rows.readV
      obtain ⟨Ak, ck, hkv, _⟩ := hlm.rows.readK HK.out.2
      have hz6 : Z6 wr w.heap.size := (hlm.grown.block w.heap.size (by have := HS1.out; omega) (fun e => by injection e with e; omega)).trans HZ1.out
      obtain ⟨⟨d0, d1, d2, d3, d4, d5⟩, f0, f1, f2, f3, f4, f5⟩ := hz6.cells
      obtain ⟨⟨a0, a1, a2, a3, a4, a5⟩, _⟩ := hlm.box.cells
      have lt1 := hlm.box.lt
      have lt0 : w.heap.size < wr.heap.size := by omega
      subst hrv
      subst hkv
      rw [HN.out.1] at a4 hr
      rw [← HN.out.2.1, HN.out.1] at a5 hr
      have HR := Sec.mk hr
      have HBW := Sec.mk hbw
      clear hlm hbw hz6 hr ek ev LMI
      go_wp2
      refine bodyPost_ret (v := .tuple #[.agg #[.int .i64 6, .int .i64 0, .string ⟨#[]⟩, .slice none 0 0, .slice Ak n ck, .slice Ar n cr], .bool true]) (by simp [results, Tryd.results55, go_sem, *]) rfl ⟨[.int .i64 6, .int .i64 0, .string ⟨#[]⟩, .slice none 0 0, .slice Ak n ck, .slice Ar n cr], rfl, ?_, ?_⟩
      · have hs := HS1.out
        refine RdF.same HR.out ?_ (by omega) (by simp [World.setCell])
        iterate 6 refine SameIn.set ?_ (by omega)
        exact fun _ _ _ => rfl
      · iterate 6 refine below_set ?_ (Nat.le_refl _)
        exact HBW.out

end Go.Proofs.YtpamlgdcnmcedaaDoor
