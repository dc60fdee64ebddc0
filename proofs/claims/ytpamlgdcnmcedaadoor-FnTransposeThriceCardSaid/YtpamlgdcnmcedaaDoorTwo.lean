/-
  Two doors' answers side by side: in whatever order the doors are called and the blocks are laid, the two blocks hold what reads as it should.
-/
import Derived.Test.YtpamlgdcnmcedaaDoorSw
namespace Go.Proofs.YtpamlgdcnmcedaaDoor
set_option linter.unusedVariables false
set_option linter.unusedSimpArgs false
open Go.RowKit

/-- A fresh block for what a door gives. -/
def Z7 (w : World) (g : Nat) : Prop := w.heap[g]? = some (.cells #[.int .i64 0, .int .i64 0, .string ⟨#[]⟩, .slice none 0 0, .slice none 0 0, .slice none 0 0, .int .i64 0] 30 (0, 0))
theorem Z7.new (Y : World) : Z7 (Y.alloc (.cells #[.int .i64 0, .int .i64 0, .string ⟨#[]⟩, .slice none 0 0, .slice none 0 0, .slice none 0 0, .int .i64 0] 30)) Y.heap.size := heap_alloc_new Y _
theorem Z7.new' (Y : World) (g : Nat) (h : Y.heap.size = g) : Z7 (Y.alloc (.cells #[.int .i64 0, .int .i64 0, .string ⟨#[]⟩, .slice none 0 0, .slice none 0 0, .slice none 0 0, .int .i64 0] 30)) g := by subst h; exact Z7.new Y
theorem Z7.lt {w : World} {g : Nat} (h : Z7 w g) : g < w.heap.size := by
  unfold Z7 at h
  rcases Nat.lt_or_ge g w.heap.size with h' | h'
  · exact h'
  · rw [Array.getElem?_eq_none h'] at h; cases h
theorem Z7.keep {w w' : World} {g : Nat} (hb : Below w.heap.size w w') (h : Z7 w g) : Z7 w' g := (hb.block g h.lt).trans h
theorem Z7.old {w : World} {g : Nat} (h : Z7 w g) (o : Obj) : Z7 (w.alloc o) g := (Below.heap_alloc w o g h.lt).trans h
theorem Z7.dr {w : World} {g : Nat} (h : Z7 w g) : Z7 w.drew g := h
theorem Z7.cells {w : World} {g : Nat} (h : Z7 w g) : w.cell? ⟨g, 0, none⟩ = some (.int .i64 0) ∧ w.cell? ⟨g, 1, none⟩ = some (.int .i64 0) ∧ w.cell? ⟨g, 2, none⟩ = some (.string ⟨#[]⟩) ∧ w.cell? ⟨g, 3, none⟩ = some (.slice none 0 0) ∧ w.cell? ⟨g, 4, none⟩ = some (.slice none 0 0) ∧ w.cell? ⟨g, 5, none⟩ = some (.slice none 0 0) ∧ w.cell? ⟨g, 6, none⟩ = some (.int .i64 0) ∧
    w.frozen? ⟨g, 0, none⟩ = false ∧ w.frozen? ⟨g, 1, none⟩ = false ∧ w.frozen? ⟨g, 2, none⟩ = false ∧ w.frozen? ⟨g, 3, none⟩ = false ∧ w.frozen? ⟨g, 4, none⟩ = false ∧ w.frozen? ⟨g, 5, none⟩ = false ∧ w.frozen? ⟨g, 6, none⟩ = false ∧ g < w.heap.size := by
  have hl := h.lt
  unfold Z7 at h
  refine ⟨?_, ?_, ?_, ?_, ?_, ?_, ?_, ?_, ?_, ?_, ?_, ?_, ?_, ?_, hl⟩ <;> simp [World.cell?, World.frozen?, h]
theorem Z7.bring {w w' : World} {g : Nat} {C : Prop} (hb : Below w.heap.size w w') (h : Z7 w g) (k : Sec (Z7 w' g) → w'.cell? ⟨g, 0, none⟩ = some (.int .i64 0) ∧ w'.cell? ⟨g, 1, none⟩ = some (.int .i64 0) ∧ w'.cell? ⟨g, 2, none⟩ = some (.string ⟨#[]⟩) ∧ w'.cell? ⟨g, 3, none⟩ = some (.slice none 0 0) ∧ w'.cell? ⟨g, 4, none⟩ = some (.slice none 0 0) ∧ w'.cell? ⟨g, 5, none⟩ = some (.slice none 0 0) ∧ w'.cell? ⟨g, 6, none⟩ = some (.int .i64 0) ∧
    w'.frozen? ⟨g, 0, none⟩ = false ∧ w'.frozen? ⟨g, 1, none⟩ = false ∧ w'.frozen? ⟨g, 2, none⟩ = false ∧ w'.frozen? ⟨g, 3, none⟩ = false ∧ w'.frozen? ⟨g, 4, none⟩ = false ∧ w'.frozen? ⟨g, 5, none⟩ = false ∧ w'.frozen? ⟨g, 6, none⟩ = false ∧ g < w'.heap.size → C) : C := k ⟨h.keep hb⟩ (h.keep hb).cells
theorem Z7.bring1 {w w' : World} {g : Nat} {C : Prop} (hb : Below w.heap.size w w') (h : Z7 w g) (k : Sec (Z7 w' g) → C) : C := k ⟨h.keep hb⟩
theorem below_st {w W : World} {b i : Nat} {v : Value} (h : Below w.heap.size w W) (hb : w.heap.size ≤ b) : Below w.heap.size w (W.setCell ⟨b, i, none⟩ v) := h.setCell hb v
/-- A door's answer in a block of its own. -/
def C7 (w : World) (g : Nat) (cs : Array Value) : Prop := w.heap[g]? = some (.cells cs 30 (0, 0))
theorem C7.new (Y : World) (g : Nat) (cs : Array Value) (h : Y.heap.size = g) : C7 (Y.alloc (.cells cs 30)) g cs := by subst h; exact heap_alloc_new Y _
theorem C7.lt {w : World} {g : Nat} {cs : Array Value} (h : C7 w g cs) : g < w.heap.size := by
  unfold C7 at h
  rcases Nat.lt_or_ge g w.heap.size with h' | h'
  · exact h'
  · rw [Array.getElem?_eq_none h'] at h; cases h
theorem C7.old {w : World} {g : Nat} {cs : Array Value} (h : C7 w g cs) (o : Obj) : C7 (w.alloc o) g cs := (Below.heap_alloc w o g h.lt).trans h
theorem C7.far {w : World} {g b i : Nat} {cs : Array Value} {v : Value} (h : C7 w g cs) (hg : b ≠ g) : C7 (w.setCell ⟨b, i, none⟩ v) g cs := (heap_setCell_other w _ g v (Ne.symm hg)).trans h
theorem C7.keep {w w' : World} {g : Nat} {cs : Array Value} (hb : Below w.heap.size w w') (h : C7 w g cs) : C7 w' g cs := (hb.block g h.lt).trans h
theorem C7.cell {w : World} {g : Nat} {cs : Array Value} (h : C7 w g cs) (j : Nat) (v : Value) (hj : cs[j]? = some v) : w.cell? ⟨g, j, none⟩ = some v := by
  unfold C7 at h
  simp [World.cell?, h, hj]
theorem heap_set_same (w : World) (g i : Nat) (v : Value) (cs : Array Value) (h : C7 w g cs) : C7 (w.setCell ⟨g, i, none⟩ v) g (cs.setIfInBounds i v) := by
  unfold C7 at h ⊢
  simp [World.setCell, Array.getElem?_modify, h]
theorem C7.put {w : World} {g : Nat} (h : Z7 w g) (c0 c1 c2 c3 c4 c5 c6 : Value) :
    C7 (((((((w.setCell ⟨g, 0, none⟩ c0).setCell ⟨g, 1, none⟩ c1).setCell ⟨g, 2, none⟩ c2).setCell ⟨g, 3, none⟩ c3).setCell ⟨g, 4, none⟩ c4).setCell ⟨g, 5, none⟩ c5).setCell ⟨g, 6, none⟩ c6) g #[c0, c1, c2, c3, c4, c5, c6] :=
  heap_set_same _ _ 6 c6 _ (heap_set_same _ _ 5 c5 _ (heap_set_same _ _ 4 c4 _ (heap_set_same _ _ 3 c3 _ (heap_set_same _ _ 2 c2 _ (heap_set_same _ _ 1 c1 _ (heap_set_same _ _ 0 c0 _ h))))))
theorem SameIn.off {lo B b i : Nat} {a w : World} {v : Value} (h : SameIn lo B a w) (hb : b < lo ∨ B ≤ b) : SameIn lo B a (w.setCell ⟨b, i, none⟩ v) := by
  intro j h1 h2
  rw [← h j h1 h2]
  exact heap_setCell_other w _ j v (by show j ≠ b; omega)
theorem SameIn.below {lo B : Nat} {a w w' : World} (h : SameIn lo B a w) (hb : Below w.heap.size w w') (hB : B ≤ w.heap.size) : SameIn lo B a w' := by
  intro j h1 h2
  rw [← h j h1 h2]
  exact hb.block j (by omega)
theorem SameIn.none (lo B : Nat) (w : World) : SameIn lo B w w := fun _ _ _ => rfl
theorem lo_of {w : World} {n B : Nat} {x : V} {cs : List Value} (h : RdF w n B x cs) : ∃ lo, n = lo ∧ RdF w lo B x cs := ⟨_, rfl, h⟩

/-- What the two doors have given: two pointers, to what reads as it should. -/
def Two (w0 : World) (x y : V) (s5 s6 : Value) (wx : World) : Prop := ∃ g5 g6 k3 h3 t3 A33 n33 c33 A43 n43 c43 A53 n53 c53 k4 h4 t4 A34 n34 c34 A44 n44 c44 A54 n54 c54,
  s5 = .pointer (some ⟨g5, 0, none⟩) ∧ s6 = .pointer (some ⟨g6, 0, none⟩) ∧
  C7 wx g5 #[.int .i64 k3, .int .i64 h3, .string t3, .slice A33 n33 c33, .slice A43 n43 c43, .slice A53 n53 c53, .int .i64 (starts_end x y)] ∧
  C7 wx g6 #[.int .i64 k4, .int .i64 h4, .string t4, .slice A34 n34 c34, .slice A44 n44 c44, .slice A54 n54 c54, .int .i64 (ends_end x y)] ∧
  Rd wx wx.heap.size (starts x y) [.int .i64 k3, .int .i64 h3, .string t3, .slice A33 n33 c33, .slice A43 n43 c43, .slice A53 n53 c53] ∧
  Rd wx wx.heap.size (ends x y) [.int .i64 k4, .int .i64 h4, .string t4, .slice A34 n34 c34, .slice A44 n44 c44, .slice A54 n54 c54] ∧ Below w0.heap.size w0 wx

theorem below_up {w W : World} (h : Below w.heap.size w W) (o : Obj) : Below w.heap.size w (W.alloc o) := h.alloc h.size o
theorem below_dr {w W : World} (h : Below w.heap.size w W) : Below w.heap.size w W.drew := h.drew


/-- Behind the two stores: the two answers lie in their blocks, nothing else that w6 had has turned. -/
def Aft (w6 wx : World) (g5 : Nat) (cs : Array Value) (g6 : Nat) (ds : Array Value) : Prop :=
  C7 wx g5 cs ∧ C7 wx g6 ds ∧ (∀ b, b < w6.heap.size → b ≠ g5 → b ≠ g6 → wx.heap[b]? = w6.heap[b]?) ∧ w6.heap.size ≤ wx.heap.size ∧ wx.os = w6.os ∧ wx.tape = w6.tape ∧ wx.output = w6.output
theorem Aft.swap {w6 wx : World} {g5 g6 : Nat} {cs ds : Array Value} (h : Aft w6 wx g5 cs g6 ds) : Aft w6 wx g6 ds g5 cs := by
  obtain ⟨h1, h2, h3, h4, h5, h6, h7⟩ := h
  exact ⟨h2, h1, fun b hb h5 h6 => h3 b hb h6 h5, h4, h5, h6, h7⟩
def put7 (w : World) (g : Nat) (c0 c1 c2 c3 c4 c5 c6 : Value) : World := ((((((w.setCell ⟨g, 0, none⟩ c0).setCell ⟨g, 1, none⟩ c1).setCell ⟨g, 2, none⟩ c2).setCell ⟨g, 3, none⟩ c3).setCell ⟨g, 4, none⟩ c4).setCell ⟨g, 5, none⟩ c5).setCell ⟨g, 6, none⟩ c6
theorem put7_other (w : World) (g b : Nat) (h : b ≠ g) (c0 c1 c2 c3 c4 c5 c6 : Value) : (put7 w g c0 c1 c2 c3 c4 c5 c6).heap[b]? = w.heap[b]? := by
  unfold put7
  iterate 7 rw [heap_setCell_other _ _ b _ h]
theorem put7_size (w : World) (g : Nat) (c0 c1 c2 c3 c4 c5 c6 : Value) : (put7 w g c0 c1 c2 c3 c4 c5 c6).heap.size = w.heap.size := by simp [put7, World.setCell]
theorem put7_rest (w : World) (g : Nat) (c0 c1 c2 c3 c4 c5 c6 : Value) : (put7 w g c0 c1 c2 c3 c4 c5 c6).os = w.os ∧ (put7 w g c0 c1 c2 c3 c4 c5 c6).tape = w.tape ∧ (put7 w g c0 c1 c2 c3 c4 c5 c6).output = w.output := by simp [put7, World.setCell]
theorem Z7.put {w : World} {g g' : Nat} (h : Z7 w g) (hg : g ≠ g') (c0 c1 c2 c3 c4 c5 c6 : Value) : Z7 (put7 w g' c0 c1 c2 c3 c4 c5 c6) g := (put7_other w g' g hg ..).trans h
theorem Aft.pp {w6 : World} {g5 g6 : Nat} (h5 : Z7 w6 g5) (h6 : Z7 w6 g6) (hg : g5 ≠ g6) (c0 c1 c2 c3 c4 c5 c6 d0 d1 d2 d3 d4 d5 d6 : Value) :
    Aft w6 ((((((((((((((w6.setCell ⟨g5, 0, none⟩ c0).setCell ⟨g5, 1, none⟩ c1).setCell ⟨g5, 2, none⟩ c2).setCell ⟨g5, 3, none⟩ c3).setCell ⟨g5, 4, none⟩ c4).setCell ⟨g5, 5, none⟩ c5).setCell ⟨g5, 6, none⟩ c6).setCell ⟨g6, 0, none⟩ d0).setCell ⟨g6, 1, none⟩ d1).setCell ⟨g6, 2, none⟩ d2).setCell ⟨g6, 3, none⟩ d3).setCell ⟨g6, 4, none⟩ d4).setCell ⟨g6, 5, none⟩ d5).setCell ⟨g6, 6, none⟩ d6)
      g5 #[c0, c1, c2, c3, c4, c5, c6] g6 #[d0, d1, d2, d3, d4, d5, d6] := by
  change Aft w6 (put7 (put7 w6 g5 c0 c1 c2 c3 c4 c5 c6) g6 d0 d1 d2 d3 d4 d5 d6) g5 _ g6 _
  refine ⟨(put7_other _ g6 g5 hg ..).trans (C7.put h5 ..), C7.put (h6.put (Ne.symm hg) ..) .., fun b hb e5 e6 => (put7_other _ g6 b e6 ..).trans (put7_other _ g5 b e5 ..), ?_, (put7_rest ..).1.trans (put7_rest ..).1, (put7_rest ..).2.1.trans (put7_rest ..).2.1, (put7_rest ..).2.2.trans (put7_rest ..).2.2⟩
  rw [put7_size, put7_size]
  exact Nat.le_refl _
theorem Aft.pn {w6 : World} {g : Nat} (h : Z7 w6 g) (c0 c1 c2 c3 c4 c5 c6 : Value) (ds : Array Value) (n : Nat) (hn : w6.heap.size = n) :
    Aft w6 ((((((((w6.setCell ⟨g, 0, none⟩ c0).setCell ⟨g, 1, none⟩ c1).setCell ⟨g, 2, none⟩ c2).setCell ⟨g, 3, none⟩ c3).setCell ⟨g, 4, none⟩ c4).setCell ⟨g, 5, none⟩ c5).setCell ⟨g, 6, none⟩ c6).alloc (.cells ds 30)) g #[c0, c1, c2, c3, c4, c5, c6] n ds := by
  subst hn
  show Aft w6 ((put7 w6 g c0 c1 c2 c3 c4 c5 c6).alloc (.cells ds 30)) g _ w6.heap.size _
  refine ⟨C7.old (C7.put h ..) _, C7.new _ _ _ (put7_size ..), fun b hb e5 e6 => (Below.heap_alloc _ _ b (by rw [put7_size]; exact hb)).trans (put7_other _ g b e5 ..), ?_, ?_, ?_, ?_⟩
  · rw [World.size_alloc, put7_size]
    exact Nat.le_succ _
  · simp only [World.alloc]; exact (put7_rest w6 g c0 c1 c2 c3 c4 c5 c6).1
  · simp only [World.alloc]; exact (put7_rest w6 g c0 c1 c2 c3 c4 c5 c6).2.1
  · simp only [World.alloc]; exact (put7_rest w6 g c0 c1 c2 c3 c4 c5 c6).2.2
theorem Aft.nn (w6 : World) (cs ds : Array Value) (n m : Nat) (hn : w6.heap.size = n) (hm : n + 1 = m) : Aft w6 ((w6.alloc (.cells cs 30)).alloc (.cells ds 30)) n cs m ds := by
  subst hn
  subst hm
  refine ⟨C7.old (C7.new _ _ _ rfl) _, C7.new _ _ _ (by simp), fun b hb _ _ => ?_, ?_, rfl, rfl, rfl⟩
  · rw [Below.heap_alloc _ _ b (by simp; omega), Below.heap_alloc _ _ b hb]
  · simp; omega
theorem two_of {w0 w6 wx : World} {x y : V} {g5 g6 lo5 B5 lo6 B6 : Nat} {k3 h3 k4 h4 : Int} {t3 t4 : ByteArray} {A33 A43 A53 A34 A44 A54 : Option Addr} {n33 c33 n43 c43 n53 c53 n34 c34 n44 c44 n54 c54 : Nat}
    (ha : Aft w6 wx g5 #[.int .i64 k3, .int .i64 h3, .string t3, .slice A33 n33 c33, .slice A43 n43 c43, .slice A53 n53 c53, .int .i64 (starts_end x y)] g6 #[.int .i64 k4, .int .i64 h4, .string t4, .slice A34 n34 c34, .slice A44 n44 c44, .slice A54 n54 c54, .int .i64 (ends_end x y)])
    (f5 : RdF w6 lo5 B5 (starts x y) [.int .i64 k3, .int .i64 h3, .string t3, .slice A33 n33 c33, .slice A43 n43 c43, .slice A53 n53 c53])
    (f6 : RdF w6 lo6 B6 (ends x y) [.int .i64 k4, .int .i64 h4, .string t4, .slice A34 n34 c34, .slice A44 n44 c44, .slice A54 n54 c54])
    (hb : Below w0.heap.size w0 w6) (hn : B5 ≤ w6.heap.size ∧ B6 ≤ w6.heap.size ∧ (g5 < lo5 ∨ B5 ≤ g5) ∧ (g6 < lo5 ∨ B5 ≤ g6) ∧ (g5 < lo6 ∨ B6 ≤ g5) ∧ (g6 < lo6 ∨ B6 ≤ g6) ∧ w0.heap.size ≤ g5 ∧ w0.heap.size ≤ g6) :
    Two w0 x y (.pointer (some ⟨g5, 0, none⟩)) (.pointer (some ⟨g6, 0, none⟩)) wx := by
  obtain ⟨a1, a2, a3, a4, a5, a6, a7⟩ := ha
  obtain ⟨n1, n2, n3, n4, n5, n6, n7, n8⟩ := hn
  refine ⟨g5, g6, k3, h3, t3, A33, n33, c33, A43, n43, c43, A53, n53, c53, k4, h4, t4, A34, n34, c34, A44, n44, c44, A54, n54, c54, rfl, rfl, a1, a2, ?_, ?_, ?_⟩
  · exact Rd.mono (Nat.le_trans n1 a4) _ _ (f5 wx fun b h1 h2 => a3 b (by omega) (by omega) (by omega))
  · exact Rd.mono (Nat.le_trans n2 a4) _ _ (f6 wx fun b h1 h2 => a3 b (by omega) (by omega) (by omega))
  · exact hb.trans ⟨a5, a6, a7, a4, fun b hb' => a3 b (by have := hb.size; omega) (by omega) (by omega)⟩

end Go.Proofs.YtpamlgdcnmcedaaDoor
