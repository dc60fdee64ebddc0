/-
  What a door gives back: impl.result at a value that fromGo reads; laws.says and laws.told at what reads alike.
-/
import Derived.Test.YtpamlgdcnmcedaaGreatDoorNum
import Derived.Test.YtpamlgdcnmcedaaGreatDoorCmp
import Derived.Test.YtpamlgdcnmcedaaGreatDoorAny
import Derived.Laws.Rows
namespace Go.Proofs.YtpamlgdcnmcedaaGreatDoor
set_option linter.unusedVariables false
set_option linter.unusedSimpArgs false
open Go.RowKit

/-- cs reads as x, by blocks from lo on alone. -/
def RdF (w : World) (lo B : Nat) (x : V) (cs : List Value) : Prop := ∀ w', SameIn lo B w w' → Rd w' B x cs
theorem RdF.rd {w : World} {lo B : Nat} {x : V} {cs : List Value} (h : RdF w lo B x cs) : Rd w B x cs := h w fun _ _ _ => rfl
theorem RdF.same {w w' : World} {lo B lo' B' : Nat} {x : V} {cs : List Value} (h : RdF w lo B x cs) (hs : SameIn lo B w w') (hl : lo' ≤ lo) (hB : B ≤ B') : RdF w' lo' B' x cs := fun w'' hs' =>
  Rd.mono hB x cs (h w'' fun b h1 h2 => (hs' b (by omega) (by omega)).trans (hs b h1 h2))
theorem SameIn.trans {lo B : Nat} {a b c : World} (h : SameIn lo B a b) (k : SameIn lo B b c) : SameIn lo B a c := fun i h1 h2 => (k i h1 h2).trans (h i h1 h2)
theorem SameIn.set {lo B b i : Nat} {a w : World} {v : Value} (h : SameIn lo B a w) (hb : b < lo) : SameIn lo B a (w.setCell ⟨b, i, none⟩ v) := by
  intro j h1 h2
  rw [← h j h1 h2]
  exact heap_setCell_other w _ j v (by show j ≠ b; omega)
theorem SameIn.laid {lo B : Nat} {a w : World} {o : Obj} (h : SameIn lo B a w) (hB : B ≤ w.heap.size) : SameIn lo B a (w.alloc o) := by
  intro j h1 h2
  rw [← h j h1 h2]
  exact Below.heap_alloc w o j (by omega)

set_option maxHeartbeats 400000 in
set_option maxRecDepth 100000 in
theorem result_of (x : V) (v : Value) (w : World) (hta : ∀ W : World, (Instr.typeAssert v 20 47 true).run Tryz.prog W = .ok (.tuple #[.nilIface, .bool false]) W)
    (hF : ∀ W, Below w.heap.size w W → Calls Tryz.prog 41 #[v] W fun e w' => ∃ cs, e = .returned (.tuple #[.agg cs.toArray, .bool true]) ∧ RdF w' W.heap.size w'.heap.size x cs ∧ Below W.heap.size W w') :
    Calls Tryz.prog 22 #[v] w fun e w' => ∃ cs, e = .returned (.agg (cs ++ [Value.int .i64 0]).toArray) ∧ RdF w' w.heap.size w'.heap.size x cs ∧ Below w.heap.size w w' := by
  have CF := Sec.mk hF
  clear hF
  go_enter Tryz.func22, Tryz.ntmps22
  go_wp2_with fail
  refine (CF.out _ ((Below.refl _ _).alloc (Nat.le_refl _) _)).mono ?_
  intro e w1 hw1
  obtain ⟨cs, rfl, hf, hb⟩ := hw1
  obtain ⟨k2, h2', t2, A32, n32, c32, A42, n42, c42, A52, n52, c52, rfl⟩ := hf.rd.form
  have hl := laid_after _ _ _ _ hb
  have HB := Sec.mk hb
  have HF := Sec.mk hf
  obtain ⟨hc, hfr, hz⟩ := hl
  clear hb hf
  have d0 := hc 0 _ rfl
  have d1 := hc 1 _ rfl
  have d2 := hc 2 _ rfl
  have d3 := hc 3 _ rfl
  have d4 := hc 4 _ rfl
  have d5 := hc 5 _ rfl
  have d6 := hc 6 _ rfl
  have f0 := hfr 0
  have f1 := hfr 1
  have f2 := hfr 2
  have f3 := hfr 3
  have f4 := hfr 4
  have f5 := hfr 5
  have f6 := hfr 6
  clear hc hfr
  go_wp2_with fail
  refine bodyPost_ret (v := .agg #[.int .i64 k2, .int .i64 h2', .string t2, .slice A32 n32 c32, .slice A42 n42 c42, .slice A52 n52 c52, .int .i64 0]) (by simp [results, Tryz.results22, go_sem, *]) rfl ⟨[.int .i64 k2, .int .i64 h2', .string t2, .slice A32 n32 c32, .slice A42 n42 c42, .slice A52 n52 c52], rfl, ?_, ?_⟩
  · have hf := HF.out
    rw [World.size_alloc] at hf
    refine RdF.same hf ?_ (Nat.le_succ _) (by simp [World.setCell])
    refine SameIn.laid ?_ (by simp [World.setCell])
    iterate 7 refine SameIn.set ?_ (Nat.lt_succ_self _)
    exact fun _ _ _ => rfl
  · refine Below.alloc ?_ (by simp; omega) _
    iterate 7 refine below_set ?_ (Nat.le_refl _)
    exact below_laid HB.out


end Go.Proofs.YtpamlgdcnmcedaaGreatDoor
