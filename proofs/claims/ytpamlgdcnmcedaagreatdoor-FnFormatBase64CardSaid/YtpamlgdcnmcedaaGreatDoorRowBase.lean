/-
  What the rows share: the settled world with its tables, the arguments opened.
-/
import Derived.Test.YtpamlgdcnmcedaaGreatDoorLk
import Derived.Test.YtpamlgdcnmcedaaGreatDoorOpen
import Derived.Test.YtpamlgdcnmcedaaGreatDoorShelfV
import Derived.Test.YtpamlgdcnmcedaaGreatDoorRows
import Derived.Test.YtpamlgdcnmcedaaGreatDoorCards
import Derived.Test.YtpamlgdcnmcedaaGreatDoorTie
import Derived.Lib.LaidIn
import Derived.Lib.LaidU8T
import Derived.Deep.DeepHandedRow
import Derived.Deep.DeepWitnessRowRef
import Derived.ProofKit
import Derived.SizedLaws
import Derived.SevenTiedAt
namespace Go.Proofs.YtpamlgdcnmcedaaGreatDoor
set_option linter.unusedVariables false
set_option linter.unusedSimpArgs false
open Go.Shelf
open Go.ChangeShapes Go.WideShapes Go.ChangeAt Go.RowKit Go.Lib

theorem own : ownKnob Tryz.prog.godebug = none := by kernel_rfl
theorem laidOut : laidOutB Tryz.prog = true := by kernel_rfl

/-- THE WITNESS: the settled world, the two variables holding what their initialisers lay. -/
noncomputable def laidWorld (os : Os) : World :=
  let w0 := World.holding Tryz.prog os ⟨#[], #[], []⟩
  let put (h : Array Obj) (g : Nat) (cs : Array Value) : Array Obj := h.modify g fun
    | .cells _ t frozen => .cells cs t frozen
    | o => o
  let h1 := put w0.heap 0 (Lib.firstTab.map fun z => Value.int .u8 z).toArray
  let h2 := put h1 1 ((List.range 16).flatMap fun i => [Value.int .u8 (Lib.accLo i), Value.int .u8 (Lib.accHi i)]).toArray
  { w0 with heap := h2 }
theorem first_eq : Rows.laid_unicode_utf8_first = Lib.firstData := by kernel_rfl
theorem accept_eq : (Rows.laid_unicode_utf8_acceptRanges : DataW Unit) = Lib.acceptData := by kernel_rfl
theorem laid_met (os : Os) (args : Array Value) : laidMet Tryz.prog [("unicode/utf8.acceptRanges", Rows.laid_unicode_utf8_acceptRanges), ("unicode/utf8.first", Rows.laid_unicode_utf8_first)] ((laidWorld os).forCall (fun _ _ => 0) ⟨#[], args, []⟩).memory := by
  rw [first_eq, accept_eq]
  exact (LaidIn.of_run (l := [("unicode/utf8.acceptRanges", Lib.acceptData), ("unicode/utf8.first", Lib.firstData)]) [1, 0] 8 (by kernel_rfl) (by kernel_rfl) (by kernel_rfl) (by kernel_rfl)).met

theorem valid_said : ValidSaid := fun s w hs hT => Tryz.utf8_ValidString s w (Nat.le_trans hs (by decide)) hT

theorem tabs_of {W : World} (hL : laidMetH Tryz.prog [("unicode/utf8.acceptRanges", Rows.laid_unicode_utf8_acceptRanges), ("unicode/utf8.first", Rows.laid_unicode_utf8_first)] W) : Tabs W := by
  have hL' : laidMet Tryz.prog [("unicode/utf8.acceptRanges", Lib.acceptData), ("unicode/utf8.first", Lib.firstData)] W := by
    rw [← first_eq, ← accept_eq]; exact hL
  exact utf8Tabs_of_readsT (U8Types.of196 Tryz.lays196) ⟨by kernel_rfl, by kernel_rfl, by kernel_rfl, by kernel_rfl, by kernel_rfl, by kernel_rfl, by kernel_rfl⟩ (Lib.laidMet.reads hL' (.tail _ (.head _))) (Lib.laidMet.reads hL' (.head _))
theorem tabs_two {W : World} (h : Tabs W) : 2 ≤ W.heap.size := by
  have := World.block_lt_of_cell? W _ (h.2 0 (by omega)).1
  exact this
/-- An argument of the type impl.Value, opened. -/
theorem arg_V {H : Type} {enc : TypeId × Value → H} {W : World} {v : Value} {d : DataW H} {ps : List MemPlace} (h : DataW.Trod enc Tryz.prog W 0 (fun _ => true) true 26 v d ps) (hw : light (d.weights Tryz.prog 26)) :
    ∃ (x : V) (cs : List Value), v = .agg cs.toArray ∧ Rd W W.heap.size x cs := by
  obtain ⟨fuel, hf⟩ := h
  obtain ⟨x, hr⟩ := open_V fuel fuel (Nat.le_refl _) _ _ hf hw
  have hl := hr.length
  cases v with
  | agg c => exact ⟨x, c.toList, by simp, hr⟩
  | _ => simp [Value.cells] at hl
theorem light_of {l : List Nat} (h : l.all (· ≤ reachBytes) = true) : light l := by
  intro n hn
  have := List.all_eq_true.1 h n hn
  exact of_decide_eq_true this
theorem light_one {H : Type} {t : TypeId} {ts : List TypeId} {d : DataW H} (h : (DataW.weightsEach Tryz.prog ([t] ++ ts) ([d] ++ [])).all (· ≤ reachBytes) = true) : light (d.weights Tryz.prog t) := by
  intro n hn
  refine light_of h n ?_
  rw [List.singleton_append, List.singleton_append, DataW.weightsEach]
  exact List.mem_append_left _ hn

end Go.Proofs.YtpamlgdcnmcedaaGreatDoor
