/-
  laws.FnPlus, for every input: + of a number is the number: the row, and the card that ties its listed variables. No condition.
-/
import Derived.Test.YtpamlgdcnmcedaaDoorPlus
import Derived.Test.YtpamlgdcnmcedaaDoorOpen
import Derived.Test.YtpamlgdcnmcedaaDoorShelfV
import Derived.Test.YtpamlgdcnmcedaaDoorRows
import Derived.Test.YtpamlgdcnmcedaaDoorCards
import Derived.Test.YtpamlgdcnmcedaaDoorTie
import Derived.Lib.LaidIn
import Derived.Lib.LaidU8T
import Derived.Deep.DeepHandedRow
import Derived.Deep.DeepWitnessRowRef
import Derived.ProofKit
import Derived.SizedLaws
import Derived.SevenTiedAt
namespace Go.Proofs.YtpamlgdcnmcedaaDoor
open Go.Shelf
open Go.ChangeShapes Go.WideShapes Go.ChangeAt Go.RowKit Go.Lib

theorem own : ownKnob Tryd.prog.godebug = none := by kernel_rfl
theorem laidOut : laidOutB Tryd.prog = true := by kernel_rfl

/-- THE WITNESS: the settled world, the two variables holding what their initialisers lay. -/
noncomputable def laidWorld (os : Os) : World :=
  let w0 := World.holding Tryd.prog os ⟨#[], #[], []⟩
  let put (h : Array Obj) (g : Nat) (cs : Array Value) : Array Obj := h.modify g fun
    | .cells _ t frozen => .cells cs t frozen
    | o => o
  let h1 := put w0.heap 0 (Lib.firstTab.map fun z => Value.int .u8 z).toArray
  let h2 := put h1 1 ((List.range 16).flatMap fun i => [Value.int .u8 (Lib.accLo i), Value.int .u8 (Lib.accHi i)]).toArray
  { w0 with heap := h2 }
theorem first_eq : Rows.laid_unicode_utf8_first = Lib.firstData := by kernel_rfl
theorem accept_eq : (Rows.laid_unicode_utf8_acceptRanges : DataW Unit) = Lib.acceptData := by kernel_rfl
theorem laid_met (os : Os) (args : Array Value) : laidMet Tryd.prog [("unicode/utf8.acceptRanges", Rows.laid_unicode_utf8_acceptRanges), ("unicode/utf8.first", Rows.laid_unicode_utf8_first)] ((laidWorld os).forCall (fun _ _ => 0) ⟨#[], args, []⟩).memory := by
  rw [first_eq, accept_eq]
  exact (LaidIn.of_run (l := [("unicode/utf8.acceptRanges", Lib.acceptData), ("unicode/utf8.first", Lib.firstData)]) [1, 0] 8 (by kernel_rfl) (by kernel_rfl) (by kernel_rfl) (by kernel_rfl)).met

/-- The argument of the witness: null. -/
def nullV : Value := .agg #[.int .i64 0, .int .i64 0, .string ⟨#[]⟩, .slice none 0 0, .slice none 0 0, .slice none 0 0]

theorem witness_row (os : Os) {H : Type} (enc : TypeId × Value → H) :
    (OpenSpec.ofChange Rows.fnPlusSpec).preRow enc Tryd.prog Tryd.f3 Rows.fnPlusRow.domain false Rows.fnPlusRow.laid ((laidWorld os).forCall (fun _ _ => 0) ⟨#[], #[nullV], []⟩).memory #[nullV] := by
  have hw : (DataW.whole enc Tryd.prog ((laidWorld os).forCall (fun _ _ => 0) ⟨#[], #[nullV], []⟩).memory Tryd.f3.params.toList (OpenSpec.ofChange Rows.fnPlusSpec).vars false #[nullV].toList 8).map (fun x => (x.1, x.2.1)) =
      some ([.agg [.lit (.int .i64 0), .lit (.int .i64 0), .lit (.string []), .nil, .nil, .nil]], []) := by kernel_rfl
  obtain ⟨⟨x1, x2, x3⟩, hx, hx1⟩ := Option.map_eq_some_iff.1 hw
  simp only [Prod.mk.injEq] at hx1
  obtain ⟨rfl, rfl⟩ := hx1
  exact OpenSpec.preRow_of_cond 8 hx (by kernel_rfl) (fun k hk => by cases hk) (by kernel_rfl) (laid_met os _)

theorem valid_said : ValidSaid := fun s w hs hT => Tryd.utf8_ValidString s w (Nat.le_trans hs (by decide)) hT

theorem tabs_of {W : World} (hL : laidMetH Tryd.prog [("unicode/utf8.acceptRanges", Rows.laid_unicode_utf8_acceptRanges), ("unicode/utf8.first", Rows.laid_unicode_utf8_first)] W) : Tabs W := by
  have hL' : laidMet Tryd.prog [("unicode/utf8.acceptRanges", Lib.acceptData), ("unicode/utf8.first", Lib.firstData)] W := by
    rw [← first_eq, ← accept_eq]; exact hL
  exact utf8Tabs_of_readsT (U8Types.of196 Tryd.lays196) ⟨by kernel_rfl, by kernel_rfl, by kernel_rfl, by kernel_rfl, by kernel_rfl, by kernel_rfl, by kernel_rfl⟩ (Lib.laidMet.reads hL' (.tail _ (.head _))) (Lib.laidMet.reads hL' (.head _))
theorem tabs_two {W : World} (h : Tabs W) : 2 ≤ W.heap.size := by
  have := World.block_lt_of_cell? W _ (h.2 0 (by omega)).1
  exact this
/-- An argument of the type impl.Value, opened. -/
theorem arg_V {H : Type} {enc : TypeId × Value → H} {W : World} {v : Value} {d : DataW H} {ps : List MemPlace} (h : DataW.Trod enc Tryd.prog W 0 (fun _ => true) true 26 v d ps) (hw : light (d.weights Tryd.prog 26)) :
    ∃ (x : V) (cs : List Value), v = .agg cs.toArray ∧ Rd W W.heap.size x cs := by
  obtain ⟨fuel, hf⟩ := h
  obtain ⟨x, hr⟩ := open_V fuel fuel (Nat.le_refl _) _ _ hf hw
  have hl := hr.length
  cases v with
  | agg c => exact ⟨x, c.toList, by simp, hr⟩
  | _ => simp [Value.cells] at hl
theorem light_of {l : List Nat} (h : l.all (· ≤ reachBytes) = true) : light l := by
  intro n hn
  have := List.all_eq_true.1 h n hn
  exact of_decide_eq_true this
theorem light_one {H : Type} {t : TypeId} {ts : List TypeId} {d : DataW H} (h : (DataW.weightsEach Tryd.prog ([t] ++ ts) ([d] ++ [])).all (· ≤ reachBytes) = true) : light (d.weights Tryd.prog t) := by
  intro n hn
  refine light_of h n ?_
  rw [List.singleton_append, List.singleton_append, DataW.weightsEach]
  exact List.mem_append_left _ hn

set_option maxRecDepth 100000 in
set_option maxHeartbeats 2000000 in
theorem lifted (os : Os) (started : os.Started) (H : Type) (enc : TypeId × Value → H) (F : Stop.Interp) :
    ReturnsInHanded {} Tryd.checked os 3 .any ((OpenSpec.ofChange Rows.fnPlusSpec).preRow enc Tryd.prog Tryd.f3 Rows.fnPlusRow.domain false Rows.fnPlusRow.laid) (((OpenSpec.ofChange Rows.fnPlusSpec).at F).post enc Tryd.prog Tryd.f3 false true false false) := by
  refine returnsInHanded_of_row (C := Tryd.checked) (s := OpenSpec.ofChange Rows.fnPlusSpec) own started (by kernel_rfl) Tryd.func3
    (witness_row_atRef (enc := enc) (C := Tryd.checked) false (laidWorld os) #[nullV] rfl (by kernel_rfl) (by kernel_rfl) (by kernel_rfl) (witness_row os enc)) ?_
  intro W base args ds gs before hval0 hW _ _ hsz0 hL _ _
  have hsz : (DataW.weightsEach Tryd.prog (Tryd.f3.params.toList ++ (OpenSpec.ofChange Rows.fnPlusSpec).bare.plain.varTypes Tryd.prog) (ds ++ gs)).all (· ≤ reachBytes) = true := hsz0
  have hval : ∀ (j : Nat) t v, Tryd.f3.params[j]? = some t → args[j]? = some v → Value.okWide Tryd.prog W .any base t v := hval0
  have hW' := hW
  obtain ⟨p, q, hA0, hV0, rfl, _, _⟩ := hW
  have hA : DataW.TrodAll enc Tryd.prog W 0 (fun _ => true) true Tryd.f3.params.toList args.toList ds p := hA0
  rw [Tryd.params3] at hA hval hsz
  obtain ⟨v0, d0, rfl, rfl, h0⟩ := trodAll_one hA
  obtain ⟨rfl, rfl⟩ := trodVars_none hV0
  clear hA0 hV0 hval0
  have k0 := h0
  have lt0 : ∀ x ∈ p, x.block < W.heap.size := by obtain ⟨m, hm⟩ := k0; exact DataW.trod_lt m _ _ _ hm
  obtain ⟨x, cs, rfl, hr⟩ := arg_V h0 (light_one hsz)
  have htab : Tabs W := tabs_of hL
  have h2 : 2 ≤ W.heap.size := tabs_two htab
  refine (fnPlus_walk valid_said x cs W W.heap.size hr htab h2 (Nat.le_refl _)).mono ?_
  rintro e W' ⟨rfl, bel⟩
  exact ⟨_, rfl, _, _, _, [], _, [], hW', trodAll_mk1 (shut_bool Tryd.underlying4 _), trodAll_mk1 (Below.trod laidOut (by kernel_rfl) (of_decide_eq_true (by kernel_rfl)) k0 bel lt0), rfl, bel.frame _, fun h => by cases h⟩

theorem fnPlus_said : Rows.FnPlusSaid :=
  OpenClaim.holds_of_cond 3 Tryd.f3 rfl rfl rfl rfl rfl rfl rfl ⟨rfl, rfl, rfl, rfl, rfl⟩ rfl rfl rfl rfl rfl (by kernel_rfl) Tryd.func3 (by kernel_rfl)
    (of_decide_eq_true (by kernel_rfl)) (by unfold Func.isWrapper; rw [if_neg (of_decide_eq_false (by kernel_rfl))]; exact ⟨rfl, rfl⟩)
    (fun os started H enc _ F0 => by rw [OpenClaim.pre_eq_preRow]; exact lifted os started H enc F0)

/-- THE CARD: the row, its two listed variables tied to the program's text. -/
theorem fnPlus_holds : Rows.FnPlusCardSaid :=
  Claim7.holds_tied_plain_at .later [] [.data, .pinned] true (true, "a46cf6fa662d2f0edcc7f550a7bd429eef9f8fd337266ef34c351142ef7131f2") true
    fnPlus_said (fun _ h => by cases h) (by kernel_rfl) (fun _ h => by cases h) fnPlus_row_tie rfl ⟨rfl, rfl⟩ (by kernel_rfl) rfl
    (fun f fn hf hfn => by
      obtain rfl : f = 3 := Option.some.inj ((show Tryd.prog.funcNamed "pub-strainer/laws.FnPlus" = some 3 by kernel_rfl).symm.trans hf) |>.symm
      obtain rfl : fn = Tryd.f3 := (Option.some.inj (Tryd.func3.symm.trans hfn)).symm
      exact ⟨by kernel_rfl, fun j t ht => by
        rw [Tryd.params3] at ht
        have h3 : t = 26 := by
          rcases j with _ | j
          · simpa using ht.symm
          · simp at ht
        subst h3
        exact (show Tryd.prog.wantsStandIn 26 = false by kernel_rfl)⟩)
    (by kernel_rfl)
#print axioms fnPlus_holds

end Go.Proofs.YtpamlgdcnmcedaaDoor
