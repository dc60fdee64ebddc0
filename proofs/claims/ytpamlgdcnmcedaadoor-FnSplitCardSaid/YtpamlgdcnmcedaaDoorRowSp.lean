/-
  laws.FnSplit, for every input: split cuts a string (not the empty one) at each place of another one, from the left, none over another; an error, if one of both is no string: the row, and the card that ties its listed variables. No condition.
-/
import Derived.Test.YtpamlgdcnmcedaaDoorSpLaw
import Derived.Test.YtpamlgdcnmcedaaDoorRowBase
import Derived.Test.YtpamlgdcnmcedaaDoorRows
import Derived.Test.YtpamlgdcnmcedaaDoorCards
import Derived.Test.YtpamlgdcnmcedaaDoorTie
import Derived.Lib.LaidIn
import Derived.Lib.LaidU8T
import Derived.Deep.DeepHandedRow
import Derived.Deep.DeepWitnessRowRef
import Derived.ProofKit
import Derived.ChangeMaps5
import Derived.SizedLaws
import Derived.SevenTiedAt
namespace Go.Proofs.YtpamlgdcnmcedaaDoor
set_option linter.unusedVariables false
set_option linter.unusedSimpArgs false
open Go.Shelf
open Go.ChangeShapes Go.WideShapes Go.ChangeAt Go.RowKit Go.Lib

def nullW : Value := .agg #[.int .i64 0, .int .i64 0, .string ⟨#[]⟩, .slice none 0 0, .slice none 0 0, .slice none 0 0]
theorem weigh_two {H : Type} {t : TypeId} {d0 d1 : DataW H} (h : (DataW.weightsEach Tryd.prog ([t, t] ++ []) ([d0, d1] ++ [])).all (· ≤ reachBytes) = true) : light (d0.weights Tryd.prog t) ∧ light (d1.weights Tryd.prog t) := by
  have e : DataW.weightsEach Tryd.prog ([t, t] ++ []) ([d0, d1] ++ []) = d0.weights Tryd.prog t ++ (d1.weights Tryd.prog t ++ []) := by
    rw [List.append_nil, List.append_nil, DataW.weightsEach, DataW.weightsEach]
    simp [DataW.weightsEach]
  rw [e] at h
  exact ⟨fun n hn => light_of h n (List.mem_append_left _ hn), fun n hn => light_of h n (List.mem_append_right _ (List.mem_append_left _ hn))⟩

theorem witness_row (os : Os) {H : Type} (enc : TypeId × Value → H) :
    (OpenSpec.ofChange Rows.fnSplitSpec).preRow enc Tryd.prog Tryd.f6 Rows.fnSplitRow.domain false Rows.fnSplitRow.laid ((laidWorld os).forCall (fun _ _ => 0) ⟨#[], #[nullW, nullW], []⟩).memory #[nullW, nullW] := by
  have hw : (DataW.whole enc Tryd.prog ((laidWorld os).forCall (fun _ _ => 0) ⟨#[], #[nullW, nullW], []⟩).memory Tryd.f6.params.toList (OpenSpec.ofChange Rows.fnSplitSpec).vars false #[nullW, nullW].toList 8).map (fun x => (x.1, x.2.1)) =
      some ([.agg [.lit (.int .i64 0), .lit (.int .i64 0), .lit (.string []), .nil, .nil, .nil], .agg [.lit (.int .i64 0), .lit (.int .i64 0), .lit (.string []), .nil, .nil, .nil]], []) := by kernel_rfl
  obtain ⟨⟨x1, x2, x3⟩, hx, hx1⟩ := Option.map_eq_some_iff.1 hw
  simp only [Prod.mk.injEq] at hx1
  obtain ⟨rfl, rfl⟩ := hx1
  exact OpenSpec.preRow_of_cond 8 hx (by kernel_rfl) (fun k hk => by cases hk) (by kernel_rfl) (laid_met os _)

set_option maxRecDepth 100000 in
set_option maxHeartbeats 2000000 in
theorem lifted (os : Os) (started : os.Started) (H : Type) (enc : TypeId × Value → H) (F : Stop.Interp) :
    ReturnsInHanded {} Tryd.checked os 6 .any ((OpenSpec.ofChange Rows.fnSplitSpec).preRow enc Tryd.prog Tryd.f6 Rows.fnSplitRow.domain false Rows.fnSplitRow.laid) (((OpenSpec.ofChange Rows.fnSplitSpec).at F).post enc Tryd.prog Tryd.f6 false true false false) := by
  refine returnsInHanded_of_row (C := Tryd.checked) (s := OpenSpec.ofChange Rows.fnSplitSpec) own started (by kernel_rfl) Tryd.func6
    (witness_row_atRef (enc := enc) (C := Tryd.checked) false (laidWorld os) #[nullW, nullW] rfl (by kernel_rfl) (by kernel_rfl) (by kernel_rfl) (witness_row os enc)) ?_
  intro W base args ds gs before hval0 hW _ _ hsz0 hL _ _
  have hsz : (DataW.weightsEach Tryd.prog (Tryd.f6.params.toList ++ (OpenSpec.ofChange Rows.fnSplitSpec).bare.plain.varTypes Tryd.prog) (ds ++ gs)).all (· ≤ reachBytes) = true := hsz0
  have hval : ∀ (j : Nat) t v, Tryd.f6.params[j]? = some t → args[j]? = some v → Value.okWide Tryd.prog W .any base t v := hval0
  have hW' := hW
  obtain ⟨p, q, hA0, hV0, rfl, _, _⟩ := hW
  have hA : DataW.TrodAll enc Tryd.prog W 0 (fun _ => true) true Tryd.f6.params.toList args.toList ds p := hA0
  rw [Tryd.params6] at hA hval hsz
  obtain ⟨v0, v1, d0, d1, p0, p1, rfl, rfl, rfl, h0, h1⟩ := trodAll_two hA
  obtain ⟨rfl, rfl⟩ := trodVars_none hV0
  clear hA0 hV0 hval0
  have k0 := h0
  have k1 := h1
  have lt0 : ∀ x ∈ p0, x.block < W.heap.size := by obtain ⟨m, hm⟩ := k0; exact DataW.trod_lt m _ _ _ hm
  have lt1 : ∀ x ∈ p1, x.block < W.heap.size := by obtain ⟨m, hm⟩ := k1; exact DataW.trod_lt m _ _ _ hm
  obtain ⟨l0, l1⟩ := weigh_two hsz
  obtain ⟨x, cs, rfl, hr⟩ := arg_V h0 l0
  obtain ⟨y, cs', rfl, hr'⟩ := arg_V h1 l1
  have htab : Tabs W := tabs_of hL
  have h2 : 2 ≤ W.heap.size := tabs_two htab
  refine (fnSplit_walk valid_said x y cs cs' W W.heap.size hr hr' htab h2 (Nat.le_refl _)).mono ?_
  rintro e W' ⟨rfl, bel⟩
  exact ⟨_, rfl, _, _, _, [], _, [], hW', trodAll_mk1 (shut_bool Tryd.underlying4 _), trodAll_mk2 (Below.trod laidOut (by kernel_rfl) (of_decide_eq_true (by kernel_rfl)) k0 bel lt0) (Below.trod laidOut (by kernel_rfl) (of_decide_eq_true (by kernel_rfl)) k1 bel lt1), rfl, bel.frame _, fun h => by cases h⟩

theorem fnSplit_said : Rows.FnSplitSaid :=
  OpenClaim.holds_of_cond 6 Tryd.f6 rfl rfl rfl rfl rfl rfl rfl ⟨rfl, rfl, rfl, rfl, rfl⟩ rfl rfl rfl rfl rfl (by kernel_rfl) Tryd.func6 (by kernel_rfl)
    (of_decide_eq_true (by kernel_rfl)) (by unfold Func.isWrapper; rw [if_neg (of_decide_eq_false (by kernel_rfl))]; exact ⟨rfl, rfl⟩)
    (fun os started H enc _ F0 => by rw [OpenClaim.pre_eq_preRow]; exact lifted os started H enc F0)

/-- THE CARD: the row, its two listed variables tied to the program's text. -/
theorem fnSplit_holds : Rows.FnSplitCardSaid :=
  Claim7.holds_tied_plain_at .later [] [.data, .pinned] true (true, "a46cf6fa662d2f0edcc7f550a7bd429eef9f8fd337266ef34c351142ef7131f2") true
    fnSplit_said (fun _ h => by cases h) (by kernel_rfl) (fun _ h => by cases h) fnSplit_row_tie rfl ⟨rfl, rfl⟩ (by kernel_rfl) rfl
    (fun f fn hf hfn => by
      obtain rfl : f = 6 := Option.some.inj ((show Tryd.prog.funcNamed "pub-strainer/laws.FnSplit" = some 6 by kernel_rfl).symm.trans hf) |>.symm
      obtain rfl : fn = Tryd.f6 := (Option.some.inj (Tryd.func6.symm.trans hfn)).symm
      exact ⟨by kernel_rfl, fun j t ht => by
        rw [Tryd.params6] at ht
        have h3 : t = 26 := by
          rcases j with _ | _ | j
          · simpa using ht.symm
          · simpa using ht.symm
          · simp at ht
        subst h3
        exact (show Tryd.prog.wantsStandIn 26 = false by kernel_rfl)⟩)
    (by kernel_rfl)
#print axioms fnSplit_holds

end Go.Proofs.YtpamlgdcnmcedaaDoor
