/-
  laws.FnTransposeThrice, for every input: the columns of the columns of the columns of rows are their columns: the row, and the card that ties its listed variables. No condition.
-/
import Derived.Test.YtpamlgdcnmcedaaDoorTpLaw
import Derived.Test.YtpamlgdcnmcedaaDoorFromAll
import Derived.Test.YtpamlgdcnmcedaaDoorRowBase
import Derived.Test.YtpamlgdcnmcedaaDoorRows
import Derived.Test.YtpamlgdcnmcedaaDoorCards
import Derived.Test.YtpamlgdcnmcedaaDoorTie
import Derived.Lib.LaidIn
import Derived.Lib.LaidU8T
import Derived.Deep.DeepHandedRow
import Derived.Deep.DeepWitnessRowRef
import Derived.ProofKit
import Derived.ChangeMaps5
import Derived.SizedLaws
import Derived.SevenTiedAt
namespace Go.Proofs.YtpamlgdcnmcedaaDoor
set_option linter.unusedVariables false
set_option linter.unusedSimpArgs false
open Go.Shelf
open Go.ChangeShapes Go.WideShapes Go.ChangeAt Go.RowKit Go.Lib


theorem bytesVs : 0 < Tryd.prog.bytesOf 23 := by rw [show Tryd.prog.bytesOf 23 = 24 by kernel_rfl]; omega
set_option maxRecDepth 100000 in
/-- An argument of the type [][]impl.Value, opened. -/
theorem arg_rows {H : Type} {enc : TypeId × Value → H} {W : World} {v : Value} {d : DataW H} {ps : List MemPlace} {base : Nat} (hv : Value.okWide Tryd.prog W .any base 32 v) (h : DataW.Trod enc Tryd.prog W 0 (fun _ => true) true 32 v d ps) (hw : light (d.weights Tryd.prog 32)) :
    ∃ (A : Option Addr) (c : Nat) (m : List (List V)), v = .slice A m.length c ∧ m.length ≤ reach ∧ RdRows W W.heap.size A m := by
  obtain ⟨a, len, cap, rfl⟩ := okWide_slice Tryd.underlying32 hv
  obtain ⟨fuel, hf⟩ := h
  obtain ⟨A, c, m, e, h1, h2, hr⟩ := open_row (β := List V) (p := fun cs r => ∃ A' c', cs = [.slice A' r.length c'] ∧ r.length ≤ c' ∧ c' ≤ reach ∧ RdL W W.heap.size A' 0 r) (n := fuel) Tryd.underlying32 (by rw [cellsVs]; omega) bytesVs (by omega) hf hw
    (fun m' cs' y hm' ht hwy => by
      obtain ⟨A', c', r, e, l1, l2, hr⟩ := open_row (β := V) (p := fun cs v => Rd W W.heap.size v cs) (n := m') Tryd.underlying23 (by rw [cellsV]; omega) bytesV (by omega) ht hwy (fun m'' cs'' y' hm'' ht' hwy' => open_V m' m'' hm'' cs'' y' ht' hwy')
      refine ⟨r, A', c', e, l1, l2, RdL.of r 0 fun i v hv => ?_⟩
      obtain ⟨ad, cs2, q1, q2, q3, _, q4⟩ := hr i v hv
      rw [cellsV] at q4
      exact ⟨ad, cs2, q1, q2, q3, fun j u hu => by rw [Nat.zero_add]; exact q4 j u hu⟩)
  have e' : Value.slice a len cap = .slice A m.length c := by
    have : [Value.slice a len cap] = [.slice A m.length c] := e
    exact (List.cons.inj this).1
  refine ⟨A, c, m, e', Nat.le_trans h1 h2, fun i r hi => ?_⟩
  obtain ⟨ad, cs', q1, q2, ⟨A', c', rfl, l1, l2, hl⟩, _, q4⟩ := hr i r hi
  rw [cellsVs] at q4
  have q5 := q4 0 _ rfl
  rw [Nat.mul_one, Nat.add_zero] at q5
  exact ⟨ad, A', c', q1, q2, q5, l1, Nat.le_trans l1 l2, hl⟩

def nilRows : Value := .slice none 0 0
theorem witness_row (os : Os) {H : Type} (enc : TypeId × Value → H) :
    (OpenSpec.ofChange Rows.fnTransposeThriceSpec).preRow enc Tryd.prog Tryd.f4 Rows.fnTransposeThriceRow.domain false Rows.fnTransposeThriceRow.laid ((laidWorld os).forCall (fun _ _ => 0) ⟨#[], #[nilRows], []⟩).memory #[nilRows] := by
  have hw : (DataW.whole enc Tryd.prog ((laidWorld os).forCall (fun _ _ => 0) ⟨#[], #[nilRows], []⟩).memory Tryd.f4.params.toList (OpenSpec.ofChange Rows.fnTransposeThriceSpec).vars false #[nilRows].toList 8).map (fun x => (x.1, x.2.1)) =
      some ([.nil], []) := by kernel_rfl
  obtain ⟨⟨x1, x2, x3⟩, hx, hx1⟩ := Option.map_eq_some_iff.1 hw
  simp only [Prod.mk.injEq] at hx1
  obtain ⟨rfl, rfl⟩ := hx1
  exact OpenSpec.preRow_of_cond 8 hx (by kernel_rfl) (fun k hk => by cases hk) (by kernel_rfl) (laid_met os _)

set_option maxRecDepth 100000 in
set_option maxHeartbeats 2000000 in
theorem lifted (FG : FromGoUpTo 1000000000) (os : Os) (started : os.Started) (H : Type) (enc : TypeId × Value → H) (F : Stop.Interp) :
    ReturnsInHanded {} Tryd.checked os 4 .any ((OpenSpec.ofChange Rows.fnTransposeThriceSpec).preRow enc Tryd.prog Tryd.f4 Rows.fnTransposeThriceRow.domain false Rows.fnTransposeThriceRow.laid) (((OpenSpec.ofChange Rows.fnTransposeThriceSpec).at F).post enc Tryd.prog Tryd.f4 false true false false) := by
  refine returnsInHanded_of_row (C := Tryd.checked) (s := OpenSpec.ofChange Rows.fnTransposeThriceSpec) own started (by kernel_rfl) Tryd.func4
    (witness_row_atRef (enc := enc) (C := Tryd.checked) false (laidWorld os) #[nilRows] rfl (by kernel_rfl) (by kernel_rfl) (by kernel_rfl) (witness_row os enc)) ?_
  intro W base args ds gs before hval0 hW _ _ hsz0 hL _ _
  have hsz : (DataW.weightsEach Tryd.prog (Tryd.f4.params.toList ++ (OpenSpec.ofChange Rows.fnTransposeThriceSpec).bare.plain.varTypes Tryd.prog) (ds ++ gs)).all (· ≤ reachBytes) = true := hsz0
  have hval : ∀ (j : Nat) t v, Tryd.f4.params[j]? = some t → args[j]? = some v → Value.okWide Tryd.prog W .any base t v := hval0
  have hW' := hW
  obtain ⟨p, q, hA0, hV0, rfl, _, _⟩ := hW
  have hA : DataW.TrodAll enc Tryd.prog W 0 (fun _ => true) true Tryd.f4.params.toList args.toList ds p := hA0
  rw [Tryd.params4] at hA hval hsz
  obtain ⟨v0, d0, rfl, rfl, h0⟩ := trodAll_one hA
  obtain ⟨rfl, rfl⟩ := trodVars_none hV0
  clear hA0 hV0 hval0
  have k0 := h0
  have lt0 : ∀ x ∈ p, x.block < W.heap.size := by obtain ⟨m, hm⟩ := k0; exact DataW.trod_lt m _ _ _ hm
  obtain ⟨A, c, m, rfl, hmr, hrows⟩ := arg_rows (hval 0 _ _ rfl rfl) h0 (light_one hsz)
  have htab : Tabs W := tabs_of hL
  have h2 : 2 ≤ W.heap.size := tabs_two htab
  refine (fnTranspose_all valid_said FG m A m.length c W W.heap.size hrows rfl hmr htab h2 (Nat.le_refl _)).mono ?_
  rintro e W' ⟨rfl, bel⟩
  exact ⟨_, rfl, _, _, _, [], _, [], hW', trodAll_mk1 (shut_bool Tryd.underlying4 _), trodAll_mk1 (Below.trod laidOut (by kernel_rfl) (of_decide_eq_true (by kernel_rfl)) k0 bel lt0), rfl, bel.frame _, fun h => by cases h⟩

theorem fnTransposeThrice_said (FG : FromGoUpTo 1000000000) : Rows.FnTransposeThriceSaid :=
  OpenClaim.holds_of_cond 4 Tryd.f4 rfl rfl rfl rfl rfl rfl rfl ⟨rfl, rfl, rfl, rfl, rfl⟩ rfl rfl rfl rfl rfl (by kernel_rfl) Tryd.func4 (by kernel_rfl)
    (of_decide_eq_true (by kernel_rfl)) (by unfold Func.isWrapper; rw [if_neg (of_decide_eq_false (by kernel_rfl))]; exact ⟨rfl, rfl⟩)
    (fun os started H enc _ F0 => by rw [OpenClaim.pre_eq_preRow]; exact lifted FG os started H enc F0)

/-- THE CARD: the row, its two listed variables tied to the program's text. -/
theorem fnTransposeThrice_holds_of (FG : FromGoUpTo 1000000000) : Rows.FnTransposeThriceCardSaid :=
  Claim7.holds_tied_plain_at .later [] [.data, .pinned] true (true, "a46cf6fa662d2f0edcc7f550a7bd429eef9f8fd337266ef34c351142ef7131f2") true
    (fnTransposeThrice_said FG) (fun _ h => by cases h) (by kernel_rfl) (fun _ h => by cases h) fnTransposeThrice_row_tie rfl ⟨rfl, rfl⟩ (by kernel_rfl) rfl
    (fun f fn hf hfn => by
      obtain rfl : f = 4 := Option.some.inj ((show Tryd.prog.funcNamed "pub-strainer/laws.FnTransposeThrice" = some 4 by kernel_rfl).symm.trans hf) |>.symm
      obtain rfl : fn = Tryd.f4 := (Option.some.inj (Tryd.func4.symm.trans hfn)).symm
      exact ⟨by kernel_rfl, fun j t ht => by
        rw [Tryd.params4] at ht
        have h3 : t = 32 := by
          rcases j with _ | j
          · simpa using ht.symm
          · simp at ht
        subst h3
        exact (show Tryd.prog.wantsStandIn 32 = false by kernel_rfl)⟩)
    (by kernel_rfl)

/-- THE CARD, WITHOUT A HYPOTHESIS. -/
theorem fnTransposeThrice_holds : Rows.FnTransposeThriceCardSaid := fnTransposeThrice_holds_of from_all
#print axioms fnTransposeThrice_holds

end Go.Proofs.YtpamlgdcnmcedaaDoor
