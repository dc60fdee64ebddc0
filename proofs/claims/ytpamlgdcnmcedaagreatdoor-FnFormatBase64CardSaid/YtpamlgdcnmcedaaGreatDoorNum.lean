/-
  Numbers on their way: impl.toGo, funcOpPlus, impl.fromGo, impl.half, impl.result at a number; spec.Cmp, spec.Same, told, given at numbers.
-/
import Derived.Test.YtpamlgdcnmcedaaGreatDoorFit
import Derived.Test.YtpamlgdcnmcedaaGreatDoorFl
import Derived.Test.YtpamlgdcnmcedaaGreatDoorTa
namespace Go.Proofs.YtpamlgdcnmcedaaGreatDoor
set_option linter.unusedVariables false
set_option linter.unusedSimpArgs false
open Go.RowKit

/-- What toGo makes of a number (twice it is h). -/
def numA (h : Int) : Value := if h.tmod 2 = 0 then .iface 3 (.int .i64 (h.tdiv 2)) else .iface 60 (.float .f64 (Fl.half h))
theorem numA_even {h : Int} (e : h.tmod 2 = 0) : numA h = .iface 3 (.int .i64 (h.tdiv 2)) := if_pos e
theorem numA_odd {h : Int} (e : ¬ h.tmod 2 = 0) : numA h = .iface 60 (.float .f64 (Fl.half h)) := if_neg e
theorem ret_pair {v v' u : Value} (h : v = v') : Ending.returned (.tuple #[v, u]) = .returned (.tuple #[v', u]) := by rw [h]
theorem run_fdiv2 {P : Program} (t : TypeId) (h : Int) (h0 : h ≠ 0) (h1 : -9007199254740992 < h) (h2 : h < 9007199254740992) (w : World) :
    (binOp .quo t (.float .f64 (Fl.whole h)) (.float .f64 4611686018427387904)).run P w = .ok (.float .f64 (Fl.half h)) w := by
  have := Fl.div_two h h0 h1 h2
  simp [binOp, Op.floatArith, FloatKind.format, this]
theorem run_itof {P : Program} (src dst : TypeId) (h : Int) (hs : (P.underlying src).isSome = true) (hd : P.underlying dst = some (.float .f64)) (w : World) :
    (convert src dst (.int .i64 h)).run P w = .ok (.float .f64 (Fl.whole h)) w := by
  obtain ⟨s, hs'⟩ := Option.isSome_iff_exists.1 hs
  cases s <;> simp [convert, run_underlying hs', run_underlying hd, Conv.intToFloat, Fl.whole]

set_option maxHeartbeats 400000 in
theorem toGo_num (h : Int) (t : ByteArray) (v3 v4 v5 : Value) (w : World) (hB : okB h) :
    Calls Tryz.prog 14 #[.agg #[.int .i64 3, .int .i64 h, .string t, v3, v4, v5]] w fun e w' => e = .returned (.tuple #[numA h, .bool true]) ∧ Below w.heap.size w w' := by
  obtain ⟨b1, b2, b3⟩ := hB
  by_cases hev : h.tmod 2 = 0
  · have hb : (h.tmod 2 == 0) = true := by simp [hev]
    have HE := Sec.mk hev
    clear b3 hev
    go_enter Tryz.func14, Tryz.ntmps14
    go_wp2
    go_ret2
    exact ⟨ret_pair (numA_even HE.out).symm, (Below.refl _ _).alloc (Nat.le_refl _) _⟩
  · have hb : (h.tmod 2 == 0) = false := by simp [hev]
    obtain ⟨c1, c2⟩ := b3.resolve_left hev
    have h0 : h ≠ 0 := fun e => hev (by rw [e]; rfl)
    have r1 := fun w => run_itof (P := Tryz.prog) 3 60 h (by kernel_rfl) Tryz.underlying60 w
    have r2 := fun w => run_fdiv2 (P := Tryz.prog) 60 h h0 c1 c2 w
    have HE := Sec.mk hev
    clear b3 hev h0
    go_enter Tryz.func14, Tryz.ntmps14
    go_wp2
    go_ret2
    exact ⟨ret_pair (numA_odd HE.out).symm, (Below.refl _ _).alloc (Nat.le_refl _) _⟩

theorem run_fmul2 {P : Program} (t : TypeId) (h : Int) (h0 : h ≠ 0) (h1 : -9007199254740992 < h) (h2 : h < 9007199254740992) (w : World) :
    (binOp .mul t (.float .f64 4611686018427387904) (.float .f64 (Fl.half h))).run P w = .ok (.float .f64 (Fl.whole h)) w := by
  have := Fl.two_mul h h0 h1 h2
  simp [binOp, Op.floatArith, FloatKind.format, this]
theorem run_trunc {P : Program} (h : Int) (h0 : h ≠ 0) (h1 : -9007199254740992 < h) (h2 : h < 9007199254740992) (w : World) :
    (Extern.MathFloor.toIntegral "math.archTrunc" .zero #[.float .f64 (Fl.whole h)]).run P w = .ok (.float .f64 (Fl.whole h)) w := by
  have ht := Fl.trunc_whole h h0 h1 h2
  obtain ⟨m, p, e⟩ := Fl.not_nan h h0 h1 h2
  have e' : FloatKind.f64.decode (Fl.whole h) = .number (decide (h < 0)) m p := e
  have ht' : FloatKind.f64.encode ((Ieee.Datum.number (decide (h < 0)) m p).integral .zero) = Fl.whole h := by rw [← e]; exact ht
  show (match FloatKind.f64.decode (Fl.whole h) with
    | .nan s t =>
      if FloatKind.f64.format.quiet t = t then pure (.float .f64 (Fl.whole h)) else do
      let kept ← choose (.extern "math.Floor,Ceil,Trunc,RoundToEven.signallingNaN kept" 2)
      pure (.float .f64 (if kept == 1 then Fl.whole h else FloatKind.f64.encode (.nan s (FloatKind.f64.format.quiet t))))
    | d => pure (.float .f64 (FloatKind.f64.encode (d.integral .zero))) : Sem Value).run P w = _
  rw [e']
  show (pure (.float .f64 (FloatKind.f64.encode ((Ieee.Datum.number (decide (h < 0)) m p).integral .zero))) : Sem Value).run P w = _
  rw [ht']
  rfl
theorem run_archTrunc (h : Int) (h0 : h ≠ 0) (h1 : -9007199254740992 < h) (h2 : h < 9007199254740992) (w : World) :
    (callFunc 92 #[.float .f64 (Fl.whole h)]).run Tryz.prog w = .ok (.value (.float .f64 (Fl.whole h))) w := by
  rw [run_callFunc_extern (e := Extern.MathFloor.toIntegral "math.archTrunc" .zero) Tryz.func92 (by kernel_rfl) (by kernel_rfl) (by kernel_rfl) (by kernel_rfl), run_trunc h h0 h1 h2]
  rfl
theorem run_ftoi {P : Program} (src dst : TypeId) (h : Int) (hs : P.underlying src = some (.float .f64)) (hd : P.underlying dst = some (.int .i64)) (h0 : h ≠ 0) (h1 : -9007199254740992 < h) (h2 : h < 9007199254740992) (w : World) :
    (convert src dst (.float .f64 (Fl.whole h))).run P w = .ok (.int .i64 h) w := by
  have ht := Fl.toInt_whole h h0 h1 h2
  simp only [convert, run_underlying hs, run_underlying hd, Conv.floatToInt, FloatKind.decode, FloatKind.format]
  have hm : IntKind.i64.min ≤ h ∧ h ≤ IntKind.i64.max := by
    have e1 : IntKind.i64.min = -9223372036854775808 := by decide
    have e2 : IntKind.i64.max = 9223372036854775807 := by decide
    rw [e1, e2]; omega
  simp [run_underlying hs, run_underlying hd, Conv.floatToInt, FloatKind.decode, FloatKind.format, ht, hm]
  intro hc
  omega

set_option maxHeartbeats 400000 in
set_option maxRecDepth 100000 in
theorem half_num (h : Int) (h0 : h ≠ 0) (h1 : -9007199254740992 < h) (h2 : h < 9007199254740992) (w : World) :
    Calls Tryz.prog 56 #[.float .f64 (Fl.whole h)] w fun e w' => e = .returned (.tuple #[.agg #[.int .i64 3, .int .i64 h, .string ⟨#[]⟩, .slice none 0 0, .slice none 0 0, .slice none 0 0], .bool true]) ∧ Below w.heap.size w w' := by
  have r1 := fun w => run_archTrunc h h0 h1 h2 w
  have r2 := fun w => run_ftoi (P := Tryz.prog) 60 3 h Tryz.underlying60 Tryz.underlying3 h0 h1 h2 w
  have o1 := Fl.order_self h h0 h1 h2
  have o2 := Fl.order_62 h h0 h1 h2
  have o3 := Fl.order_m62 h h0 h1 h2
  have o1' : FloatKind.f64.format.order (Fl.whole h) (Fl.whole h) = some .eq := o1
  have o2' : FloatKind.f64.format.order (Fl.whole h) 4886405595696988160 = some .lt := o2
  have o3' : FloatKind.f64.format.order (Fl.whole h) 14109777632551763968 = some .gt := o3
  clear o1 o2 o3 h0
  go_enter Tryz.func56, Tryz.ntmps56
  go_wp2
  exact bodyPost_ret (v := .tuple #[.agg #[.int .i64 3, .int .i64 h, .string ⟨#[]⟩, .slice none 0 0, .slice none 0 0, .slice none 0 0], .bool true]) (by simp [results, Tryz.results56, go_sem]) rfl ⟨rfl, (Below.refl _ _).alloc (Nat.le_refl _) _⟩

/-- A block that was laid: its cells, and that they can be written, in a later world. -/
theorem laid_after (w : World) (cs : Array Value) (T : TypeId) (w' : World) (h : Below (w.alloc (.cells cs T)).heap.size (w.alloc (.cells cs T)) w') :
    (∀ j v, cs[j]? = some v → w'.cell? ⟨w.heap.size, j, none⟩ = some v) ∧ (∀ j, w'.frozen? ⟨w.heap.size, j, none⟩ = false) ∧ w.heap.size < w'.heap.size := by
  have hb := h.block w.heap.size (by simp)
  have e : w'.heap[w.heap.size]? = some (.cells cs T (0, 0)) := by rw [hb]; exact heap_alloc_new w _
  exact ⟨fun j v hj => by simp [World.cell?, e, hj], fun j => by simp [World.frozen?, e], by have := h.size; simp at this; omega⟩

theorem below_laid {w w' : World} {o : Obj} (h : Below (w.alloc o).heap.size (w.alloc o) w') : Below w.heap.size w w' :=
  ((Below.refl _ _).alloc (Nat.le_refl _) _).trans (h.mono (by simp))
theorem below_set {B : Nat} {a w : World} {b i : Nat} {v : Value} (h : Below B a w) (hb : B ≤ b) : Below B a (w.setCell ⟨b, i, none⟩ v) := h.setCell hb v
theorem below_then {w w1 w2 : World} (h : Below w.heap.size w w1) (k : Below w1.heap.size w1 w2) : Below w.heap.size w w2 := h.trans (k.mono h.size)
theorem below_then' {w w1 w2 : World} (h : Below w.heap.size w w1) (k : Below w1.heap.size w1 w2) : Below w.heap.size w w2 := h.trans (k.mono h.size)
def zeroV : Array Value := #[.int .i64 0, .int .i64 0, .string ⟨#[]⟩, .slice none 0 0, .slice none 0 0, .slice none 0 0]

set_option maxHeartbeats 400000 in
set_option maxRecDepth 100000 in
theorem fromGo_num (h : Int) (w : World) (hB : okB h) :
    Calls Tryz.prog 41 #[numA h] w fun e w' => e = .returned (.tuple #[.agg #[.int .i64 3, .int .i64 h, .string ⟨#[]⟩, .slice none 0 0, .slice none 0 0, .slice none 0 0], .bool true]) ∧ Below w.heap.size w w' := by
  obtain ⟨b1, b2, b3⟩ := hB
  by_cases hev : h.tmod 2 = 0
  · rw [numA_even hev]
    have hdm := Int.mul_tdiv_add_tmod h 2
    rw [hev] at hdm
    have h2 : wrap64 (2 * h.tdiv 2) = h := by unfold wrap64; omega
    have l1 : decide (-4611686018427387904 ≤ h.tdiv 2) = true := decide_eq_true (by omega)
    have l2 : decide (h.tdiv 2 ≤ 4611686018427387903) = true := decide_eq_true (by omega)
    have H2 := Sec.mk h2
    clear b3 hev hdm h2
    go_enter Tryz.func41, Tryz.ntmps41
    go_wp2
    refine bodyPost_ret (v := .tuple #[.agg #[.int .i64 3, .int .i64 (wrap64 (2 * h.tdiv 2)), .string ⟨#[]⟩, .slice none 0 0, .slice none 0 0, .slice none 0 0], .bool true]) (by simp [results, Tryz.results41, go_sem]) rfl ⟨by rw [H2.out], (Below.refl _ _).alloc (Nat.le_refl _) _⟩
  · rw [numA_odd hev]
    obtain ⟨c1, c2⟩ := b3.resolve_left hev
    have h0 : h ≠ 0 := fun e => hev (by rw [e]; rfl)
    have r1 := fun w => run_fmul2 (P := Tryz.prog) 60 h h0 c1 c2 w
    have cH := fun w => half_num h h0 c1 c2 w
    have CH := Sec.mk cH
    clear b3 hev h0 cH
    go_enter Tryz.func41, Tryz.ntmps41
    go_wp2_with (go_at_call 56; refine (CH.out _).mono ?_; intro e w1 hw1; obtain ⟨rfl, hb⟩ := hw1; have hl := laid_after _ _ _ _ hb; have HB := Sec.mk hb; obtain ⟨hc, hf, hz⟩ := hl; clear hb; have d0 := hc 0 _ rfl; have d1 := hc 1 _ rfl; have d2 := hc 2 _ rfl; have d3 := hc 3 _ rfl; have d4 := hc 4 _ rfl; have d5 := hc 5 _ rfl; have f0 := hf 0; have f1 := hf 1; have f2 := hf 2; have f3 := hf 3; have f4 := hf 4; have f5 := hf 5; clear hc hf)
    refine bodyPost_ret (v := .tuple #[.agg #[.int .i64 3, .int .i64 h, .string ⟨#[]⟩, .slice none 0 0, .slice none 0 0, .slice none 0 0], .bool true]) (by simp [results, Tryz.results41, go_sem, *]) rfl ⟨rfl, ?_⟩
    iterate 6 refine below_set ?_ (Nat.le_refl _)
    exact below_laid HB.out

set_option maxHeartbeats 400000 in
set_option maxRecDepth 100000 in
theorem result_num (h : Int) (w : World) (hB : okB h) :
    Calls Tryz.prog 22 #[numA h] w fun e w' => e = .returned (.agg #[.int .i64 3, .int .i64 h, .string ⟨#[]⟩, .slice none 0 0, .slice none 0 0, .slice none 0 0, .int .i64 0]) ∧ Below w.heap.size w w' := by
  have cF := fun w => fromGo_num h w hB
  have hta : ∀ W : World, (Instr.typeAssert (numA h) 20 47 true).run Tryz.prog W = .ok (.tuple #[.nilIface, .bool false]) W := by
    intro W
    by_cases hev : h.tmod 2 = 0
    · rw [numA_even hev]; exact taIntError _ _
    · rw [numA_odd hev]; exact taFloatError _ _
  have CF := Sec.mk cF
  clear cF hB
  generalize numA h = x at *
  go_enter Tryz.func22, Tryz.ntmps22
  go_wp2_with (go_at_call 41; refine (CF.out _).mono ?_; intro e w1 hw1; obtain ⟨rfl, hb⟩ := hw1; have hl := laid_after _ _ _ _ hb; have HB := Sec.mk hb; obtain ⟨hc, hf, hz⟩ := hl; clear hb; have d0 := hc 0 _ rfl; have d1 := hc 1 _ rfl; have d2 := hc 2 _ rfl; have d3 := hc 3 _ rfl; have d4 := hc 4 _ rfl; have d5 := hc 5 _ rfl; have d6 := hc 6 _ rfl; have f0 := hf 0; have f1 := hf 1; have f2 := hf 2; have f3 := hf 3; have f4 := hf 4; have f5 := hf 5; have f6 := hf 6; clear hc hf)
  refine bodyPost_ret (v := .agg #[.int .i64 3, .int .i64 h, .string ⟨#[]⟩, .slice none 0 0, .slice none 0 0, .slice none 0 0, .int .i64 0]) (by simp [results, Tryz.results22, go_sem, *]) rfl ⟨rfl, ?_⟩
  refine Below.alloc ?_ (by simp; omega) _
  iterate 7 refine below_set ?_ (Nat.le_refl _)
  exact below_laid HB.out

end Go.Proofs.YtpamlgdcnmcedaaGreatDoor
