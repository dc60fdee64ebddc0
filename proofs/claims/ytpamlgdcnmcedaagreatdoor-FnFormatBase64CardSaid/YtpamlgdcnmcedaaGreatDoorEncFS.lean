/-
  The encoder's writer; and the text of a half, written.
-/
import Derived.Test.YtpamlgdcnmcedaaGreatDoorFmt
import Derived.Test.YtpamlgdcnmcedaaGreatDoorFl3
import Derived.Test.YtpamlgdcnmcedaaGreatDoorWrS
namespace Go.Proofs.YtpamlgdcnmcedaaGreatDoor
set_option linter.unusedVariables false
set_option linter.unusedSimpArgs false
open Go.RowKit
open Dc

theorem half_abs (h : Int) (h0 : h ≠ 0) (h1 : -9007199254740992 < h) (h2 : h < 9007199254740992) : Fl.half h = (if h < 0 then 9223372036854775808 else 0) + Fl.half (h.natAbs : Int) ∧ Fl.half (h.natAbs : Int) < 9223372036854775808 := by
  obtain ⟨u, hu, a, b⟩ := Fl.grow h.natAbs (by omega) (by omega)
  have e1 := Fl.nearest_up (decide (h < 0)) h.natAbs u (-1) a b (by omega) (by omega)
  have e2 := Fl.nearest_up false h.natAbs u (-1) a b (by omega) (by omega)
  have e3 : Fl.half h = Fl.C (decide (h < 0)) (h.natAbs * 2 ^ u) (-1 - u) := e1
  have e4 : Fl.half (h.natAbs : Int) = Fl.C false (h.natAbs * 2 ^ u) (-1 - u) := by
    have : Fl.half (h.natAbs : Int) = Ieee.double.nearest (decide ((h.natAbs : Int) < 0)) h.natAbs (-1) := rfl
    rw [this, decide_eq_false (by omega)]
    exact e2
  rw [e3, e4]
  unfold Fl.C
  have e : ((-1 - (u : Int)) + 1074).toNat = 1073 - u := by omega
  rw [e]
  generalize h.natAbs * 2 ^ u = k at *
  obtain ⟨f, hf⟩ : ∃ f, 1073 - u = f := ⟨_, rfl⟩
  rw [hf]
  by_cases hn : h < 0
  · rw [decide_eq_true hn, if_pos rfl, if_pos hn, if_neg (by decide)]; omega
  · rw [decide_eq_false hn, if_neg (by decide), if_neg hn]; omega
theorem andNot_top (x : Nat) (hx : x < 18446744073709551616) : bits BinOp.andNot IntKind.u64 (x : Int) 9223372036854775808 = ((x % 9223372036854775808 : Nat) : Int) := by
  have h1 : (BitVec.ofInt 64 (x : Int) &&& ~~~ (BitVec.ofInt 64 ((9223372036854775808 : Nat) : Int))).toNat = x % 9223372036854775808 := by
    rw [BitVec.toNat_and, BitVec.toNat_not, BitVec.ofInt_natCast, BitVec.ofInt_natCast, BitVec.toNat_ofNat, BitVec.toNat_ofNat, Nat.mod_eq_of_lt (by omega), Nat.mod_eq_of_lt (by omega)]
    rw [show 2 ^ 64 - 1 - 9223372036854775808 = 2 ^ 63 - 1 from by decide, Nat.and_two_pow_sub_one_eq_mod]
  show IntKind.u64.wrap ((BitVec.ofInt 64 (x : Int) &&& ~~~ (BitVec.ofInt 64 ((9223372036854775808 : Nat) : Int))).toNat : Int) = _
  rw [h1, Go.Proofs.YtpamlgdcnmcedaaGreatDoor.wrap_u64]
  omega

set_option maxHeartbeats 400000 in
set_option maxRecDepth 100000 in
theorem isNaN_half (h : Int) (w : World) (h0 : h ≠ 0) (h1 : -9007199254740992 < h) (h2 : h < 9007199254740992) :
    Calls Tryz.prog 64 #[.float .f64 (Fl.half h)] w fun e w' => e = .returned (.bool false) ∧ w' = w := by
  have o1 : FloatKind.f64.format.order (Fl.half h) (Fl.half h) = some .eq := Fl.order_half_self h h0 h1 h2
  clear h0
  go_enter Tryz.func64, Tryz.ntmps64
  go_wp2
  go_ret
  exact ⟨rfl, rfl⟩
theorem run_frombits (b : Nat) (w : World) : (callFunc 82 #[.int .u64 (b : Int)]).run Tryz.prog w = .ok (.value (.float .f64 b)) w := by
  rw [run_callFunc_extern (e := Extern.MathFloatBits.float64frombits) Tryz.func82 (by kernel_rfl) (by kernel_rfl) (by kernel_rfl) (by kernel_rfl)]
  rfl
set_option maxHeartbeats 400000 in
set_option maxRecDepth 100000 in
theorem abs_half (h : Int) (w : World) (h0 : h ≠ 0) (h1 : -9007199254740992 < h) (h2 : h < 9007199254740992) :
    Calls Tryz.prog 65 #[.float .f64 (Fl.half h)] w fun e w' => e = .returned (.float .f64 (Fl.half (h.natAbs : Int))) ∧ w' = w := by
  obtain ⟨e1, e2⟩ := half_abs h h0 h1 h2
  have rb := run_bits (Fl.half h)
  have hx : Fl.half h < 18446744073709551616 := by rw [e1]; split <;> omega
  have ea := andNot_top (Fl.half h) hx
  have em : Fl.half h % 9223372036854775808 = Fl.half (h.natAbs : Int) := by rw [e1]; split <;> omega
  rw [em] at ea
  have rf := run_frombits (Fl.half (h.natAbs : Int))
  clear h0 e1 e2 hx em
  generalize Fl.half (h.natAbs : Int) = Y at *
  generalize Fl.half h = X at *
  go_enter Tryz.func65, Tryz.ntmps65
  go_wp2_with fail
  go_ret
  exact ⟨rfl, rfl⟩

theorem figL_length {h : Int} (h1 : -1000000000000000000 < h) (h2 : h < 1000000000000000000) : (figL h).length ≤ 30 := by
  unfold figL halvesL
  have := digitsL_length 17 (h.natAbs / 2) (by omega)
  split <;> split <;> simp <;> omega

set_option maxHeartbeats 400000 in
set_option maxRecDepth 100000 in
theorem appendFloat_any (h : Int) (g : Nat) (it : Value) (cs : List Value) (w : World) (hE : EncB w g it cs) (ho : h.natAbs % 2 = 1) (h1 : -9007199254740992 < h) (h2 : h < 9007199254740992) :
    Calls Tryz.prog 66 #[.slice (some ⟨g, 1, none⟩) 0 64, .float .f64 (Fl.half h), .int .u8 102, .int .i64 (-1), .int .i64 64] w (AppIs w g it ⟨(figL h).toArray⟩) := by
  obtain ⟨i0, hi, hz0, hz1, hz2⟩ := info_parts infoB
  have CU := Sec.mk (fun W => formatFloat_any h W ho h1 h2)
  have HE := Sec.mk hE
  have HL := Sec.mk (figL_length (h := h) (by omega) (by omega))
  clear hE ho h1 h2
  generalize Fl.half h = X at *
  generalize figL h = l at *
  have hsz : (ByteArray.mk l.toArray).size = l.length := by show l.toArray.size = _; rw [List.size_toArray]
  have HSZ := Sec.mk hsz
  clear hsz
  generalize ByteArray.mk l.toArray = s at *
  go_enter Tryz.func66, Tryz.ntmps66
  go_wp2_with (first | (go_at_call 84; refine (CU.out _).mono ?_; intro e w1 hw1; obtain ⟨rfl, hb⟩ := hw1; have HB := Sec.mk hb; clear hb) | (at_builtin; refine wpList_append_enc rfl _ _ _ _ rfl 5 i0 Tryz.underlying45 Tryz.underlying9 hi hz1 g it cs rfl (HE.out.keep (HB.out.block g HE.out.lt)) s rfl (by rw [HSZ.out]; have := HL.out; omega) ?_; intro w2 hE2 hg2; have HE2 := Sec.mk hE2; have HG2 := Sec.mk hg2; clear hE2 hg2))
  go_ret
  exact ⟨rfl, ⟨_, HE2.out⟩, grown_of_below HB.out HG2.out⟩

set_option maxHeartbeats 3200000 in
set_option maxRecDepth 100000 in
theorem encF_any (h : Int) (B b g : Nat) (l : List UInt8) (w : World) (hS : St w B b g l) (ho : h.natAbs % 2 = 1) (h1 : -9007199254740992 < h) (h2 : h < 9007199254740992) (hz : l.length + 30 ≤ 1000000000) :
    Calls Tryz.prog 45 #[.pointer (some ⟨g, 0, none⟩), .float .f64 (Fl.half h)] w (EncPost w B b g l (figL h)) := by
  obtain ⟨cs, hE⟩ := hS.enc
  have o2 : FloatKind.f64.format.order (Fl.half h) 18442240474082181119 = some .gt := Fl.order_half_min h (by omega) h1 h2
  have o3 : FloatKind.f64.format.order (Fl.half h) 9218868437227405311 = some .lt := Fl.order_half_max h (by omega) h1 h2
  have p1 : FloatKind.f64.format.order (Fl.half (h.natAbs : Int)) 0 = some .gt := Fl.order_half_zero h.natAbs (by omega) (by omega)
  have p2 : FloatKind.f64.format.order (Fl.half (h.natAbs : Int)) 4517329193108106637 = some .gt := Fl.order_half_small h.natAbs (by omega) (by omega)
  have p3 : FloatKind.f64.format.order (Fl.half (h.natAbs : Int)) 4921056587992461136 = some .lt := Fl.order_half_large h.natAbs (by omega) (by omega)
  have CA := Sec.mk (fun W => (abs_half h W (by omega) h1 h2).mono fun e w' (hw : _ ∧ w' = W) => (⟨hw.1, hw.2.symm⟩ : _ ∧ W = w'))
  have CN := Sec.mk (fun W => (isNaN_half h W (by omega) h1 h2).mono fun e w' (hw : _ ∧ w' = W) => (⟨hw.1, hw.2.symm⟩ : _ ∧ W = w'))
  have CF := Sec.mk (appendFloat_any h g (wVal b) cs w hE ho h1 h2)
  have hlen := figL_length (h := h) (by omega) (by omega)
  generalize Fl.half (h.natAbs : Int) = Y at *
  generalize Fl.half h = X at *
  generalize figL h = T at *
  have d0 := hE.c0
  have rmx : ∀ (ts : Array TypeId) (t : TypeId) (W : World), (Builtin.max_ ts t #[.float .f64 X, .float .f64 18442240474082181119]).run Tryz.prog W = .ok (.float .f64 X) W := fun ts t W => by simp [Builtin.max_, Builtin.max2, o2]
  have rmn : ∀ (ts : Array TypeId) (t : TypeId) (W : World), (Builtin.min_ ts t #[.float .f64 X, .float .f64 9218868437227405311]).run Tryz.prog W = .ok (.float .f64 X) W := fun ts t W => by simp [Builtin.min_, Builtin.min2, o3]
  have HS := Sec.mk hS
  have HLN := Sec.mk (And.intro hlen hz)
  clear o2 o3 hS ho h1 h2 hlen hz
  unfold wVal at d0
  go_enter Tryz.func45, Tryz.ntmps45
  go_wp2_with (first | (go_at_call 64; refine (CN.out _).mono ?_; rintro e w' ⟨rfl, rfl⟩) | (go_at_call 65; refine (CA.out _).mono ?_; rintro e w' ⟨rfl, rfl⟩))
  refine CF.out.mono ?_
  rintro e w1 ⟨rfl, ⟨cs', hE1⟩, hg1⟩
  have d1 := hE1.c0
  unfold wVal at d1
  have hS1 := HS.out.mine hg1 ⟨_, hE1⟩
  have CW := Sec.mk (st_bytes (c := 64) ⟨T.toArray⟩ hS1 hE1 (by have := HLN.out; simp; omega))
  have HK := Sec.mk (Kp.of_grown (b := b) hg1 HS.out.base HS.out.size)
  generalize (ByteArray.mk T.toArray).size = n at *
  clear d0 p1 p2 p3 rmx rmn hE1 hg1 hS1 hE
  go_wp2_with fail
  refine CW.out.mono ?_
  rintro e w2 ⟨⟨v, rfl⟩, hS2, hk2⟩
  have FIN := Sec.mk (show EncPost w B b g l T (.returned (.tuple #[])) w2 from ⟨⟨_, rfl⟩, hS2, HK.out.trans hk2⟩)
  clear hS2 hk2
  go_wp2_with fail
  go_end0
  exact FIN.out

end Go.Proofs.YtpamlgdcnmcedaaGreatDoor
