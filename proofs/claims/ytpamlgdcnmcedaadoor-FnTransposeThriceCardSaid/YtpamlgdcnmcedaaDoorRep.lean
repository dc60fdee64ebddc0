/-
  impl.Repeat at a string and a whole number of halves: the doors.
-/
import Derived.Test.YtpamlgdcnmcedaaDoorNum
import Derived.Test.YtpamlgdcnmcedaaDoorFl2
import Derived.Test.YtpamlgdcnmcedaaDoorSays
import Derived.Test.YtpamlgdcnmcedaaDoorShelfR
namespace Go.Proofs.YtpamlgdcnmcedaaDoor
set_option linter.unusedVariables false
set_option linter.unusedSimpArgs false
open Go.RowKit

theorem run_min31 {P : Program} (ts : Array TypeId) (t : TypeId) (h : Int) (o : FloatKind.f64.format.order (Fl.whole h) 4746794007244308480 = some .lt) (w : World) :
    (Builtin.min_ ts t #[.float .f64 (Fl.whole h), .float .f64 4746794007244308480]).run P w = .ok (.float .f64 (Fl.whole h)) w := by
  simp [Builtin.min_, Builtin.min2, o]

set_option maxHeartbeats 400000 in
set_option maxRecDepth 100000 in
theorem isNaN_num (h : Int) (w : World) (h0 : h ≠ 0) (h1 : -9007199254740992 < h) (h2 : h < 9007199254740992) :
    Calls Tryd.prog 72 #[.float .f64 (Fl.whole h)] w fun e w' => e = .returned (.bool false) ∧ w' = w := by
  have o1' : FloatKind.f64.format.order (Fl.whole h) (Fl.whole h) = some .eq := Fl.order_self h h0 h1 h2
  clear h0
  go_enter Tryd.func72, Tryd.ntmps72
  go_wp2
  go_ret
  exact ⟨rfl, rfl⟩

set_option maxHeartbeats 400000 in
set_option maxRecDepth 100000 in
theorem lt_num (h : Int) (w : World) (h0 : h ≠ 0) (h1 : -9007199254740992 < h) (h2 : h < 9007199254740992) :
    Calls Tryd.prog 63 #[.float .f64 (Fl.whole h), .float .f64 0] w fun e w' => e = .returned (.bool (decide (h < 0))) ∧ w' = w := by
  have o1 := Fl.order_zero h h0 h1 h2
  have cN := fun w => isNaN_num h w h0 h1 h2
  by_cases hn : h < 0
  · rw [if_pos hn] at o1
    have o1' : FloatKind.f64.format.order (Fl.whole h) 0 = some .lt := o1
    rw [decide_eq_true hn]
    clear o1 cN h0 hn
    go_enter Tryd.func63, Tryd.ntmps63
    go_wp2
    go_ret
    exact ⟨rfl, rfl⟩
  · rw [if_neg hn] at o1
    have o1' : FloatKind.f64.format.order (Fl.whole h) 0 = some .gt := o1
    rw [decide_eq_false hn]
    have CN := Sec.mk cN
    clear o1 cN h0 hn
    go_enter Tryd.func63, Tryd.ntmps63
    go_wp2_with (go_at_call 72; refine (CN.out _).mono ?_; rintro e w' ⟨rfl, rfl⟩)
    go_ret
    exact ⟨rfl, rfl⟩

theorem wrap_small (x : Int) (h0 : 0 ≤ x) (h1 : x ≤ 4294967296) : IntKind.u64.wrap x = x := by
  have e1 : IntKind.u64.bits = 64 := rfl
  have e2 : IntKind.u64.signed = false := rfl
  unfold IntKind.wrap
  rw [e1, e2]
  simp only [Bool.false_and, Bool.false_eq_true, if_false]
  omega
set_option maxHeartbeats 400000 in
set_option maxRecDepth 100000 in
theorem repeatString_pos (s : ByteArray) (n : Nat) (w : World) (hn : 0 < n) (h1 : n ≤ 4096) (h2 : s.size ≤ 4096) (h3 : s.size * n ≤ 65536) :
    Calls Tryd.prog 52 #[.string s, .float .f64 (Fl.whole n)] w fun e w' => e = .returned (.iface 9 (.string ⟨(Lib.repeatL s.data.toList n).toArray⟩)) ∧ Below w.heap.size w w' := by
  have cL := fun w => lt_num n w (by omega) (by omega) (by omega)
  have cR := fun w => Tryd.strings_Repeat s n w (by omega) (by omega)
  have o : FloatKind.f64.format.order (Fl.whole n) 4746794007244308480 = some .lt := Fl.order_31 n (by omega) (by omega) (by omega)
  have r1 := fun ts t w => run_min31 (P := Tryd.prog) ts t n o w
  have r2 := fun w => run_ftoi (P := Tryd.prog) 64 3 n Tryd.underlying64 Tryd.underlying3 (by omega) (by omega) (by omega) w
  have hd : decide ((n : Int) < 0) = false := decide_eq_false (by omega)
  rw [hd] at cL
  have CL := Sec.mk cL
  have CR := Sec.mk cR
  have u1 : IntKind.u64.wrap (s.size : Int) = s.size := wrap_small _ (by omega) (by omega)
  have u2 : IntKind.u64.wrap (n : Int) = n := wrap_small _ (by omega) (by omega)
  have h4 : (s.size : Int) * (n : Int) ≤ 65536 := by
    have := Int.ofNat_le.2 h3
    rwa [Int.natCast_mul] at this
  have h5 : 0 ≤ (s.size : Int) * (n : Int) := Int.mul_nonneg (by omega) (by omega)
  have u3 : IntKind.u64.wrap ((s.size : Int) * (n : Int)) = (s.size : Int) * (n : Int) := wrap_small _ h5 (by omega)
  have u4 : decide ((2147483647 : Int) ≤ (s.size : Int) * (n : Int)) = false := decide_eq_false (by omega)
  clear cL cR o hd h1 h2 h3 h4 h5
  go_enter Tryd.func52, Tryd.ntmps52
  go_upto_region 4 with (go_at_call 63; refine (CL.out _).mono ?_; rintro e w1 ⟨rfl, rfl⟩)
  go_wp2_with (go_at_call 64; refine (CR.out _).mono ?_; intro e w1 hw1; obtain ⟨rfl, hb⟩ := hw1; have HB := Sec.mk hb; clear hb)
  go_ret
  exact ⟨rfl, HB.out⟩

set_option maxHeartbeats 400000 in
set_option maxRecDepth 100000 in
theorem repeatString_neg (s : ByteArray) (n : Int) (w : World) (hn : n < 0) (h1 : -4096 ≤ n) :
    Calls Tryd.prog 52 #[.string s, .float .f64 (Fl.whole n)] w fun e w' => e = .returned .nilIface ∧ w' = w := by
  have cL := fun w => lt_num n w (by omega) (by omega) (by omega)
  rw [decide_eq_true hn] at cL
  have CL := Sec.mk cL
  clear cL hn h1
  go_enter Tryd.func52, Tryd.ntmps52
  go_wp2_with (go_at_call 63; refine (CL.out _).mono ?_; rintro e w' ⟨rfl, rfl⟩)
  go_ret
  exact ⟨rfl, rfl⟩

/-- What Repeat makes of a string and a count that is not 0. -/
def repA (s : ByteArray) (n : Int) : Value := if 0 < n then .iface 9 (.string ⟨(Lib.repeatL s.data.toList n.toNat).toArray⟩) else .nilIface
def repV (s : ByteArray) (n : Int) : V := if 0 < n then .mk 4 0 ⟨(Lib.repeatL s.data.toList n.toNat).toArray⟩ [] [] [] else .mk 0 0 ⟨#[]⟩ [] [] []

theorem repeatString_any (s : ByteArray) (n : Int) (w : World) (hn : n ≠ 0) (h0 : -4096 ≤ n) (h1 : n ≤ 4096) (h2 : s.size ≤ 4096) (h3 : (s.size : Int) * n ≤ 65536) :
    Calls Tryd.prog 52 #[.string s, .float .f64 (Fl.whole n)] w fun e w' => e = .returned (repA s n) ∧ Below w.heap.size w w' := by
  by_cases hp : 0 < n
  · obtain ⟨m, rfl⟩ := Int.eq_ofNat_of_zero_le (Int.le_of_lt hp)
    rw [repA, if_pos hp, Int.toNat_natCast]
    refine repeatString_pos s m w (by omega) (by omega) h2 ?_
    rw [← Int.natCast_mul] at h3
    exact Int.ofNat_le.1 h3
  · rw [repA, if_neg hp]
    refine (repeatString_neg s n w (by omega) h0).mono ?_
    rintro e w' ⟨rfl, rfl⟩
    exact ⟨rfl, Below.refl _ _⟩

set_option maxHeartbeats 400000 in
set_option maxRecDepth 100000 in
theorem zzRepeat_any (s : ByteArray) (n : Int) (w : World) (hn : n ≠ 0) (h0 : -4096 ≤ n) (h1 : n ≤ 4096) (h2 : s.size ≤ 4096) (h3 : (s.size : Int) * n ≤ 65536) :
    Calls Tryd.prog 39 #[.string s, .float .f64 (Fl.whole n)] w fun e w' => e = .returned (repA s n) ∧ Below w.heap.size w w' := by
  have CR := Sec.mk (fun w => repeatString_any s n w hn h0 h1 h2 h3)
  clear hn h0 h1 h2 h3
  generalize repA s n = v at *
  go_enter Tryd.func39, Tryd.ntmps39
  go_wp2_with (go_at_call 52; refine (CR.out _).mono ?_; intro e w1 hw1; obtain ⟨rfl, hb⟩ := hw1; have HB := Sec.mk hb; clear hb)
  go_ret
  exact ⟨rfl, HB.out⟩

theorem rdF_plain {w : World} {lo B : Nat} {k : Int} {t : ByteArray} (ht : t.size ≤ reach) : RdF w lo B (.mk k 0 t [] [] []) [.int .i64 k, .int .i64 0, .string t, .slice none 0 0, .slice none 0 0, .slice none 0 0] := by
  intro w' _
  rw [Rd]
  exact ⟨none, 0, none, 0, none, 0, rfl, ht, ⟨Nat.le_refl _, by decide, by rw [RdL]; trivial⟩, ⟨Nat.le_refl _, by decide, fun i k hk => by simp at hk⟩, ⟨Nat.le_refl _, by decide, by rw [RdL]; trivial⟩⟩

set_option maxHeartbeats 400000 in
set_option maxRecDepth 100000 in
theorem fromGo_string (t : ByteArray) (w : World) (ht : t.size ≤ reach) :
    Calls Tryd.prog 45 #[.iface 9 (.string t)] w fun e w' => ∃ cs, e = .returned (.tuple #[.agg cs.toArray, .bool true]) ∧ RdF w' w.heap.size w'.heap.size (.mk 4 0 t [] [] []) cs ∧ Below w.heap.size w w' := by
  have HT := Sec.mk ht
  clear ht
  go_enter Tryd.func45, Tryd.ntmps45
  go_wp2
  refine bodyPost_ret (v := .tuple #[.agg #[.int .i64 4, .int .i64 0, .string t, .slice none 0 0, .slice none 0 0, .slice none 0 0], .bool true]) (by simp [results, Tryd.results45, go_sem]) rfl ⟨[.int .i64 4, .int .i64 0, .string t, .slice none 0 0, .slice none 0 0, .slice none 0 0], rfl, rdF_plain HT.out, (Below.refl _ _).alloc (Nat.le_refl _) _⟩

set_option maxHeartbeats 400000 in
set_option maxRecDepth 100000 in
theorem fromGo_nil (w : World) :
    Calls Tryd.prog 45 #[.nilIface] w fun e w' => ∃ cs, e = .returned (.tuple #[.agg cs.toArray, .bool true]) ∧ RdF w' w.heap.size w'.heap.size (.mk 0 0 ⟨#[]⟩ [] [] []) cs ∧ Below w.heap.size w w' := by
  go_enter Tryd.func45, Tryd.ntmps45
  go_wp2
  refine bodyPost_ret (v := .tuple #[.agg #[.int .i64 0, .int .i64 0, .string ⟨#[]⟩, .slice none 0 0, .slice none 0 0, .slice none 0 0], .bool true]) (by simp [results, Tryd.results45, go_sem]) rfl ⟨[.int .i64 0, .int .i64 0, .string ⟨#[]⟩, .slice none 0 0, .slice none 0 0, .slice none 0 0], rfl, rdF_plain (by decide), (Below.refl _ _).alloc (Nat.le_refl _) _⟩

theorem repeat_size (l : List UInt8) (c : Nat) : (ByteArray.mk (Lib.repeatL l c).toArray).size = c * l.length := by
  show (Lib.repeatL l c).toArray.size = _
  rw [List.size_toArray, Lib.repeatL_length]

theorem result_rep (s : ByteArray) (n : Int) (w : World) (h2 : s.size ≤ 4096) (h1 : n ≤ 4096) :
    Calls Tryd.prog 31 #[repA s n] w fun e w' => ∃ cs, e = .returned (.agg (cs ++ [Value.int .i64 0]).toArray) ∧ RdF w' w.heap.size w'.heap.size (repV s n) cs ∧ Below w.heap.size w w' := by
  unfold repA repV
  by_cases hp : 0 < n
  · rw [if_pos hp, if_pos hp]
    refine result_of _ _ w (fun W => taStringError _ W) fun W hb => fromGo_string _ W ?_
    rw [repeat_size]
    have : n.toNat * s.data.toList.length ≤ 4096 * 4096 := Nat.mul_le_mul (by omega) (by rw [Array.length_toList]; exact h2)
    exact Nat.le_trans this (by decide)
  · rw [if_neg hp, if_neg hp]
    exact result_of _ _ w (fun W => taNilError W) fun W hb => fromGo_nil W

set_option maxHeartbeats 400000 in
set_option maxRecDepth 100000 in
theorem repeatDoor_any (s : ByteArray) (n : Int) (w : World) (hn : n ≠ 0) (h0 : -4096 ≤ n) (h1 : n ≤ 4096) (h2 : s.size ≤ 4096) (h3 : (s.size : Int) * n ≤ 65536) :
    Calls Tryd.prog 26 #[.string s, .int .i64 (2 * n)] w fun e w' => ∃ cs, e = .returned (.agg (cs ++ [Value.int .i64 0]).toArray) ∧ RdF w' w.heap.size w'.heap.size (repV s n) cs ∧ Below w.heap.size w w' := by
  have r1 := fun w => run_itof (P := Tryd.prog) 3 64 (2 * n) (by kernel_rfl) Tryd.underlying64 w
  have r2 := fun w => run_fdiv2 (P := Tryd.prog) 64 (2 * n) (by omega) (by omega) (by omega) w
  rw [Fl.half_even n hn (by omega) (by omega)] at r2
  have CZ := Sec.mk (fun w => zzRepeat_any s n w hn h0 h1 h2 h3)
  have CR := Sec.mk (fun w => result_rep s n w h2 h1)
  clear hn h0 h1 h2 h3
  generalize repA s n = v at *
  go_enter Tryd.func26, Tryd.ntmps26
  go_wp2_with (go_at_call 39; refine (CZ.out _).mono ?_; intro e w1 hw1; obtain ⟨rfl, hb⟩ := hw1; have HZ := Sec.mk hb; clear hb)
  refine (CR.out _).mono ?_
  intro e w2 hw2
  obtain ⟨cs, rfl, hf, hb2⟩ := hw2
  obtain ⟨k2, h2', t2, A32, n32, c32, A42, n42, c42, A52, n52, c52, rfl⟩ := hf.rd.form
  have hb := below_then HZ.out hb2
  obtain ⟨hc, hfr, hz⟩ := laid_after _ _ _ _ hb
  have HB := Sec.mk hb
  have HF := Sec.mk hf
  have HS := Sec.mk HZ.out.size
  clear hb hb2 hf
  have d0 := hc 0 _ rfl
  have d1 := hc 1 _ rfl
  have d2 := hc 2 _ rfl
  have d3 := hc 3 _ rfl
  have d4 := hc 4 _ rfl
  have d5 := hc 5 _ rfl
  have d6 := hc 6 _ rfl
  have f0 := hfr 0
  have f1 := hfr 1
  have f2 := hfr 2
  have f3 := hfr 3
  have f4 := hfr 4
  have f5 := hfr 5
  have f6 := hfr 6
  clear hc hfr
  go_wp2_with fail
  refine bodyPost_ret (v := .agg #[.int .i64 k2, .int .i64 h2', .string t2, .slice A32 n32 c32, .slice A42 n42 c42, .slice A52 n52 c52, .int .i64 0]) (by simp [results, Tryd.results26, go_sem, *]) rfl ⟨[.int .i64 k2, .int .i64 h2', .string t2, .slice A32 n32 c32, .slice A42 n42 c42, .slice A52 n52 c52], rfl, ?_, ?_⟩
  · have hs := HS.out
    rw [World.size_alloc] at hs
    refine RdF.same HF.out ?_ (by omega) (by simp [World.setCell])
    iterate 7 refine SameIn.set ?_ (by omega)
    exact fun _ _ _ => rfl
  · iterate 7 refine below_set ?_ (Nat.le_refl _)
    exact below_laid HB.out

end Go.Proofs.YtpamlgdcnmcedaaDoor
