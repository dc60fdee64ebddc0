/-
  strconv.FormatFloat at half of an odd number, in the form f, as short as can be.
-/
import Derived.Test.YtpamlgdcnmcedaaGreatDoorText
namespace Go.Proofs.YtpamlgdcnmcedaaGreatDoor
set_option linter.unusedVariables false
set_option linter.unusedSimpArgs false
open Go.RowKit
open Dc

theorem run_bits (b : Nat) (w : World) : (callFunc 83 #[.float .f64 b]).run Tryz.prog w = .ok (.value (.int .u64 (b : Int))) w := by
  rw [run_callFunc_extern (e := Extern.MathFloatBits.float64bits) Tryz.func83 (by kernel_rfl) (by kernel_rfl) (by kernel_rfl) (by kernel_rfl)]
  rfl

set_option maxHeartbeats 400000 in
theorem formOf_any (w : World) : Calls Tryz.prog 99 #[.int .i64 64] w fun e w' => e = .returned (.agg #[.int .i64 52, .int .i64 11, .int .i64 (-1023)]) ∧ Below w.heap.size w w' := by
  go_enter Tryz.func99, Tryz.ntmps99
  go_wp2_with fail
  exact bodyPost_ret (v := .agg #[.int .i64 52, .int .i64 11, .int .i64 (-1023)]) (by simp [results, Tryz.results99, go_sem]) rfl ⟨rfl, (Below.refl _ _).alloc (Nat.le_refl _) _⟩

/-- The word's parts. -/
theorem half_word (h : Int) (h0 : h ≠ 0) (h1 : -9007199254740992 < h) (h2 : h < 9007199254740992) : ∃ (u m s : Nat), u ≤ 52 ∧ m < 4503599627370496 ∧ m + 4503599627370496 = h.natAbs * 2 ^ u ∧ s = (if h < 0 then 1 else 0) ∧ Fl.half h = s * 9223372036854775808 + (1074 - u) * 4503599627370496 + m := by
  obtain ⟨u, hu, a, b, _, e2⟩ := Fl.shape h h0 h1 h2
  refine ⟨u, h.natAbs * 2 ^ u - 4503599627370496, if h < 0 then 1 else 0, hu, by omega, by omega, rfl, ?_⟩
  rw [e2]
  unfold Fl.C
  generalize h.natAbs * 2 ^ u = k at *
  have e : ((-1 - (u : Int)) + 1074).toNat = 1073 - u := by omega
  rw [e]
  obtain ⟨f, hf⟩ : ∃ f, 1073 - u = f := ⟨_, rfl⟩
  rw [show 1074 - u = f + 1 from by omega, hf]
  by_cases hn : h < 0
  · rw [decide_eq_true hn, if_pos rfl, if_pos hn]; omega
  · rw [decide_eq_false hn, if_neg (by decide), if_neg hn]; omega

theorem i64_and_nat (a b : Nat) (ha : a < 9223372036854775808) (hb : b < 9223372036854775808) : bits BinOp.and IntKind.i64 (a : Int) (b : Int) = ((a &&& b : Nat) : Int) := by
  have hab : a &&& b ≤ a := Nat.and_le_left
  have h1 : (BitVec.ofInt 64 (a : Int) &&& BitVec.ofInt 64 (b : Int)).toNat = a &&& b := by
    rw [BitVec.toNat_and, BitVec.ofInt_natCast, BitVec.ofInt_natCast, BitVec.toNat_ofNat, BitVec.toNat_ofNat, Nat.mod_eq_of_lt (by omega), Nat.mod_eq_of_lt (by omega)]
  show IntKind.i64.wrap ((BitVec.ofInt 64 (a : Int) &&& BitVec.ofInt 64 (b : Int)).toNat : Int) = _
  rw [h1]
  exact IntWalk.i64_in _ (by omega)
/-- The parts, as the walk asks for them. -/
theorem word_parts {X u m s : Nat} (hu : u ≤ 52) (hm : m < 4503599627370496) (hs : s ≤ 1) (hX : s * 9223372036854775808 + (1074 - u) * 4503599627370496 + m = X) :
    (X : Int) / 9223372036854775808 = (s : Int) ∧ (X : Int) / 4503599627370496 = ((s * 2048 + (1074 - u) : Nat) : Int) ∧ bits BinOp.and IntKind.i64 ((s * 2048 + (1074 - u) : Nat) : Int) 2047 = ((1074 - u : Nat) : Int) ∧
    bits BinOp.and IntKind.u64 (X : Int) 4503599627370495 = (m : Int) ∧ IntKind.i64.wrap ((s * 2048 + (1074 - u) : Nat) : Int) = ((s * 2048 + (1074 - u) : Nat) : Int) ∧ bits BinOp.or IntKind.u64 (m : Int) 4503599627370496 = ((m + 4503599627370496 : Nat) : Int) := by
  have hs' : s = 0 ∨ s = 1 := by omega
  refine ⟨by omega, by omega, ?_, ?_, IntWalk.i64_in _ (by omega), ?_⟩
  · have := i64_and_nat (s * 2048 + (1074 - u)) 2047 (by omega) (by omega)
    rw [show ((2047 : Nat) : Int) = 2047 from rfl] at this
    rw [this, show (2047 : Nat) = 2 ^ 11 - 1 from rfl, Nat.and_two_pow_sub_one_eq_mod]
    congr 1
    omega
  · have := bits_and_u64_nat X 4503599627370495 (by omega) (by omega)
    rw [show ((4503599627370495 : Nat) : Int) = 4503599627370495 from rfl] at this
    rw [this, show (4503599627370495 : Nat) = 2 ^ 52 - 1 from rfl, Nat.and_two_pow_sub_one_eq_mod]
    congr 1
    omega
  · have hor : m ||| 2 ^ 52 = m + 2 ^ 52 := by
      have := Nat.two_pow_add_eq_or_of_lt (i := 52) (b := m) (by omega) 1
      rw [Nat.mul_one] at this
      rw [Nat.or_comm, ← this, Nat.add_comm]
    have h1 : (BitVec.ofInt 64 (m : Int) ||| BitVec.ofInt 64 ((4503599627370496 : Nat) : Int)).toNat = m + 4503599627370496 := by
      rw [BitVec.toNat_or, BitVec.ofInt_natCast, BitVec.ofInt_natCast, BitVec.toNat_ofNat, BitVec.toNat_ofNat, Nat.mod_eq_of_lt (by omega), Nat.mod_eq_of_lt (by omega)]
      exact hor
    unfold bits
    show IntKind.u64.wrap (((BitVec.ofInt 64 (m : Int) ||| BitVec.ofInt 64 ((4503599627370496 : Nat) : Int)).toNat : Nat) : Int) = _
    rw [h1, wrap_u64]
    omega
theorem text_front (k : Nat) : (textOf (front k)).map UInt8.ofNat = digitsL (k / 2) ++ [46, 53] := by
  unfold textOf headOf front
  by_cases h : k / 2 = 0
  · rw [if_pos h, if_pos rfl, h, digitsL_small (by decide)]
    rfl
  · rw [if_neg h, if_neg (digs_ne _), List.map_append, List.map_append, List.map_map, digitsL_digs, List.append_assoc]
    congr 1
    apply List.map_congr_left
    intro d hd
    have := digs_ten _ d hd
    have : d = 0 ∨ d = 1 ∨ d = 2 ∨ d = 3 ∨ d = 4 ∨ d = 5 ∨ d = 6 ∨ d = 7 ∨ d = 8 ∨ d = 9 := by omega
    rcases this with rfl | rfl | rfl | rfl | rfl | rfl | rfl | rfl | rfl | rfl <;> rfl
/-- A decimal that was made of the word is half the number. -/
theorem made_half {n u K : Nat} {ds : List Nat} {dp : Int} (ho : n % 2 = 1) (hK : K = n * 2 ^ u) (nd : Nrm ds) (hv : DV ds dp K (u + 1)) : ds = front n ++ [5] ∧ dp = ((front n).length : Int) := by
  rw [hK, Nat.add_comm u 1] at hv
  exact DV.unique ((DV.twos u).1 hv) (half_dv n ho) nd (half_nrm n)
def signOf (h : Int) : ByteArray := if h < 0 then ⟨#[45]⟩ else ⟨#[]⟩

set_option maxHeartbeats 3200000 in
set_option maxRecDepth 100000 in
theorem formatFloat_any (h : Int) (w : World) (ho : h.natAbs % 2 = 1) (h1 : -9007199254740992 < h) (h2 : h < 9007199254740992) :
    Calls Tryz.prog 84 #[.float .f64 (Fl.half h), .int .u8 102, .int .i64 (-1), .int .i64 64] w fun e w' => e = .returned (.string ⟨(figL h).toArray⟩) ∧ Below w.heap.size w w' := by
  obtain ⟨u, m, s, hu, hm, hkm, hs, hw⟩ := half_word h (by omega) h1 h2
  have rb := run_bits (Fl.half h)
  rw [hw] at rb ⊢
  obtain ⟨X, hX⟩ : ∃ X, s * 9223372036854775808 + (1074 - u) * 4503599627370496 + m = X := ⟨_, rfl⟩
  rw [hX] at rb ⊢
  clear hw
  go_enter Tryz.func84, Tryz.ntmps84
  go_wp2_with fail
  refine (formOf_any _).mono ?_
  rintro e w1 ⟨rfl, hb1⟩
  have HB1 := Sec.mk hb1
  clear hb1
  go_upto_region 10 with fail
  generalize hgf : w1.heap.size = gf
  generalize hw2 : w1.alloc (.cells #[.int .i64 52, .int .i64 11, .int .i64 (-1023)] 166) = w2
  have hform : ∀ W, Below w2.heap.size w2 W → W.cell? ⟨gf, 0, none⟩ = some (.int .i64 52) ∧ W.cell? ⟨gf, 1, none⟩ = some (.int .i64 11) ∧ W.cell? ⟨gf, 2, none⟩ = some (.int .i64 (-1023)) := fun W hb => by
    rw [← hw2] at hb
    obtain ⟨hc, _, _⟩ := laid_after _ _ _ _ hb
    rw [hgf] at hc
    exact ⟨hc 0 _ rfl, hc 1 _ rfl, hc 2 _ rfl⟩
  have hbw : Below w.heap.size w w2 := by
    rw [← hw2]
    exact HB1.out.alloc HB1.out.size _
  have hf := hform w2 (Below.refl _ _)
  have c0 := hf.1
  have c1 := hf.2.1
  have c2 := hf.2.2
  have HF := Sec.mk hform
  have HBW := Sec.mk hbw
  have HX := Sec.mk hX
  clear hform hbw hf HB1 hgf hw2 hX rb
  have hs1 : s ≤ 1 := by rw [hs]; split <;> omega
  obtain ⟨y1, y2, y3, y4, y5, y6⟩ := word_parts hu hm hs1 HX.out
  have Y1 := Sec.mk y1
  clear y1
  obtain ⟨E, hE⟩ : ∃ E, s * 2048 + (1074 - u) = E := ⟨_, rfl⟩
  obtain ⟨f, hf⟩ : ∃ f, 1074 - u = f := ⟨_, rfl⟩
  obtain ⟨K, hK⟩ : ∃ K, m + 4503599627370496 = K := ⟨_, rfl⟩
  rw [hE] at y2 y3 y5
  rw [hf] at y3
  rw [hK] at y6 hkm
  have hf1 : 1022 ≤ f := by omega
  have hf2 : f ≤ 1074 := by omega
  have hK1 : 4503599627370496 ≤ K := by omega
  have hK2 : K < 9007199254740992 := by omega
  have HH := Sec.mk (And.intro hf (And.intro hkm (And.intro ho (And.intro h1 h2))))
  clear hE hf hK hkm ho h1 h2 hm hu hs1
  go_upto_if 40 with fail
  go_cut [11] (fun v11 wx => v11 = .string (signOf h) ∧ wx = w2)
  case first =>
    by_cases hn : h < 0
    · have z1 : ((X : Int) / 9223372036854775808 != 0) = true := by rw [Y1.out, hs, if_pos hn]; rfl
      have HS := Sec.mk (show signOf h = ⟨#[45]⟩ by unfold signOf; rw [if_pos hn])
      clear hn hs
      go_wp2_with fail
      go_meet
      exact ⟨by rw [HS.out], rfl⟩
    · have z1 : ((X : Int) / 9223372036854775808 != 0) = false := by rw [Y1.out, hs, if_neg hn]; rfl
      have HS := Sec.mk (show signOf h = ⟨#[]⟩ by unfold signOf; rw [if_neg hn])
      clear hn hs
      go_wp2_with fail
      go_meet
      exact ⟨by rw [HS.out], rfl⟩
  case rest =>
    obtain ⟨rfl, rfl⟩ := hcut
    have HSS := Sec.mk hs
    clear hs
    go_wp2_with fail
    go_quiet (fail)
    go_wp2_with fail
    generalize hwq : World.drewN wc _ = wq
    have hbq : Below wc.heap.size wc wq := by rw [← hwq]; exact below_drewN _ _
    have HBQ := Sec.mk hbq
    clear hwq hbq c0 c1 c2 y2 y3 y4 y5 y6
    have hpos : 0 < K := by omega
    refine (newDecimal_any K _ hpos (by omega)).mono ?_
    rintro e w3 ⟨ga, va, rfl, hga, hda, hb3⟩
    have hb03 : Below wc.heap.size wc w3 := below_then HBQ.out hb3
    have hf3 := HF.out w3 hb03
    have c0 := hf3.1
    have c1 := hf3.2.1
    have c2 := hf3.2.2
    have hu : f = 1074 - (1074 - f) := by omega
    obtain ⟨u', hu'⟩ : ∃ u', 1074 - f = u' := ⟨_, rfl⟩
    have huu : u' = u := by have := HH.out.1; omega
    subst huu
    have cs := shift_new hda hpos (by omega) (k := u' + 1) (by omega) (by omega)
    rw [show (-((u' + 1 : Nat) : Int)) = (f : Int) + -1023 - 52 from by omega] at cs
    have CS := Sec.mk cs
    have HB3 := Sec.mk hb3
    have HGA := Sec.mk hga
    have HU := Sec.mk hu'
    clear hf3 hb03 hda hb3 hga cs hu hu'
    go_wp2_with fail
    refine CS.out.mono ?_
    rintro e w4 ⟨rfl, ⟨v4, ds4, dp4, hd4, nd4, _, _, _, hv4⟩, hg4⟩
    obtain ⟨rfl, rfl⟩ := made_half HH.out.2.2.1 HH.out.2.1 nd4 hv4
    have hb4 : Below wq.heap.size wq w4 := HB3.out.grown hg4 HB3.out.size (fun k e => by have e' : ga = k := Option.some.inj e; have := HGA.out; omega)
    have hb04 : Below wc.heap.size wc w4 := below_then HBQ.out hb4
    have hf4 := HF.out w4 hb04
    have c0' := hf4.1
    have c1' := hf4.2.1
    have c2' := hf4.2.2
    have hnl : h.natAbs < 9007199254740992 := by have := HH.out.2.2.2; omega
    have csh := short_any w4 _ ga v4 h.natAbs K (u' + 1) hd4 HH.out.2.2.1 hnl (by omega) (by have := HU.out; omega) (by rw [HH.out.2.1, Nat.pow_succ]; ac_rfl) hK1 hK2
    rw [show (52 - ((u' + 1 : Nat) : Int)) = (f : Int) + -1023 from by have := HU.out; omega] at csh
    have CSH := Sec.mk csh
    have HD4 := Sec.mk hd4
    have HB04 := Sec.mk hb04
    have HNL := Sec.mk hnl
    clear c0 c1 c2 nd4 hv4 hg4 hb4 hb04 hf4 csh hd4 hnl HB3 CS
    go_wp2_with fail
    refine CSH.out.mono ?_
    rintro e w5 ⟨rfl, hb5⟩
    have hd5 := HD4.out.below hb5
    have HB5 := Sec.mk (below_then HB04.out hb5)
    obtain ⟨F, hF⟩ : ∃ F, (front h.natAbs).length = F := ⟨_, rfl⟩
    have hFl := front_len HNL.out
    rw [hF] at hFl hd5
    obtain ⟨A5, c5, rfl, _, _⟩ := hd5.form
    obtain ⟨L, hL⟩ : ∃ L, (front h.natAbs ++ [5]).length = L := ⟨_, rfl⟩
    have hLF : L = F + 1 := by rw [← hL, List.length_append, hF]; rfl
    have a0 := hd5.c0
    have a1 := hd5.c1
    rw [hL] at a0
    have w1' : IntKind.i64.wrap ((L : Int) - (F : Int)) = 1 := by rw [hLF, show (((F + 1 : Nat) : Int) - (F : Int)) = 1 from by omega]; rfl
    have HD5 := Sec.mk hd5
    have HFF := Sec.mk (And.intro hF hLF)
    clear c0' c1' c2' hb5 hd5 hF hL hLF HD4 CSH
    go_wp2_with fail
    go_quiet (fail)
    go_wp2_with fail
    generalize hwr : World.drewN w5 _ = w6
    have hd6 : DecAt w6 wq.heap.size ga (.slice A5 (front h.natAbs ++ [5]).length c5) (front h.natAbs ++ [5]) (F : Int) := by rw [← hwr]; exact HD5.out.drewN _
    have hb6 : Below w5.heap.size w5 w6 := by rw [← hwr]; exact below_drewN _ _
    have ctx := text_any w6 _ ga _ (front h.natAbs) F HFF.out.1 hd6 (front_ten _) (by omega)
    rw [text_front] at ctx
    have hsz : (digitsL (h.natAbs / 2) ++ [46, 53]).length ≤ 100 := by
      rw [List.length_append]
      have h1 := HNL.out
      have := digitsL_length 17 (h.natAbs / 2) (by omega)
      simp; omega
    generalize hT : digitsL (h.natAbs / 2) ++ [46, 53] = T at ctx hsz
    have CT := Sec.mk ctx
    have HB6 := Sec.mk (below_then HB5.out hb6)
    have e1 : (signOf h).size + (ByteArray.mk T.toArray).size ≤ 9223372036854775807 := by
      have e2 : (ByteArray.mk T.toArray).size = T.length := by show T.toArray.size = _; rw [List.size_toArray]
      have e3 : (signOf h).size ≤ 1 := by unfold signOf; split <;> decide
      omega
    have e2 : (signOf h).size + T.length ≤ 9223372036854775807 := by
      have e3 : (signOf h).size ≤ 1 := by unfold signOf; split <;> decide
      omega
    have hres : signOf h ++ ByteArray.mk T.toArray = ⟨(figL h).toArray⟩ := by
      have ho := HH.out.2.2.1
      have hh : halvesL h.natAbs = T := by unfold halvesL; rw [if_neg (by omega), hT]
      unfold signOf figL
      by_cases hn : h < 0
      · rw [if_pos hn, if_pos hn, hh]
        exact digit_append 45 T
      · rw [if_neg hn, if_neg hn, hh]
        apply ByteArray.ext
        rw [ByteArray.data_append]
        apply Array.ext'
        simp
    have HR := Sec.mk hres
    clear hwr hd6 hb6 ctx hsz hT hres a0 a1 w1' HD5
    go_wp2_with (go_at_call 106; refine CT.out.mono ?_; intro e w7 hw7; obtain ⟨rfl, hb7⟩ := hw7; have HB7 := Sec.mk hb7; clear hb7)
    go_ret
    exact ⟨by first | rfl | (rw [HR.out]; rfl), below_then (below_then HBW.out HB6.out) HB7.out⟩

end Go.Proofs.YtpamlgdcnmcedaaGreatDoor
