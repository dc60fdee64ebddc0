/-
  impl.StartsWith and impl.EndsWith at whatever right values.
-/
import Derived.Test.YtpamlgdcnmcedaaDoorMapTo
import Derived.Test.YtpamlgdcnmcedaaDoorRep
import Derived.Test.YtpamlgdcnmcedaaDoorShelfP
namespace Go.Proofs.YtpamlgdcnmcedaaDoor
set_option linter.unusedVariables false
set_option linter.unusedSimpArgs false
open Go.RowKit

/-- A value of the program that is no string. -/
def NotStr (v : Value) : Prop := (v = .nilIface ∨ ∃ t u, v = .iface t u) ∧ ∀ W : World, (Instr.typeAssert v 20 9 true).run Tryd.prog W = .ok (.tuple #[.string ⟨#[]⟩, .bool false]) W
def V.k : V → Int
  | .mk k _ _ _ _ _ => k
def V.str : V → ByteArray
  | .mk _ _ t _ _ _ => t

theorem str_or {w : World} {lo B : Nat} {x : V} {v : Value} (h : RdA w lo B x v) (hg : x.good) : (x.k = 4 ∧ v = .iface 9 (.string x.str)) ∨ (x.k ≠ 4 ∧ NotStr v) := by
  have hf := h.form hg
  cases x with | mk k hh t l ks vs =>
  rw [RdA] at h
  rw [V.good] at hg
  obtain ⟨⟨g1, g2, _⟩, _⟩ := hg
  obtain ⟨h0, h1, h2, h3, h4, h5, h6⟩ := h
  have hk : k = 0 ∨ k = 1 ∨ k = 2 ∨ k = 3 ∨ k = 4 ∨ k = 5 ∨ k = 6 := by omega
  rcases hk with e | e | e | e | e | e | e
  · right; rw [h0 e]; exact ⟨by show k ≠ 4; omega, .inl rfl, fun W => taNilString W⟩
  · right; rw [h1 e]; exact ⟨by show k ≠ 4; omega, .inr ⟨_, _, rfl⟩, fun W => taBoolString _ W⟩
  · right; rw [h2 e]; exact ⟨by show k ≠ 4; omega, .inr ⟨_, _, rfl⟩, fun W => taBoolString _ W⟩
  · right
    rw [h3 e]
    refine ⟨by show k ≠ 4; omega, ?_⟩
    unfold numA
    split
    · exact ⟨.inr ⟨_, _, rfl⟩, fun W => taIntString _ W⟩
    · exact ⟨.inr ⟨_, _, rfl⟩, fun W => taFloatString _ W⟩
  · left; exact ⟨e, h4 e⟩
  · right
    obtain ⟨A, c, e1, _⟩ := h5 e
    rw [e1]
    exact ⟨by show k ≠ 4; omega, .inr ⟨_, _, rfl⟩, fun W => taListString _ W⟩
  · right
    obtain ⟨b, n, xs, e1, _⟩ := h6 e
    rw [e1]
    exact ⟨by show k ≠ 4; omega, .inr ⟨_, _, rfl⟩, fun W => taMapString _ W⟩

/-- The error value of a function of one argument more. -/
def errA (g : Nat) : Value := .iface 93 (.pointer (some ⟨g, 0, none⟩))
theorem taErrError (g : Nat) (w : World) : (Instr.typeAssert (errA g) 20 75 true).run Tryd.prog w = .ok (.tuple #[errA g, .bool true]) w := by kernel_rfl

/-- What a door gives: a value that reads as x, and how it ended. -/
def Gives (x : V) (en : Int) (w : World) (e : Ending) (w' : World) : Prop := ∃ cs, e = .returned (.agg (cs ++ [Value.int .i64 en]).toArray) ∧ RdF w' w.heap.size w'.heap.size x cs ∧ Below w.heap.size w w'
def nilV : V := .mk 0 0 ⟨#[]⟩ [] [] []
def boolV (b : Bool) : V := .mk (if b then 2 else 1) 0 ⟨#[]⟩ [] [] []

set_option maxHeartbeats 400000 in
set_option maxRecDepth 100000 in
theorem result_err (g : Nat) (w : World) : Calls Tryd.prog 31 #[errA g] w (Gives nilV 1 w) := by
  have hta := fun W => taErrError g W
  generalize errA g = v at *
  go_enter Tryd.func31, Tryd.ntmps31
  go_wp2
  exact bodyPost_ret (v := .agg #[.int .i64 0, .int .i64 0, .string ⟨#[]⟩, .slice none 0 0, .slice none 0 0, .slice none 0 0, .int .i64 1]) (by simp [results, Tryd.results31, go_sem]) rfl ⟨[.int .i64 0, .int .i64 0, .string ⟨#[]⟩, .slice none 0 0, .slice none 0 0, .slice none 0 0], rfl, rdF_plain (by decide), (Below.refl _ _).alloc (Nat.le_refl _) _⟩

set_option maxHeartbeats 400000 in
set_option maxRecDepth 100000 in
theorem fromGo_bool (b : Bool) (w : World) :
    Calls Tryd.prog 45 #[.iface 4 (.bool b)] w fun e w' => ∃ cs, e = .returned (.tuple #[.agg cs.toArray, .bool true]) ∧ RdF w' w.heap.size w'.heap.size (boolV b) cs ∧ Below w.heap.size w w' := by
  cases b
  · go_enter Tryd.func45, Tryd.ntmps45
    go_wp2
    exact bodyPost_ret (v := .tuple #[.agg #[.int .i64 1, .int .i64 0, .string ⟨#[]⟩, .slice none 0 0, .slice none 0 0, .slice none 0 0], .bool true]) (by simp [results, Tryd.results45, go_sem]) rfl ⟨[.int .i64 1, .int .i64 0, .string ⟨#[]⟩, .slice none 0 0, .slice none 0 0, .slice none 0 0], rfl, rdF_plain (by decide), (Below.refl _ _).alloc (Nat.le_refl _) _⟩
  · go_enter Tryd.func45, Tryd.ntmps45
    go_wp2
    exact bodyPost_ret (v := .tuple #[.agg #[.int .i64 2, .int .i64 0, .string ⟨#[]⟩, .slice none 0 0, .slice none 0 0, .slice none 0 0], .bool true]) (by simp [results, Tryd.results45, go_sem]) rfl ⟨[.int .i64 2, .int .i64 0, .string ⟨#[]⟩, .slice none 0 0, .slice none 0 0, .slice none 0 0], rfl, rdF_plain (by decide), (Below.refl _ _).alloc (Nat.le_refl _) _⟩
theorem result_bool (b : Bool) (w : World) : Calls Tryd.prog 31 #[.iface 4 (.bool b)] w (Gives (boolV b) 0 w) :=
  result_of _ _ w (fun W => taBoolError _ W) fun W _ => fromGo_bool b W

/-- What the two values are asked by StartsWith. -/
def starts (x y : V) : V := if x.k = 4 ∧ y.k = 4 then boolV (Lib.hasPrefix x.str.data.toList y.str.data.toList) else nilV
def starts_end (x y : V) : Int := if x.k = 4 ∧ y.k = 4 then 0 else 1

set_option maxHeartbeats 400000 in
set_option maxRecDepth 100000 in
theorem funcStarts_str (s t : ByteArray) (w : World) :
    Calls Tryd.prog 48 #[.iface 9 (.string s), .iface 9 (.string t)] w fun e w' => e = .returned (.iface 4 (.bool (Lib.hasPrefix s.data.toList t.data.toList))) ∧ w' = w := by
  have CP := Sec.mk (fun w => Tryd.strings_HasPrefix s t w)
  go_enter Tryd.func48, Tryd.ntmps48
  go_wp2_with (go_at_call 56; refine (CP.out _).mono ?_; rintro e w1 ⟨rfl, rfl⟩)
  go_ret
  exact ⟨rfl, rfl⟩

set_option maxHeartbeats 400000 in
set_option maxRecDepth 100000 in
theorem funcStarts_left (v u : Value) (w : World) (hv : NotStr v) (hu : u = .nilIface ∨ ∃ t x, u = .iface t x) :
    Calls Tryd.prog 48 #[v, u] w fun e w' => ∃ g, e = .returned (errA g) ∧ Below w.heap.size w w' := by
  obtain ⟨hf, ht⟩ := hv
  rcases hf with rfl | ⟨ty, x, rfl⟩ <;> rcases hu with rfl | ⟨ty', x', rfl⟩
  all_goals
    go_enter Tryd.func48, Tryd.ntmps48
    go_wp2
    go_ret
    exact ⟨_, rfl, (Below.refl _ _).alloc (Nat.le_refl _) _⟩

set_option maxHeartbeats 400000 in
set_option maxRecDepth 100000 in
theorem funcStarts_right (s : ByteArray) (u : Value) (w : World) (hu : NotStr u) :
    Calls Tryd.prog 48 #[.iface 9 (.string s), u] w fun e w' => ∃ g, e = .returned (errA g) ∧ Below w.heap.size w w' := by
  obtain ⟨hf, ht⟩ := hu
  rcases hf with rfl | ⟨ty, x, rfl⟩
  all_goals
    go_enter Tryd.func48, Tryd.ntmps48
    go_wp2
    go_ret
    exact ⟨_, rfl, (Below.refl _ _).alloc (Nat.le_refl _) _⟩

/-- What the function gives, and what result makes of it. -/
theorem starts_both (x y : V) (v u : Value) {w : World} {lo B lo' B' : Nat} {w' : World} (hv : RdA w lo B x v) (hu : RdA w' lo' B' y u) (hx : x.good) (hy : y.good) (hs : x.str.size ≤ reach) (W : World) :
    Calls Tryd.prog 48 #[v, u] W fun e W1 => ∃ r, e = .returned r ∧ Below W.heap.size W W1 ∧ ∀ W2, Calls Tryd.prog 31 #[r] W2 (Gives (starts x y) (starts_end x y) W2) := by
  unfold starts starts_end
  rcases str_or hv hx with ⟨k1, rfl⟩ | ⟨k1, hn⟩
  · rcases str_or hu hy with ⟨k2, rfl⟩ | ⟨k2, hn⟩
    · rw [if_pos ⟨k1, k2⟩, if_pos ⟨k1, k2⟩]
      refine (funcStarts_str _ _ W).mono ?_
      rintro e W1 ⟨rfl, rfl⟩
      exact ⟨_, rfl, Below.refl _ _, fun W2 => result_bool _ W2⟩
    · rw [if_neg (fun h => k2 h.2), if_neg (fun h => k2 h.2)]
      refine (funcStarts_right _ _ W hn).mono ?_
      rintro e W1 ⟨g, rfl, hb⟩
      exact ⟨_, rfl, hb, fun W2 => result_err g W2⟩
  · rw [if_neg (fun h => k1 h.1), if_neg (fun h => k1 h.1)]
    refine (funcStarts_left _ _ W hn (hu.form hy)).mono ?_
    rintro e W1 ⟨g, rfl, hb⟩
    exact ⟨_, rfl, hb, fun W2 => result_err g W2⟩

/-- What the two values are asked by EndsWith. -/
def ends (x y : V) : V := if x.k = 4 ∧ y.k = 4 then boolV (Lib.hasSuffix x.str.data.toList y.str.data.toList) else nilV
def ends_end (x y : V) : Int := if x.k = 4 ∧ y.k = 4 then 0 else 1

set_option maxHeartbeats 400000 in
set_option maxRecDepth 100000 in
theorem funcEnds_str (s t : ByteArray) (w : World) (hs : s.size ≤ reach) :
    Calls Tryd.prog 49 #[.iface 9 (.string s), .iface 9 (.string t)] w fun e w' => e = .returned (.iface 4 (.bool (Lib.hasSuffix s.data.toList t.data.toList))) ∧ w' = w := by
  have CP := Sec.mk (fun w => Tryd.strings_HasSuffix s t w (Nat.le_trans hs (by decide)))
  go_enter Tryd.func49, Tryd.ntmps49
  go_wp2_with (go_at_call 57; refine (CP.out _).mono ?_; rintro e w1 ⟨rfl, rfl⟩)
  go_ret
  exact ⟨rfl, rfl⟩

set_option maxHeartbeats 400000 in
set_option maxRecDepth 100000 in
theorem funcEnds_left (v u : Value) (w : World) (hv : NotStr v) (hu : u = .nilIface ∨ ∃ t x, u = .iface t x) :
    Calls Tryd.prog 49 #[v, u] w fun e w' => ∃ g, e = .returned (errA g) ∧ Below w.heap.size w w' := by
  obtain ⟨hf, ht⟩ := hv
  rcases hf with rfl | ⟨ty, x, rfl⟩ <;> rcases hu with rfl | ⟨ty', x', rfl⟩
  all_goals
    go_enter Tryd.func49, Tryd.ntmps49
    go_wp2
    go_ret
    exact ⟨_, rfl, (Below.refl _ _).alloc (Nat.le_refl _) _⟩

set_option maxHeartbeats 400000 in
set_option maxRecDepth 100000 in
theorem funcEnds_right (s : ByteArray) (u : Value) (w : World) (hu : NotStr u) :
    Calls Tryd.prog 49 #[.iface 9 (.string s), u] w fun e w' => ∃ g, e = .returned (errA g) ∧ Below w.heap.size w w' := by
  obtain ⟨hf, ht⟩ := hu
  rcases hf with rfl | ⟨ty, x, rfl⟩
  all_goals
    go_enter Tryd.func49, Tryd.ntmps49
    go_wp2
    go_ret
    exact ⟨_, rfl, (Below.refl _ _).alloc (Nat.le_refl _) _⟩

/-- What the function gives, and what result makes of it. -/
theorem ends_both (x y : V) (v u : Value) {w : World} {lo B lo' B' : Nat} {w' : World} (hv : RdA w lo B x v) (hu : RdA w' lo' B' y u) (hx : x.good) (hy : y.good) (hs : x.str.size ≤ reach) (W : World) :
    Calls Tryd.prog 49 #[v, u] W fun e W1 => ∃ r, e = .returned r ∧ Below W.heap.size W W1 ∧ ∀ W2, Calls Tryd.prog 31 #[r] W2 (Gives (ends x y) (ends_end x y) W2) := by
  unfold ends ends_end
  rcases str_or hv hx with ⟨k1, rfl⟩ | ⟨k1, hn⟩
  · rcases str_or hu hy with ⟨k2, rfl⟩ | ⟨k2, hn⟩
    · rw [if_pos ⟨k1, k2⟩, if_pos ⟨k1, k2⟩]
      refine (funcEnds_str _ _ W hs).mono ?_
      rintro e W1 ⟨rfl, rfl⟩
      exact ⟨_, rfl, Below.refl _ _, fun W2 => result_bool _ W2⟩
    · rw [if_neg (fun h => k2 h.2), if_neg (fun h => k2 h.2)]
      refine (funcEnds_right _ _ W hn).mono ?_
      rintro e W1 ⟨g, rfl, hb⟩
      exact ⟨_, rfl, hb, fun W2 => result_err g W2⟩
  · rw [if_neg (fun h => k1 h.1), if_neg (fun h => k1 h.1)]
    refine (funcEnds_left _ _ W hn (hu.form hy)).mono ?_
    rintro e W1 ⟨g, rfl, hb⟩
    exact ⟨_, rfl, hb, fun W2 => result_err g W2⟩

set_option maxHeartbeats 400000 in
set_option maxRecDepth 100000 in
theorem zzStarts (v u : Value) (W : World) (P : Value → World → Prop) (h : Calls Tryd.prog 48 #[v, u] W fun e W1 => ∃ r, e = .returned r ∧ P r W1) :
    Calls Tryd.prog 34 #[v, u] W fun e W1 => ∃ r, e = .returned r ∧ P r W1 := by
  have H := Sec.mk h
  clear h
  go_enter Tryd.func34, Tryd.ntmps34
  go_wp2_with (go_at_call 48; refine H.out.mono ?_; intro e w1 hw1; obtain ⟨r, rfl, hp⟩ := hw1; have HP := Sec.mk hp; clear hp)
  go_ret
  exact ⟨_, rfl, HP.out⟩

set_option maxHeartbeats 1600000 in
set_option maxRecDepth 100000 in
theorem startsDoor (x y : V) (cs ds : List Value) (w : World) (B : Nat) (hr : Rd w B x cs) (hr' : Rd w B y ds) (hB : B ≤ w.heap.size) (hx : x.good) (hy : y.good) (hcx : x.cnt ≤ 1000000) (hcy : y.cnt ≤ 1000000) (hs : x.str.size ≤ reach) :
    Calls Tryd.prog 16 #[.agg cs.toArray, .agg ds.toArray] w (Gives (starts x y) (starts_end x y) w) := by
  have cT1 : ∀ W, Below w.heap.size w W → Calls Tryd.prog 30 #[.agg cs.toArray] W fun e w' => ∃ v, e = .returned (.tuple #[v, .bool true]) ∧ RdA w' W.heap.size w'.heap.size x v ∧ Below W.heap.size W w' := fun W hb =>
    toGo_upTo 1000000 (by omega) x hcx hx cs W B (Rd.same ((Same.of_below hb).mono hB) x cs hr) (Nat.le_trans hB hb.size)
  have cT2 : ∀ W, Below w.heap.size w W → Calls Tryd.prog 30 #[.agg ds.toArray] W fun e w' => ∃ v, e = .returned (.tuple #[v, .bool true]) ∧ RdA w' W.heap.size w'.heap.size y v ∧ Below W.heap.size W w' := fun W hb =>
    toGo_upTo 1000000 (by omega) y hcy hy ds W B (Rd.same ((Same.of_below hb).mono hB) y ds hr') (Nat.le_trans hB hb.size)
  obtain ⟨k1, h1', t1, A31, n31, c31, A41, n41, c41, A51, n51, c51, rfl⟩ := hr.form
  obtain ⟨k2, h2', t2, A32, n32, c32, A42, n42, c42, A52, n52, c52, rfl⟩ := hr'.form
  have CT1 := Sec.mk cT1
  have CT2 := Sec.mk cT2
  have HG := Sec.mk (And.intro hx (And.intro hy hs))
  clear cT1 cT2 hr hr' hB hcx hcy hx hy hs
  go_enter Tryd.func16, Tryd.ntmps16
  go_wp2_with fail
  obtain ⟨wa, hwa⟩ : ∃ wa, (w.alloc (.cells #[.int .i64 k1, .int .i64 h1', .string t1, .slice A31 n31 c31, .slice A41 n41 c41, .slice A51 n51 c51] 26)).alloc (.cells #[.int .i64 k2, .int .i64 h2', .string t2, .slice A32 n32 c32, .slice A42 n42 c42, .slice A52 n52 c52] 26) = wa := ⟨_, rfl⟩
  have hba : Below w.heap.size w wa := by rw [← hwa]; exact ((Below.refl _ _).alloc (Nat.le_refl _) _).alloc (by simp) _
  have hsz : wa.heap.size = w.heap.size + 1 + 1 := by rw [← hwa]; simp
  have hbx : ∀ j v, #[Value.int .i64 k2, .int .i64 h2', .string t2, .slice A32 n32 c32, .slice A42 n42 c42, .slice A52 n52 c52][j]? = some v → wa.cell? ⟨w.heap.size + 1, j, none⟩ = some v := by
    rw [← hwa]
    have := box_after (w.alloc (.cells #[.int .i64 k1, .int .i64 h1', .string t1, .slice A31 n31 c31, .slice A41 n41 c41, .slice A51 n51 c51] 26)) #[.int .i64 k2, .int .i64 h2', .string t2, .slice A32 n32 c32, .slice A42 n42 c42, .slice A52 n52 c52] 26 ((w.alloc (.cells #[.int .i64 k1, .int .i64 h1', .string t1, .slice A31 n31 c31, .slice A41 n41 c41, .slice A51 n51 c51] 26)).alloc (.cells #[.int .i64 k2, .int .i64 h2', .string t2, .slice A32 n32 c32, .slice A42 n42 c42, .slice A52 n52 c52] 26)) (Below.refl _ _)
    rw [World.size_alloc] at this
    exact this
  rw [hwa]
  have HBA := Sec.mk hba
  have HSZ := Sec.mk hsz
  have HBX := Sec.mk hbx
  clear hba hsz hbx hwa
  refine (CT1.out _ (HBA.out.alloc HBA.out.size _)).mono ?_
  intro e w1 hw1
  obtain ⟨v, rfl, hv, hb1⟩ := hw1
  have hbx1 : ∀ j z, #[Value.int .i64 k2, .int .i64 h2', .string t2, .slice A32 n32 c32, .slice A42 n42 c42, .slice A52 n52 c52][j]? = some z → w1.cell? ⟨w.heap.size + 1, j, none⟩ = some z := fun j z hj =>
    (hb1.cell (p := ⟨w.heap.size + 1, j, none⟩) (by show w.heap.size + 1 < _; rw [World.size_alloc, HSZ.out]; omega)).trans (((Below.refl _ _).alloc (Nat.le_refl _) _).cell (p := ⟨w.heap.size + 1, j, none⟩) (by show w.heap.size + 1 < _; rw [HSZ.out]; omega) |>.trans (HBX.out j z hj))
  have a0 := hbx1 0 _ rfl
  have a1 := hbx1 1 _ rfl
  have a2 := hbx1 2 _ rfl
  have a3 := hbx1 3 _ rfl
  have a4 := hbx1 4 _ rfl
  have a5 := hbx1 5 _ rfl
  have HV := Sec.mk hv
  have HB1 := Sec.mk hb1
  clear hv hb1 hbx1
  go_wp2_with fail
  refine (CT2.out _ (HBA.out.trans ((below_laid HB1.out).mono HBA.out.size))).mono ?_
  intro e w2 hw2
  obtain ⟨u, rfl, hu, hb2⟩ := hw2
  have cS := fun W => zzStarts v u W (fun r W1 => Below W.heap.size W W1 ∧ ∀ W2, Calls Tryd.prog 31 #[r] W2 (Gives (starts x y) (starts_end x y) W2)) (starts_both x y v u HV.out hu HG.out.1 HG.out.2.1 HG.out.2.2 W)
  have CS := Sec.mk cS
  have HB2 := Sec.mk (below_then HB1.out hb2)
  clear cS hu hb2 a0 a1 a2 a3 a4 a5
  go_wp2_with fail
  refine (CS.out _).mono ?_
  intro e w3 hw3
  obtain ⟨r, rfl, hb3, hres⟩ := hw3
  have HR := Sec.mk hres
  have HB3 := Sec.mk (below_then HB2.out hb3)
  clear hb3 hres
  go_wp2_with fail
  refine (HR.out _).mono ?_
  intro e w4 hw4
  obtain ⟨cs, rfl, hf, hb4⟩ := hw4
  obtain ⟨k3, h3', t3, A33, n33, c33, A43, n43, c43, A53, n53, c53, rfl⟩ := hf.rd.form
  have hb := below_then HB3.out hb4
  obtain ⟨hc, hfr, hz⟩ := laid_after _ _ _ _ hb
  rw [HSZ.out] at hc hfr hz
  have HB := Sec.mk hb
  have HF := Sec.mk hf
  have HS := Sec.mk HB3.out.size
  clear hb hb4 hf
  have d0 := hc 0 _ rfl
  have d1 := hc 1 _ rfl
  have d2 := hc 2 _ rfl
  have d3 := hc 3 _ rfl
  have d4 := hc 4 _ rfl
  have d5 := hc 5 _ rfl
  have d6 := hc 6 _ rfl
  have f0 := hfr 0
  have f1 := hfr 1
  have f2 := hfr 2
  have f3 := hfr 3
  have f4 := hfr 4
  have f5 := hfr 5
  have f6 := hfr 6
  clear hc hfr
  generalize starts_end x y = en at *
  go_wp2_with fail
  refine bodyPost_ret (v := .agg #[.int .i64 k3, .int .i64 h3', .string t3, .slice A33 n33 c33, .slice A43 n43 c43, .slice A53 n53 c53, .int .i64 en]) (by simp [results, Tryd.results16, go_sem, *]) rfl ⟨[.int .i64 k3, .int .i64 h3', .string t3, .slice A33 n33 c33, .slice A43 n43 c43, .slice A53 n53 c53], rfl, ?_, ?_⟩
  · have hs := HS.out
    rw [World.size_alloc, HSZ.out] at hs
    refine RdF.same HF.out ?_ (by omega) (by simp [World.setCell])
    iterate 7 refine SameIn.set ?_ (by omega)
    exact fun _ _ _ => rfl
  · iterate 7 refine below_set ?_ (by omega)
    exact HBA.out.trans ((below_laid HB.out).mono HBA.out.size)

set_option maxHeartbeats 400000 in
set_option maxRecDepth 100000 in
theorem zzEnds (v u : Value) (W : World) (P : Value → World → Prop) (h : Calls Tryd.prog 49 #[v, u] W fun e W1 => ∃ r, e = .returned r ∧ P r W1) :
    Calls Tryd.prog 35 #[v, u] W fun e W1 => ∃ r, e = .returned r ∧ P r W1 := by
  have H := Sec.mk h
  clear h
  go_enter Tryd.func35, Tryd.ntmps35
  go_wp2_with (go_at_call 49; refine H.out.mono ?_; intro e w1 hw1; obtain ⟨r, rfl, hp⟩ := hw1; have HP := Sec.mk hp; clear hp)
  go_ret
  exact ⟨_, rfl, HP.out⟩

set_option maxHeartbeats 1600000 in
set_option maxRecDepth 100000 in
theorem endsDoor (x y : V) (cs ds : List Value) (w : World) (B : Nat) (hr : Rd w B x cs) (hr' : Rd w B y ds) (hB : B ≤ w.heap.size) (hx : x.good) (hy : y.good) (hcx : x.cnt ≤ 1000000) (hcy : y.cnt ≤ 1000000) (hs : x.str.size ≤ reach) :
    Calls Tryd.prog 17 #[.agg cs.toArray, .agg ds.toArray] w (Gives (ends x y) (ends_end x y) w) := by
  have cT1 : ∀ W, Below w.heap.size w W → Calls Tryd.prog 30 #[.agg cs.toArray] W fun e w' => ∃ v, e = .returned (.tuple #[v, .bool true]) ∧ RdA w' W.heap.size w'.heap.size x v ∧ Below W.heap.size W w' := fun W hb =>
    toGo_upTo 1000000 (by omega) x hcx hx cs W B (Rd.same ((Same.of_below hb).mono hB) x cs hr) (Nat.le_trans hB hb.size)
  have cT2 : ∀ W, Below w.heap.size w W → Calls Tryd.prog 30 #[.agg ds.toArray] W fun e w' => ∃ v, e = .returned (.tuple #[v, .bool true]) ∧ RdA w' W.heap.size w'.heap.size y v ∧ Below W.heap.size W w' := fun W hb =>
    toGo_upTo 1000000 (by omega) y hcy hy ds W B (Rd.same ((Same.of_below hb).mono hB) y ds hr') (Nat.le_trans hB hb.size)
  obtain ⟨k1, h1', t1, A31, n31, c31, A41, n41, c41, A51, n51, c51, rfl⟩ := hr.form
  obtain ⟨k2, h2', t2, A32, n32, c32, A42, n42, c42, A52, n52, c52, rfl⟩ := hr'.form
  have CT1 := Sec.mk cT1
  have CT2 := Sec.mk cT2
  have HG := Sec.mk (And.intro hx (And.intro hy hs))
  clear cT1 cT2 hr hr' hB hcx hcy hx hy hs
  go_enter Tryd.func17, Tryd.ntmps17
  go_wp2_with fail
  obtain ⟨wa, hwa⟩ : ∃ wa, (w.alloc (.cells #[.int .i64 k1, .int .i64 h1', .string t1, .slice A31 n31 c31, .slice A41 n41 c41, .slice A51 n51 c51] 26)).alloc (.cells #[.int .i64 k2, .int .i64 h2', .string t2, .slice A32 n32 c32, .slice A42 n42 c42, .slice A52 n52 c52] 26) = wa := ⟨_, rfl⟩
  have hba : Below w.heap.size w wa := by rw [← hwa]; exact ((Below.refl _ _).alloc (Nat.le_refl _) _).alloc (by simp) _
  have hsz : wa.heap.size = w.heap.size + 1 + 1 := by rw [← hwa]; simp
  have hbx : ∀ j v, #[Value.int .i64 k2, .int .i64 h2', .string t2, .slice A32 n32 c32, .slice A42 n42 c42, .slice A52 n52 c52][j]? = some v → wa.cell? ⟨w.heap.size + 1, j, none⟩ = some v := by
    rw [← hwa]
    have := box_after (w.alloc (.cells #[.int .i64 k1, .int .i64 h1', .string t1, .slice A31 n31 c31, .slice A41 n41 c41, .slice A51 n51 c51] 26)) #[.int .i64 k2, .int .i64 h2', .string t2, .slice A32 n32 c32, .slice A42 n42 c42, .slice A52 n52 c52] 26 ((w.alloc (.cells #[.int .i64 k1, .int .i64 h1', .string t1, .slice A31 n31 c31, .slice A41 n41 c41, .slice A51 n51 c51] 26)).alloc (.cells #[.int .i64 k2, .int .i64 h2', .string t2, .slice A32 n32 c32, .slice A42 n42 c42, .slice A52 n52 c52] 26)) (Below.refl _ _)
    rw [World.size_alloc] at this
    exact this
  rw [hwa]
  have HBA := Sec.mk hba
  have HSZ := Sec.mk hsz
  have HBX := Sec.mk hbx
  clear hba hsz hbx hwa
  refine (CT1.out _ (HBA.out.alloc HBA.out.size _)).mono ?_
  intro e w1 hw1
  obtain ⟨v, rfl, hv, hb1⟩ := hw1
  have hbx1 : ∀ j z, #[Value.int .i64 k2, .int .i64 h2', .string t2, .slice A32 n32 c32, .slice A42 n42 c42, .slice A52 n52 c52][j]? = some z → w1.cell? ⟨w.heap.size + 1, j, none⟩ = some z := fun j z hj =>
    (hb1.cell (p := ⟨w.heap.size + 1, j, none⟩) (by show w.heap.size + 1 < _; rw [World.size_alloc, HSZ.out]; omega)).trans (((Below.refl _ _).alloc (Nat.le_refl _) _).cell (p := ⟨w.heap.size + 1, j, none⟩) (by show w.heap.size + 1 < _; rw [HSZ.out]; omega) |>.trans (HBX.out j z hj))
  have a0 := hbx1 0 _ rfl
  have a1 := hbx1 1 _ rfl
  have a2 := hbx1 2 _ rfl
  have a3 := hbx1 3 _ rfl
  have a4 := hbx1 4 _ rfl
  have a5 := hbx1 5 _ rfl
  have HV := Sec.mk hv
  have HB1 := Sec.mk hb1
  clear hv hb1 hbx1
  go_wp2_with fail
  refine (CT2.out _ (HBA.out.trans ((below_laid HB1.out).mono HBA.out.size))).mono ?_
  intro e w2 hw2
  obtain ⟨u, rfl, hu, hb2⟩ := hw2
  have cS := fun W => zzEnds v u W (fun r W1 => Below W.heap.size W W1 ∧ ∀ W2, Calls Tryd.prog 31 #[r] W2 (Gives (ends x y) (ends_end x y) W2)) (ends_both x y v u HV.out hu HG.out.1 HG.out.2.1 HG.out.2.2 W)
  have CS := Sec.mk cS
  have HB2 := Sec.mk (below_then HB1.out hb2)
  clear cS hu hb2 a0 a1 a2 a3 a4 a5
  go_wp2_with fail
  refine (CS.out _).mono ?_
  intro e w3 hw3
  obtain ⟨r, rfl, hb3, hres⟩ := hw3
  have HR := Sec.mk hres
  have HB3 := Sec.mk (below_then HB2.out hb3)
  clear hb3 hres
  go_wp2_with fail
  refine (HR.out _).mono ?_
  intro e w4 hw4
  obtain ⟨cs, rfl, hf, hb4⟩ := hw4
  obtain ⟨k3, h3', t3, A33, n33, c33, A43, n43, c43, A53, n53, c53, rfl⟩ := hf.rd.form
  have hb := below_then HB3.out hb4
  obtain ⟨hc, hfr, hz⟩ := laid_after _ _ _ _ hb
  rw [HSZ.out] at hc hfr hz
  have HB := Sec.mk hb
  have HF := Sec.mk hf
  have HS := Sec.mk HB3.out.size
  clear hb hb4 hf
  have d0 := hc 0 _ rfl
  have d1 := hc 1 _ rfl
  have d2 := hc 2 _ rfl
  have d3 := hc 3 _ rfl
  have d4 := hc 4 _ rfl
  have d5 := hc 5 _ rfl
  have d6 := hc 6 _ rfl
  have f0 := hfr 0
  have f1 := hfr 1
  have f2 := hfr 2
  have f3 := hfr 3
  have f4 := hfr 4
  have f5 := hfr 5
  have f6 := hfr 6
  clear hc hfr
  generalize ends_end x y = en at *
  go_wp2_with fail
  refine bodyPost_ret (v := .agg #[.int .i64 k3, .int .i64 h3', .string t3, .slice A33 n33 c33, .slice A43 n43 c43, .slice A53 n53 c53, .int .i64 en]) (by simp [results, Tryd.results17, go_sem, *]) rfl ⟨[.int .i64 k3, .int .i64 h3', .string t3, .slice A33 n33 c33, .slice A43 n43 c43, .slice A53 n53 c53], rfl, ?_, ?_⟩
  · have hs := HS.out
    rw [World.size_alloc, HSZ.out] at hs
    refine RdF.same HF.out ?_ (by omega) (by simp [World.setCell])
    iterate 7 refine SameIn.set ?_ (by omega)
    exact fun _ _ _ => rfl
  · iterate 7 refine below_set ?_ (by omega)
    exact HBA.out.trans ((below_laid HB.out).mono HBA.out.size)

end Go.Proofs.YtpamlgdcnmcedaaDoor
