/-
  gojq.funcSplit and impl.Split at whatever right values with short texts.
-/
import Derived.Test.YtpamlgdcnmcedaaDoorLFrom
import Derived.Test.YtpamlgdcnmcedaaDoorZzs
import Derived.Test.YtpamlgdcnmcedaaDoorSw
namespace Go.Proofs.YtpamlgdcnmcedaaDoor
set_option linter.unusedVariables false
set_option linter.unusedSimpArgs false
open Go.RowKit

def strV (t : ByteArray) : V := .mk 4 0 t [] [] []
def listV (l : List V) : V := .mk 5 0 ⟨#[]⟩ l [] []
/-- What is known of the pieces. -/
def SplitOk (s t : ByteArray) (l : List ByteArray) : Prop := l.length ≤ 4097 ∧ (∀ k ∈ l, k.size ≤ 4096) ∧ (t.data.toList ≠ [] → l.map (·.data.toList) = cuts t.data.toList [] s.data.toList)
theorem rdA_str {w : World} {lo B : Nat} {t : ByteArray} : RdA w lo B (strV t) (.iface 9 (.string t)) := by
  unfold strV
  rw [RdA]
  exact ⟨by simp, by simp, by simp, by simp, fun _ => rfl, by simp, by simp⟩
theorem rdA_str_inv {w : World} {lo B : Nat} {t : ByteArray} {v : Value} (h : RdA w lo B (strV t) v) : v = .iface 9 (.string t) := by
  unfold strV at h
  rw [RdA] at h
  exact h.2.2.2.2.1 rfl

set_option maxHeartbeats 1600000 in
set_option maxRecDepth 100000 in
theorem funcSplit_str (s t : ByteArray) (w : World) (hs : s.size ≤ 4096) (ht : t.size ≤ 4096) (hT : Tabs w) (h2 : 2 ≤ w.heap.size) :
    Calls Tryd.prog 51 #[.iface 9 (.string s), .iface 9 (.string t)] w fun e w' => ∃ v l, e = .returned v ∧ RdA w' w.heap.size w'.heap.size (listV (l.map strV)) v ∧ Below w.heap.size w w' ∧ SplitOk s t l := by
  have cZ := zzSplit_any s t w hs ht hT h2
  have CZ := Sec.mk cZ
  have hmk : ∀ (n : Nat) (W : World), n ≤ 4097 → (Instr.makeSlice 68 (.int .i64 (n : Int)) (.int .i64 (n : Int))).run Tryd.prog W = .ok (.slice (some ⟨W.heap.size, 0, none⟩) n n) (W.alloc (.cells (madeCells #[.nilIface] n) 20)) := fun n W hn =>
    run_make_row' 68 20 .nilIface 16 Tryd.underlying68 (by kernel_rfl) rfl .i64 .i64 n (by omega) (by omega) W
  have HMK := Sec.mk hmk
  clear hs ht hT h2 cZ hmk
  go_enter Tryd.func51, Tryd.ntmps51
  go_wp2_with fail
  refine CZ.out.mono ?_
  intro e w1 hw1
  obtain ⟨v, l, rfl, hrow, hb, hlen, hsz, hcut⟩ := hw1
  obtain ⟨n, hn⟩ : ∃ n, l.length = n := ⟨_, rfl⟩
  obtain ⟨A, c, rfl⟩ := hrow.read
  rw [hn] at hrow
  rw [hn]
  have hmk : ∀ W : World, (Instr.makeSlice 68 (.int .i64 (n : Int)) (.int .i64 (n : Int))).run Tryd.prog W = .ok (.slice (some ⟨W.heap.size, 0, none⟩) n n) (W.alloc (.cells (madeCells #[.nilIface] n) 20)) := fun W => HMK.out n W (by omega)
  have hn4 : n ≤ 4097 := by omega
  have OK := Sec.mk (show SplitOk s t l from ⟨hlen, hsz, hcut⟩)
  have ROW := Sec.mk hrow
  have HB := Sec.mk hb
  have HN := Sec.mk hn
  obtain ⟨w0, hw0⟩ : ∃ w0, w1.alloc (.cells (madeCells #[.nilIface] n) 20) = w0 := ⟨_, rfl⟩
  have ho := own_nils w1 w.heap.size 20 n hb.size (by unfold maxLen; omega)
  rw [hw0] at ho
  have hb0 : Below w1.heap.size w1 w0 := by rw [← hw0]; exact (Below.refl _ _).alloc (Nat.le_refl _) _
  have hsz0 : w0.heap.size = w1.heap.size + 1 := by rw [← hw0]; simp
  have HO := Sec.mk ho
  have HB0 := Sec.mk hb0
  have HSZ := Sec.mk hsz0
  have HW0 := Sec.mk hw0
  clear hlen hsz hcut hrow hb hn ho hb0 hsz0 hw0
  go_wp2_with fail
  rw [HW0.out]
  go_loopw [10, 11, 42] (fun _ _ v42 wr => ∃ i : Nat, v42 = .int .i64 i ∧ i ≤ n ∧ w0.grownBy wr (some w1.heap.size) ∧ ∃ xs, wr.ownsRow w.heap.size 20 1 (.slice (some ⟨w1.heap.size, 0, none⟩) n n) n xs ∧
      ∀ j k, j < i → l[j]? = some k → xs[j]? = some (.iface 9 (.string k))) (fun _ _ v42 _ => n - (intOf v42).toNat)
  case atStart => exact ⟨0, rfl, Nat.zero_le _, ⟨rfl, rfl, rfl, Nat.le_refl _, fun _ _ _ => rfl⟩, _, HO.out, fun j x hj => by omega⟩
  case round =>
    obtain ⟨i, rfl, hi, hg, xs, ho, hd⟩ := hrel
    have GR := Sec.mk hg
    have OW := Sec.mk ho
    have HD := Sec.mk hd
    by_cases hin : i < n
    · obtain ⟨k, hk⟩ : ∃ k, l[i]? = some k := ⟨l[i]'(by rw [HN.out]; exact hin), by rw [List.getElem?_eq_getElem]⟩
      obtain ⟨gs, cap, rfl, rfl, hgs⟩ : ∃ gs cap, A = some ⟨gs, 0, none⟩ ∧ c = cap ∧ gs < w1.heap.size := by
        rcases ROW.out.2 with ⟨e, h0⟩ | ⟨g, cap, cur, e, hb, hg, _⟩
        · have := HN.out; omega
        · injection e with e1 e2 e3
          refine ⟨g, c, e1, rfl, ?_⟩
          rcases Nat.lt_or_ge g w1.heap.size with h | h
          · exact h
          · rw [Array.getElem?_eq_none h] at hg; cases hg
      have hsrc : wr.cell? ⟨gs, i, none⟩ = some (.string k) := by
        have h1 := World.ownsRow.cells ROW.out (g := gs) rfl i (.string k) (by rw [List.getElem?_map, hk]; rfl)
        rw [add_plain] at h1
        have h2 := World.cell?_of_block (w := w1) (w' := w0) (a := ⟨gs, i, none⟩) (HB0.out.block gs hgs)
        have h3 := World.cell?_of_block (w := w0) (w' := wr) (a := ⟨gs, i, none⟩) (hg.block gs (by rw [HSZ.out]; omega) (fun e => by injection e with e; omega))
        exact h3.trans (h2.trans h1)
      obtain ⟨u, hu⟩ := own_cell1 ho i hin
      have hf := own_frozen1 ho i
      obtain ⟨so, sg⟩ := ho.stored i (.iface 9 (.string k))
      have fin : w0.grownBy (wr.setCell ⟨w1.heap.size, i, none⟩ (.iface 9 (.string k))) (some w1.heap.size) ∧ ∃ xs, (wr.setCell ⟨w1.heap.size, i, none⟩ (.iface 9 (.string k))).ownsRow w.heap.size 20 1 (.slice (some ⟨w1.heap.size, 0, none⟩) n n) n xs ∧
          ∀ j k, j < i + 1 → l[j]? = some k → xs[j]? = some (.iface 9 (.string k)) := by
        have hl : xs.length = n := by have := ho.1; omega
        refine ⟨⟨sg.os.trans hg.os, sg.tape.trans hg.tape, sg.output.trans hg.output, Nat.le_trans hg.size sg.size, fun b h1 h2 => (sg.block b (Nat.lt_of_lt_of_le h1 hg.size) h2).trans (hg.block b h1 h2)⟩, xs.set i (.iface 9 (.string k)), so, fun j y hj hy => ?_⟩
        by_cases hji : j = i
        · subst hji
          have e : k = y := by rw [hk] at hy; injection hy
          subst e
          rw [List.getElem?_set_self (by omega)]
        · rw [List.getElem?_set_ne (by omega)]
          exact hd j y (by omega) hy
      have FIN := Sec.mk fin
      clear fin so sg hg ho hd hk
      go_wp2
      go_roundw
      case rel => exact ⟨i + 1, by go_num, by omega, FIN.out⟩
      case measure => simp [intOf]; omega
    · clear hg ho hd
      go_wp2
      go_ret
      obtain rfl : i = n := by omega
      have hlt : w1.heap.size < wr.heap.size := Nat.lt_of_lt_of_le (by rw [HSZ.out]; exact Nat.lt_succ_self _) GR.out.size
      refine ⟨.iface 68 (.slice (some ⟨w1.heap.size, 0, none⟩) i i), l, rfl, ?_, (below_then HB.out HB0.out).grown GR.out (Nat.le_trans HB.out.size HB0.out.size) (fun k e => by injection e with e; have := HB.out.size; omega), OK.out⟩
      unfold listV
      rw [RdA]
      refine ⟨by simp, by simp, by simp, by simp, by simp, fun _ => ⟨some ⟨w1.heap.size, 0, none⟩, i, by rw [List.length_map, HN.out], by rw [List.length_map, HN.out]; exact Nat.le_refl _, Nat.le_trans hn4 (by decide), ?_⟩, by simp⟩
      refine RdAL.of _ 0 fun j x hx => ?_
      rw [List.getElem?_map] at hx
      obtain ⟨k, hk, rfl⟩ := Option.map_eq_some_iff.1 hx
      refine ⟨_, _, rfl, HB.out.size, hlt, rdA_str, ?_⟩
      have hj : j < i := by rw [← HN.out]; exact (List.getElem?_eq_some_iff.1 hk).1
      rw [Nat.zero_add, add_plain, OW.out.cellAt j (by omega)]
      exact HD.out j k hj hk

/-- The error value of a function without arguments. -/
def errB (g : Nat) : Value := .iface 89 (.pointer (some ⟨g, 0, none⟩))
theorem taErrError' (g : Nat) (w : World) : (Instr.typeAssert (errB g) 20 75 true).run Tryd.prog w = .ok (.tuple #[errB g, .bool true]) w := by kernel_rfl

set_option maxHeartbeats 400000 in
set_option maxRecDepth 100000 in
theorem result_err' (g : Nat) (w : World) : Calls Tryd.prog 31 #[errB g] w (Gives nilV 1 w) := by
  have hta := fun W => taErrError' g W
  generalize errB g = v at *
  go_enter Tryd.func31, Tryd.ntmps31
  go_wp2
  exact bodyPost_ret (v := .agg #[.int .i64 0, .int .i64 0, .string ⟨#[]⟩, .slice none 0 0, .slice none 0 0, .slice none 0 0, .int .i64 1]) (by simp [results, Tryd.results31, go_sem]) rfl ⟨[.int .i64 0, .int .i64 0, .string ⟨#[]⟩, .slice none 0 0, .slice none 0 0, .slice none 0 0], rfl, rdF_plain (by decide), (Below.refl _ _).alloc (Nat.le_refl _) _⟩

set_option maxHeartbeats 400000 in
set_option maxRecDepth 100000 in
theorem funcSplit_left (v u : Value) (w : World) (hv : NotStr v) (hu : u = .nilIface ∨ ∃ t x, u = .iface t x) :
    Calls Tryd.prog 51 #[v, u] w fun e w' => ∃ g, e = .returned (errB g) ∧ Below w.heap.size w w' := by
  obtain ⟨hf, ht⟩ := hv
  rcases hf with rfl | ⟨ty, x, rfl⟩ <;> rcases hu with rfl | ⟨ty', x', rfl⟩
  all_goals
    go_enter Tryd.func51, Tryd.ntmps51
    go_wp2
    go_ret
    exact ⟨_, rfl, (Below.refl _ _).alloc (Nat.le_refl _) _⟩

set_option maxHeartbeats 400000 in
set_option maxRecDepth 100000 in
theorem funcSplit_right (s : ByteArray) (u : Value) (w : World) (hu : NotStr u) :
    Calls Tryd.prog 51 #[.iface 9 (.string s), u] w fun e w' => ∃ g, e = .returned (errB g) ∧ Below w.heap.size w w' := by
  obtain ⟨hf, ht⟩ := hu
  rcases hf with rfl | ⟨ty, x, rfl⟩
  all_goals
    go_enter Tryd.func51, Tryd.ntmps51
    go_wp2
    go_ret
    exact ⟨_, rfl, (Below.refl _ _).alloc (Nat.le_refl _) _⟩

/-- The pieces of two strings, or nothing. -/
def splitV (x y : V) (l : List ByteArray) : V := if x.k = 4 ∧ y.k = 4 then listV (l.map strV) else nilV
def split_end (x y : V) : Int := if x.k = 4 ∧ y.k = 4 then 0 else 1
def splitOk (x y : V) (l : List ByteArray) : Prop := x.k = 4 ∧ y.k = 4 → SplitOk x.str y.str l
/-- fromGo reads short strings. -/
theorem from_str : FromGoAt fun x => ∃ k : ByteArray, x = strV k ∧ k.size ≤ 4096 := by
  rintro x ⟨k, rfl, hk⟩ v w lo B hv hB
  rw [rdA_str_inv hv]
  exact fromGo_string k w (Nat.le_trans hk (by decide))
theorem result_list (l : List ByteArray) (hl : l.length ≤ 4097) (hs : ∀ k ∈ l, k.size ≤ 4096) (v : Value) (w : World) (lo B : Nat) (hv : RdA w lo B (listV (l.map strV)) v) (hB : B ≤ w.heap.size) :
    Calls Tryd.prog 31 #[v] w (Gives (listV (l.map strV)) 0 w) := by
  have hv' := hv
  unfold listV at hv'
  rw [RdA] at hv'
  obtain ⟨A, c, rfl, h1, h2, h3⟩ := hv'.2.2.2.2.2.1 rfl
  refine result_of _ _ w (fun W => taListError _ W) fun W hb => fromGo_list _ _ W fun W' hb' => ?_
  have hb2 := below_then hb hb'
  refine listFromGo_any (fun x => ∃ k : ByteArray, x = strV k ∧ k.size ≤ 4096) from_str (fun x hx w lo B v hr => ?_) (l.map strV) (fun x hx => ?_) A _ c lo B W' rfl (by rw [List.length_map]; omega) (RdAL.same (SameIn.of_same ((Same.of_below hb2).mono hB)) (Nat.le_refl _) (Nat.le_refl _) _ _ _ h3) (Nat.le_trans hB hb2.size)
  · obtain ⟨k, rfl, _⟩ := hx
    exact .inr ⟨_, _, rdA_str_inv hr⟩
  · obtain ⟨k, hk, rfl⟩ := List.mem_map.1 hx
    exact ⟨k, rfl, hs k hk⟩

/-- What the function gives, and what result makes of it. -/
theorem split_both (x y : V) (v u : Value) {w : World} {lo B lo' B' : Nat} {w' : World} (hv : RdA w lo B x v) (hu : RdA w' lo' B' y u) (hx : x.good) (hy : y.good) (hs : x.str.size ≤ 4096) (ht : y.str.size ≤ 4096) (W : World) (hT : Tabs W) (h2 : 2 ≤ W.heap.size) :
    Calls Tryd.prog 51 #[v, u] W fun e W1 => ∃ r, e = .returned r ∧ ∃ l, splitOk x y l ∧ Below W.heap.size W W1 ∧ Calls Tryd.prog 31 #[r] W1 (Gives (splitV x y l) (split_end x y) W1) := by
  unfold splitOk splitV split_end
  rcases str_or hv hx with ⟨k1, rfl⟩ | ⟨k1, hn⟩
  · rcases str_or hu hy with ⟨k2, rfl⟩ | ⟨k2, hn⟩
    · rw [if_pos ⟨k1, k2⟩]
      refine (funcSplit_str _ _ W hs ht hT h2).mono ?_
      rintro e W1 ⟨r, l, rfl, hr, hb, hok⟩
      refine ⟨r, rfl, l, fun _ => hok, hb, ?_⟩
      rw [if_pos ⟨k1, k2⟩]
      exact result_list l hok.1 hok.2.1 r W1 _ _ hr (Nat.le_refl _)
    · refine (funcSplit_right _ _ W hn).mono ?_
      rintro e W1 ⟨g, rfl, hb⟩
      refine ⟨_, rfl, [], fun h => absurd h.2 k2, hb, ?_⟩
      rw [if_neg (fun h => k2 h.2), if_neg (fun h => k2 h.2)]
      exact result_err' g W1
  · refine (funcSplit_left _ _ W hn (hu.form hy)).mono ?_
    rintro e W1 ⟨g, rfl, hb⟩
    refine ⟨_, rfl, [], fun h => absurd h.1 k1, hb, ?_⟩
    rw [if_neg (fun h => k1 h.1), if_neg (fun h => k1 h.1)]
    exact result_err' g W1

end Go.Proofs.YtpamlgdcnmcedaaDoor
