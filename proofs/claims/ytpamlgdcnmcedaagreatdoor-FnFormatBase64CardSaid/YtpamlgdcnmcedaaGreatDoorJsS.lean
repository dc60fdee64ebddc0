/-
  spec.JSON: where it says 0 it is the text. append of no element. spec.JSON at a list and at a map. spec.JSON at every right value.
-/
import Derived.Test.YtpamlgdcnmcedaaGreatDoorQd
import Derived.Test.YtpamlgdcnmcedaaGreatDoorJson
import Derived.Test.YtpamlgdcnmcedaaGreatDoorVal
import Derived.Test.YtpamlgdcnmcedaaGreatDoorToGo
import Derived.Deep.AppendLies
import Derived.Test.YtpamlgdcnmcedaaGreatDoorUpD
import Derived.Test.YtpamlgdcnmcedaaGreatDoorEncS
namespace Go.Proofs.YtpamlgdcnmcedaaGreatDoor
set_option linter.unusedVariables false
set_option linter.unusedSimpArgs false
open Go.RowKit

def JsIs (T : List UInt8) (w : World) (e : Ending) (w' : World) : Prop := ∃ (o : ByteArray) (how : Int), e = .returned (.tuple #[.string o, .int .i64 how]) ∧ ((how = 0 → o.data.toList = T) ∧ how ≠ 1) ∧ Below w.heap.size w w'
/-- spec.JSON at every right value of at most m parts. -/
def JsUpTo (m : Nat) : Prop := ∀ (x : V), V.cnt x ≤ m → x.good → x.nb ≤ 1000000 → ∀ (cs : List Value) (w : World) (B : Nat), Rd w B x cs → B ≤ w.heap.size → Calls Tryz.prog 8 #[.agg cs.toArray] w (JsIs (json x) w)

set_option maxHeartbeats 1600000 in
set_option maxRecDepth 100000 in
theorem js_scalar (k h : Int) (t : ByteArray) (A3 A4 A5 : Option Addr) (n3 c3 n4 c4 n5 c5 : Nat) (l : List V) (ks : List ByteArray) (vs : List V) (hk : 0 ≤ k ∧ k ≤ 4) (hb : okB h) (ht : t.size ≤ 1000000) (w : World) :
    Calls Tryz.prog 8 #[.agg #[.int .i64 k, .int .i64 h, .string t, .slice A3 n3 c3, .slice A4 n4 c4, .slice A5 n5 c5]] w (JsIs (json (.mk k h t l ks vs)) w) := by
  rw [json]
  obtain ⟨o1, ho1⟩ : ∃ o, Obj.cells #[Value.int .i64 k, .int .i64 h, .string t, .slice A3 n3 c3, .slice A4 n4 c4, .slice A5 n5 c5] 26 = o := ⟨_, rfl⟩
  have hal : Below w.heap.size w (w.alloc o1) := (Below.refl _ _).alloc (Nat.le_refl _) _
  have cF := figures_any h (w.alloc o1) (by unfold okB at hb; omega) (by unfold okB at hb; omega)
  have cQ := quoted_any t (w.alloc o1) ht
  rw [← ho1] at cF cQ hal
  have CF := Sec.mk cF
  have CQ := Sec.mk cQ
  have HAL := Sec.mk hal
  clear cF cQ hal ho1
  have hk5 : k = 0 ∨ k = 1 ∨ k = 2 ∨ k = 3 ∨ k = 4 := by omega
  clear hk
  rcases hk5 with rfl | rfl | rfl | rfl | rfl
  · go_enter Tryz.func8, Tryz.ntmps8
    go_wp2_with fail
    go_ret2
    exact ⟨_, 0, rfl, ⟨fun _ => rfl, by decide⟩, HAL.out⟩
  · go_enter Tryz.func8, Tryz.ntmps8
    go_wp2_with fail
    go_ret2
    exact ⟨_, 0, rfl, ⟨fun _ => rfl, by decide⟩, HAL.out⟩
  · go_enter Tryz.func8, Tryz.ntmps8
    go_wp2_with fail
    go_ret2
    exact ⟨_, 0, rfl, ⟨fun _ => rfl, by decide⟩, HAL.out⟩
  · go_enter Tryz.func8, Tryz.ntmps8
    go_wp2_with fail
    refine CF.out.mono ?_
    rintro e w2 ⟨o, how, rfl, hw2, _, h1⟩
    have HB2 := Sec.mk (show Below w.heap.size w w2 by rw [hw2]; exact HAL.out)
    have H1 := Sec.mk (show (how = 0 → o.data.toList = figL h) ∧ how ≠ 1 from ⟨fun e => by rw [h1.1 e], h1.2⟩)
    clear h1 hw2
    go_wp2_with fail
    go_ret2
    exact ⟨o, how, rfl, H1.out, HB2.out⟩
  · go_enter Tryz.func8, Tryz.ntmps8
    go_wp2_with fail
    refine CQ.out.mono ?_
    rintro e w2 ⟨o, how, rfl, h1, h2, h3⟩
    have HB2 := Sec.mk (below_then' HAL.out h3)
    have H1 := Sec.mk h1
    clear h1 h3
    go_wp2_with fail
    go_ret2
    exact ⟨o, how, rfl, H1.out, HB2.out⟩

end Go.Proofs.YtpamlgdcnmcedaaGreatDoor

namespace Go.Proofs.YtpamlgdcnmcedaaGreatDoor
set_option linter.unusedVariables false
set_option linter.unusedSimpArgs false
open Go.RowKit

theorem run_append_zero {P : Program} (w : World) (t ty e : TypeId) (i : TypeInfo) (ht : P.underlying t = some (.slice e)) (hi : P.info? e = some i) (a : Addr) (m cap c : Nat) (A : Option Addr) (hm : m ≤ cap) :
    (Builtin.append_ #[t, t] ty #[.slice (some a) m cap, .slice A 0 c]).run P w = .ok (.slice (some a) m cap) w := by
  cases A with
  | none => simp [Builtin.append_, run_underlying ht, sizeOf, typeInfo, hi, Builtin.lenOf, hm, Builtin.firstCells, storeCells]
  | some b => simp [Builtin.append_, run_underlying ht, sizeOf, typeInfo, hi, Builtin.lenOf, hm, Builtin.firstCells, loadCells, loadCellsFrom, storeCells]

theorem RdL.news {w : World} {B : Nat} {ad : Addr} : ∀ (l : List V) (i0 : Nat), RdL w B (some ad) i0 l → ∃ news : List Value, news.length = l.length * 6 ∧ (∀ j u, news[j]? = some u → w.cell? (ad.add (i0 * 6 + j)) = some u) ∧ (∀ u ∈ news, u.oneCell' = true) ∧
    ∀ i x, l[i]? = some x → ∃ cs, Rd w B x cs ∧ ∀ u c, cs[u]? = some c → news[i * 6 + u]? = some c
  | [], _, _ => ⟨[], rfl, fun j u h => by simp at h, fun u h => by simp at h, fun i x h => by simp at h⟩
  | y :: ys, i0, h => by
    rw [RdL] at h
    obtain ⟨⟨ad', cs, e, _, hr, hc⟩, hrest⟩ := h
    obtain rfl := Option.some.inj e
    obtain ⟨news, h1, h2, h3, h4⟩ := RdL.news ys (i0 + 1) hrest
    obtain ⟨k, h', t, A3, n3, c3, A4, n4, c4, A5, n5, c5, rfl⟩ := hr.form
    refine ⟨[.int .i64 k, .int .i64 h', .string t, .slice A3 n3 c3, .slice A4 n4 c4, .slice A5 n5 c5] ++ news, by simp; omega, fun j u hj => ?_, fun u hu => ?_, fun i x hi => ?_⟩
    · by_cases hj6 : j < 6
      · rw [List.getElem?_append_left (by simpa using hj6)] at hj
        exact hc j u hj
      · rw [List.getElem?_append_right (by simpa using Nat.not_lt.1 hj6)] at hj
        have := h2 _ u hj
        rw [show (i0 + 1) * 6 + (j - List.length [Value.int .i64 k, .int .i64 h', .string t, .slice A3 n3 c3, .slice A4 n4 c4, .slice A5 n5 c5]) = i0 * 6 + j from by simp; omega] at this
        exact this
    · rcases List.mem_append.1 hu with hu | hu
      · simp only [List.mem_cons, List.not_mem_nil, or_false] at hu
        rcases hu with rfl | rfl | rfl | rfl | rfl | rfl <;> rfl
      · exact h3 u hu
    · cases i with
      | zero =>
        obtain rfl : y = x := by simpa using hi
        refine ⟨_, hr, fun u c hu => ?_⟩
        rw [Nat.zero_mul, Nat.zero_add, List.getElem?_append_left (List.getElem?_eq_some_iff.1 hu).1]
        exact hu
      | succ i =>
        obtain ⟨cs, g1, g2⟩ := h4 i x (by simpa using hi)
        refine ⟨cs, g1, fun u c hu => ?_⟩
        rw [List.getElem?_append_right (by simp; omega), show (i + 1) * 6 + u - List.length [Value.int .i64 k, .int .i64 h', .string t, .slice A3 n3 c3, .slice A4 n4 c4, .slice A5 n5 c5] = i * 6 + u from by simp; omega]
        exact g2 u c hu

end Go.Proofs.YtpamlgdcnmcedaaGreatDoor

namespace Go.Proofs.YtpamlgdcnmcedaaGreatDoor
set_option linter.unusedVariables false
set_option linter.unusedSimpArgs false
open Go.RowKit

theorem infoV8 : (Tryz.prog.info? 26).map (fun i => (i.zero, i.size, i.bytes)) = some (some (.agg #[.int .i64 0, .int .i64 0, .string ⟨#[]⟩, .slice none 0 0, .slice none 0 0, .slice none 0 0]), 6, 104) := by kernel_rfl
theorem own_emptyV {W : World} {base b : Nat} (hb : base ≤ b) (h : W.heap[b]? = some (.cells #[] 26 (0, 0))) : W.ownsRow base 26 6 (.slice (some ⟨b, 0, none⟩) 0 0) 0 [] :=
  ⟨rfl, .inr ⟨b, 0, #[], rfl, hb, h, Nat.le_refl _, Nat.zero_le _, rfl, rfl⟩⟩
theorem own_cap {w : World} {base e g n cap : Nat} {xs : List Value} (h : w.ownsRow base e 6 (.slice (some ⟨g, 0, none⟩) n cap) n xs) : n ≤ cap := by
  rcases h.2 with ⟨h', _⟩ | ⟨g', cap', cur, h', _, _, hc, _⟩
  · cases h'
  · injection h' with _ _ h3
    rw [h3]; exact hc
theorem cell_lt {w : World} {a : Addr} {u : Value} (h : w.cell? a = some u) : a.block < w.heap.size := by
  rcases Nat.lt_or_ge a.block w.heap.size with h' | h'
  · exact h'
  · rw [World.cell?, Array.getElem?_eq_none h'] at h; cases h

/-- Nothing is appended: nothing changes. -/
theorem step_append_zero {P : Program} {w : World} {ops : Array Oper} {o : Oper} {a : Act} {K : Act → World → Prop} {Q : Exit → Act → World → Prop} {E : Prop} (hgd : o.guard = none) (s x : Operand) (t : TypeId)
    (ho : o.op = .call { callee := .builtin .append, args := #[s, x], argTypes := #[t, t] }) (e : TypeId) (i : TypeInfo) (ht : P.underlying t = some (.slice e)) (hi : P.info? e = some i)
    (a0 : Addr) (m cap c : Nat) (A : Option Addr) (hs : a.eval s = .slice (some a0) m cap) (hx : a.eval x = .slice A 0 c) (hm : m ≤ cap)
    (h : K (a.put o.dst (.slice (some a0) m cap)) w) : if Region.wanted o (yielded ops a.tmps) = true then Oper.wp P o a w K Q else E := by
  have hw : Region.wanted o (yielded ops a.tmps) = true := by simp [Region.wanted, hgd]
  rw [if_pos hw]
  have hr := run_append_zero w t o.type e i ht hi a0 m cap c A hm
  unfold Oper.wp execOp
  simp only [ho, resolve, invoke, builtin, Sem.run_bind, Sem.run_pure, Result.andThen_ok, List.map_toArray, List.map_cons, List.map_nil, hs, hx, hr]
  exact h

/-- The texts that JSON joins. -/
def rowsOf (kk : Int) (ks : List ByteArray) (l : List V) : List (List UInt8) := if kk = 5 then jsonL l else jsonM ks l
def preOf (kk : Int) (ks : List ByteArray) (i : Nat) : List UInt8 := if kk = 5 then [] else quotE (keyAt ks i).data.toList ++ [58]
theorem rows_get {kk : Int} {ks : List ByteArray} {l : List V} {i : Nat} {x : V} (hx : l[i]? = some x) (hk : kk = 6 → ks.length = l.length) (h56 : kk = 5 ∨ kk = 6) : (rowsOf kk ks l)[i]? = some (preOf kk ks i ++ json x) := by
  unfold rowsOf preOf
  rcases h56 with rfl | rfl
  · rw [if_pos rfl, if_pos rfl, jsonL_map, List.getElem?_map, hx]; rfl
  · rw [if_neg (by decide), if_neg (by decide), jsonM_zip, List.getElem?_zipWith, keyAt_get (by rw [hk rfl]; exact (List.getElem?_eq_some_iff.1 hx).1), hx]
    simp [entry]
theorem rows_len {kk : Int} {ks : List ByteArray} {l : List V} (hk : kk = 6 → ks.length = l.length) (h56 : kk = 5 ∨ kk = 6) : (rowsOf kk ks l).length = l.length := by
  unfold rowsOf
  rcases h56 with rfl | rfl
  · rw [if_pos rfl, jsonL_map, List.length_map]
  · rw [if_neg (by decide), jsonM_zip, List.length_zipWith, hk rfl, Nat.min_self]
/-- The text so far, with the comma ahead of text i. -/
def headE (E : List (List UInt8)) (i : Nat) : List UInt8 := joined (E.take i) ++ (if i = 0 then [] else [44])
theorem headE_next {E : List (List UInt8)} {i : Nat} {y : List UInt8} (h : E[i]? = some y) : headE E i ++ y = joined (E.take (i + 1)) := by
  have hlt := (List.getElem?_eq_some_iff.1 h).1
  rw [show E.take (i + 1) = E.take i ++ [y] from by rw [List.take_add_one, h]; rfl]
  unfold headE
  by_cases h0 : i = 0
  · subst h0; rw [if_pos rfl, List.take_zero, joined_first rfl, List.append_nil]
  · rw [if_neg h0, joined_next]
    intro e
    have := congrArg List.length e
    rw [List.length_take, List.length_nil] at this
    omega
theorem headE_len {E : List (List UInt8)} {i : Nat} {y : List UInt8} (h : E[i]? = some y) : (headE E i).length + y.length ≤ total E := by
  have h1 := total_take h
  have h2 := joined_len (E.take i)
  unfold headE
  rw [List.length_append]
  split <;> simp <;> omega
theorem joined_take_len (E : List (List UInt8)) (i : Nat) : (joined (E.take i)).length ≤ total E := by
  have h1 := joined_len (E.take i)
  have h2 : total E = total (E.take i) + total (E.drop i) := by rw [← total_append, List.take_append_drop]
  omega
theorem size_of {o : ByteArray} {l : List UInt8} (h : o.data.toList = l) : o.size = l.length := by rw [← h]; exact Array.length_toList.symm
/-- Values that lie one behind the other, told by their cells. -/
theorem rdL_of_cells {w : World} {B : Nat} {a : Addr} (hb : a.block < B) : ∀ (l : List V) (i0 : Nat), (∀ i x, l[i]? = some x → ∃ cs, Rd w B x cs ∧ ∀ j u, cs[j]? = some u → w.cell? (a.add ((i0 + i) * 6 + j)) = some u) → RdL w B (some a) i0 l
  | [], _, _ => by rw [RdL]; trivial
  | x :: xs, i0, h => by
    rw [RdL]
    obtain ⟨cs, h1, h2⟩ := h 0 x rfl
    exact ⟨⟨a, cs, rfl, hb, h1, h2⟩, rdL_of_cells hb xs (i0 + 1) fun i y hy => by
      obtain ⟨cs, h1, h2⟩ := h (i + 1) y (by simpa using hy)
      exact ⟨cs, h1, fun j u hu => by rw [show i0 + 1 + i = i0 + (i + 1) from by omega]; exact h2 j u hu⟩⟩
theorem row_reads {w w3 : World} {B base g n cap : Nat} {news : List Value} {l : List V} (ho : w3.ownsRow base 26 6 (.slice (some ⟨g, 0, none⟩) n cap) n news) (hl : l.length = n)
    (q : ∀ i x, l[i]? = some x → ∃ cs, Rd w B x cs ∧ ∀ u c, cs[u]? = some c → news[i * 6 + u]? = some c) (hs : Same B w w3) (hB : B ≤ w3.heap.size) (hn : 0 < n) : RdL w3 w3.heap.size (some ⟨g, 0, none⟩) 0 l := by
  have hg : g < w3.heap.size := (ho.lt g rfl).2
  refine rdL_of_cells hg l 0 fun i x hx => ?_
  obtain ⟨cs, h1, h2⟩ := q i x hx
  refine ⟨cs, Rd.mono hB _ _ (Rd.same hs _ _ h1), fun j u hu => ?_⟩
  have h3 := h2 j u hu
  rw [Nat.zero_add, add_plain, ho.cellAt _ (by have := (List.getElem?_eq_some_iff.1 h3).1; rw [ho.1] at this; exact this)]
  exact h3
/-- What region 17 leaves. -/
def Row17 (w0 : World) (l : List V) (n : Nat) (v70 v71 v72 : Value) (wx : World) : Prop := v71 = .int .i64 (n : Int) ∧ v72 = .int .i64 0 ∧ ∃ a cap, v70 = .slice (some a) n cap ∧ n ≤ cap ∧ RdL wx wx.heap.size (some a) 0 l ∧ Below w0.heap.size w0 wx
theorem Row17.drew {w0 : World} {l : List V} {n : Nat} {v70 v71 v72 : Value} {wx : World} (h : Row17 w0 l n v70 v71 v72 wx) : Row17 w0 l n v70 v71 v72 wx.drew := by
  obtain ⟨h1, h2, a, cap, h3, h4, h5, h6⟩ := h
  exact ⟨h1, h2, a, cap, h3, h4, RdL.same (w := wx) (w' := wx.drew) (B := wx.heap.size) (fun _ _ => rfl) _ _ _ h5, h6.drew⟩

set_option maxHeartbeats 1600000 in
set_option maxRecDepth 100000 in
theorem js_parts (m : Nat) (ih : JsUpTo m) (hm6 : m ≤ 10000000000) (kk h : Int) (n n3 n4 n5 c3 c4 c5 : Nat) (A3 A4 A5 : Option Addr) (t : ByteArray) (l : List V) (ks : List ByteArray) (w : World) (B : Nat) (hn : l.length = n) (hnz : n ≤ 1000000000)
    (hm : V.cntL l ≤ m) (hg : V.goodL l) (hnb : V.nbS ks + V.nbL l ≤ 1000000) (hB : B ≤ w.heap.size)
    (hcase : (kk = 5 ∧ n3 = n ∧ n4 = 0 ∧ n5 = 0 ∧ RdL w B A3 0 l) ∨ (kk = 6 ∧ n3 = 0 ∧ n4 = n ∧ n5 = n ∧ ks.length = n ∧ RdS w B A4 ks ∧ RdL w B A5 0 l)) :
    Calls Tryz.prog 8 #[.agg #[.int .i64 kk, .int .i64 h, .string t, .slice A3 n3 c3, .slice A4 n4 c4, .slice A5 n5 c5]] w (JsIs (if kk = 5 then 91 :: (joined (rowsOf kk ks l) ++ [93]) else 123 :: (joined (rowsOf kk ks l) ++ [125])) w) := by
  have h56 : kk = 5 ∨ kk = 6 := by rcases hcase with ⟨e, _⟩ | ⟨e, _⟩; exact .inl e; exact .inr e
  have k0 : (kk == 0) = false := by simp; omega
  have k1 : (kk == 1) = false := by simp; omega
  have k2 : (kk == 2) = false := by simp; omega
  have k3 : (kk == 3) = false := by simp; omega
  have k4 : (kk == 4) = false := by simp; omega
  have k7 : (kk == 7) = false := by simp; omega
  obtain ⟨E, hE⟩ : ∃ E, rowsOf kk ks l = E := ⟨_, rfl⟩
  rw [hE]
  have hET : total E ≤ 40 * V.cntL l + 6 * (V.nbS ks + V.nbL l) := by
    rw [← hE]; unfold rowsOf
    have h1 := jsonL_len l hg
    have h2 := jsonM_len l ks hg
    split <;> omega
  obtain ⟨T, hT⟩ : ∃ T, (if kk = 5 then 91 :: (joined E ++ [93]) else 123 :: (joined E ++ [125])) = T := ⟨_, rfl⟩
  rw [hT]
  have HE := Sec.mk (And.intro hE hET)
  have HT := Sec.mk hT
  clear hE hET hT
  have HC := Sec.mk hcase
  have H56 := Sec.mk h56
  have HN := Sec.mk (And.intro hn (And.intro hnz (And.intro hm (And.intro hg (And.intro hnb hm6)))))
  have HR := Sec.mk hB
  clear hcase h56 hn hnz hm hg hnb hB hm6
  go_enter Tryz.func8, Tryz.ntmps8
  go_upto_region 14 with fail
  generalize ho1 : Obj.cells _ 26 = o1
  generalize hw0 : World.alloc w o1 = w0
  have hb0 : Below w.heap.size w w0 := by rw [← hw0]; exact (Below.refl _ _).alloc (Nat.le_refl _) _
  have hz : w0.heap.size = w.heap.size + 1 := by rw [← hw0]; simp
  have hbox : w0.heap[w.heap.size]? = some (.cells #[Value.int .i64 kk, .int .i64 h, .string t, .slice A3 n3 c3, .slice A4 n4 c4, .slice A5 n5 c5] 26 (0, 0)) := by rw [← hw0, ← ho1]; exact heap_alloc_new w _
  have b0 : w0.cell? ⟨w.heap.size, 0, none⟩ = some (.int .i64 kk) := by simp [World.cell?, hbox]
  have b3 : w0.cell? ⟨w.heap.size, 3, none⟩ = some (.slice A3 n3 c3) := by simp [World.cell?, hbox]
  have b4 : w0.cell? ⟨w.heap.size, 4, none⟩ = some (.slice A4 n4 c4) := by simp [World.cell?, hbox]
  have b5 : w0.cell? ⟨w.heap.size, 5, none⟩ = some (.slice A5 n5 c5) := by simp [World.cell?, hbox]
  have HB0 := Sec.mk hb0
  clear ho1 hw0 hb0 hbox
  go_cut [63] (fun v63 wx => v63 = .bool false ∧ wx = w0)
  case first =>
    rcases HC.out with ⟨rfl, rfl, rfl, rfl, _⟩ | ⟨rfl, rfl, rfl, rfl, _, _, _⟩
    · go_wp2_with fail
      go_meet
      exact ⟨rfl, rfl⟩
    · go_wp2_with fail
      go_meet
      exact ⟨rfl, rfl⟩
  case rest =>
    obtain ⟨rfl, hwe⟩ := hcut
    replace hwe := hwe.symm
    subst hwe
    go_upto_region 17 with fail
    obtain ⟨i0, hi0, hz0, hz1, hz2⟩ := info_parts infoV8
    have hlt0 : w.heap.size < w0.heap.size := by omega
    go_cut [70, 71, 72] (fun v70 v71 v72 wx => Row17 w0 l n v70 v71 v72 wx)
    case first =>
      obtain ⟨s3, hs3⟩ : ∃ s, Value.slice A3 n3 c3 = s := ⟨_, rfl⟩
      obtain ⟨s5, hs5⟩ : ∃ s, Value.slice A5 n5 c5 = s := ⟨_, rfl⟩
      have HS := Sec.mk (And.intro hs3 hs5)
      rw [hs3] at b3
      rw [hs5] at b5
      have C0 := Sec.mk (And.intro b3 b5)
      clear hs3 hs5 b4
      by_cases hn0 : n = 0
      · have x3 : ∃ c, s3 = .slice A3 0 c := by rcases HC.out with ⟨_, e, _⟩ | ⟨_, e, _⟩; exact ⟨c3, by rw [← HS.out.1, e, hn0]⟩; exact ⟨c3, by rw [← HS.out.1, e]⟩
        have x5 : ∃ c, s5 = .slice A5 0 c := by rcases HC.out with ⟨_, _, _, e, _⟩ | ⟨_, _, _, e, _⟩; exact ⟨c5, by rw [← HS.out.2, e]⟩; exact ⟨c5, by rw [← HS.out.2, e, hn0]⟩
        obtain ⟨c3', x3⟩ := x3
        obtain ⟨c5', x5⟩ := x5
        have X3 := Sec.mk x3
        have X5 := Sec.mk x5
        clear x3 x5
        have HN0 := Sec.mk hn0
        clear hn0
        go_region_held3 (fun W => W.cell? ⟨w.heap.size, 3, none⟩ = some s3 ∧ W.cell? ⟨w.heap.size, 5, none⟩ = some s5) (first | exact ⟨b3, b5⟩ | go_keep) (refine step_append_zero (by rfl) _ _ _ (by rfl) 26 i0 Tryz.underlying23 hi0 ⟨w.heap.size + 1, 0, none⟩ 0 0 _ _ (by rfl) (by first | exact X3.out | exact X5.out) (Nat.le_refl _) ?_)
        all_goals
          go_wp2_with fail
          go_meet
          refine ⟨by rw [HN0.out]; rfl, rfl, ⟨w.heap.size + 1, 0, none⟩, 0, by rw [HN0.out], by rw [HN0.out]; exact Nat.le_refl _, ?_, (by repeat (first | with_reducible exact Below.refl _ _ | with_reducible refine below_dr ?_ | with_reducible refine below_up ?_ _))⟩
          have hl0 : l = [] := List.eq_nil_of_length_eq_zero (by rw [HN.out.1, HN0.out])
          rw [hl0, RdL]; trivial
      · have HNZ := Sec.mk (Nat.pos_of_ne_zero hn0)
        clear hn0
        have HZ := Sec.mk hz
        have hnn := HN.out.2.1
        have hnz := HNZ.out
        have xr : ∃ (A : Option Addr) (c c' : Nat) (A' : Option Addr), RdL w B A 0 l ∧ ((s3 = .slice A n c ∧ s5 = .slice A' 0 c') ∨ (s5 = .slice A n c ∧ s3 = .slice A' 0 c')) := by
          rcases HC.out with ⟨_, e3, _, e5, hrl⟩ | ⟨_, e3, _, e5, _, _, hrl⟩
          · exact ⟨A3, c3, c5, A5, hrl, .inl ⟨by rw [← HS.out.1, e3], by rw [← HS.out.2, e5]⟩⟩
          · exact ⟨A5, c5, c3, A3, hrl, .inr ⟨by rw [← HS.out.2, e5], by rw [← HS.out.1, e3]⟩⟩
        obtain ⟨A, c, c', A', hrl, hor⟩ := xr
        obtain ⟨ad, hA⟩ : ∃ ad, A = some ad := by
          have hx : l[0]? = some (l[0]'(by rw [HN.out.1]; exact HNZ.out)) := by rw [List.getElem?_eq_getElem]
          obtain ⟨ad, _, e, _⟩ := RdL.get l 0 hrl 0 _ hx
          exact ⟨ad, e⟩
        subst hA
        obtain ⟨news, q1, q2, q3, q4⟩ := RdL.news l 0 hrl
        rw [HN.out.1] at q1
        have HQ := Sec.mk (And.intro q1 q3)
        have HQ4 := Sec.mk q4
        have HNW := Sec.mk (show ∀ W, Below w0.heap.size w0 W → ∀ j u, news[j]? = some u → W.cell? (ad.add j) = some u from fun W hW j u hj => by
          have h1 := q2 j u hj
          rw [Nat.zero_mul, Nat.zero_add] at h1
          have hlt : (ad.add j).block < w.heap.size := cell_lt h1
          exact (hW.cell (p := ad.add j) (by omega)).trans ((HB0.out.cell (p := ad.add j) hlt).trans h1))
        clear q1 q2 q3 q4 hrl
        rcases hor with ⟨x3, x5⟩ | ⟨x5, x3⟩
        all_goals
          have X3 := Sec.mk x3
          have X5 := Sec.mk x5
          clear x3 x5
          have tok := C0
          go_region_held3 (fun W => W.cell? ⟨w.heap.size, 3, none⟩ = some s3 ∧ W.cell? ⟨w.heap.size, 5, none⟩ = some s5) (first | exact ⟨b3, b5⟩ | go_keep) (first | (refine step_append_zero (by rfl) _ _ _ (by rfl) 26 i0 Tryz.underlying23 hi0 _ _ _ _ _ (by rfl) (by first | exact X3.out | exact X5.out) (by first | exact Nat.le_refl _ | exact hcp) ?_) | (refine step_append_some (by rfl) _ _ _ (by rfl) w.heap.size 26 i0 _ 6 104 Tryz.underlying23 hi0 hz0 hz1 hz2 rfl (by decide) (.slice (some ⟨w.heap.size + 1, 0, none⟩) 0 0) 0 [] (by rfl) (own_emptyV (by omega) (by repeat (first | (with_reducible refine heap_new' _ _ _ ?_; simp [HZ.out]; done) | with_reducible refine heap_dr' ?_ | with_reducible refine heap_old' ?_ _))) ⟨_, rfl⟩ ad n _ news (by first | exact X3.out | exact X5.out) HQ.out.1 (HNW.out _ (by repeat (first | with_reducible exact Below.refl _ _ | with_reducible refine below_dr ?_ | with_reducible refine below_up ?_ _))) HQ.out.2 (by unfold maxLen; omega) (by omega) (by first | (simp; done) | (simp; omega)) ?_; intro g' cap w3 ho3 hg3; have hb3 := after_app (w := w0) (by repeat (first | with_reducible exact Below.refl _ _ | with_reducible refine below_dr ?_ | with_reducible refine below_up ?_ _)) hg3 (fun k e => by simp [Value.ownBlock] at e; omega); have b3 := (hb3.cell (p := ⟨w.heap.size, 3, none⟩) hlt0).trans C0.out.1; have b5 := (hb3.cell (p := ⟨w.heap.size, 5, none⟩) hlt0).trans C0.out.2; simp only [Nat.zero_add, List.nil_append] at ho3 ⊢; have hcp := own_cap ho3; have HO3 := Sec.mk ho3; have HB3 := Sec.mk hb3; clear ho3 hg3 hb3))
          all_goals
            go_wp2_with fail
            go_meet
            have hrl3 := row_reads HO3.out HN.out.1 HQ4.out (Same.trans ((Same.of_below HB0.out).mono HR.out) ((Same.of_below HB3.out).mono (Nat.le_trans HR.out (by omega)))) (Nat.le_trans HR.out (Nat.le_trans (by omega) HB3.out.size)) HNZ.out
            first
              | exact ⟨rfl, rfl, _, _, rfl, hcp, hrl3, HB3.out⟩
              | exact Row17.drew ⟨rfl, rfl, _, _, rfl, hcp, hrl3, HB3.out⟩
    case rest =>
      obtain ⟨rfl, rfl, a, cap, rfl, hcap, hrl, hbx⟩ := hcut
      obtain ⟨w1, hw1⟩ : ∃ w1, w1 = wc := ⟨_, rfl⟩
      subst hw1
      have HRL := Sec.mk hrl
      have BX := Sec.mk hbx
      have HB5 := Sec.mk (And.intro b0 (And.intro b3 (And.intro b4 b5)))
      have HL0 := Sec.mk hlt0
      have HKL := Sec.mk (show kk = 6 → ks.length = l.length from fun e => by rcases HC.out with ⟨e5, _⟩ | ⟨_, _, _, _, e, _⟩; omega; rw [e, HN.out.1])
      clear hrl hbx b0 b3 b4 b5 hlt0 hi0 hz0 hz1 hz2
      go_wp2_with fail
      go_loopw [4, 5, 6, 7, 8, 9, 10, 72] (fun v4 _ _ _ _ _ _ v72 wr => ∃ (o : ByteArray) (i : Nat), v4 = .string o ∧ v72 = .int .i64 (i : Int) ∧ i ≤ n ∧ o.data.toList = joined (E.take i) ∧ Below w1.heap.size w1 wr) (fun _ _ _ _ _ _ _ v72 _ => n - (intOf v72).toNat)
      case atStart => exact ⟨_, 0, rfl, rfl, Nat.zero_le _, rfl, Below.refl _ _⟩
      case round =>
        obtain ⟨o, i, rfl, rfl, hi, hot, hb⟩ := hrel
        have hoz := size_of hot
        have hj := joined_take_len E i
        have hlo : o.size ≤ 1000000000000 := by have := HE.out.2; have := HN.out; omega
        have HOT := Sec.mk hot
        have HBR := Sec.mk hb
        clear hot hb hoz hj
        by_cases hin : i < n
        · obtain ⟨x, hx⟩ : ∃ x, l[i]? = some x := ⟨l[i]'(by rw [HN.out.1]; exact hin), by rw [List.getElem?_eq_getElem]⟩
          obtain ⟨ad, k', h', t', A3', n3', c3', A4', n4', c4', A5', n5', c5', e1, hr1, a0, a1, a2, a3, a4, a5⟩ := RdL.cells (RdL.same (Same.of_below HBR.out) l _ 0 HRL.out) hx
          obtain rfl := Option.some.inj e1
          have HX := Sec.mk hx
          have HIN := Sec.mk hin
          have HR1 := Sec.mk hr1
          have f1 : (0 : Int) ≤ (i : Int) := by omega
          have f2 : (i : Int) < (n : Int) := by omega
          clear hx hr1
          go_upto_if 78 with fail
          generalize ho6 : Obj.cells _ 26 = o6
          generalize hw6 : World.alloc wr o6 = w6
          have hb6 : Below wr.heap.size wr w6 := by rw [← hw6]; exact (Below.refl _ _).alloc (Nat.le_refl _) _
          have hz6 : wr.heap.size < w6.heap.size := by rw [← hw6]; simp
          have hc6 : w6.heap[wr.heap.size]? = some (.cells #[Value.int .i64 k', .int .i64 h', .string t', .slice A3' n3' c3', .slice A4' n4' c4', .slice A5' n5' c5'] 26 (0, 0)) := by rw [← hw6, ← ho6]; exact heap_alloc_new wr _
          have g0 : w6.cell? ⟨wr.heap.size, 0, none⟩ = some (.int .i64 k') := by simp [World.cell?, hc6]
          have g1 : w6.cell? ⟨wr.heap.size, 1, none⟩ = some (.int .i64 h') := by simp [World.cell?, hc6]
          have g2 : w6.cell? ⟨wr.heap.size, 2, none⟩ = some (.string t') := by simp [World.cell?, hc6]
          have g3 : w6.cell? ⟨wr.heap.size, 3, none⟩ = some (.slice A3' n3' c3') := by simp [World.cell?, hc6]
          have g4 : w6.cell? ⟨wr.heap.size, 4, none⟩ = some (.slice A4' n4' c4') := by simp [World.cell?, hc6]
          have g5 : w6.cell? ⟨wr.heap.size, 5, none⟩ = some (.slice A5' n5' c5') := by simp [World.cell?, hc6]
          have G6 := Sec.mk (And.intro g0 (And.intro g1 (And.intro g2 (And.intro g3 (And.intro g4 g5)))))
          have HZ6 := Sec.mk hz6
          have HB1 := Sec.mk (below_then HBR.out hb6)
          have HB6 := Sec.mk (below_then BX.out (below_then HBR.out hb6))
          have HRX := Sec.mk (Rd.same ((Same.of_below hb6).mono HBR.out.size) _ _ HR1.out)
          clear ho6 hw6 hb6 hz6 hc6 g0 g1 g2 g3 g4 g5 a0 a1 a2 a3 a4 a5
          have hey : E[i]? = some (preOf kk ks i ++ json x) := by rw [← HE.out.1]; exact rows_get HX.out HKL.out H56.out
          have hel := headE_len hey
          have HEY := Sec.mk hey
          have hel2 : (headE E i).length + (preOf kk ks i).length + (json x).length ≤ 1000000000000 := by
            have := HE.out.2; have := HN.out
            rw [List.length_append] at hel
            omega
          have HEL := Sec.mk hel2
          clear hey hel hel2
          go_cut [4] (fun v4 wx => ∃ o1 : ByteArray, v4 = .string o1 ∧ o1.data.toList = headE E i ∧ wx = w6)
          case first =>
            obtain ⟨q, hq⟩ : ∃ q, decide (0 < i) = q := ⟨_, rfl⟩
            rw [hq]
            have HQ := Sec.mk hq
            clear hq
            cases q
            · go_wp2_with fail
              go_meet
              have h0 : i = 0 := by have := of_decide_eq_false HQ.out; omega
              exact ⟨_, rfl, by rw [HOT.out]; unfold headE; rw [if_pos h0, List.append_nil], rfl⟩
            · have z1 : o.size + 1 ≤ 9223372036854775807 := by omega
              go_wp2_with fail
              go_meet
              have h0 : ¬ i = 0 := by have := of_decide_eq_true HQ.out; omega
              exact ⟨_, rfl, by rw [ByteArray.data_append, Array.toList_append, HOT.out]; unfold headE; rw [if_neg h0], rfl⟩
          case rest =>
            obtain ⟨o1, rfl, ho1, hwe⟩ := hcut
            replace hwe := hwe.symm
            subst hwe
            have hz1 := size_of ho1
            have hlo1 : o1.size ≤ 1000000000000 := by have := HEL.out; omega
            have HO1 := Sec.mk ho1
            have hbb : ∀ j u, w0.cell? ⟨w.heap.size, j, none⟩ = some u → w6.cell? ⟨w.heap.size, j, none⟩ = some u := fun j u hu => (HB6.out.cell (p := ⟨w.heap.size, j, none⟩) HL0.out).trans hu
            have b0 := hbb _ _ HB5.out.1
            have b4 := hbb _ _ HB5.out.2.2.1
            clear ho1 hz1 hbb
            go_upto_if 83 with fail
            go_cut [4] (fun v4 wx => ∃ o2 : ByteArray, v4 = .string o2 ∧ o2.data.toList = headE E i ++ preOf kk ks i ∧ Below w6.heap.size w6 wx)
            case first =>
              rcases H56.out with rfl | rfl
              · go_wp2_with fail
                go_meet
                exact ⟨_, rfl, by rw [HO1.out]; simp [preOf], Below.refl _ _⟩
              · have hks : ks.length = n := by have := HKL.out rfl; rw [this, HN.out.1]
                obtain ⟨-, -, en4, -, -, hrs, -⟩ : (6 : Int) = 6 ∧ n3 = 0 ∧ n4 = n ∧ n5 = n ∧ ks.length = n ∧ RdS w B A4 ks ∧ RdL w B A5 0 l := by
                  rcases HC.out with ⟨e, _⟩ | h
                  · omega
                  · exact h
                subst en4
                obtain ⟨key, hkey⟩ : ∃ key, keyAt ks i = key := ⟨_, rfl⟩
                have hk := keyAt_get (ks := ks) (i := i) (by omega)
                rw [hkey] at hk
                obtain ⟨_, a4, rfl, ha4, hc4⟩ := hrs i key hk
                have d4 : w6.cell? (a4.add i) = some (.string key) := by
                  have h1 : (a4.add i).block < w.heap.size := by rw [add_block]; have := HR.out; omega
                  exact (HB6.out.cell (p := a4.add i) (Nat.lt_trans h1 HL0.out)).trans ((HB0.out.cell (p := a4.add i) h1).trans hc4)
                have hksz : key.size ≤ 1000000 := by
                  have h1 := V.nbS_snoc hk
                  have h2 := V.nbS_split ks (i + 1)
                  have := HN.out
                  omega
                have CQ := Sec.mk (quoted_any key w6 hksz)
                have HKEY := Sec.mk hkey
                have hpre : preOf 6 ks i = quotE key.data.toList ++ [58] := by unfold preOf; rw [if_neg (by decide), hkey]
                have HPRE := Sec.mk hpre
                clear hks hrs hk ha4 hc4 hkey hpre hksz
                go_wp2_with fail
                refine CQ.out.mono ?_
                rintro e w7 ⟨s, how, rfl, h1, h2, h3⟩
                have HB7 := Sec.mk h3
                have H1 := Sec.mk h1
                clear h1 h2 h3 b0 b4 d4
                by_cases hh : how = 0
                · subst hh
                  have hs0 := H1.out.1 rfl
                  have hs1 := size_of hs0
                  have hs2 : s.size + 1 ≤ 1000000000000 := by have := HEL.out; rw [HPRE.out, List.length_append, List.length_singleton] at this; omega
                  have HS0 := Sec.mk hs0
                  have z1 : s.size + 1 ≤ 9223372036854775807 := by omega
                  have z2 : o1.size + (s.size + 1) ≤ 9223372036854775807 := by omega
                  clear hs0 hs1
                  go_wp2_with fail
                  go_meet
                  exact ⟨_, rfl, by rw [HPRE.out, ByteArray.data_append, Array.toList_append, HO1.out, ByteArray.data_append, Array.toList_append, HS0.out], HB7.out⟩
                · have t1 : (how != 0) = true := by simp [hh]
                  have HH := Sec.mk hh
                  clear hh
                  go_wp2_with fail
                  go_ret2
                  exact ⟨_, how, rfl, ⟨fun h => absurd h HH.out, H1.out.2⟩, below_then' HB0.out (below_then' HB6.out HB7.out)⟩
            case rest =>
              obtain ⟨o2, rfl, ho2, hb7⟩ := hcut
              have hz2 := size_of ho2
              have hlo2 : o2.size + (json x).length ≤ 1000000000000 := by have := HEL.out; rw [List.length_append] at hz2; omega
              have hgg : ∀ j u, w6.cell? ⟨wr.heap.size, j, none⟩ = some u → wc.cell? ⟨wr.heap.size, j, none⟩ = some u := fun j u hu => (hb7.cell (p := ⟨wr.heap.size, j, none⟩) HZ6.out).trans hu
              have g0 := hgg _ _ G6.out.1
              have g1 := hgg _ _ G6.out.2.1
              have g2 := hgg _ _ G6.out.2.2.1
              have g3 := hgg _ _ G6.out.2.2.2.1
              have g4 := hgg _ _ G6.out.2.2.2.2.1
              have g5 := hgg _ _ G6.out.2.2.2.2.2
              have hbw : Below w1.heap.size w1 wc := below_then HB1.out hb7
              have CT := Sec.mk (ih x (Nat.le_trans (V.cnt_le_get HX.out) HN.out.2.2.1) (V.goodL_get HN.out.2.2.2.1 HX.out) (Nat.le_trans (V.nb_le_get HX.out) (by have := HN.out; omega)) _ wc w1.heap.size (Rd.same ((Same.of_below hb7).mono HB1.out.size) _ _ HRX.out) hbw.size)
              have HO2 := Sec.mk ho2
              have HBW := Sec.mk hbw
              have HLO := Sec.mk hlo2
              clear ho2 hb7 hz2 hgg hbw hlo2 b0 b4
              go_wp2_with fail
              refine CT.out.mono ?_
              rintro e w8 ⟨s, how, rfl, h1, h2⟩
              have H1 := Sec.mk h1
              have HB8 := Sec.mk (below_then HBW.out h2)
              clear h1 h2 g0 g1 g2 g3 g4 g5
              by_cases hh : how = 0
              · subst hh
                have hs0 := H1.out.1 rfl
                have hs1 := size_of hs0
                have z1 : o2.size + s.size ≤ 9223372036854775807 := by have := HLO.out; omega
                have hnz : n ≤ 1000000000 := HN.out.2.1
                have hin := HIN.out
                have HS0 := Sec.mk hs0
                clear hs0 hs1
                go_wp2_with fail
                go_roundw
                case rel => exact ⟨_, i + 1, rfl, by go_num, by have := HIN.out; omega, by rw [ByteArray.data_append, Array.toList_append, HO2.out, HS0.out, List.append_assoc, headE_next HEY.out], HB8.out⟩
                case measure => have := HIN.out; simp [intOf]; omega
              · have t1 : (how != 0) = true := by simp [hh]
                have HH := Sec.mk hh
                clear hh
                go_wp2_with fail
                go_ret2
                exact ⟨_, how, rfl, ⟨fun h => absurd h HH.out, H1.out.2⟩, below_then' HB0.out (below_then' BX.out HB8.out)⟩
        · obtain rfl : i = n := by omega
          have hel : E.length = i := by rw [← HE.out.1, rows_len HKL.out H56.out, HN.out.1]
          have hot : o.data.toList = joined E := by rw [HOT.out, ← hel, List.take_length]
          have b0 := (((below_then BX.out HBR.out).cell (p := ⟨w.heap.size, 0, none⟩) HL0.out).trans HB5.out.1)
          have HOJ := Sec.mk hot
          have HBF := Sec.mk (below_then' HB0.out (below_then' BX.out HBR.out))
          have z1 : 1 + o.size ≤ 9223372036854775807 := by omega
          have z2 : 1 + o.size + 1 ≤ 9223372036854775807 := by omega
          clear hel hot
          rcases H56.out with rfl | rfl
          · go_wp2_with fail
            go_ret2
            refine ⟨_, 0, rfl, ⟨fun _ => ?_, by decide⟩, HBF.out⟩
            rw [← HT.out, ByteArray.data_append, Array.toList_append, ByteArray.data_append, Array.toList_append, HOJ.out]
            simp
          · go_wp2_with fail
            go_ret2
            refine ⟨_, 0, rfl, ⟨fun _ => ?_, by decide⟩, HBF.out⟩
            rw [← HT.out, ByteArray.data_append, Array.toList_append, ByteArray.data_append, Array.toList_append, HOJ.out]
            simp

end Go.Proofs.YtpamlgdcnmcedaaGreatDoor

namespace Go.Proofs.YtpamlgdcnmcedaaGreatDoor
set_option linter.unusedVariables false
set_option linter.unusedSimpArgs false
open Go.RowKit

theorem js_upTo : ∀ m, m ≤ 1000000000 → JsUpTo m := by
  intro m
  induction m with
  | zero =>
    intro _ x hx
    cases x
    rw [V.cnt] at hx
    omega
  | succ m ih =>
    intro hm1 x hx hg hnb cs w B hr hB
    have ihm := ih (by omega)
    cases x with
    | mk k h t l ks vs =>
      rw [V.cnt] at hx
      rw [V.nb] at hnb
      rw [V.good] at hg
      rw [Rd] at hr
      obtain ⟨⟨g0, g6, gk3, gk4, gk5, gk6, gkl⟩, gB, gt, gl, gvs, gr, gv⟩ := hg
      obtain ⟨A3, c3, A4, c4, A5, c5, rfl, ht, ⟨a3, m3, r3⟩, ⟨a4, m4, r4⟩, ⟨a5, m5, r5⟩⟩ := hr
      have hl1 := V.length_le_cntL l
      have hl2 := V.length_le_cntL vs
      by_cases h4 : k ≤ 4
      · exact js_scalar k h t A3 A4 A5 _ c3 _ c4 _ c5 l ks vs ⟨g0, h4⟩ gB (by omega) w
      · by_cases h5 : k = 5
        · subst h5
          have e4 : ks.length = 0 := gk6.resolve_left (by decide)
          have e5 : vs.length = 0 := by rw [← gkl]; exact e4
          have := js_parts m ihm (by omega) 5 h l.length l.length ks.length vs.length c3 c4 c5 A3 A4 A5 t l ks w B rfl (by omega) (by omega) gl (by omega) hB (.inl ⟨rfl, rfl, e4, e5, r3⟩)
          rw [json]
          simpa [rowsOf] using this
        · obtain rfl : k = 6 := by omega
          have e3 : l.length = 0 := gk5.resolve_left (by decide)
          have := js_parts m ihm (by omega) 6 h vs.length l.length ks.length vs.length c3 c4 c5 A3 A4 A5 t vs ks w B rfl (by omega) (by omega) gv (by omega) hB (.inr ⟨rfl, e3, gkl, rfl, gkl, r4, r5⟩)
          rw [json]
          simpa [rowsOf] using this
/-- What Fit lets by: spec.JSON tells its text, or nothing. -/
theorem js_any (x : V) (hf : Fits x) (cs : List Value) (w : World) (B : Nat) (hr : Rd w B x cs) (hB : B ≤ w.heap.size) : Calls Tryz.prog 8 #[.agg cs.toArray] w (JsIs (json x) w) :=
  js_upTo _ (by obtain ⟨_, _, _⟩ := hf; omega) x (Nat.le_refl _) hf.1 (by obtain ⟨_, _, _⟩ := hf; omega) cs w B hr hB

end Go.Proofs.YtpamlgdcnmcedaaGreatDoor
