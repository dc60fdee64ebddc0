/-
  The text of a map, written: its entries in the order of their keys.
-/
import Derived.Test.YtpamlgdcnmcedaaGreatDoorEncAB
import Derived.Test.YtpamlgdcnmcedaaGreatDoorSrt
import Derived.Maps.RangeWalk
namespace Go.Proofs.YtpamlgdcnmcedaaGreatDoor
set_option linter.unusedVariables false
set_option linter.unusedSimpArgs false
open Go.RowKit Go.Maps
open Go.RowKit (Below)
open Go.Sort (HoldsK get_flatK flatK)
theorem ents_old {Y : World} {g : Nat} {o : Obj} (h : Y.heap[g]? = some o) (o' : Obj) : (Y.alloc o').heap[g]? = some o := (Below.heap_alloc Y o' g (Array.getElem?_eq_some_iff.1 h).1).trans h
theorem ents_new (Y : World) (o : Obj) (g : Nat) (h : Y.heap.size = g) : (Y.alloc o).heap[g]? = some o := by subst h; exact heap_alloc_new Y o
theorem ents_lt {w : World} {g : Nat} {o : Obj} (h : w.heap[g]? = some o) : g < w.heap.size := (Array.getElem?_eq_some_iff.1 h).1
theorem ents_two {w : World} {T : Nat} {a u : Value} {ty : TypeId} (h : w.heap[T]? = some (.cells #[a, u] ty (0, 0))) : w.cell? ⟨T, 1, none⟩ = some u := by simp [World.cell?, h]
theorem law9 : Keyed Tryz.prog 9 := string_keyed Tryz.underlying9
/-- The row of entries: so far those numbered js have been put in. -/
def RowE (w : World) (S n : Nat) (ks : List ByteArray) (xs : List Value) (js : List Nat) : Prop := ∃ C : Array Value, w.heap[S]? = some (.cells C 123 (0, 0)) ∧ C.size = 2 * n ∧ ∀ j i, js[j]? = some i → C[2 * j]? = some (.string (keyAt ks i)) ∧ C[2 * j + 1]? = some (valAt xs i)
/-- What a map of held values holds at a key is one of its entries. -/
theorem atKey_inv {ks : List ByteArray} {xs : List Value} {x : ByteArray} {c : Value} (h : ∀ zd, (DataW.map (pairs ks xs)).atKey (.string x.data.toList) zd = .held c) : ∃ i, i < ks.length ∧ keyAt ks i = x ∧ valAt xs i = c := by
  cases hf : (pairs ks xs).find? (fun p => p.1.sameKey (.string x.data.toList)) with
  | none =>
    have h1 := h (.lit (.bool false))
    simp only [DataW.atKey, hf] at h1
    cases h1
  | some p =>
    have h1 := h (.lit (.bool false))
    simp only [DataW.atKey, hf] at h1
    obtain ⟨i, k, v, e1, e2, rfl⟩ := pairs_mem ks xs p (List.mem_of_find?_eq_some hf)
    have h2 := List.find?_some hf
    have h3 : k.data.toList = x.data.toList := by simpa [Lit.sameKey] using h2
    have h4 : v = c := by simpa using h1
    refine ⟨i, (List.getElem?_eq_some_iff.1 e1).1, ?_, ?_⟩
    · unfold keyAt
      rw [List.getD_eq_getElem?_getD, e1]
      obtain ⟨⟨a⟩⟩ := k
      obtain ⟨⟨b⟩⟩ := x
      simp only at h3
      show ByteArray.mk _ = _
      rw [h3]
    · unfold valAt
      rw [List.getD_eq_getElem?_getD, e2]
      exact h4

theorem valAt_mem {xs : List Value} {i : Nat} (h : i < xs.length) : valAt xs i ∈ xs := by
  unfold valAt
  rw [List.getD_eq_getElem?_getD, List.getElem?_eq_getElem h]
  exact List.getElem_mem h
def Ifc (v : Value) : Prop := v = .nilIface ∨ ∃ t u, v = .iface t u
theorem Ifc.one {v : Value} (h : Ifc v) : v.oneCell' = true := by
  rcases h with rfl | ⟨t, u, rfl⟩ <;> rfl
theorem RdA.ifc {w : World} {lo B : Nat} : ∀ (x : V) (v : Value), RdA w lo B x v → x.good → Ifc v
  | .mk k h t l ks vs, v, hr, hg => by
    rw [RdA] at hr
    rw [V.good] at hg
    obtain ⟨⟨g0, g6, _⟩, _⟩ := hg
    obtain ⟨h0, h1, h2, h3, h4, h5, h6⟩ := hr
    have hk : k = 0 ∨ k = 1 ∨ k = 2 ∨ k = 3 ∨ k = 4 ∨ k = 5 ∨ k = 6 := by omega
    rcases hk with e | e | e | e | e | e | e
    · exact .inl (h0 e)
    · exact .inr ⟨_, _, h1 e⟩
    · exact .inr ⟨_, _, h2 e⟩
    · refine .inr ?_
      rw [h3 e]; unfold numA; split <;> exact ⟨_, _, rfl⟩
    · exact .inr ⟨_, _, h4 e⟩
    · obtain ⟨A, c, e', _⟩ := h5 e; exact .inr ⟨_, _, e'⟩
    · obtain ⟨b, n, xs, e', _⟩ := h6 e; exact .inr ⟨_, _, e'⟩

/-- The first loop: the entries numbered js are in the row. -/
structure OL (w1 wr : World) (n nn mb : Nat) (ks : List ByteArray) (xs : List Value) (left : Lit → Bool) (cnt : Nat) (js : List Nat) : Prop where
  rg : wr.ranges Tryz.prog 9 heldR mb (w1.heap.size + 2) nn (.map (pairs ks xs)) left cnt
  col : Collected (.map (pairs ks xs)) left (js.map fun i => (keyAt ks i).data.toList)
  mem : ∀ i ∈ js, i < n
  few : cnt + js.length ≤ n
  row : RowE wr w1.heap.size n ks xs js
  bel : Go.RowKit.Below w1.heap.size w1 wr
  box : wr.heap[w1.heap.size + 1]? = some (.cells #[.slice (some ⟨w1.heap.size, 0, none⟩) n n] 121 (0, 0))

theorem OL.step {w1 wr w4 : World} {n nn mb : Nat} {ks : List ByteArray} {xs : List Value} {left left' : Lit → Bool} {cnt cnt4 : Nat} {js : List Nat} {i : Nat} {x : ByteArray} {c : Value} (h : OL w1 wr n nn mb ks xs left cnt js)
    (hg4 : wr.grownBy w4 (some (w1.heap.size + 2))) (hrg : w4.ranges Tryz.prog 9 heldR mb (w1.heap.size + 2) nn (.map (pairs ks xs)) left' cnt4) (hcol : Collected (.map (pairs ks xs)) left' ((js.map fun i => (keyAt ks i).data.toList) ++ [x.data.toList]))
    (hlt : cnt4 < cnt) (hi : i < n) (hk : keyAt ks i = x) (hv : valAt xs i = c) (hmb : mb < w1.heap.size) :
    OL w1 ((w4.setCell ⟨w1.heap.size, js.length * 2, none⟩ (.string x)).setCell ⟨w1.heap.size, js.length * 2 + 1, none⟩ c) n nn mb ks xs left' cnt4 (js ++ [i]) := by
  obtain ⟨C, hC1, hC2, hC3⟩ := h.row
  have hfew := h.few
  have hC4 : w4.heap[w1.heap.size]? = some (.cells C 123 (0, 0)) := (hg4.block _ (ents_lt hC1) (by simp)).trans hC1
  have hgs : w4.grownBy ((w4.setCell ⟨w1.heap.size, js.length * 2, none⟩ (.string x)).setCell ⟨w1.heap.size, js.length * 2 + 1, none⟩ c) (some w1.heap.size) := by
    refine ⟨rfl, rfl, rfl, by simp [World.setCell], fun k hk hne => ?_⟩
    have hkS : k ≠ w1.heap.size := fun e => hne (by rw [e])
    rw [heap_setCell_other _ _ k _ hkS, heap_setCell_other _ _ k _ hkS]
  refine ⟨hrg.kept hgs (by intro e; injection e with e; omega) (by intro e; injection e with e; omega), ?_, ?_, ?_, ?_, ?_, ?_⟩
  · rw [List.map_append, List.map_cons, List.map_nil, hk]
    exact hcol
  · intro j hj
    rcases List.mem_append.1 hj with hj | hj
    · exact h.mem j hj
    · obtain rfl : j = i := by simpa using hj
      exact hi
  · rw [List.length_append, List.length_singleton]; omega
  · refine ⟨(C.setIfInBounds (js.length * 2) (.string x)).setIfInBounds (js.length * 2 + 1) c, by simp [World.setCell, Array.getElem?_modify, hC4], by simpa using hC2, fun j i' hj => ?_⟩
    rw [List.getElem?_append] at hj
    split at hj
    · rename_i hjl
      obtain ⟨g1, g2⟩ := hC3 j i' hj
      rw [Array.getElem?_setIfInBounds, Array.getElem?_setIfInBounds, if_neg (by omega), if_neg (by omega), Array.getElem?_setIfInBounds, Array.getElem?_setIfInBounds, if_neg (by omega), if_neg (by omega)]
      exact ⟨g1, g2⟩
    · rename_i hjl
      have hj0 : j - js.length = 0 := by
        have := (List.getElem?_eq_some_iff.1 hj).1
        simp at this; omega
      rw [hj0] at hj
      obtain rfl : i = i' := by simpa using hj
      obtain rfl : j = js.length := by omega
      rw [hk, hv]
      constructor
      · rw [Array.getElem?_setIfInBounds, if_neg (by omega), Nat.mul_comm 2, Array.getElem?_setIfInBounds, if_pos rfl, if_pos (by omega)]
      · rw [Nat.mul_comm 2, Array.getElem?_setIfInBounds, if_pos rfl, if_pos (by simp; omega)]
  · have hb4 : Below w1.heap.size w1 w4 := h.bel.grown hg4 h.bel.size (fun k e => by injection e with e; omega)
    exact hb4.grown hgs hb4.size (fun k e => by injection e with e; omega)
  · rw [heap_setCell_other _ _ _ _ (by show w1.heap.size + 1 ≠ w1.heap.size; omega), heap_setCell_other _ _ _ _ (by show w1.heap.size + 1 ≠ w1.heap.size; omega)]
    exact (hg4.block _ (ents_lt h.box) (by simp)).trans h.box
theorem keyAt_get {ks : List ByteArray} {i : Nat} (h : i < ks.length) : ks[i]? = some (keyAt ks i) := by
  unfold keyAt; rw [List.getD_eq_getElem?_getD, List.getElem?_eq_getElem h]; rfl
theorem keyAt_ne {ks : List ByteArray} (hr : rises ks) {i j : Nat} (hi : i < ks.length) (hj : j < ks.length) (h : (keyAt ks i).data.toList = (keyAt ks j).data.toList) : i = j := by
  rcases Nat.lt_trichotomy i j with hlt | he | hlt
  · exact absurd h (sLess_ne (keyAt_lt hr hlt hj))
  · exact he
  · exact absurd h.symm (sLess_ne (keyAt_lt hr hlt hi))
theorem OL.done {w1 wr : World} {n nn mb : Nat} {ks : List ByteArray} {xs : List Value} {left : Lit → Bool} {cnt : Nat} {js : List Nat} (h : OL w1 wr n nn mb ks xs left cnt js) (hl : ∀ kl, left kl = false) (hr : rises ks) (hn : ks.length = n) (hx : xs.length = n) : js.Perm (List.range n) := by
  have hp := h.col.perm h.rg.owns law9 Tryz.underlying9 hl
  rw [strKeys_pairs ks xs (by rw [hn, hx])] at hp
  have hnd : js.Nodup := by
    have := h.col.1
    rw [List.Nodup, List.pairwise_map] at this
    exact this.imp fun {a b} hab e => hab (by rw [e])
  refine (List.perm_ext_iff_of_nodup hnd List.nodup_range).2 fun i => ?_
  rw [List.mem_range]
  refine ⟨h.mem i, fun hi => ?_⟩
  have h1 : (keyAt ks i).data.toList ∈ ks.map (·.data.toList) := List.mem_map.2 ⟨_, List.mem_of_getElem? (keyAt_get (by omega)), rfl⟩
  obtain ⟨j, hj, e⟩ := List.mem_map.1 (hp.mem_iff.2 h1)
  have := keyAt_ne hr (by rw [hn]; exact h.mem j hj) (by omega) e
  rw [← this]
  exact hj
theorem RowE.holds {w : World} {S n : Nat} {ks : List ByteArray} {xs : List Value} {js : List Nat} (h : RowE w S n ks xs js) : HoldsK (encE ks xs) 2 w S 0 js.toArray := by
  obtain ⟨C, h1, h2, h3⟩ := h
  intro j hj
  have hj' : j < js.toArray.size * 2 := by simpa using hj
  have hjs : j / 2 < js.length := by simp at hj'; omega
  rw [get_flatK _ _ _ _ hj', Nat.zero_add]
  obtain ⟨g1, g2⟩ := h3 (j / 2) _ (List.getElem?_eq_getElem hjs)
  have e1 : js.toArray[j / 2]! = js[j / 2] := by rw [getElem!_pos _ _ (by simpa using hjs)]; simp
  rw [e1]
  refine ⟨?_, by simp [World.frozen?, h1]⟩
  have e2 : w.cell? ⟨S, j, none⟩ = C[j]? := by simp [World.cell?, h1]
  rw [e2]
  generalize js[j / 2] = i at g1 g2 ⊢
  generalize hq : j / 2 = q at g1 g2
  rcases Nat.mod_two_eq_zero_or_one j with h0 | h0
  · have e3 : j = 2 * q := by omega
    rw [h0, e3, g1]; rfl
  · have e3 : j = 2 * q + 1 := by omega
    rw [h0, e3, g2]; rfl
/-- A text so far: a first byte, the first i texts with commas between. -/
def headJ (l : List UInt8) (c : UInt8) (E : List (List UInt8)) (i : Nat) : List UInt8 := l ++ c :: joined (E.take i)
theorem headJ_first {l : List UInt8} {c : UInt8} {E : List (List UInt8)} {t : List UInt8} (h : E[0]? = some t) : headJ l c E 0 ++ t = headJ l c E 1 := by
  cases E with
  | nil => simp at h
  | cons a E =>
    obtain rfl : a = t := by simpa using h
    simp [headJ, joined]
theorem headJ_next {l : List UInt8} {c : UInt8} {E : List (List UInt8)} {t : List UInt8} {i : Nat} (h : E[i]? = some t) (hi : 0 < i) : (headJ l c E i ++ [44]) ++ t = headJ l c E (i + 1) := by
  have hlt := (List.getElem?_eq_some_iff.1 h).1
  have hne : E.take i ≠ [] := by
    intro e
    have h1 := congrArg List.length e
    rw [List.length_take, List.length_nil, Nat.min_eq_left (by omega)] at h1
    omega
  unfold headJ
  rw [List.take_add_one, h]
  simp only [Option.toList]
  rw [joined_next hne]
  simp
theorem V.nbS_split (ks : List ByteArray) (i : Nat) : V.nbS ks = V.nbS (ks.take i) + V.nbS (ks.drop i) := by
  conv => lhs; rw [← List.take_append_drop i ks]
  unfold V.nbS
  rw [List.map_append, List.sum_append]
theorem jsonM_take (ks : List ByteArray) (vs : List V) (i : Nat) : (jsonM ks vs).take i = jsonM (ks.take i) (vs.take i) := by
  rw [jsonM_zip, jsonM_zip, List.take_zipWith]
theorem jsonM_get {ks : List ByteArray} {vs : List V} {i : Nat} {x : V} (hi : i < ks.length) (hx : vs[i]? = some x) : (jsonM ks vs)[i]? = some (entry (keyAt ks i) x) := by
  rw [jsonM_zip, List.getElem?_zipWith, keyAt_get hi, hx]
theorem headO_len {l : List UInt8} {ks : List ByteArray} {vs : List V} (hg : V.goodL vs) (i : Nat) : (headJ l 123 (jsonM ks vs) i).length ≤ l.length + 1 + 40 * V.cntL (vs.take i) + 6 * (V.nbS (ks.take i) + V.nbL (vs.take i)) := by
  have h1 := jsonM_len (vs.take i) (ks.take i) (V.goodL_take hg i)
  have h2 := joined_len (jsonM (ks.take i) (vs.take i))
  unfold headJ
  rw [jsonM_take, List.length_append, List.length_cons]
  omega
theorem headO_room {l : List UInt8} {ks : List ByteArray} {vs : List V} {i : Nat} {x : V} (hg : V.goodL vs) (hi : i < ks.length) (hx : vs[i]? = some x) (hz : l.length + 40 + 40 * V.cntL vs + 6 * (V.nbS ks + V.nbL vs) ≤ 1000000000) : (headJ l 123 (jsonM ks vs) i).length + 10 + 6 * (keyAt ks i).size + 40 * x.cnt + 6 * x.nb ≤ 1000000000 := by
  have h1 := headO_len (l := l) (ks := ks) hg i
  have h3 := V.cntL_snoc hx
  have h4 := V.nbL_snoc hx
  have h5 := V.nbS_snoc (keyAt_get hi)
  have h6 := V.cntL_split vs (i + 1)
  have h7 := V.nbL_split vs (i + 1)
  have h8 := V.nbS_split ks (i + 1)
  omega
theorem make_ents (n : Nat) (hnz : n ≤ 1000000000) (W : World) : (Instr.makeSlice 121 (.int .i64 (n : Int)) (.int .i64 (n : Int))).run Tryz.prog W = .ok (.slice (some ⟨W.heap.size, 0, none⟩) n n) (W.alloc (.cells (madeCells #[.string ⟨#[]⟩, .nilIface] (n * 2)) 123)) := by
  have hb : (srtE.bytes : Int) = 32 := by
    have : srtE.bytes = 32 := by kernel_rfl
    rw [this]; rfl
  have h := run_make (P := Tryz.prog) W 121 123 srtE (.agg #[.string ⟨#[]⟩, .nilIface]) Tryz.underlying121 (by kernel_rfl) (by kernel_rfl) .i64 .i64 n n (by omega) (Int.le_refl _) (by rw [hb]; omega) (by omega)
  rw [show srtE.size = 2 from by kernel_rfl] at h
  simpa [Value.cells] using h
theorem size_pairs {ks : List ByteArray} {xs : List Value} (h : ks.length = xs.length) : Maps.size (DataW.map (pairs ks xs)) = ks.length := pairs_length ks xs h

set_option maxHeartbeats 3200000 in
set_option maxRecDepth 100000 in
theorem encO_any (m : Nat) (ih : EncUpTo m) (ks : List ByteArray) (vs : List V) (hm : V.cntL vs ≤ m) (hg : V.goodL vs) (hris : rises ks) (hval : validS ks) (n : Nat) (hn : ks.length = n) (hnv : vs.length = n) (mb nn lo B b g : Nat) (xs : List Value) (l : List UInt8) (w : World)
    (hown : w.ownsMap Tryz.prog 9 heldR mb nn (.map (pairs ks xs))) (hmb : mb < B) (hr : RdAV w lo B vs xs) (hS : St w B b g l) (hT : Tabs w) (hB2 : 2 ≤ B) (hz : l.length + 40 + 40 * V.cntL vs + 6 * (V.nbS ks + V.nbL vs) ≤ 1000000000) (hnz : n ≤ 1000000000) :
    Calls Tryz.prog 50 #[.pointer (some ⟨g, 0, none⟩), .map (some mb)] w (EncPost w B b g l (123 :: (joined (jsonM ks vs) ++ [125]))) := by
  obtain ⟨cs, hE⟩ := hS.enc
  have d0 := hE.c0
  unfold wVal at d0
  have CW := Sec.mk (st_byte 123 hS (by omega))
  go_enter Tryz.func50, Tryz.ntmps50
  go_wp2_with fail
  refine CW.out.mono ?_
  rintro e w1 ⟨⟨v, rfl⟩, hS1, hk1⟩
  have HXL := Sec.mk (show xs.length = n from (rdAV_length vs xs hr).symm.trans hnv)
  have HONE := Sec.mk (show ∀ v ∈ xs, Ifc v from fun v hv => by
    obtain ⟨i, hi⟩ := List.getElem?_of_mem hv
    have hlt := (List.getElem?_eq_some_iff.1 hi).1
    have hl : vs.length = xs.length := rdAV_length vs xs hr
    obtain ⟨u, hu, hru⟩ := rdAV_get vs xs hr i _ (List.getElem?_eq_getElem (by omega))
    rw [hi] at hu
    obtain rfl := Option.some.inj hu
    exact RdA.ifc _ _ hru (V.goodL_get hg (List.getElem?_eq_getElem (by omega))))
  have hown1 := owns_same hown (hk1.below.block mb hmb)
  have hsz : Maps.size (DataW.map (pairs ks xs)) = n := by rw [size_pairs (by rw [hn, ← hnv]; exact rdAV_length vs xs hr)]; exact hn
  have hlen : ∀ ty, (Builtin.len_ #[64] ty #[.map (some mb)]).run Tryz.prog w1 = .ok (.int .i64 (n : Int)) w1 := fun ty => by rw [hown1.len Tryz.underlying64 ty, hsz]
  have hmk := fun W => make_ents n hnz W
  go_upto_region 3 with fail
  obtain ⟨w2, hw2⟩ : ∃ w2, (w1.alloc (.cells (madeCells #[.string ⟨#[]⟩, .nilIface] (n * 2)) 123)).alloc (.cells #[.slice (some ⟨w1.heap.size, 0, none⟩) n n] 121) = w2 := ⟨_, rfl⟩
  rw [hw2]
  have hb2 : Go.RowKit.Below w1.heap.size w1 w2 := by rw [← hw2]; exact ((Go.RowKit.Below.refl _ _).alloc (Nat.le_refl _) _).alloc (by simp) _
  have hz2 : w2.heap.size = w1.heap.size + 2 := by rw [← hw2]; simp
  have hrow2 : RowE w2 w1.heap.size n ks xs [] := by
    refine ⟨madeCells #[.string ⟨#[]⟩, .nilIface] (n * 2), ?_, ?_, fun j i h => by simp at h⟩
    · rw [← hw2]
      exact ents_old (heap_alloc_new w1 _) _
    · simp [madeCells]; omega
  have hbox2 : w2.heap[w1.heap.size + 1]? = some (.cells #[.slice (some ⟨w1.heap.size, 0, none⟩) n n] 121 (0, 0)) := by
    rw [← hw2]
    exact ents_new _ _ _ (by simp)
  have hown2 := owns_same hown1 (hb2.block mb (by have := hS1.size; omega))
  clear hw2 d0 hlen hmk
  go_wp2_with (first
    | (at_range; refine wpList_range_own _ rfl _ 64 rfl 9 20 law9 Tryz.underlying64 _ mb nn _ rfl hown2 ?_; intro w3 hrg3 hg3 hs3)
    | go_in)
  go_frame
  rw [hz2] at hrg3
  have hol : OL w1 w3 n nn mb ks xs (Maps.has (.map (pairs ks xs))) (Maps.size (.map (pairs ks xs))) [] := by
    refine ⟨hrg3, Collected.start _, fun i h => by simp at h, by rw [size_pairs (by rw [hn, ← hnv]; exact rdAV_length vs xs hr)]; simp; omega, ?_, ?_, ?_⟩
    · obtain ⟨C, h1, h2, h3⟩ := hrow2
      exact ⟨C, (hg3.block _ (ents_lt h1) (by simp)).trans h1, h2, h3⟩
    · exact hb2.grown hg3 hb2.size (fun k e => by cases e)
    · exact (hg3.block _ (ents_lt hbox2) (by simp)).trans hbox2
  rw [hz2]
  have HOL := Sec.mk hol
  have HS1 := Sec.mk hS1
  have HK1 := Sec.mk hk1
  clear hol hS1 hk1 hrg3 hg3 hs3 hown2 hbox2 hrow2 hz2 hb2 hown1
  go_loopw [5, 6, 7] (fun v5 _ _ wr => ∃ left cnt js, v5 = .int .i64 (js.length : Int) ∧ OL w1 wr n nn mb ks xs left cnt js) (fun _ _ _ wr => wr.rangeLeft mb (w1.heap.size + 2))
  case atStart => exact ⟨_, _, [], rfl, HOL.out⟩
  case round =>
    obtain ⟨left, cnt, js, rfl, hl⟩ := hrel
    have hrg := hl.rg
    go_wp2_with (first
      | (at_next; refine wpList_next_ranges _ rfl _ rfl 9 law9 heldR Value.string (fun v : Value => v) (fun key kl h => by obtain ⟨x, hx, _⟩ := Maps.keyOf_str Tryz.underlying9 h; exact ⟨⟨x.toArray⟩, hx⟩) (fun v y _ => ⟨v, rfl⟩) mb (w1.heap.size + 2) nn _ _ _ rfl hrg ?_ ?_)
      | go_in)
    · intro hc0 hl0
      have hperm := hl.done hl0 hris hn HXL.out
      have c0 : wr.cell? ⟨w1.heap.size + 1, 0, none⟩ = some (.slice (some ⟨w1.heap.size, 0, none⟩) n n) := by simp [World.cell?, hl.box]
      have CS := Sec.mk (sort_any ks xs n hris hn (fun v hv => (HONE.out v hv).one) js hperm (by omega) w1.heap.size n (w1.heap.size + 1) wr hl.row.holds (by have := ents_lt hl.box; omega) c0 (ents_lt hl.box) (by omega))
      go_wp2_with fail
      refine CS.out.mono ?_
      rintro e w5 ⟨rfl, hg5, hH5, hC5⟩
      have hbox5 : w5.heap[w1.heap.size + 1]? = some (.cells #[.slice (some ⟨w1.heap.size, 0, none⟩) n n] 121 (0, 0)) := (hg5.block _ (ents_lt hl.box) (by simp)).trans hl.box
      have c5 : w5.cell? ⟨w1.heap.size + 1, 0, none⟩ = some (.slice (some ⟨w1.heap.size, 0, none⟩) n n) := by simp [World.cell?, hbox5]
      have hb5 : Below w1.heap.size w1 w5 := hl.bel.grown hg5 hl.bel.size (fun k e => by injection e with e; omega)
      obtain ⟨C0, hC0, _⟩ := hl.row
      obtain ⟨C, hC⟩ := hC5 _ _ _ hC0
      have hS5 := HS1.out.below hb5
      have hk5 := HK1.out.trans (Kp.of_below hb5 HS1.out.size)
      have hbS : w1.heap.size ≠ b := fun e => by have := HS1.out.wr.1.lt; omega
      have hgS : w1.heap.size ≠ g := fun e => by obtain ⟨cs, hE⟩ := HS1.out.enc; have := hE.lt; omega
      have hcell : ∀ i, i < n → C[i * 2]? = some (.string (keyAt ks i)) ∧ C[i * 2 + 1]? = some (valAt xs i) := fun i hi => by
        have g1 := (hH5.cell (i := i) (c := 0) (by simpa using hi) (by omega)).1
        have g2 := (hH5.cell (i := i) (c := 1) (by simpa using hi) (by omega)).1
        have e1 : (List.range n).toArray[i]! = i := by rw [getElem!_pos _ _ (by simpa using hi)]; simp
        have e2 : ∀ k, w5.cell? ⟨w1.heap.size, k, none⟩ = C[k]? := fun k => by simp [World.cell?, hC]
        rw [e1, e2, Nat.zero_add] at g1 g2
        exact ⟨g1, g2⟩
      have HC := Sec.mk (And.intro hC (And.intro hbS (And.intro hgS hcell)))
      have HS5 := Sec.mk hS5
      have HK5 := Sec.mk hk5
      clear hbox5 hb5 hC0 hC hS5 hk5 hbS hgS hcell hH5 hC5 hg5 c0
      go_wp2_with fail
      clear c5 hl hrg hperm hl0 hc0
      go_loopw [8, 9, 39] (fun _ _ v39 wr => ∃ i : Nat, v39 = .int .i64 (i : Int) ∧ i ≤ n ∧ St wr B b g (headJ l 123 (jsonM ks vs) i) ∧ Kp B b g w5 wr) (fun _ _ v39 _ => n - (intOf v39).toNat)
      case atStart => exact ⟨0, rfl, Nat.zero_le _, by have := HS5.out; unfold headJ; simpa [joined] using this, Kp.refl _ _ _ _⟩
      case round =>
        obtain ⟨i, rfl, hi, hs, hk⟩ := hrel
        obtain ⟨cs1, hE1⟩ := hs.enc
        have d0 := hE1.c0
        unfold wVal at d0
        have HS := Sec.mk hs
        have HK := Sec.mk hk
        clear hs hk hE1
        by_cases hin : i < n
        · obtain ⟨hC, hbS, hgS, hcell⟩ := HC.out
          have hCr := HK.out.cells hC hbS hgS (by decide)
          obtain ⟨cK, cV⟩ := hcell i hin
          have c0 : wr.cell? ⟨w1.heap.size, i * 2, none⟩ = some (.string (keyAt ks i)) := by simp [World.cell?, hCr, cK]
          have c1 : wr.cell? ⟨w1.heap.size, i * 2 + 1, none⟩ = some (valAt xs i) := by simp [World.cell?, hCr, cV]
          clear hC hbS hgS hcell hCr cK cV
          have hifc := HONE.out _ (valAt_mem (xs := xs) (i := i) (by rw [HXL.out]; exact hin))
          generalize hkk : keyAt ks i = kk at c0
          generalize hcc : valAt xs i = c at c1 hifc
          have z1 : (0 : Int) ≤ (i : Int) := by omega
          have z2 : (i : Int) < (n : Int) := by omega
          obtain ⟨x, hx⟩ : ∃ x, vs[i]? = some x := ⟨vs[i]'(by rw [hnv]; exact hin), by rw [List.getElem?_eq_getElem]⟩
          have hE := jsonM_get (ks := ks) (by rw [hn]; exact hin) hx
          have hro := headO_room hg (by rw [hn]; exact hin) hx hz
          have hvk := hval (keyAt ks i) (List.mem_of_getElem? (keyAt_get (by rw [hn]; exact hin)))
          obtain ⟨xi, hxi, hxr⟩ := rdAV_get vs xs hr i x hx
          have hxc : xi = c := by rw [← hcc]; unfold valAt; rw [List.getD_eq_getElem?_getD, hxi]; rfl
          subst hxc
          rw [hkk] at hE hro hvk
          obtain ⟨L, hL1, hL2, hL3, hL4⟩ : ∃ L, L ++ entry kk x = headJ l 123 (jsonM ks vs) (i + 1) ∧ L.length ≤ (headJ l 123 (jsonM ks vs) i).length + 1 ∧ (i = 0 → L = headJ l 123 (jsonM ks vs) i) ∧ (0 < i → L = headJ l 123 (jsonM ks vs) i ++ [44]) := by
            by_cases h0 : i = 0
            · subst h0
              exact ⟨_, headJ_first hE, by omega, fun _ => rfl, fun h => by omega⟩
            · exact ⟨_, headJ_next hE (by omega), by simp, fun h => absurd h h0, fun _ => rfl⟩
          have HL := Sec.mk (And.intro hL1 (And.intro hL2 (And.intro hL3 hL4)))
          have HX := Sec.mk (And.intro hro (And.intro hvk (And.intro hxr (And.intro (V.goodL_get hg hx) (Nat.le_trans (V.cnt_le_get hx) hm)))))
          clear hE hro hvk hL1 hL2 hL3 hL4 hx hxi hkk hcc hxr
          rcases hifc with rfl | ⟨tc, uc, rfl⟩
          all_goals
            go_upto_if 45 with fail
            generalize ho6 : Obj.cells _ 123 (0, 0) = o6
            generalize hw6 : World.alloc wr o6 = w6
            have hb6 : Below wr.heap.size wr w6 := by rw [← hw6]; exact (Below.refl _ _).alloc (Nat.le_refl _) _
            have hc6 := ents_new wr o6 _ rfl
            rw [hw6, ← ho6] at hc6
            have hs6 := HS.out.below hb6
            have hk6 := HK.out.trans (Kp.of_below hb6 HS.out.size)
            have hTb : wr.heap.size ≠ b := fun e => by have := HS.out.wr.1.lt; omega
            have hTg : wr.heap.size ≠ g := fun e => by obtain ⟨cs, hE⟩ := HS.out.enc; have := hE.lt; omega
            have H6 := Sec.mk (And.intro hs6 (And.intro hk6 (And.intro hc6 (And.intro hTb hTg))))
            clear c0 c1 hw6 ho6 hb6 hc6 hs6 hk6 hTb hTg d0
            go_cut [] (fun wx => St wx B b g L ∧ Kp B b g w6 wx)
            case first =>
              obtain ⟨q, hq⟩ : ∃ q, decide (0 < i) = q := ⟨_, rfl⟩
              rw [hq]
              have HQ := Sec.mk hq
              clear hq
              cases q
              · have HM := Sec.mk (show St w6 B b g L ∧ Kp B b g w6 w6 from ⟨by rw [HL.out.2.2.1 (by have := of_decide_eq_false HQ.out; omega)]; exact H6.out.1, Kp.refl _ _ _ _⟩)
                go_wp2_with fail
                go_meet
                exact HM.out
              · obtain ⟨cs6, hE6⟩ := H6.out.1.enc
                have d0 := hE6.c0
                unfold wVal at d0
                clear hE6
                have CB := Sec.mk (st_byte 44 H6.out.1 (by have := HX.out.1; omega))
                go_wp2_with fail
                refine CB.out.mono ?_
                rintro e w7 ⟨⟨v7, rfl⟩, hs7, hk7⟩
                have HM := Sec.mk (show St w7 B b g L ∧ Kp B b g w6 w7 from ⟨by rw [HL.out.2.2.2 (of_decide_eq_true HQ.out)]; exact hs7, hk7⟩)
                clear hs7 hk7
                go_wp2_with fail
                go_meet
                exact HM.out
            case rest =>
              obtain ⟨hsx, hkx⟩ := hcut
              have hcx := hkx.cells H6.out.2.2.1 H6.out.2.2.2.1 H6.out.2.2.2.2 (by decide)
              have cK : wc.cell? ⟨wr.heap.size, 0, none⟩ = some (.string kk) := by simp [World.cell?, hcx]
              have hTx : Tabs wc := hT.same (Same.of_below (HK5.out.trans (H6.out.2.1.trans hkx)).below) hB2
              have CE := Sec.mk (encS_any kk B b g L wc hsx hTx hB2 HX.out.2.1 (by have := HX.out.1; have := HL.out.2.1; omega))
              have HKX := Sec.mk hkx
              have HCX := Sec.mk hcx
              clear hsx hkx hcx hTx
              go_wp2_with fail
              refine CE.out.mono ?_
              rintro e w8 ⟨⟨v8, rfl⟩, hs8, hk8⟩
              obtain ⟨cs8, hE8⟩ := hs8.enc
              have d0 := hE8.c0
              unfold wVal at d0
              have hq8 := quotE_len kk
              have CB := Sec.mk (st_byte 58 hs8 (by have := HX.out.1; have := HL.out.2.1; rw [List.length_append]; omega))
              have HC8 := Sec.mk (hk8.cells HCX.out H6.out.2.2.2.1 H6.out.2.2.2.2 (by decide))
              have HK8 := Sec.mk (HKX.out.trans hk8)
              clear hE8 hs8 hk8 cK
              go_wp2_with fail
              refine CB.out.mono ?_
              rintro e w9 ⟨⟨v9, rfl⟩, hs9, hk9⟩
              have hc9 := hk9.cells HC8.out H6.out.2.2.2.1 H6.out.2.2.2.2 (by decide)
              have cV := ents_two hc9
              have hk69 := HK8.out.trans hk9
              have hk59 := H6.out.2.1.trans hk69
              have CE2 := Sec.mk (ih x HX.out.2.2.2.2 HX.out.2.2.2.1 _ lo B b g _ w9 (RdA.same (SameIn.of_same (Same.of_below (HK5.out.trans hk59).below)) (Nat.le_refl _) (Nat.le_refl _) x _ HX.out.2.2.1) hs9 (hT.same (Same.of_below (HK5.out.trans hk59).below) hB2) hB2 (by
                have := HX.out.1; have := HL.out.2.1
                rw [List.length_append, List.length_append]
                simp only [List.length_cons, List.length_nil]
                omega))
              have HK9 := Sec.mk hk59
              clear hs9 hk9 hc9 hk69 hk59 d0
              go_wp2_with fail
              refine CE2.out.mono ?_
              rintro e w10 ⟨⟨v10, rfl⟩, hs10, hk10⟩
              have HF := Sec.mk (show St w10 B b g (headJ l 123 (jsonM ks vs) (i + 1)) ∧ Kp B b g w5 w10 from ⟨by
                rw [← HL.out.1]
                unfold entry
                have e1 : L ++ (quotE kk.data.toList ++ 58 :: json x) = ((L ++ quotE kk.data.toList) ++ [58]) ++ json x := by simp
                rw [e1]; exact hs10, HK9.out.trans hk10⟩)
              clear hs10 hk10 cV
              go_wp2_with fail
              go_roundw
              case rel => exact ⟨i + 1, by go_num, by omega, HF.out⟩
              case measure => simp [intOf]; omega
        · obtain rfl : i = n := by omega
          have CB := Sec.mk (st_byte 125 HS.out (by
            have h1 := headO_len (l := l) (ks := ks) hg i
            rw [List.take_of_length_le (by omega), List.take_of_length_le (by omega)] at h1
            omega))
          go_wp2_with fail
          refine CB.out.mono ?_
          rintro e w8 ⟨⟨v8, rfl⟩, h2, k2⟩
          have FIN := Sec.mk (show EncPost w B b g l (123 :: (joined (jsonM ks vs) ++ [125])) (.returned (.tuple #[])) w8 from ⟨⟨_, rfl⟩, by
            have e1 : headJ l 123 (jsonM ks vs) i ++ [125] = l ++ 123 :: (joined (jsonM ks vs) ++ [125]) := by
              unfold headJ
              rw [List.take_of_length_le (by rw [jsonM_zip, List.length_zipWith]; omega)]
              simp
            rw [← e1]; exact h2, HK5.out.trans (HK.out.trans k2)⟩)
          clear h2 k2
          go_wp2_with fail
          go_end0
          exact FIN.out
    · intro x c kl y yp w4 cnt4 hkey hlk hv hat hrg4 hlt4 hg4 hs4 hen
      have hfew := hl.few
      have hjn : js.length < n := by omega
      have hkl : kl = .string x.data.toList := by
        obtain ⟨x', ex, e2, _⟩ := Maps.keyOf_str Tryz.underlying9 hkey
        have : x.data.toList = x' := by
          have e3 : Value.string x = .string ⟨x'.toArray⟩ := ex
          injection e3 with e3
          rw [e3]
        rw [e2, this]
      subst hkl
      have hyc : y = .held c := by
        unfold heldR at hv
        simp only [Option.some.injEq, Prod.mk.injEq] at hv
        exact hv.1.symm
      subst hyc
      have hat' : ∀ zd, (DataW.map (pairs ks xs)).atKey (.string x.data.toList) zd = .held c := hat
      obtain ⟨i, hi, hki, hxi⟩ := atKey_inv hat'
      have hcol := hl.col.step hlk hat'
      obtain ⟨C, hC1, hC2, hC3⟩ := hl.row
      have hrS : w1.heap.size ≠ w1.heap.size + 2 := by omega
      have hC4 : w4.heap[w1.heap.size]? = some (.cells C 123 (0, 0)) := (hg4.block _ (ents_lt hC1) (by simp)).trans hC1
      have hbox4 : w4.heap[w1.heap.size + 1]? = some (.cells #[.slice (some ⟨w1.heap.size, 0, none⟩) n n] 121 (0, 0)) := (hg4.block _ (ents_lt hl.box) (by simp)).trans hl.box
      have c0 : w4.cell? ⟨w1.heap.size + 1, 0, none⟩ = some (.slice (some ⟨w1.heap.size, 0, none⟩) n n) := by simp [World.cell?, hbox4]
      have z1 : (0 : Int) ≤ (js.length : Int) := by omega
      have z2 : (js.length : Int) < (n : Int) := by omega
      have f0 : w4.frozen? ⟨w1.heap.size, js.length * 2, none⟩ = false := by simp [World.frozen?, hC4]
      have f1 : w4.frozen? ⟨w1.heap.size, js.length * 2 + 1, none⟩ = false := by simp [World.frozen?, hC4]
      have cellS : ∀ k, w4.cell? ⟨w1.heap.size, k, none⟩ = C[k]? := fun k => by simp [World.cell?, hC4]
      obtain ⟨u0, hu0⟩ : ∃ u, w4.cell? ⟨w1.heap.size, js.length * 2, none⟩ = some u := ⟨C[js.length * 2]'(by omega), (cellS _).trans (Array.getElem?_eq_getElem _)⟩
      obtain ⟨u1, hu1⟩ : ∃ u, w4.cell? ⟨w1.heap.size, js.length * 2 + 1, none⟩ = some u := ⟨C[js.length * 2 + 1]'(by omega), (cellS _).trans (Array.getElem?_eq_getElem _)⟩
      clear cellS
      have hcc : Ifc c := by rw [← hxi]; exact HONE.out _ (valAt_mem (by rw [HXL.out]; rw [hn] at hi; exact hi))
      rcases hcc with rfl | ⟨tc, uc, rfl⟩
      all_goals
        go_upto_region 6 with fail
        have hol := hl.step hg4 hrg4 hcol hlt4 (by rw [← hn]; exact hi) hki hxi (by have := HS1.out.size; omega)
        have HOL := Sec.mk hol
        go_wp2_with fail
        refine ⟨⟨_, cnt4, js ++ [i], by simp, HOL.out⟩, ?_⟩
        rw [HOL.out.rg.left_eq, hl.rg.left_eq]
        exact hlt4

end Go.Proofs.YtpamlgdcnmcedaaGreatDoor
