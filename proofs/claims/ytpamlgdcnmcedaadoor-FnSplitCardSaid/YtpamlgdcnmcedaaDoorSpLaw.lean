/-
  laws.FnSplit at whatever two values: it returns true and turns nothing that was there.
-/
import Derived.Test.YtpamlgdcnmcedaaDoorSpDoor
import Derived.Test.YtpamlgdcnmcedaaDoorSwLaw
import Derived.Deep.AppendLies
import Derived.Deep.RegionLaw
namespace Go.Proofs.YtpamlgdcnmcedaaDoor
set_option linter.unusedVariables false
set_option linter.unusedSimpArgs false
open Go.RowKit

theorem bytes_inj : ∀ (l l' : List ByteArray), l.map (·.data.toList) = l'.map (·.data.toList) → l = l'
  | [], [], _ => rfl
  | [], _ :: _, h => by simp at h
  | _ :: _, [], h => by simp at h
  | a :: l, b :: l', h => by
    simp only [List.map_cons, List.cons.injEq] at h
    have e : a = b := by
      apply ByteArray.ext
      exact Array.ext' h.1
    rw [e, bytes_inj l l' h.2]
theorem cut_last (s t : ByteArray) (fr i : Nat) (D : List (List UInt8)) (h : i = s.size) (hc : cuts t.data.toList [] s.data.toList = D ++ cuts t.data.toList (s.extract fr i).data.toList (s.data.toList.drop i)) :
    cuts t.data.toList [] s.data.toList = D ++ [(s.extract fr s.size).data.toList] := by
  rw [hc, h, List.drop_of_length_le (by rw [Array.length_toList]; exact Nat.le_refl _), cuts_nil]
theorem cut_hit (s t : ByteArray) (fr i : Nat) (D : List (List UInt8)) (ht : t.data.toList ≠ []) (hp : Lib.hasPrefix (s.data.toList.drop i) t.data.toList = true) (hc : cuts t.data.toList [] s.data.toList = D ++ cuts t.data.toList (s.extract fr i).data.toList (s.data.toList.drop i)) :
    cuts t.data.toList [] s.data.toList = (D ++ [(s.extract fr i).data.toList]) ++ cuts t.data.toList (s.extract (i + t.size) (i + t.size)).data.toList (s.data.toList.drop (i + t.size)) := by
  have e : (s.extract (i + t.size) (i + t.size)).data.toList = [] := by
    simp only [ByteArray.data_extract, Array.toList_extract, List.extract, Nat.sub_self, List.take_zero]
  rw [hc, cuts_hit _ _ _ ht hp, List.drop_drop, e, List.append_assoc]
  rfl
theorem cut_miss (s t : ByteArray) (fr i : Nat) (D : List (List UInt8)) (hi : i < s.size) (hf : fr ≤ i) (hp : Lib.hasPrefix (s.data.toList.drop i) t.data.toList = false) (hc : cuts t.data.toList [] s.data.toList = D ++ cuts t.data.toList (s.extract fr i).data.toList (s.data.toList.drop i)) :
    cuts t.data.toList [] s.data.toList = D ++ cuts t.data.toList (s.extract fr (i + 1)).data.toList (s.data.toList.drop (i + 1)) := by
  have hl : i < s.data.toList.length := by rw [Array.length_toList]; exact hi
  have e : (s.extract fr (i + 1)).data.toList = (s.extract fr i).data.toList ++ [s.data.toList[i]] := by
    simp only [ByteArray.data_extract, Array.toList_extract, List.extract]
    rw [show i + 1 - fr = (i - fr) + 1 from by omega, List.take_add_one, List.getElem?_drop, show fr + (i - fr) = i from by omega, List.getElem?_eq_getElem hl]
    rfl
  rw [List.drop_eq_getElem_cons hl] at hc hp
  rw [hc, cuts_miss _ _ _ _ hp, e]
theorem ext_tail (T : ByteArray) (a : Nat) : (T.extract a T.size).data.toList = T.data.toList.drop a := by
  rw [toList_ext _ _ _ (Nat.le_refl _), List.take_of_length_le]
  rw [List.length_drop, Array.length_toList]
  exact Nat.le_refl _
/-- How far the law's own loop has come. -/
def Cut (s t : ByteArray) (fr i : Nat) (done : List ByteArray) : Prop :=
  (i ≤ s.size ∧ fr ≤ i ∧ done.length ≤ fr ∧ cuts t.data.toList [] s.data.toList = done.map (·.data.toList) ++ cuts t.data.toList (s.extract fr i).data.toList (s.data.toList.drop i)) ∨
  (i = s.size + 1 ∧ done.length ≤ 4097 ∧ cuts t.data.toList [] s.data.toList = done.map (·.data.toList))
theorem Cut.start (s t : ByteArray) : Cut s t 0 0 [] := .inl ⟨Nat.zero_le _, Nat.le_refl _, Nat.le_refl _, by
  have e : (s.extract 0 0).data.toList = [] := by simp only [ByteArray.data_extract, Array.toList_extract, List.extract, Nat.sub_self, List.take_zero]
  rw [e]; rfl⟩
theorem Cut.last {s t : ByteArray} {fr i : Nat} {done : List ByteArray} (hs : s.size ≤ 4096) (h : Cut s t fr i done) (hi : i = s.size) : Cut s t fr (i + 1) (done ++ [s.extract fr s.size]) := by
  rcases h with ⟨h1, h2, h3, h4⟩ | ⟨h1, _⟩
  · refine .inr ⟨by omega, by rw [List.length_append, List.length_singleton]; omega, ?_⟩
    rw [cut_last s t fr i _ hi h4, List.map_append]
    rfl
  · omega
theorem Cut.hit {s t : ByteArray} {fr i : Nat} {done : List ByteArray} (h0 : 0 < t.size) (h : Cut s t fr i done) (hi : i < s.size) (hp : Lib.hasPrefix (s.data.toList.drop i) t.data.toList = true) : i + t.size ≤ s.size ∧ Cut s t (i + t.size) (i + t.size) (done ++ [s.extract fr i]) := by
  have hl := Lib.hasPrefix_le hp
  rw [List.length_drop, Array.length_toList, Array.length_toList] at hl
  have hl' : t.size ≤ s.size - i := hl
  rcases h with ⟨h1, h2, h3, h4⟩ | ⟨h1, _⟩
  · refine ⟨by omega, .inl ⟨by omega, Nat.le_refl _, by rw [List.length_append, List.length_singleton]; omega, ?_⟩⟩
    rw [cut_hit s t fr i _ (by intro e; have : t.data.toList.length = 0 := by rw [e]; rfl
                               rw [Array.length_toList] at this; exact absurd h0 (by show ¬ 0 < t.data.size; omega)) hp h4, List.map_append]
    rfl
  · omega
theorem Cut.miss {s t : ByteArray} {fr i : Nat} {done : List ByteArray} (h : Cut s t fr i done) (hi : i < s.size) (hp : Lib.hasPrefix (s.data.toList.drop i) t.data.toList = false) : Cut s t fr (i + 1) done := by
  rcases h with ⟨h1, h2, h3, h4⟩ | ⟨h1, _⟩
  · exact .inl ⟨by omega, by omega, h3, cut_miss s t fr i _ hi h2 hp h4⟩
  · omega

set_option maxHeartbeats 800000 in
set_option maxRecDepth 100000 in
theorem str_said' (t : ByteArray) (w : World) : Calls Tryd.prog 24 #[.string t] w fun e w' => e = .returned (.agg #[.int .i64 4, .int .i64 0, .string t, .slice none 0 0, .slice none 0 0, .slice none 0 0]) ∧ Below w.heap.size w w' := by
  go_enter Tryd.func24, Tryd.ntmps24
  go_wp2
  exact bodyPost_ret (v := .agg #[.int .i64 4, .int .i64 0, .string t, .slice none 0 0, .slice none 0 0, .slice none 0 0]) (by simp [results, Tryd.results24, go_sem]) rfl ⟨rfl, (Below.refl _ _).alloc (Nat.le_refl _) _⟩
theorem spl_next {w7 wr w8 w9 : World} {g g' cap n : Nat} {A' : Option Addr} {c' : Nat} {done : List ByteArray} {xs : List Value} {k : ByteArray} (h : LF w7 g wr (.slice A' n c') (done.map strV) xs) (hn : (done.map strV).length = n) (hb : Below wr.heap.size wr w8) (hk : k.size ≤ reach)
    (ho : w9.ownsRow w7.heap.size 26 6 (.slice (some ⟨g', 0, none⟩) (n + 1) cap) (n + 1) (xs ++ [.int .i64 4, .int .i64 0, .string k, .slice none 0 0, .slice none 0 0, .slice none 0 0])) (hg : (w8.alloc (.cells #[.int .i64 4, .int .i64 0, .string k, .slice none 0 0, .slice none 0 0, .slice none 0 0] 26)).grownBy w9 (Value.slice A' n c').ownBlock) (hat : (Value.slice A' n c').ownBlock = some g' ∨ g' = w8.heap.size + 1) :
    LF w7 g (w9.setCell ⟨g, 3, none⟩ (.slice (some ⟨g', 0, none⟩) (n + 1) cap)) (.slice (some ⟨g', 0, none⟩) (n + 1) cap) ((done ++ [k]).map strV) (xs ++ [.int .i64 4, .int .i64 0, .string k, .slice none 0 0, .slice none 0 0, .slice none 0 0]) := by
  have hx : RdF w8 wr.heap.size 0 (strV k) [.int .i64 4, .int .i64 0, .string k, .slice none 0 0, .slice none 0 0, .slice none 0 0] := rdF_plain hk
  have e := LF.step h hb ((Below.refl _ _).alloc (Nat.le_refl _) _) hx (Nat.le_refl _) (Nat.zero_le _) (by rw [hn]; exact ho) hg (by rw [World.size_alloc]; exact hat)
  rw [hn] at e
  rw [List.map_append]
  exact e

set_option maxHeartbeats 1600000 in
set_option maxRecDepth 100000 in
theorem fnSplit_walk (VS : ValidSaid) (x y : V) (cs ds : List Value) (w : World) (B : Nat) (hr : Rd w B x cs) (hr' : Rd w B y ds) (hT : Tabs w) (hB2 : 2 ≤ B) (hB : B ≤ w.heap.size) :
    Calls Tryd.prog 6 #[.agg cs.toArray, .agg ds.toArray] w (Yes w) := by
  have cZ1 : ∀ w', Below w.heap.size w w' → Calls Tryd.prog 8 #[.agg cs.toArray] w' (SomeBoolB w') := fun w' hb =>
    zzFits1_any x cs w' B (Rd.same ((Same.of_below hb).mono hB) x cs hr) (Nat.le_trans hB hb.size)
  have cZ2 : ∀ w', Below w.heap.size w w' → Calls Tryd.prog 8 #[.agg ds.toArray] w' (SomeBoolB w') := fun w' hb =>
    zzFits1_any y ds w' B (Rd.same ((Same.of_below hb).mono hB) y ds hr') (Nat.le_trans hB hb.size)
  obtain ⟨i0, hi0, hz0, hz1, hz2⟩ := info_parts infoV
  have HR := Sec.mk (And.intro hr (And.intro hr' (And.intro hT (And.intro hB2 hB))))
  obtain ⟨k1, h1', t1, A31, n31, c31, A41, n41, c41, A51, n51, c51, rfl⟩ := hr.form
  obtain ⟨k2, h2', t2, A32, n32, c32, A42, n42, c42, A52, n52, c52, rfl⟩ := hr'.form
  have CZ1 := Sec.mk cZ1
  have CZ2 := Sec.mk cZ2
  clear cZ1 cZ2 hr hr' hT hB2 hB
  go_enter Tryd.func6, Tryd.ntmps6
  go_wp2_with fail
  obtain ⟨w0, hw0⟩ : ∃ w0, (w.alloc (.cells #[.int .i64 k1, .int .i64 h1', .string t1, .slice A31 n31 c31, .slice A41 n41 c41, .slice A51 n51 c51] 26)).alloc (.cells #[.int .i64 k2, .int .i64 h2', .string t2, .slice A32 n32 c32, .slice A42 n42 c42, .slice A52 n52 c52] 26) = w0 := ⟨_, rfl⟩
  have b0 : Below w.heap.size w w0 := by rw [← hw0]; exact ((Below.refl _ _).alloc (Nat.le_refl _) _).alloc (by simp) _
  have hsz : w0.heap.size = w.heap.size + 1 + 1 := by rw [← hw0]; simp
  have bx : ∀ w', Below w0.heap.size w0 w' → (∀ j v, #[Value.int .i64 k1, .int .i64 h1', .string t1, .slice A31 n31 c31, .slice A41 n41 c41, .slice A51 n51 c51][j]? = some v → w'.cell? ⟨w.heap.size, j, none⟩ = some v) ∧ (∀ j v, #[Value.int .i64 k2, .int .i64 h2', .string t2, .slice A32 n32 c32, .slice A42 n42 c42, .slice A52 n52 c52][j]? = some v → w'.cell? ⟨w.heap.size + 1, j, none⟩ = some v) := by
    intro w' hb
    rw [← hw0] at hb
    have hy := box_after (w.alloc (.cells #[.int .i64 k1, .int .i64 h1', .string t1, .slice A31 n31 c31, .slice A41 n41 c41, .slice A51 n51 c51] 26)) #[Value.int .i64 k2, .int .i64 h2', .string t2, .slice A32 n32 c32, .slice A42 n42 c42, .slice A52 n52 c52] 26 w' hb
    rw [World.size_alloc] at hy
    refine ⟨fun j v hj => ?_, hy⟩
    have hx := box_after w #[Value.int .i64 k1, .int .i64 h1', .string t1, .slice A31 n31 c31, .slice A41 n41 c41, .slice A51 n51 c51] 26 w' (((Below.refl _ _).alloc (Nat.le_refl _) _).trans (hb.mono (by simp)))
    exact hx j v hj
  rw [hw0]
  have BX := Sec.mk bx
  have B0 := Sec.mk b0
  have HSZ := Sec.mk hsz
  clear bx b0 hsz hw0
  refine (CZ1.out _ B0.out).mono ?_
  intro e w1 hw1
  obtain ⟨⟨b1, rfl⟩, hb1⟩ := hw1
  have BS1 := Sec.mk hb1
  clear hb1
  have hsel : Below w0.heap.size w0 w1 := BS1.out
  clear hsel
  have a0 := (BX.out w1 BS1.out).1 0 _ rfl
  have a1 := (BX.out w1 BS1.out).1 1 _ rfl
  have a2 := (BX.out w1 BS1.out).1 2 _ rfl
  have a3 := (BX.out w1 BS1.out).1 3 _ rfl
  have a4 := (BX.out w1 BS1.out).1 4 _ rfl
  have a5 := (BX.out w1 BS1.out).1 5 _ rfl
  have c0 := (BX.out w1 BS1.out).2 0 _ rfl
  have c1 := (BX.out w1 BS1.out).2 1 _ rfl
  have c2 := (BX.out w1 BS1.out).2 2 _ rfl
  have c3 := (BX.out w1 BS1.out).2 3 _ rfl
  have c4 := (BX.out w1 BS1.out).2 4 _ rfl
  have c5 := (BX.out w1 BS1.out).2 5 _ rfl
  cases b1
  · go_wp2
    go_ret
    exact ⟨rfl, below_then' B0.out BS1.out⟩
  go_wp2_with fail
  refine (CZ2.out _ (below_then' B0.out BS1.out)).mono ?_
  intro e w2 hw2
  obtain ⟨⟨b2, rfl⟩, hb2⟩ := hw2
  have BS2 := Sec.mk (below_then' BS1.out hb2)
  clear hb2 a0 a1 a2 a3 a4 a5 c0 c1 c2 c3 c4 c5
  have a0 := (BX.out w2 BS2.out).1 0 _ rfl
  have a1 := (BX.out w2 BS2.out).1 1 _ rfl
  have a2 := (BX.out w2 BS2.out).1 2 _ rfl
  have a3 := (BX.out w2 BS2.out).1 3 _ rfl
  have a4 := (BX.out w2 BS2.out).1 4 _ rfl
  have a5 := (BX.out w2 BS2.out).1 5 _ rfl
  have c0 := (BX.out w2 BS2.out).2 0 _ rfl
  have c1 := (BX.out w2 BS2.out).2 1 _ rfl
  have c2 := (BX.out w2 BS2.out).2 2 _ rfl
  have c3 := (BX.out w2 BS2.out).2 3 _ rfl
  have c4 := (BX.out w2 BS2.out).2 4 _ rfl
  have c5 := (BX.out w2 BS2.out).2 5 _ rfl
  cases b2
  · go_wp2
    go_ret
    exact ⟨rfl, below_then' B0.out BS2.out⟩
  go_wp2_with fail
  obtain ⟨w3, hw3⟩ : ∃ w3, w2.alloc (.cells #[Value.int .i64 k1, .int .i64 h1', .string t1, .slice A31 n31 c31, .slice A41 n41 c41, .slice A51 n51 c51, .int .i64 k2, .int .i64 h2', .string t2, .slice A32 n32 c32, .slice A42 n42 c42, .slice A52 n52 c52] 26) = w3 := ⟨_, rfl⟩
  have b3 : Below w2.heap.size w2 w3 := by rw [← hw3]; exact (Below.refl _ _).alloc (Nat.le_refl _) _
  have hp : ∀ j v, #[Value.int .i64 k1, .int .i64 h1', .string t1, .slice A31 n31 c31, .slice A41 n41 c41, .slice A51 n51 c51, .int .i64 k2, .int .i64 h2', .string t2, .slice A32 n32 c32, .slice A42 n42 c42, .slice A52 n52 c52][j]? = some v → w3.cell? ⟨w2.heap.size, j, none⟩ = some v := by
    rw [← hw3]
    exact box_after w2 #[Value.int .i64 k1, .int .i64 h1', .string t1, .slice A31 n31 c31, .slice A41 n41 c41, .slice A51 n51 c51, .int .i64 k2, .int .i64 h2', .string t2, .slice A32 n32 c32, .slice A42 n42 c42, .slice A52 n52 c52] 26 _ (Below.refl _ _)
  have hsz3 : w3.heap.size = w2.heap.size + 1 := by rw [← hw3]; simp
  rw [hw3]
  have hfine := fine_any VS [x, y] (some ⟨w2.heap.size, 0, none⟩) 2 2 w3.heap.size w3 rfl (by omega) (pair_rd HR.out.1 HR.out.2.1 HR.out.2.2.2.2 ((below_then' (below_then' B0.out BS2.out) b3)) hp (by rw [hsz3]; omega))
    (HR.out.2.2.1.same (Same.of_below (below_then' (below_then' B0.out BS2.out) b3)) (Nat.le_trans HR.out.2.2.2.1 HR.out.2.2.2.2)) (by have := B0.out.size; have := BS2.out.size; have := HR.out.2.2.2.1; have := HR.out.2.2.2.2; omega) (Nat.le_refl _)
  have CFN := Sec.mk hfine
  have BS3 := Sec.mk (below_then' BS2.out b3)
  clear hfine b3 hp hsz3 hw3
  refine CFN.out.mono ?_
  intro e w4 hw4
  obtain ⟨b4, rfl, hf4, hb4⟩ := hw4
  have BS4 := Sec.mk (below_then' BS3.out hb4)
  have HF := Sec.mk hf4
  clear hb4 hf4 a0 a1 a2 a3 a4 a5 c0 c1 c2 c3 c4 c5
  cases b4
  · go_wp2
    go_ret
    exact ⟨rfl, below_then' B0.out BS4.out⟩
  have hfx := HF.out rfl 0 x rfl
  have hfy := HF.out rfl 1 y rfl
  have hsx : x.str.size ≤ 4096 := by have := hfx.2; cases x; exact this
  have hsy : y.str.size ≤ 4096 := by have := hfy.2; cases y; exact this
  have bw4 := below_then' B0.out BS4.out
  have cS := splitDoor x y [.int .i64 k1, .int .i64 h1', .string t1, .slice A31 n31 c31, .slice A41 n41 c41, .slice A51 n51 c51] [.int .i64 k2, .int .i64 h2', .string t2, .slice A32 n32 c32, .slice A42 n42 c42, .slice A52 n52 c52] w4 B (Rd.same ((Same.of_below bw4).mono HR.out.2.2.2.2) x _ HR.out.1) (Rd.same ((Same.of_below bw4).mono HR.out.2.2.2.2) y _ HR.out.2.1) (Nat.le_trans HR.out.2.2.2.2 bw4.size) hfx.1.1 hfy.1.1 (by have := hfx.1.2.1; omega) (by have := hfy.1.2.1; omega) hsx hsy (HR.out.2.2.1.same (Same.of_below bw4) (Nat.le_trans HR.out.2.2.2.1 HR.out.2.2.2.2)) (by have := bw4.size; have := HR.out.2.2.2.1; have := HR.out.2.2.2.2; omega)
  have CS := Sec.mk cS
  have FX := Sec.mk (And.intro hsx hsy)
  have a0 := (BX.out w4 BS4.out).1 0 _ rfl
  have a1 := (BX.out w4 BS4.out).1 1 _ rfl
  have a2 := (BX.out w4 BS4.out).1 2 _ rfl
  have a3 := (BX.out w4 BS4.out).1 3 _ rfl
  have a4 := (BX.out w4 BS4.out).1 4 _ rfl
  have a5 := (BX.out w4 BS4.out).1 5 _ rfl
  have c0 := (BX.out w4 BS4.out).2 0 _ rfl
  have c1 := (BX.out w4 BS4.out).2 1 _ rfl
  have c2 := (BX.out w4 BS4.out).2 2 _ rfl
  have c3 := (BX.out w4 BS4.out).2 3 _ rfl
  have c4 := (BX.out w4 BS4.out).2 4 _ rfl
  have c5 := (BX.out w4 BS4.out).2 5 _ rfl
  clear CZ1 CZ2 CFN HF BS1 BS2 BS3 hfx hfy hsx hsy bw4 cS
  go_wp2_with fail
  refine CS.out.mono ?_
  intro e w5 hw5
  obtain ⟨l, hok, cs5, rfl, hf5, hb5⟩ := hw5
  obtain ⟨k3, h3', t3, A33, n33, c33, A43, n43, c43, A53, n53, c53, rfl⟩ := hf5.rd.form
  have bs5 := below_then' BS4.out hb5
  have BS5 := Sec.mk bs5
  have SF5 := Sec.mk hf5
  have OK := Sec.mk hok
  have hks := HR.out.1.k_str
  have hks' := HR.out.2.1.k_str
  have HK := Sec.mk (And.intro hks hks')
  clear a0 a1 a2 a3 a4 a5 c0 c1 c2 c3 c4 c5 hf5 hb5 hok hks hks' CS BS4
  have a0 := (BX.out w5 bs5).1 0 _ rfl
  have a2 := (BX.out w5 bs5).1 2 _ rfl
  have c0 := (BX.out w5 bs5).2 0 _ rfl
  have c2 := (BX.out w5 bs5).2 2 _ rfl
  have lt5 : w.heap.size < w5.heap.size := by have := bs5.size; have := HSZ.out; omega
  have lt5' : w.heap.size + 1 < w5.heap.size := by have := bs5.size; have := HSZ.out; omega
  clear bs5
  go_upto_region 6 with fail
  obtain ⟨w6, hw6⟩ : ∃ w6, w5.alloc (.cells #[.int .i64 k3, .int .i64 h3', .string t3, .slice A33 n33 c33, .slice A43 n43 c43, .slice A53 n53 c53, .int .i64 (split_end x y)] 30) = w6 := ⟨_, rfl⟩
  have b6 : Below w5.heap.size w5 w6 := by rw [← hw6]; exact (Below.refl _ _).alloc (Nat.le_refl _) _
  have z6 : C7 w6 w5.heap.size #[.int .i64 k3, .int .i64 h3', .string t3, .slice A33 n33 c33, .slice A43 n43 c43, .slice A53 n53 c53, .int .i64 (split_end x y)] := by rw [← hw6]; exact C7.new _ _ _ rfl
  have hsz6 : w6.heap.size = w5.heap.size + 1 := by rw [← hw6]; simp
  rw [hw6]
  have bs6 := below_then' BS5.out b6
  have B6 := Sec.mk b6
  have BS6 := Sec.mk bs6
  clear a0 a2 c0 c2 hw6 b6 lt5 lt5'
  have a0 := (BX.out w6 bs6).1 0 _ rfl
  have a2 := (BX.out w6 bs6).1 2 _ rfl
  have c0 := (BX.out w6 bs6).2 0 _ rfl
  have c2 := (BX.out w6 bs6).2 2 _ rfl
  by_cases hk : k1 = 4 ∧ k2 = 4
  · have hxy : x.k = 4 ∧ y.k = 4 := by rw [HK.out.1.1, HK.out.2.1]; exact hk
    have hok := OK.out hxy
    have hf5 := SF5.out
    unfold splitV at hf5
    rw [if_pos hxy] at hf5
    have hse : split_end x y = 0 := by unfold split_end; rw [if_pos hxy]
    rw [hse] at z6
    rw [HK.out.1.2, HK.out.2.2] at hok
    have hs1 : t1.size ≤ 4096 := by have := FX.out.1; rw [HK.out.1.2] at this; exact this
    have hs2 : t2.size ≤ 4096 := by have := FX.out.2; rw [HK.out.2.2] at this; exact this
    obtain ⟨e1, e2⟩ := hk
    subst e1
    subst e2
    have OKL := Sec.mk hok
    have SL := Sec.mk hf5
    have Z6 := Sec.mk z6
    have S12 := Sec.mk (And.intro hs1 hs2)
    clear hok hf5 z6 hse hs1 hs2 hxy bs6
    have he1 : t1.toList.isEmpty = decide (t1.size = 0) := isEmpty_of t1
    have he2 : t2.toList.isEmpty = decide (t2.size = 0) := isEmpty_of t2
    go_wp2_with fail
    go_region_held3 (fun w' => w'.cell? ⟨w.heap.size, 2, none⟩ = some (.string t1) ∧ w'.cell? ⟨w.heap.size + 1, 2, none⟩ = some (.string t2)) (go_keep) (first | fail)
    by_cases z1 : t1.size = 0
    · rw [decide_eq_true z1] at he1
      clear he2
      go_wp2
      go_ret
      exact ⟨rfl, (below_then' B0.out BS6.out).drew⟩
    rw [decide_eq_false z1] at he1
    by_cases z2 : t2.size = 0
    · rw [decide_eq_true z2] at he2
      go_wp2
      go_ret
      exact ⟨rfl, (below_then' B0.out BS6.out).drew⟩
    rw [decide_eq_false z2] at he2
    go_wp2_with fail
    obtain ⟨w7, hw7⟩ : ∃ w7, (w6.alloc (.cells #[.int .i64 5, .int .i64 0, .string ⟨#[]⟩, .slice none 0 0, .slice none 0 0, .slice none 0 0] 26)).drew = w7 := ⟨_, rfl⟩
    have b7 : Below w6.heap.size w6 w7 := by rw [← hw7]; exact ((Below.refl _ _).alloc (Nat.le_refl _) _).drew
    have o7 : O6 w7 (w5.heap.size + 1) (.slice none 0 0) := by rw [← hsz6, ← hw7]; exact heap_alloc_new w6 _
    have hsz7 : w7.heap.size = w6.heap.size + 1 := by rw [← hw7]; simp
    rw [hw7]
    have HL7 := Sec.mk (LF.start o7)
    have B7 := Sec.mk b7
    have HSZ7 := Sec.mk hsz7
    have HSZ6 := Sec.mk hsz6
    have hs1 := S12.out.1
    have hs2 := S12.out.2
    clear hw7 b7 o7 hsz7 hsz6 a0 a2 c0 c2 he1 he2
    go_loopw [9, 10, 54, 70] (fun v9 v10 _ _ wr => ∃ (fr i : Nat) (done : List ByteArray) (rv : Value) (xs : List Value), v9 = .int .i64 fr ∧ v10 = .int .i64 i ∧ Cut t1 t2 fr i done ∧ LF w7 (w5.heap.size + 1) wr rv (done.map strV) xs) (fun _ v10 _ _ _ => t1.size + 1 - (intOf v10).toNat)
    case atStart => exact ⟨0, 0, [], _, _, rfl, rfl, Cut.start t1 t2, HL7.out⟩
    case round =>
      obtain ⟨fr, i, done, rv, xs, rfl, rfl, hcut, hlf⟩ := hrel
      have LFI0 := Sec.mk hlf
      have HC := Sec.mk hcut
      obtain ⟨A', c', hrv⟩ := hlf.2.2.1.form
      obtain ⟨n, hn⟩ : ∃ n, (done.map strV).length = n := ⟨_, rfl⟩
      rw [hn] at hrv
      subst hrv
      have LFI := Sec.mk hlf
      have HN := Sec.mk hn
      have hdn : done.length = n := by rw [← hn, List.length_map]
      have DN := Sec.mk hdn
      have q3 := hlf.2.1.cells.1.2.2.2.1
      have lt0 := hlf.2.1.lt
      by_cases hle : i ≤ t1.size
      · have d1 : decide ((i : Int) ≤ (t1.size : Int)) = true := decide_eq_true (by omega)
        have hfi : fr ≤ i ∧ n ≤ fr := by
          rcases hcut with ⟨_, h2, h3, _⟩ | ⟨h1, _⟩
          · omega
          · omega
        obtain ⟨hf1, hf2⟩ := hfi
        have w1 : (0 : Int) ≤ (fr : Int) := by omega
        have w2' : (fr : Int) ≤ (t1.size : Int) := by omega
        have NB : Sec (n + 1 ≤ maxLen ∧ (n + 1) * 104 ≤ 140737488355328) := ⟨by unfold maxLen; omega, by omega⟩
        clear hcut hlf hn hdn
        by_cases heq : i = t1.size
        · have d2 : ((i : Int) == (t1.size : Int)) = true := by simp [heq]
          have HEQ := Sec.mk heq
          clear heq
          have KS : Sec ((t1.extract fr t1.size).size ≤ reach) := ⟨by rw [ByteArray.size_extract]; unfold reach; omega⟩
          go_upto_region 17 with fail
          go_cut [] (fun wx => ∃ rv' xs', LF w7 (w5.heap.size + 1) wx rv' ((done ++ [t1.extract fr t1.size]).map strV) xs')
          case first =>
            go_region_law
              (first
                | (go_simp; go_at_call 24; refine (str_said' _ _).mono ?_; intro e w8 hw8; obtain ⟨rfl, hb8⟩ := hw8; have bw8 : Below wr.heap.size wr w8 := (Below.refl wr.heap.size wr).drew.trans hb8; have ho8 := O6.keep (bw8.block _ LFI.out.2.1.lt) LFI.out.2.1; have q3 := ho8.cells.1.2.2.2.1; have lt8 := ho8.lt; have own8 := (LFI.out.2.2.1.later bw8).1.1; rw [HN.out] at own8; have OWN8 := Sec.mk own8; have BW8 := Sec.mk bw8; have NW8 := Sec.mk (World.news_of_block (heap_alloc_new w8 (.cells #[.int .i64 4, .int .i64 0, .string (t1.extract fr t1.size), .slice none 0 0, .slice none 0 0, .slice none 0 0] 26))); have LE8 := Sec.mk (Nat.le_trans LFI.out.1.size bw8.size); clear hb8 bw8 ho8 own8)
                | (have tok := OWN8; clear tok; refine step_append_lies _ (by rfl) _ _ _ (by rfl) w7.heap.size 26 i0 _ 6 104 Tryd.underlying23 hi0 hz0 hz1 hz2 rfl (by decide) (.slice A' n c') n xs (by rfl) (World.ownsRow.alloc OWN8.out _) ⟨w8.heap.size, 0, none⟩ 1 1 [.int .i64 4, .int .i64 0, .string (t1.extract fr t1.size), .slice none 0 0, .slice none 0 0, .slice none 0 0] (by rfl) (by rfl) NW8.out one_six (by decide) NB.out.1 NB.out.2 (by rw [World.size_alloc]; exact Nat.le_succ_of_le LE8.out) (w8.heap.size + 1) (World.size_alloc _ _) ?_; intro g' cap w9 ho9 hg9 hat hlt; have hm := LF.mid LFI.out (BW8.out.trans ((Below.refl w8.heap.size w8).alloc (Nat.le_refl _) _ |>.mono BW8.out.size)) hg9; have b3 := hm.cells.1.2.2.2.1; have fr3 := hm.cells.2; have FIN := Sec.mk (spl_next (k := (t1.extract fr t1.size)) LFI.out HN.out BW8.out KS.out ho9 hg9 hat); clear hm ho9 hg9 hat hlt))
            all_goals
              (try simp only [Act.put, List.getElem_toArray, List.getElem_cons_succ, List.getElem_cons_zero, List.setIfInBounds_toArray, List.set_cons_zero, List.set_cons_succ])
              go_wp2_with fail
              go_meet
              exact ⟨_, _, FIN.out⟩
          case rest =>
            obtain ⟨rv', xs', hlf'⟩ := hcut
            have FIN := Sec.mk hlf'
            clear hlf'
            go_wp2
            go_roundw
            case rel => exact ⟨fr, i + 1, done ++ [t1.extract fr t1.size], rv', xs', rfl, by go_num, HC.out.last S12.out.1 HEQ.out, FIN.out⟩
            case measure => simp [intOf]; omega
        · have d2 : ((i : Int) == (t1.size : Int)) = false := by simp; omega
          have hlt : i < t1.size := by omega
          have HLT := Sec.mk hlt
          have w3' : (0 : Int) ≤ (i : Int) := by omega
          have w4' : (i : Int) ≤ (t1.size : Int) := by omega
          have w5' : (fr : Int) ≤ (i : Int) := by omega
          have cB : ∀ W, Calls Tryd.prog 21 #[.string (t1.extract i t1.size), .string t2] W fun e w' => e = .returned (.bool (Lib.hasPrefix (t1.data.toList.drop i) t2.data.toList)) ∧ w' = W := fun W => by
            have h := begins_any (t1.extract i t1.size) t2 W (by rw [ByteArray.size_extract]; omega) hs2
            rw [ext_tail] at h
            exact h
          have CB := Sec.mk cB
          clear cB heq
          cases hm : Lib.hasPrefix (t1.data.toList.drop i) t2.data.toList
          · rw [hm] at CB
            have HM := Sec.mk hm
            clear hm
            go_wp2_with (go_at_call 21; refine (CB.out _).mono ?_; rintro e w' ⟨rfl, rfl⟩)
            go_roundw
            case rel => exact ⟨fr, i + 1, done, _, xs, rfl, by go_num, HC.out.miss HLT.out HM.out, LFI0.out⟩
            case measure => simp [intOf]; omega
          · rw [hm] at CB
            have HM := Sec.mk hm
            have KS : Sec ((t1.extract fr i).size ≤ reach) := ⟨by rw [ByteArray.size_extract]; unfold reach; omega⟩
            have hhit := HC.out.hit (by omega) hlt hm
            have hsum : i + t2.size ≤ t1.size := hhit.1
            have HH := Sec.mk hhit
            have h0 : 0 < t2.size := by omega
            clear hm hhit
            go_upto_region 20 with (go_at_call 21; refine (CB.out _).mono ?_; intro e w' hw'; obtain ⟨rfl, e2⟩ := hw'; have e3 := e2.symm; subst e3; clear e2)
            go_cut [] (fun wx => ∃ rv' xs', LF w7 (w5.heap.size + 1) wx rv' ((done ++ [t1.extract fr i]).map strV) xs')
            case first =>
              go_region_law
                (first
                  | (go_simp; go_at_call 24; refine (str_said' _ _).mono ?_; intro e w8 hw8; obtain ⟨rfl, hb8⟩ := hw8; have bw8 : Below wr.heap.size wr w8 := (Below.refl wr.heap.size wr).drew.trans hb8; have ho8 := O6.keep (bw8.block _ LFI.out.2.1.lt) LFI.out.2.1; have q3 := ho8.cells.1.2.2.2.1; have lt8 := ho8.lt; have own8 := (LFI.out.2.2.1.later bw8).1.1; rw [HN.out] at own8; have OWN8 := Sec.mk own8; have BW8 := Sec.mk bw8; have NW8 := Sec.mk (World.news_of_block (heap_alloc_new w8 (.cells #[.int .i64 4, .int .i64 0, .string (t1.extract fr i), .slice none 0 0, .slice none 0 0, .slice none 0 0] 26))); have LE8 := Sec.mk (Nat.le_trans LFI.out.1.size bw8.size); clear hb8 bw8 ho8 own8)
                  | (have tok := OWN8; clear tok; refine step_append_lies _ (by rfl) _ _ _ (by rfl) w7.heap.size 26 i0 _ 6 104 Tryd.underlying23 hi0 hz0 hz1 hz2 rfl (by decide) (.slice A' n c') n xs (by rfl) (World.ownsRow.alloc OWN8.out _) ⟨w8.heap.size, 0, none⟩ 1 1 [.int .i64 4, .int .i64 0, .string (t1.extract fr i), .slice none 0 0, .slice none 0 0, .slice none 0 0] (by rfl) (by rfl) NW8.out one_six (by decide) NB.out.1 NB.out.2 (by rw [World.size_alloc]; exact Nat.le_succ_of_le LE8.out) (w8.heap.size + 1) (World.size_alloc _ _) ?_; intro g' cap w9 ho9 hg9 hat hlt; have hm := LF.mid LFI.out (BW8.out.trans ((Below.refl w8.heap.size w8).alloc (Nat.le_refl _) _ |>.mono BW8.out.size)) hg9; have b3 := hm.cells.1.2.2.2.1; have fr3 := hm.cells.2; have FIN := Sec.mk (spl_next (k := (t1.extract fr i)) LFI.out HN.out BW8.out KS.out ho9 hg9 hat); clear hm ho9 hg9 hat hlt))
              all_goals
                (try simp only [Act.put, List.getElem_toArray, List.getElem_cons_succ, List.getElem_cons_zero, List.setIfInBounds_toArray, List.set_cons_zero, List.set_cons_succ])
                go_wp2_with fail
                go_meet
                exact ⟨_, _, FIN.out⟩
            case rest =>
              obtain ⟨rv', xs', hlf'⟩ := hcut
              have FIN := Sec.mk hlf'
              clear hlf'
              go_wp2
              go_roundw
              case rel => exact ⟨i + t2.size, i + t2.size, done ++ [t1.extract fr i], rv', xs', by go_num, by go_num, HH.out.2, FIN.out⟩
              case measure => simp [intOf]; omega
      · have d1 : decide ((i : Int) ≤ (t1.size : Int)) = false := decide_eq_false (by omega)
        have hdone : done.length ≤ 4097 ∧ cuts t2.data.toList [] t1.data.toList = done.map (·.data.toList) := by
          rcases hcut with ⟨h1, _⟩ | ⟨_, h2, h3⟩
          · omega
          · exact ⟨h2, h3⟩
        have ht2 : t2.data.toList ≠ [] := by
          intro e
          have : t2.data.toList.length = 0 := by rw [e]; rfl
          rw [Array.length_toList] at this
          exact z2 this
        have hl : l = done := bytes_inj _ _ ((OKL.out.2.2 ht2).trans hdone.2)
        subst hl
        have hbw : Below w5.heap.size w5 wr := (below_then B6.out B7.out).grown hlf.1 (by have := B6.out.size; have := B7.out.size; omega) (fun k e => by injection e with e; omega)
        have hz : C7 wr w5.heap.size #[.int .i64 k3, .int .i64 h3', .string t3, .slice A33 n33 c33, .slice A43 n43 c43, .slice A53 n53 c53, .int .i64 0] := by
          refine (hlf.1.block _ ?_ ?_).trans ((B7.out.block _ ?_).trans Z6.out)
          · have := B6.out.size; have := HSZ6.out; have := HSZ7.out; omega
          · intro e; injection e with e; omega
          · have := HSZ6.out; omega
        have r1 := Rd.mono hbw.size _ _ (Rd.same (Same.of_below hbw) _ _ SL.out.rd)
        have r2 := (hlf.2.2.1.rdF (by rw [List.length_map]; unfold reach; omega)).rd
        have cG : Calls Tryd.prog 10 #[.agg #[.int .i64 k3, .int .i64 h3', .string t3, .slice A33 n33 c33, .slice A43 n43 c43, .slice A53 n53 c53, .int .i64 0], .agg #[.int .i64 5, .int .i64 0, .string ⟨#[]⟩, .slice A' n c', .slice none 0 0, .slice none 0 0]] wr (Yes wr) := given_self _ [.int .i64 k3, .int .i64 h3', .string t3, .slice A33 n33 c33, .slice A43 n43 c43, .slice A53 n53 c53] [.int .i64 5, .int .i64 0, .string ⟨#[]⟩, .slice A' n c', .slice none 0 0, .slice none 0 0] wr wr.heap.size r1 r2 (Nat.le_refl _)
        have CG := Sec.mk cG
        have HBW := Sec.mk hbw
        have p0 := hz.cell 0 _ rfl
        have p1 := hz.cell 1 _ rfl
        have p2 := hz.cell 2 _ rfl
        have p3 := hz.cell 3 _ rfl
        have p4 := hz.cell 4 _ rfl
        have p5 := hz.cell 5 _ rfl
        have p6 := hz.cell 6 _ rfl
        obtain ⟨⟨q0, q1, q2, q3, q4, q5⟩, _⟩ := hlf.2.1.cells
        clear hcut hlf hn hdn hdone hz r1 r2 cG hbw
        go_wp2_with fail
        refine CG.out.mono ?_
        intro e w9 hw9
        obtain ⟨rfl, hb9⟩ := hw9
        have BE := Sec.mk (below_then HBW.out hb9)
        clear hb9
        go_wp2
        go_ret
        exact ⟨rfl, below_then' B0.out (below_then' BS5.out BE.out)⟩
  · have hxy : ¬ (x.k = 4 ∧ y.k = 4) := by rw [HK.out.1.1, HK.out.2.1]; exact hk
    have hf5 := SF5.out
    unfold splitV at hf5
    rw [if_neg hxy] at hf5
    have hse : split_end x y = 1 := by unfold split_end; rw [if_neg hxy]
    rw [hse] at z6
    have r5 := Rd.mono B6.out.size _ _ (Rd.same (Same.of_below B6.out) _ _ hf5.rd)
    have cW : Calls Tryd.prog 18 #[.agg #[.int .i64 k3, .int .i64 h3', .string t3, .slice A33 n33 c33, .slice A43 n43 c43, .slice A53 n53 c53, .int .i64 1]] w6 (Yes w6) := wrong_self [.int .i64 k3, .int .i64 h3', .string t3, .slice A33 n33 c33, .slice A43 n43 c43, .slice A53 n53 c53] w6 w6.heap.size r5 (Nat.le_refl _)
    have CW := Sec.mk cW
    have p0 := z6.cell 0 _ rfl
    have p1 := z6.cell 1 _ rfl
    have p2 := z6.cell 2 _ rfl
    have p3 := z6.cell 3 _ rfl
    have p4 := z6.cell 4 _ rfl
    have p5 := z6.cell 5 _ rfl
    have p6 := z6.cell 6 _ rfl
    clear z6 r5 hf5 hse hxy cW bs6
    by_cases e1 : k1 = 4
    · have e2 : ¬ k2 = 4 := fun e => hk ⟨e1, e⟩
      have d1 : (k1 != 4) = false := by simp [e1]
      have d2 : (k2 != 4) = true := by simp [e2]
      clear hk
      go_wp2_with fail
      refine CW.out.mono ?_
      intro e w7 hw7
      obtain ⟨rfl, hb7⟩ := hw7
      have BS7 := Sec.mk (below_then' BS6.out hb7)
      clear hb7
      go_wp2
      go_ret
      exact ⟨rfl, below_then' B0.out BS7.out⟩
    · have d1 : (k1 != 4) = true := by simp [e1]
      clear hk
      go_wp2_with fail
      refine CW.out.mono ?_
      intro e w7 hw7
      obtain ⟨rfl, hb7⟩ := hw7
      have BS7 := Sec.mk (below_then' BS6.out hb7)
      clear hb7
      go_wp2
      go_ret
      exact ⟨rfl, below_then' B0.out BS7.out⟩

end Go.Proofs.YtpamlgdcnmcedaaDoor
