/-
  The text of a list, written: its elements one behind the other. encodeObject's call of sort.Slice: the entries, in whatever order they came, stand in the order of their keys. The text of a map, written: its entries in the order of their keys. encode: the text of every right value, written.
-/
import Derived.Test.YtpamlgdcnmcedaaGreatDoorEncSS
import Derived.Test.YtpamlgdcnmcedaaGreatDoorJson
import Derived.Test.YtpamlgdcnmcedaaGreatDoorToGo
import Derived.Test.YtpamlgdcnmcedaaGreatDoorShelfS
import Derived.Test.YtpamlgdcnmcedaaGreatDoorKeys
import Derived.Test.YtpamlgdcnmcedaaGreatDoorFrm
import Derived.Shelf.SlSortFuncK.WholeK
import Derived.Shelf.GgSortFunc.Tiny
import Derived.Maps.RangeWalk
import Derived.Test.YtpamlgdcnmcedaaGreatDoorTa
import Derived.Deep.RegionWith
import Derived.BigRegion
namespace Go.Proofs.YtpamlgdcnmcedaaGreatDoor
set_option linter.unusedVariables false
set_option linter.unusedSimpArgs false
open Go.RowKit

/-- encode writes the text of every right value of at most m parts. -/
def EncUpTo (m : Nat) : Prop := ∀ (x : V), V.cnt x ≤ m → x.good → ∀ (v : Value) (lo B b g : Nat) (l : List UInt8) (w : World), RdA w lo B x v → St w B b g l → Tabs w → 2 ≤ B → l.length + 40 * x.cnt + 6 * x.nb ≤ 1000000000 →
    Calls Tryz.prog 29 #[.pointer (some ⟨g, 0, none⟩), v] w (EncPost w B b g l (json x))

theorem V.nb_le_get : ∀ {l : List V} {i : Nat} {x : V}, l[i]? = some x → V.nb x ≤ V.nbL l
  | [], i, x, h => by simp at h
  | y :: ys, 0, x, h => by
    obtain rfl : y = x := by simpa using h
    rw [V.nbL]; omega
  | y :: ys, i + 1, x, h => by
    have := V.nb_le_get (l := ys) (i := i) (x := x) (by simpa using h)
    rw [V.nbL]; omega
theorem V.cntL_split (l : List V) (i : Nat) : V.cntL l = V.cntL (l.take i) + V.cntL (l.drop i) := by rw [← V.cntL_append, List.take_append_drop]
theorem V.nbL_split (l : List V) (i : Nat) : V.nbL l = V.nbL (l.take i) + V.nbL (l.drop i) := by rw [← V.nbL_append, List.take_append_drop]
theorem V.goodL_take {l : List V} (h : V.goodL l) (i : Nat) : V.goodL (l.take i) := by
  have := (V.goodL_append (l.take i) (l.drop i)).1 (by rw [List.take_append_drop]; exact h)
  exact this.1

/-- The list's text so far. -/
def headA (l : List UInt8) (l0 : List V) (i : Nat) : List UInt8 := l ++ 91 :: joined (jsonL (l0.take i))
theorem headA_room {l : List UInt8} {l0 : List V} {i : Nat} {x : V} (hg : V.goodL l0) (hx : l0[i]? = some x) (hz : l.length + 2 + 40 * V.cntL l0 + 6 * V.nbL l0 ≤ 1000000000) : (headA l l0 i).length + 1 + 40 * x.cnt + 6 * x.nb ≤ 1000000000 := by
  have h1 := jsonL_len _ (V.goodL_take hg i)
  have h2 := joined_len (jsonL (l0.take i))
  have h3 := V.cntL_snoc hx
  have h4 := V.nbL_snoc hx
  have h5 := V.cntL_split l0 (i + 1)
  have h6 := V.nbL_split l0 (i + 1)
  unfold headA
  rw [List.length_append, List.length_cons]
  omega
theorem headA_end {l : List UInt8} {l0 : List V} (hg : V.goodL l0) (hz : l.length + 2 + 40 * V.cntL l0 + 6 * V.nbL l0 ≤ 1000000000) : (headA l l0 l0.length).length + 1 ≤ 1000000000 := by
  have h1 := jsonL_len _ hg
  have h2 := joined_len (jsonL l0)
  unfold headA
  rw [List.take_length, List.length_append, List.length_cons]
  omega
theorem headA_first {l : List UInt8} {l0 : List V} {x : V} (hx : l0[0]? = some x) : headA l l0 0 ++ json x = headA l l0 1 := by
  unfold headA
  rw [take_snoc hx]
  simp [jsonL, joined]
theorem headA_next {l : List UInt8} {l0 : List V} {i : Nat} {x : V} (hx : l0[i]? = some x) (hi : 0 < i) : (headA l l0 i ++ [44]) ++ json x = headA l l0 (i + 1) := by
  have hne : jsonL (l0.take i) ≠ [] := by
    rw [jsonL_map]
    intro e
    have h1 := congrArg List.length e
    have h2 := (List.getElem?_eq_some_iff.1 hx).1
    rw [List.length_map, List.length_take, List.length_nil, Nat.min_eq_left (by omega)] at h1
    omega
  have e : jsonL (l0.take (i + 1)) = jsonL (l0.take i) ++ [json x] := by rw [take_snoc hx, jsonL_map, jsonL_map]; simp
  unfold headA
  rw [e, joined_next hne]
  simp

set_option maxHeartbeats 1600000 in
set_option maxRecDepth 100000 in
theorem encA_any (m : Nat) (ih : EncUpTo m) (l0 : List V) (hm : V.cntL l0 ≤ m) (hg : V.goodL l0) (A : Option Addr) (n c lo B b g : Nat) (l : List UInt8) (w : World) (hn : l0.length = n) (hr : RdAL w lo B A 0 l0) (hS : St w B b g l) (hT : Tabs w) (hB2 : 2 ≤ B) (hz : l.length + 2 + 40 * V.cntL l0 + 6 * V.nbL l0 ≤ 1000000000) (hnz : n ≤ 1000000000) :
    Calls Tryz.prog 49 #[.pointer (some ⟨g, 0, none⟩), .slice A n c] w (EncPost w B b g l (91 :: (joined (jsonL l0) ++ [93]))) := by
  obtain ⟨cs, hE⟩ := hS.enc
  have d0 := hE.c0
  unfold wVal at d0
  have CW := Sec.mk (st_byte 91 hS (by omega))
  have HN := Sec.mk hn
  have HR := Sec.mk hr
  have HT := Sec.mk hT
  have HG := Sec.mk (And.intro hg (And.intro hm hz))
  clear hS hE hn hr hT hg hm hz
  go_enter Tryz.func49, Tryz.ntmps49
  go_wp2_with fail
  refine CW.out.mono ?_
  rintro e w1 ⟨⟨v, rfl⟩, hS1, hk1⟩
  have HL0 := Sec.mk (show St w1 B b g (headA l l0 0) ∧ Kp B b g w w1 from ⟨by unfold headA; simpa [jsonL, joined] using hS1, hk1⟩)
  clear hS1 hk1 d0
  go_wp2_with fail
  go_loopw [4, 5, 13] (fun _ _ v13 wr => ∃ i : Nat, v13 = .int .i64 (i : Int) ∧ i ≤ n ∧ St wr B b g (headA l l0 i) ∧ Kp B b g w wr) (fun _ _ v13 _ => n - (intOf v13).toNat)
  case atStart => exact ⟨0, rfl, Nat.zero_le _, HL0.out⟩
  case round =>
    obtain ⟨i, rfl, hi, hs, hk⟩ := hrel
    obtain ⟨cs1, hE1⟩ := hs.enc
    have d0 := hE1.c0
    unfold wVal at d0
    have HS := Sec.mk hs
    have HK := Sec.mk hk
    clear hs hk hE1
    by_cases hin : i < n
    · obtain ⟨x, hx⟩ : ∃ x, l0[i]? = some x := ⟨l0[i]'(by rw [HN.out]; exact hin), by rw [List.getElem?_eq_getElem]⟩
      have hsm : SameIn lo B w wr := SameIn.of_same (Same.of_below HK.out.below)
      obtain ⟨ad, xi, e1, a1, a2, hxr, hc⟩ := RdAL.get l0 0 (RdAL.same hsm (Nat.le_refl _) (Nat.le_refl _) l0 A 0 HR.out) i x hx
      rw [Nat.zero_add] at hc
      subst e1
      have HX := Sec.mk hx
      have HXR := Sec.mk hxr
      have hro := headA_room HG.out.1 hx HG.out.2.2
      have hgx := V.goodL_get HG.out.1 hx
      have hcx : V.cnt x ≤ m := Nat.le_trans (V.cnt_le_get hx) HG.out.2.1
      clear hx hxr a1 a2 hsm
      have w2 : (0 : Int) ≤ i := by omega
      have w3 : (i : Int) < n := by omega
      by_cases h0 : i = 0
      · have t1 : decide ((i : Int) > 0) = false := decide_eq_false (by omega)
        have t2 : decide (0 < i) = false := decide_eq_false (by omega)
        have HZ := Sec.mk h0
        have CE := Sec.mk (ih x hcx hgx xi lo B b g _ wr HXR.out HS.out (HT.out.same (Same.of_below HK.out.below) hB2) hB2 (by omega))
        clear hro hgx hcx d0 h0
        go_wp2_with fail
        refine CE.out.mono ?_
        rintro e w3 ⟨⟨v3, rfl⟩, hs3, hk3⟩
        have HF := Sec.mk (show St w3 B b g (headA l l0 1) ∧ Kp B b g w w3 from ⟨by rw [← headA_first (by have := HX.out; rw [HZ.out] at this; exact this)]; rw [HZ.out] at hs3; exact hs3, HK.out.trans hk3⟩)
        clear hs3 hk3
        go_wp2_with fail
        go_roundw
        case rel => exact ⟨1, by rw [HZ.out]; rfl, by omega, HF.out⟩
        case measure => simp [intOf]; omega
      · have t1 : decide ((i : Int) > 0) = true := decide_eq_true (by omega)
        have t2 : decide (0 < i) = true := decide_eq_true (by omega)
        have CB := Sec.mk (st_byte 44 HS.out (by omega))
        have HRO := Sec.mk (And.intro hro (And.intro hgx hcx))
        have HZ := Sec.mk h0
        clear hro hgx hcx h0
        go_wp2_with fail
        refine CB.out.mono ?_
        rintro e w2 ⟨⟨v2, rfl⟩, hs2, hk2⟩
        have CE := Sec.mk (ih x HRO.out.2.2 HRO.out.2.1 xi lo B b g _ w2 (RdA.same (SameIn.of_same (Same.of_below hk2.below)) (Nat.le_refl _) (Nat.le_refl _) x xi HXR.out) hs2 (HT.out.same (Same.of_below (HK.out.trans hk2).below) hB2) hB2 (by have := HRO.out.1; rw [List.length_append]; simp only [List.length_cons, List.length_nil]; omega))
        have HK2 := Sec.mk (HK.out.trans hk2)
        clear hs2 hk2 d0
        go_wp2_with fail
        refine CE.out.mono ?_
        rintro e w3 ⟨⟨v3, rfl⟩, hs3, hk3⟩
        have HF := Sec.mk (show St w3 B b g (headA l l0 (i + 1)) ∧ Kp B b g w w3 from ⟨by rw [← headA_next HX.out (by have := HZ.out; omega)]; exact hs3, HK2.out.trans hk3⟩)
        clear hs3 hk3
        go_wp2_with fail
        go_roundw
        case rel => exact ⟨i + 1, by go_num, by omega, HF.out⟩
        case measure => simp [intOf]; omega
    · obtain rfl : i = n := by omega
      have CB := Sec.mk (st_byte 93 HS.out (by have := headA_end HG.out.1 HG.out.2.2; rw [HN.out] at this; exact this))
      go_wp2_with fail
      refine CB.out.mono ?_
      rintro e w2 ⟨⟨v2, rfl⟩, h2, k2⟩
      have FIN := Sec.mk (show EncPost w B b g l (91 :: (joined (jsonL l0) ++ [93])) (.returned (.tuple #[])) w2 from ⟨⟨_, rfl⟩, by
        have e1 : headA l l0 i ++ [93] = l ++ 91 :: (joined (jsonL l0) ++ [93]) := by
          unfold headA
          rw [← HN.out, List.take_length]
          simp
        rw [← e1]; exact h2, HK.out.trans k2⟩)
      clear h2 k2
      go_wp2_with fail
      go_end0
      exact FIN.out

end Go.Proofs.YtpamlgdcnmcedaaGreatDoor

namespace Go.Proofs.YtpamlgdcnmcedaaGreatDoor
set_option linter.unusedVariables false
set_option linter.unusedSimpArgs false
open Go.RowKit Go.Shelf Go.Lib Go.Sort

/-- Entry number i of the map: its key and its value. -/
def keyAt (ks : List ByteArray) (i : Nat) : ByteArray := ks.getD i ⟨#[]⟩
def valAt (xs : List Value) (i : Nat) : Value := xs.getD i .nilIface
def encE (ks : List ByteArray) (xs : List Value) (i : Nat) : List Value := [.string (keyAt ks i), valAt xs i]
def ltE (ks : List ByteArray) (i j : Nat) : Bool := Op.bytesLess (keyAt ks i).data.toList (keyAt ks j).data.toList
theorem swo_ltE (ks : List ByteArray) : SWO (ltE ks) where
  irrefl := fun x => by unfold ltE; rw [less_before, WideAt.bytes_irrefl]
  trans := fun x y z h1 h2 => by unfold ltE at *; rw [less_before] at *; exact WideShapes.bytes_trans _ _ _ h1 h2
  ntrans := fun x y z h1 h2 => by
    have e : ∀ a b, ltE ks a b = ltStr (keyAt ks a).data.toList (keyAt ks b).data.toList := fun a b => by unfold ltE ltStr; rw [bytesLess_eq]
    rw [e] at h1 h2 ⊢
    exact swo_ltStr.ntrans _ _ _ h1 h2
theorem keyAt_lt {ks : List ByteArray} (h : rises ks) {i j : Nat} (hij : i < j) (hj : j < ks.length) : ltE ks i j = true := by
  have h1 : ks[i]? = some (keyAt ks i) := by unfold keyAt; rw [List.getD_eq_getElem?_getD, List.getElem?_eq_getElem (by omega)]; rfl
  have h2 : ks[j]? = some (keyAt ks j) := by unfold keyAt; rw [List.getD_eq_getElem?_getD, List.getElem?_eq_getElem hj]; rfl
  exact rises_lt h (j - i - 1) i _ _ h1 (by rw [show i + (j - i - 1) + 1 = j from by omega]; exact h2)
/-- Sorted, the entries stand in the order of the map's keys. -/
theorem sorted_range {ks : List ByteArray} (h : rises ks) {d d' : Array Nat} (hd : d.toList.Perm (List.range ks.length)) (hp : PermIn 0 d.size d d') (hs : SortedIn (ltE ks) 0 d.size d') : d'.toList = List.range ks.length := by
  obtain ⟨p1, _, p3⟩ := hp
  have e1 : d'.extract 0 d.size = d' := by rw [← p1]; simp
  have e2 : d.extract 0 d.size = d := by simp
  rw [e1, e2] at p3
  have hp' := p3.trans hd
  have hlen : d'.size = ks.length := by have := hp'.length_eq; simpa using this
  have hmem : ∀ i (hi : i < d'.toList.length), d'.toList[i] < ks.length := fun i hi => by
    have := hp'.mem_iff.1 (List.getElem_mem hi)
    simpa using this
  refine List.Perm.eq_of_pairwise (le := fun a b => a ≤ b) (fun a b _ _ h1 h2 => Nat.le_antisymm h1 h2) ?_ ?_ hp'
  · rw [List.pairwise_iff_getElem]
    intro i j hi hj hij
    rcases Nat.lt_or_ge d'.toList[j] d'.toList[i] with hlt | hge
    · exfalso
      have h1 := hs i j (Nat.zero_le _) hij (by rw [← p1]; simpa using hj)
      have h2 := keyAt_lt h hlt (hmem i hi)
      have g1 : d'[i]! = d'.toList[i] := by rw [getElem!_pos _ _ (by simpa using hi)]; simp
      have g2 : d'[j]! = d'.toList[j] := by rw [getElem!_pos _ _ (by simpa using hj)]; simp
      rw [g1, g2, h2] at h1
      cases h1
    · exact hge
  · exact List.pairwise_lt_range.imp fun h => Nat.le_of_lt h

noncomputable def srtT : TypeInfo := (Tryz.prog.info? 121).get (by kernel_rfl)
noncomputable def srtE : TypeInfo := (Tryz.prog.info? 123).get (by kernel_rfl)
theorem srtK (n : Nat) (h2 : 2 ≤ n) : swapperK n srtE 25 = 9 := by
  have a : srtE.hasPointers = true := by kernel_rfl
  have b : srtE.bytes = 32 := by kernel_rfl
  have c : (n == 0) = false := by simp; omega
  have d : (n == 1) = false := by simp; omega
  simp [swapperK, a, b, c, d]

set_option maxHeartbeats 2000000 in
theorem less_any (blk c Bs size : Nat) (W : World) (G : Nat → ByteArray) (hs : W.cell? ⟨Bs, 0, none⟩ = some (.slice (some ⟨blk, 0, none⟩) size c))
    (hc : ∀ t, t < size → W.cell? ⟨blk, 0 + t * 2, none⟩ = some (.string (G t))) (i j : Nat) (hi : i < size) (hj : j < size) (_hsz : size < 4611686018427387904) :
    Calls Tryz.prog 70 #[.int .i64 i, .int .i64 j, .pointer (some ⟨Bs, 0, none⟩)] W fun e w' => e = .returned (.bool (Op.bytesLess (G i).data.toList (G j).data.toList)) ∧ ∃ q, w' = W.drewN q := by
  have ci := hc i hi; rw [Nat.zero_add] at ci
  have cj := hc j hj; rw [Nat.zero_add] at cj
  go_enter Tryz.func70, Tryz.ntmps70
  go_wp2
  go_quiet (fail)
  go_wp2
  go_ret
  refine ⟨?_, nq, rfl⟩
  simp [Lib.toList_data]

theorem grown_put (enc : Nat → List Value) (w : World) (m blk : Nat) (d : Array Nat) (os : Array Obj) (hblk : blk < w.heap.size) : w.grownBy (grow (putRowK enc 2 (Sort.ahead w m) blk 0 d) os) (some blk) := by
  refine ⟨rfl, rfl, rfl, ?_, fun k hk hne => ?_⟩
  · simp [grow, putRowK, putRow, mapBlock, Sort.ahead]
  · have hkb : blk ≠ k := fun e => hne (by rw [e])
    simp [grow, putRowK, putRow, mapBlock, Sort.ahead, Array.getElem?_append, Array.getElem?_modify, hk, hkb]
    rw [Array.getElem_modify, if_neg hkb]
theorem put_cells (enc : Nat → List Value) (w : World) (m blk : Nat) (d : Array Nat) (os : Array Obj) {C : Array Value} {T : TypeId} {fz : Nat × Nat} (hc : w.heap[blk]? = some (.cells C T fz)) : ∃ C', (grow (putRowK enc 2 (Sort.ahead w m) blk 0 d) os).heap[blk]? = some (.cells C' T fz) := by
  have hlt : blk < w.heap.size := (Array.getElem?_eq_some_iff.1 hc).1
  refine ⟨putCells id 0 (flatK enc 2 d) C, ?_⟩
  have h1 : (grow (putRowK enc 2 (Sort.ahead w m) blk 0 d) os).heap[blk]? = (w.heap.modify blk (onCells (putCells id 0 (flatK enc 2 d))))[blk]? := by
    show ((w.heap.modify blk (onCells (putCells id 0 (flatK enc 2 d)))) ++ os)[blk]? = _
    rw [Array.getElem?_append_left (by simpa using hlt)]
  rw [h1, Array.getElem?_modify, if_pos rfl, hc]
  rfl
theorem grown_grow (w : World) (os : Array Obj) (row : Option Nat) : w.grownBy (grow w os) row := by
  refine ⟨rfl, rfl, rfl, by simp [grow], fun k hk _ => ?_⟩
  simp [grow, Array.getElem?_append, hk]

theorem swapper_tiny (n : Nat) (h : n ≤ 1) : Tryz.prog.funcs.findIdx? (·.name == "internal/reflectlite" ++ ".Swapper$" ++ toString (swapperK n srtE 25)) = some (if n = 0 then 108 else 109) := by
  by_cases h0 : n = 0
  · rw [h0, show swapperK 0 srtE 25 = 1 from rfl]
    kernel_rfl
  · rw [show n = 1 from by omega, show swapperK 1 srtE 25 = 2 from rfl]
    kernel_rfl

theorem sort_any (ks : List ByteArray) (xs : List Value) (n : Nat) (hr : rises ks) (hn : ks.length = n) (hx1 : ∀ v ∈ xs, v.oneCell' = true) (js : List Nat) (hj : js.Perm (List.range n)) (hsz : n < 4611686018427387904) (blk c Bs : Nat) (w : World)
    (hH : HoldsK (encE ks xs) 2 w blk 0 js.toArray) (hblk : blk < w.heap.size) (hBs : w.cell? ⟨Bs, 0, none⟩ = some (.slice (some ⟨blk, 0, none⟩) n c)) (hB1 : Bs < w.heap.size) (hB2 : Bs ≠ blk) :
    Calls Tryz.prog 69 #[.iface 121 (.slice (some ⟨blk, 0, none⟩) n c), .func (.func 70) #[] #[.pointer (some ⟨Bs, 0, none⟩)]] w fun e w' => e = .returned (.tuple #[]) ∧ w.grownBy w' (some blk) ∧ HoldsK (encE ks xs) 2 w' blk 0 (List.range n).toArray ∧ ∀ C T fz, w.heap[blk]? = some (.cells C T fz) → ∃ C', w'.heap[blk]? = some (.cells C' T fz) := by
  have hjl : js.length = n := by have := hj.length_eq; simpa using this
  have hjs : js.toArray.size = n := by rw [List.size_toArray]; exact hjl
  by_cases h2 : 2 ≤ n
  · have hless : LessReadsK Tryz.prog 70 #[.pointer (some ⟨Bs, 0, none⟩)] (encE ks xs) 2 (ltE ks) blk 0 js.toArray.size w := by
      intro m os dk hs i j hi hj
      have e : sortWorldK (encE ks xs) 2 w blk 0 m dk os = putRowK (encE ks xs) 2 (grow (Sort.ahead w m) os) blk 0 dk := by
        unfold sortWorldK; rw [putRowK_grow _ _ (Sort.ahead w m) _ blk 0 _ hblk]
      have hHg : HoldsK (encE ks xs) 2 (grow (Sort.ahead w m) os) blk 0 js.toArray := holdsK_grow _ _ _ _ blk 0 _ hblk (holdsK_ahead _ _ _ _ _ _ _ hH)
      refine less_any blk c Bs js.toArray.size _ (fun t => keyAt ks dk[t]!) ?_ (fun t ht => ?_) i j hi hj (by omega)
      · rw [e, cell?_putRowK_other _ _ _ blk 0 dk _ (by exact hB2), cell?_grow _ _ _ (by exact hB1), hjs]; exact hBs
      · rw [e]; exact ((holdsK_putRowK _ _ _ blk 0 _ dk hHg hs).cell (i := t) (c := 0) (by omega) (by omega)).1
    have h := Any.sort_Slice_cells_sorted Tryz.laysGg6 121 123 srtT srtE (by kernel_rfl) (by kernel_rfl) (by kernel_rfl) (by kernel_rfl) 25 (fun _ => by kernel_rfl) (encE ks xs) 2 (fun _ => rfl) (by kernel_rfl) (fun _ => by kernel_rfl)
      (fun x v hv => by
        simp only [encE, List.mem_cons, List.not_mem_nil, or_false] at hv
        rcases hv with rfl | rfl
        · rfl
        · unfold valAt
          rw [List.getD_eq_getElem?_getD]
          cases hg : xs[x]? with
          | none => rfl
          | some u => exact hx1 u (List.mem_of_getElem? hg)) (ltE ks) (swo_ltE ks) 70 _
      (enters_of Tryz.func70 (by kernel_rfl) rfl) blk 0 c js.toArray (by omega) (by omega) 116 (by rw [hjs, srtK n h2]; kernel_rfl) false
      (fun args W => run_callFunc_extern Tryz.func116 (by kernel_rfl) (by kernel_rfl) (by kernel_rfl) (e := Extern.ReflectliteSwapper.swap false) (by kernel_rfl) args W) w hless hH hblk
    rw [hjs] at h
    refine h.mono ?_
    rintro e w' ⟨he, d', m, os, hp, hs, rfl⟩
    have hd' := sorted_range hr (d := js.toArray) (d' := d') (by rw [hn]; exact hj) (by rw [hjs]; exact hp) (by rw [hjs]; exact hs)
    have hd2 : d' = (List.range n).toArray := by rw [hn] at hd'; exact Array.toList_inj.1 hd'
    refine ⟨he, grown_put _ _ _ _ _ _ hblk, ?_, fun C T fz hc => put_cells _ _ _ _ _ _ hc⟩
    rw [← hd2]
    refine holdsK_grow _ _ _ _ _ _ _ (by simpa [putRowK, putRow, mapBlock, Sort.ahead] using hblk) (holdsK_putRowK _ _ _ _ _ js.toArray _ (holdsK_ahead _ _ _ _ _ _ _ hH) ?_)
    have := hp.1
    rw [this]
  · have h := Any.sort_Slice_tiny Tryz.laysGg6 121 123 srtT srtE (by kernel_rfl) (by kernel_rfl) (by kernel_rfl) (by kernel_rfl) 25 (fun _ => by kernel_rfl) (some ⟨blk, 0, none⟩) n c (by omega)
      (if n = 0 then 108 else 109) (swapper_tiny n (by omega)) (.func 70) #[] #[.pointer (some ⟨Bs, 0, none⟩)] w
    refine h.mono ?_
    rintro e w' ⟨he, os, rfl⟩
    refine ⟨he, grown_grow _ _ _, holdsK_grow _ _ _ _ _ _ _ hblk ?_, fun C T fz hc => ⟨C, (grown_grow w os none).block blk hblk (by simp) |>.trans hc⟩⟩
    have e1 : js = List.range n := by
      have hn01 : n = 0 ∨ n = 1 := by omega
      rcases hn01 with rfl | rfl
      · exact List.length_eq_zero_iff.1 hjl
      · exact List.perm_singleton.1 hj
    rw [← e1]
    exact hH

end Go.Proofs.YtpamlgdcnmcedaaGreatDoor

namespace Go.Proofs.YtpamlgdcnmcedaaGreatDoor
set_option linter.unusedVariables false
set_option linter.unusedSimpArgs false
open Go.RowKit Go.Maps
open Go.RowKit (Below)
open Go.Sort (HoldsK get_flatK flatK)
theorem ents_old {Y : World} {g : Nat} {o : Obj} (h : Y.heap[g]? = some o) (o' : Obj) : (Y.alloc o').heap[g]? = some o := (Below.heap_alloc Y o' g (Array.getElem?_eq_some_iff.1 h).1).trans h
theorem ents_new (Y : World) (o : Obj) (g : Nat) (h : Y.heap.size = g) : (Y.alloc o).heap[g]? = some o := by subst h; exact heap_alloc_new Y o
theorem ents_lt {w : World} {g : Nat} {o : Obj} (h : w.heap[g]? = some o) : g < w.heap.size := (Array.getElem?_eq_some_iff.1 h).1
theorem ents_two {w : World} {T : Nat} {a u : Value} {ty : TypeId} (h : w.heap[T]? = some (.cells #[a, u] ty (0, 0))) : w.cell? ⟨T, 1, none⟩ = some u := by simp [World.cell?, h]
theorem law9 : Keyed Tryz.prog 9 := string_keyed Tryz.underlying9
/-- The row of entries: so far those numbered js have been put in. -/
def RowE (w : World) (S n : Nat) (ks : List ByteArray) (xs : List Value) (js : List Nat) : Prop := ∃ C : Array Value, w.heap[S]? = some (.cells C 123 (0, 0)) ∧ C.size = 2 * n ∧ ∀ j i, js[j]? = some i → C[2 * j]? = some (.string (keyAt ks i)) ∧ C[2 * j + 1]? = some (valAt xs i)
/-- What a map of held values holds at a key is one of its entries. -/
theorem atKey_inv {ks : List ByteArray} {xs : List Value} {x : ByteArray} {c : Value} (h : ∀ zd, (DataW.map (pairs ks xs)).atKey (.string x.data.toList) zd = .held c) : ∃ i, i < ks.length ∧ keyAt ks i = x ∧ valAt xs i = c := by
  cases hf : (pairs ks xs).find? (fun p => p.1.sameKey (.string x.data.toList)) with
  | none =>
    have h1 := h (.lit (.bool false))
    simp only [DataW.atKey, hf] at h1
    cases h1
  | some p =>
    have h1 := h (.lit (.bool false))
    simp only [DataW.atKey, hf] at h1
    obtain ⟨i, k, v, e1, e2, rfl⟩ := pairs_mem ks xs p (List.mem_of_find?_eq_some hf)
    have h2 := List.find?_some hf
    have h3 : k.data.toList = x.data.toList := by simpa [Lit.sameKey] using h2
    have h4 : v = c := by simpa using h1
    refine ⟨i, (List.getElem?_eq_some_iff.1 e1).1, ?_, ?_⟩
    · unfold keyAt
      rw [List.getD_eq_getElem?_getD, e1]
      obtain ⟨⟨a⟩⟩ := k
      obtain ⟨⟨b⟩⟩ := x
      simp only at h3
      show ByteArray.mk _ = _
      rw [h3]
    · unfold valAt
      rw [List.getD_eq_getElem?_getD, e2]
      exact h4

theorem valAt_mem {xs : List Value} {i : Nat} (h : i < xs.length) : valAt xs i ∈ xs := by
  unfold valAt
  rw [List.getD_eq_getElem?_getD, List.getElem?_eq_getElem h]
  exact List.getElem_mem h
def Ifc (v : Value) : Prop := v = .nilIface ∨ ∃ t u, v = .iface t u
theorem Ifc.one {v : Value} (h : Ifc v) : v.oneCell' = true := by
  rcases h with rfl | ⟨t, u, rfl⟩ <;> rfl
theorem RdA.ifc {w : World} {lo B : Nat} : ∀ (x : V) (v : Value), RdA w lo B x v → x.good → Ifc v
  | .mk k h t l ks vs, v, hr, hg => by
    rw [RdA] at hr
    rw [V.good] at hg
    obtain ⟨⟨g0, g6, _⟩, _⟩ := hg
    obtain ⟨h0, h1, h2, h3, h4, h5, h6⟩ := hr
    have hk : k = 0 ∨ k = 1 ∨ k = 2 ∨ k = 3 ∨ k = 4 ∨ k = 5 ∨ k = 6 := by omega
    rcases hk with e | e | e | e | e | e | e
    · exact .inl (h0 e)
    · exact .inr ⟨_, _, h1 e⟩
    · exact .inr ⟨_, _, h2 e⟩
    · refine .inr ?_
      rw [h3 e]; unfold numA; split <;> exact ⟨_, _, rfl⟩
    · exact .inr ⟨_, _, h4 e⟩
    · obtain ⟨A, c, e', _⟩ := h5 e; exact .inr ⟨_, _, e'⟩
    · obtain ⟨b, n, xs, e', _⟩ := h6 e; exact .inr ⟨_, _, e'⟩

/-- The first loop: the entries numbered js are in the row. -/
structure OL (w1 wr : World) (n nn mb : Nat) (ks : List ByteArray) (xs : List Value) (left : Lit → Bool) (cnt : Nat) (js : List Nat) : Prop where
  rg : wr.ranges Tryz.prog 9 heldR mb (w1.heap.size + 2) nn (.map (pairs ks xs)) left cnt
  col : Collected (.map (pairs ks xs)) left (js.map fun i => (keyAt ks i).data.toList)
  mem : ∀ i ∈ js, i < n
  few : cnt + js.length ≤ n
  row : RowE wr w1.heap.size n ks xs js
  bel : Go.RowKit.Below w1.heap.size w1 wr
  box : wr.heap[w1.heap.size + 1]? = some (.cells #[.slice (some ⟨w1.heap.size, 0, none⟩) n n] 121 (0, 0))

theorem OL.step {w1 wr w4 : World} {n nn mb : Nat} {ks : List ByteArray} {xs : List Value} {left left' : Lit → Bool} {cnt cnt4 : Nat} {js : List Nat} {i : Nat} {x : ByteArray} {c : Value} (h : OL w1 wr n nn mb ks xs left cnt js)
    (hg4 : wr.grownBy w4 (some (w1.heap.size + 2))) (hrg : w4.ranges Tryz.prog 9 heldR mb (w1.heap.size + 2) nn (.map (pairs ks xs)) left' cnt4) (hcol : Collected (.map (pairs ks xs)) left' ((js.map fun i => (keyAt ks i).data.toList) ++ [x.data.toList]))
    (hlt : cnt4 < cnt) (hi : i < n) (hk : keyAt ks i = x) (hv : valAt xs i = c) (hmb : mb < w1.heap.size) :
    OL w1 ((w4.setCell ⟨w1.heap.size, js.length * 2, none⟩ (.string x)).setCell ⟨w1.heap.size, js.length * 2 + 1, none⟩ c) n nn mb ks xs left' cnt4 (js ++ [i]) := by
  obtain ⟨C, hC1, hC2, hC3⟩ := h.row
  have hfew := h.few
  have hC4 : w4.heap[w1.heap.size]? = some (.cells C 123 (0, 0)) := (hg4.block _ (ents_lt hC1) (by simp)).trans hC1
  have hgs : w4.grownBy ((w4.setCell ⟨w1.heap.size, js.length * 2, none⟩ (.string x)).setCell ⟨w1.heap.size, js.length * 2 + 1, none⟩ c) (some w1.heap.size) := by
    refine ⟨rfl, rfl, rfl, by simp [World.setCell], fun k hk hne => ?_⟩
    have hkS : k ≠ w1.heap.size := fun e => hne (by rw [e])
    rw [heap_setCell_other _ _ k _ hkS, heap_setCell_other _ _ k _ hkS]
  refine ⟨hrg.kept hgs (by intro e; injection e with e; omega) (by intro e; injection e with e; omega), ?_, ?_, ?_, ?_, ?_, ?_⟩
  · rw [List.map_append, List.map_cons, List.map_nil, hk]
    exact hcol
  · intro j hj
    rcases List.mem_append.1 hj with hj | hj
    · exact h.mem j hj
    · obtain rfl : j = i := by simpa using hj
      exact hi
  · rw [List.length_append, List.length_singleton]; omega
  · refine ⟨(C.setIfInBounds (js.length * 2) (.string x)).setIfInBounds (js.length * 2 + 1) c, by simp [World.setCell, Array.getElem?_modify, hC4], by simpa using hC2, fun j i' hj => ?_⟩
    rw [List.getElem?_append] at hj
    split at hj
    · rename_i hjl
      obtain ⟨g1, g2⟩ := hC3 j i' hj
      rw [Array.getElem?_setIfInBounds, Array.getElem?_setIfInBounds, if_neg (by omega), if_neg (by omega), Array.getElem?_setIfInBounds, Array.getElem?_setIfInBounds, if_neg (by omega), if_neg (by omega)]
      exact ⟨g1, g2⟩
    · rename_i hjl
      have hj0 : j - js.length = 0 := by
        have := (List.getElem?_eq_some_iff.1 hj).1
        simp at this; omega
      rw [hj0] at hj
      obtain rfl : i = i' := by simpa using hj
      obtain rfl : j = js.length := by omega
      rw [hk, hv]
      constructor
      · rw [Array.getElem?_setIfInBounds, if_neg (by omega), Nat.mul_comm 2, Array.getElem?_setIfInBounds, if_pos rfl, if_pos (by omega)]
      · rw [Nat.mul_comm 2, Array.getElem?_setIfInBounds, if_pos rfl, if_pos (by simp; omega)]
  · have hb4 : Below w1.heap.size w1 w4 := h.bel.grown hg4 h.bel.size (fun k e => by injection e with e; omega)
    exact hb4.grown hgs hb4.size (fun k e => by injection e with e; omega)
  · rw [heap_setCell_other _ _ _ _ (by show w1.heap.size + 1 ≠ w1.heap.size; omega), heap_setCell_other _ _ _ _ (by show w1.heap.size + 1 ≠ w1.heap.size; omega)]
    exact (hg4.block _ (ents_lt h.box) (by simp)).trans h.box
theorem keyAt_get {ks : List ByteArray} {i : Nat} (h : i < ks.length) : ks[i]? = some (keyAt ks i) := by
  unfold keyAt; rw [List.getD_eq_getElem?_getD, List.getElem?_eq_getElem h]; rfl
theorem keyAt_ne {ks : List ByteArray} (hr : rises ks) {i j : Nat} (hi : i < ks.length) (hj : j < ks.length) (h : (keyAt ks i).data.toList = (keyAt ks j).data.toList) : i = j := by
  rcases Nat.lt_trichotomy i j with hlt | he | hlt
  · exact absurd h (sLess_ne (keyAt_lt hr hlt hj))
  · exact he
  · exact absurd h.symm (sLess_ne (keyAt_lt hr hlt hi))
theorem OL.done {w1 wr : World} {n nn mb : Nat} {ks : List ByteArray} {xs : List Value} {left : Lit → Bool} {cnt : Nat} {js : List Nat} (h : OL w1 wr n nn mb ks xs left cnt js) (hl : ∀ kl, left kl = false) (hr : rises ks) (hn : ks.length = n) (hx : xs.length = n) : js.Perm (List.range n) := by
  have hp := h.col.perm h.rg.owns law9 Tryz.underlying9 hl
  rw [strKeys_pairs ks xs (by rw [hn, hx])] at hp
  have hnd : js.Nodup := by
    have := h.col.1
    rw [List.Nodup, List.pairwise_map] at this
    exact this.imp fun {a b} hab e => hab (by rw [e])
  refine (List.perm_ext_iff_of_nodup hnd List.nodup_range).2 fun i => ?_
  rw [List.mem_range]
  refine ⟨h.mem i, fun hi => ?_⟩
  have h1 : (keyAt ks i).data.toList ∈ ks.map (·.data.toList) := List.mem_map.2 ⟨_, List.mem_of_getElem? (keyAt_get (by omega)), rfl⟩
  obtain ⟨j, hj, e⟩ := List.mem_map.1 (hp.mem_iff.2 h1)
  have := keyAt_ne hr (by rw [hn]; exact h.mem j hj) (by omega) e
  rw [← this]
  exact hj
theorem RowE.holds {w : World} {S n : Nat} {ks : List ByteArray} {xs : List Value} {js : List Nat} (h : RowE w S n ks xs js) : HoldsK (encE ks xs) 2 w S 0 js.toArray := by
  obtain ⟨C, h1, h2, h3⟩ := h
  intro j hj
  have hj' : j < js.toArray.size * 2 := by simpa using hj
  have hjs : j / 2 < js.length := by simp at hj'; omega
  rw [get_flatK _ _ _ _ hj', Nat.zero_add]
  obtain ⟨g1, g2⟩ := h3 (j / 2) _ (List.getElem?_eq_getElem hjs)
  have e1 : js.toArray[j / 2]! = js[j / 2] := by rw [getElem!_pos _ _ (by simpa using hjs)]; simp
  rw [e1]
  refine ⟨?_, by simp [World.frozen?, h1]⟩
  have e2 : w.cell? ⟨S, j, none⟩ = C[j]? := by simp [World.cell?, h1]
  rw [e2]
  generalize js[j / 2] = i at g1 g2 ⊢
  generalize hq : j / 2 = q at g1 g2
  rcases Nat.mod_two_eq_zero_or_one j with h0 | h0
  · have e3 : j = 2 * q := by omega
    rw [h0, e3, g1]; rfl
  · have e3 : j = 2 * q + 1 := by omega
    rw [h0, e3, g2]; rfl
/-- A text so far: a first byte, the first i texts with commas between. -/
def headJ (l : List UInt8) (c : UInt8) (E : List (List UInt8)) (i : Nat) : List UInt8 := l ++ c :: joined (E.take i)
theorem headJ_first {l : List UInt8} {c : UInt8} {E : List (List UInt8)} {t : List UInt8} (h : E[0]? = some t) : headJ l c E 0 ++ t = headJ l c E 1 := by
  cases E with
  | nil => simp at h
  | cons a E =>
    obtain rfl : a = t := by simpa using h
    simp [headJ, joined]
theorem headJ_next {l : List UInt8} {c : UInt8} {E : List (List UInt8)} {t : List UInt8} {i : Nat} (h : E[i]? = some t) (hi : 0 < i) : (headJ l c E i ++ [44]) ++ t = headJ l c E (i + 1) := by
  have hlt := (List.getElem?_eq_some_iff.1 h).1
  have hne : E.take i ≠ [] := by
    intro e
    have h1 := congrArg List.length e
    rw [List.length_take, List.length_nil, Nat.min_eq_left (by omega)] at h1
    omega
  unfold headJ
  rw [List.take_add_one, h]
  simp only [Option.toList]
  rw [joined_next hne]
  simp
theorem V.nbS_split (ks : List ByteArray) (i : Nat) : V.nbS ks = V.nbS (ks.take i) + V.nbS (ks.drop i) := by
  conv => lhs; rw [← List.take_append_drop i ks]
  unfold V.nbS
  rw [List.map_append, List.sum_append]
theorem jsonM_take (ks : List ByteArray) (vs : List V) (i : Nat) : (jsonM ks vs).take i = jsonM (ks.take i) (vs.take i) := by
  rw [jsonM_zip, jsonM_zip, List.take_zipWith]
theorem jsonM_get {ks : List ByteArray} {vs : List V} {i : Nat} {x : V} (hi : i < ks.length) (hx : vs[i]? = some x) : (jsonM ks vs)[i]? = some (entry (keyAt ks i) x) := by
  rw [jsonM_zip, List.getElem?_zipWith, keyAt_get hi, hx]
theorem headO_len {l : List UInt8} {ks : List ByteArray} {vs : List V} (hg : V.goodL vs) (i : Nat) : (headJ l 123 (jsonM ks vs) i).length ≤ l.length + 1 + 40 * V.cntL (vs.take i) + 6 * (V.nbS (ks.take i) + V.nbL (vs.take i)) := by
  have h1 := jsonM_len (vs.take i) (ks.take i) (V.goodL_take hg i)
  have h2 := joined_len (jsonM (ks.take i) (vs.take i))
  unfold headJ
  rw [jsonM_take, List.length_append, List.length_cons]
  omega
theorem headO_room {l : List UInt8} {ks : List ByteArray} {vs : List V} {i : Nat} {x : V} (hg : V.goodL vs) (hi : i < ks.length) (hx : vs[i]? = some x) (hz : l.length + 40 + 40 * V.cntL vs + 6 * (V.nbS ks + V.nbL vs) ≤ 1000000000) : (headJ l 123 (jsonM ks vs) i).length + 10 + 6 * (keyAt ks i).size + 40 * x.cnt + 6 * x.nb ≤ 1000000000 := by
  have h1 := headO_len (l := l) (ks := ks) hg i
  have h3 := V.cntL_snoc hx
  have h4 := V.nbL_snoc hx
  have h5 := V.nbS_snoc (keyAt_get hi)
  have h6 := V.cntL_split vs (i + 1)
  have h7 := V.nbL_split vs (i + 1)
  have h8 := V.nbS_split ks (i + 1)
  omega
theorem make_ents (n : Nat) (hnz : n ≤ 1000000000) (W : World) : (Instr.makeSlice 121 (.int .i64 (n : Int)) (.int .i64 (n : Int))).run Tryz.prog W = .ok (.slice (some ⟨W.heap.size, 0, none⟩) n n) (W.alloc (.cells (madeCells #[.string ⟨#[]⟩, .nilIface] (n * 2)) 123)) := by
  have hb : (srtE.bytes : Int) = 32 := by
    have : srtE.bytes = 32 := by kernel_rfl
    rw [this]; rfl
  have h := run_make (P := Tryz.prog) W 121 123 srtE (.agg #[.string ⟨#[]⟩, .nilIface]) Tryz.underlying121 (by kernel_rfl) (by kernel_rfl) .i64 .i64 n n (by omega) (Int.le_refl _) (by rw [hb]; omega) (by omega)
  rw [show srtE.size = 2 from by kernel_rfl] at h
  simpa [Value.cells] using h
theorem size_pairs {ks : List ByteArray} {xs : List Value} (h : ks.length = xs.length) : Maps.size (DataW.map (pairs ks xs)) = ks.length := pairs_length ks xs h

set_option maxHeartbeats 3200000 in
set_option maxRecDepth 100000 in
theorem encO_any (m : Nat) (ih : EncUpTo m) (ks : List ByteArray) (vs : List V) (hm : V.cntL vs ≤ m) (hg : V.goodL vs) (hris : rises ks) (hval : validS ks) (n : Nat) (hn : ks.length = n) (hnv : vs.length = n) (mb nn lo B b g : Nat) (xs : List Value) (l : List UInt8) (w : World)
    (hown : w.ownsMap Tryz.prog 9 heldR mb nn (.map (pairs ks xs))) (hmb : mb < B) (hr : RdAV w lo B vs xs) (hS : St w B b g l) (hT : Tabs w) (hB2 : 2 ≤ B) (hz : l.length + 40 + 40 * V.cntL vs + 6 * (V.nbS ks + V.nbL vs) ≤ 1000000000) (hnz : n ≤ 1000000000) :
    Calls Tryz.prog 50 #[.pointer (some ⟨g, 0, none⟩), .map (some mb)] w (EncPost w B b g l (123 :: (joined (jsonM ks vs) ++ [125]))) := by
  obtain ⟨cs, hE⟩ := hS.enc
  have d0 := hE.c0
  unfold wVal at d0
  have CW := Sec.mk (st_byte 123 hS (by omega))
  go_enter Tryz.func50, Tryz.ntmps50
  go_wp2_with fail
  refine CW.out.mono ?_
  rintro e w1 ⟨⟨v, rfl⟩, hS1, hk1⟩
  have HXL := Sec.mk (show xs.length = n from (rdAV_length vs xs hr).symm.trans hnv)
  have HONE := Sec.mk (show ∀ v ∈ xs, Ifc v from fun v hv => by
    obtain ⟨i, hi⟩ := List.getElem?_of_mem hv
    have hlt := (List.getElem?_eq_some_iff.1 hi).1
    have hl : vs.length = xs.length := rdAV_length vs xs hr
    obtain ⟨u, hu, hru⟩ := rdAV_get vs xs hr i _ (List.getElem?_eq_getElem (by omega))
    rw [hi] at hu
    obtain rfl := Option.some.inj hu
    exact RdA.ifc _ _ hru (V.goodL_get hg (List.getElem?_eq_getElem (by omega))))
  have hown1 := owns_same hown (hk1.below.block mb hmb)
  have hsz : Maps.size (DataW.map (pairs ks xs)) = n := by rw [size_pairs (by rw [hn, ← hnv]; exact rdAV_length vs xs hr)]; exact hn
  have hlen : ∀ ty, (Builtin.len_ #[64] ty #[.map (some mb)]).run Tryz.prog w1 = .ok (.int .i64 (n : Int)) w1 := fun ty => by rw [hown1.len Tryz.underlying64 ty, hsz]
  have hmk := fun W => make_ents n hnz W
  go_upto_region 3 with fail
  obtain ⟨w2, hw2⟩ : ∃ w2, (w1.alloc (.cells (madeCells #[.string ⟨#[]⟩, .nilIface] (n * 2)) 123)).alloc (.cells #[.slice (some ⟨w1.heap.size, 0, none⟩) n n] 121) = w2 := ⟨_, rfl⟩
  rw [hw2]
  have hb2 : Go.RowKit.Below w1.heap.size w1 w2 := by rw [← hw2]; exact ((Go.RowKit.Below.refl _ _).alloc (Nat.le_refl _) _).alloc (by simp) _
  have hz2 : w2.heap.size = w1.heap.size + 2 := by rw [← hw2]; simp
  have hrow2 : RowE w2 w1.heap.size n ks xs [] := by
    refine ⟨madeCells #[.string ⟨#[]⟩, .nilIface] (n * 2), ?_, ?_, fun j i h => by simp at h⟩
    · rw [← hw2]
      exact ents_old (heap_alloc_new w1 _) _
    · simp [madeCells]; omega
  have hbox2 : w2.heap[w1.heap.size + 1]? = some (.cells #[.slice (some ⟨w1.heap.size, 0, none⟩) n n] 121 (0, 0)) := by
    rw [← hw2]
    exact ents_new _ _ _ (by simp)
  have hown2 := owns_same hown1 (hb2.block mb (by have := hS1.size; omega))
  clear hw2 d0 hlen hmk
  go_wp2_with (first
    | (at_range; refine wpList_range_own _ rfl _ 64 rfl 9 20 law9 Tryz.underlying64 _ mb nn _ rfl hown2 ?_; intro w3 hrg3 hg3 hs3)
    | go_in)
  go_frame
  rw [hz2] at hrg3
  have hol : OL w1 w3 n nn mb ks xs (Maps.has (.map (pairs ks xs))) (Maps.size (.map (pairs ks xs))) [] := by
    refine ⟨hrg3, Collected.start _, fun i h => by simp at h, by rw [size_pairs (by rw [hn, ← hnv]; exact rdAV_length vs xs hr)]; simp; omega, ?_, ?_, ?_⟩
    · obtain ⟨C, h1, h2, h3⟩ := hrow2
      exact ⟨C, (hg3.block _ (ents_lt h1) (by simp)).trans h1, h2, h3⟩
    · exact hb2.grown hg3 hb2.size (fun k e => by cases e)
    · exact (hg3.block _ (ents_lt hbox2) (by simp)).trans hbox2
  rw [hz2]
  have HOL := Sec.mk hol
  have HS1 := Sec.mk hS1
  have HK1 := Sec.mk hk1
  clear hol hS1 hk1 hrg3 hg3 hs3 hown2 hbox2 hrow2 hz2 hb2 hown1
  go_loopw [5, 6, 7] (fun v5 _ _ wr => ∃ left cnt js, v5 = .int .i64 (js.length : Int) ∧ OL w1 wr n nn mb ks xs left cnt js) (fun _ _ _ wr => wr.rangeLeft mb (w1.heap.size + 2))
  case atStart => exact ⟨_, _, [], rfl, HOL.out⟩
  case round =>
    obtain ⟨left, cnt, js, rfl, hl⟩ := hrel
    have hrg := hl.rg
    go_wp2_with (first
      | (at_next; refine wpList_next_ranges _ rfl _ rfl 9 law9 heldR Value.string (fun v : Value => v) (fun key kl h => by obtain ⟨x, hx, _⟩ := Maps.keyOf_str Tryz.underlying9 h; exact ⟨⟨x.toArray⟩, hx⟩) (fun v y _ => ⟨v, rfl⟩) mb (w1.heap.size + 2) nn _ _ _ rfl hrg ?_ ?_)
      | go_in)
    · intro hc0 hl0
      have hperm := hl.done hl0 hris hn HXL.out
      have c0 : wr.cell? ⟨w1.heap.size + 1, 0, none⟩ = some (.slice (some ⟨w1.heap.size, 0, none⟩) n n) := by simp [World.cell?, hl.box]
      have CS := Sec.mk (sort_any ks xs n hris hn (fun v hv => (HONE.out v hv).one) js hperm (by omega) w1.heap.size n (w1.heap.size + 1) wr hl.row.holds (by have := ents_lt hl.box; omega) c0 (ents_lt hl.box) (by omega))
      go_wp2_with fail
      refine CS.out.mono ?_
      rintro e w5 ⟨rfl, hg5, hH5, hC5⟩
      have hbox5 : w5.heap[w1.heap.size + 1]? = some (.cells #[.slice (some ⟨w1.heap.size, 0, none⟩) n n] 121 (0, 0)) := (hg5.block _ (ents_lt hl.box) (by simp)).trans hl.box
      have c5 : w5.cell? ⟨w1.heap.size + 1, 0, none⟩ = some (.slice (some ⟨w1.heap.size, 0, none⟩) n n) := by simp [World.cell?, hbox5]
      have hb5 : Below w1.heap.size w1 w5 := hl.bel.grown hg5 hl.bel.size (fun k e => by injection e with e; omega)
      obtain ⟨C0, hC0, _⟩ := hl.row
      obtain ⟨C, hC⟩ := hC5 _ _ _ hC0
      have hS5 := HS1.out.below hb5
      have hk5 := HK1.out.trans (Kp.of_below hb5 HS1.out.size)
      have hbS : w1.heap.size ≠ b := fun e => by have := HS1.out.wr.1.lt; omega
      have hgS : w1.heap.size ≠ g := fun e => by obtain ⟨cs, hE⟩ := HS1.out.enc; have := hE.lt; omega
      have hcell : ∀ i, i < n → C[i * 2]? = some (.string (keyAt ks i)) ∧ C[i * 2 + 1]? = some (valAt xs i) := fun i hi => by
        have g1 := (hH5.cell (i := i) (c := 0) (by simpa using hi) (by omega)).1
        have g2 := (hH5.cell (i := i) (c := 1) (by simpa using hi) (by omega)).1
        have e1 : (List.range n).toArray[i]! = i := by rw [getElem!_pos _ _ (by simpa using hi)]; simp
        have e2 : ∀ k, w5.cell? ⟨w1.heap.size, k, none⟩ = C[k]? := fun k => by simp [World.cell?, hC]
        rw [e1, e2, Nat.zero_add] at g1 g2
        exact ⟨g1, g2⟩
      have HC := Sec.mk (And.intro hC (And.intro hbS (And.intro hgS hcell)))
      have HS5 := Sec.mk hS5
      have HK5 := Sec.mk hk5
      clear hbox5 hb5 hC0 hC hS5 hk5 hbS hgS hcell hH5 hC5 hg5 c0
      go_wp2_with fail
      clear c5 hl hrg hperm hl0 hc0
      go_loopw [8, 9, 39] (fun _ _ v39 wr => ∃ i : Nat, v39 = .int .i64 (i : Int) ∧ i ≤ n ∧ St wr B b g (headJ l 123 (jsonM ks vs) i) ∧ Kp B b g w5 wr) (fun _ _ v39 _ => n - (intOf v39).toNat)
      case atStart => exact ⟨0, rfl, Nat.zero_le _, by have := HS5.out; unfold headJ; simpa [joined] using this, Kp.refl _ _ _ _⟩
      case round =>
        obtain ⟨i, rfl, hi, hs, hk⟩ := hrel
        obtain ⟨cs1, hE1⟩ := hs.enc
        have d0 := hE1.c0
        unfold wVal at d0
        have HS := Sec.mk hs
        have HK := Sec.mk hk
        clear hs hk hE1
        by_cases hin : i < n
        · obtain ⟨hC, hbS, hgS, hcell⟩ := HC.out
          have hCr := HK.out.cells hC hbS hgS (by decide)
          obtain ⟨cK, cV⟩ := hcell i hin
          have c0 : wr.cell? ⟨w1.heap.size, i * 2, none⟩ = some (.string (keyAt ks i)) := by simp [World.cell?, hCr, cK]
          have c1 : wr.cell? ⟨w1.heap.size, i * 2 + 1, none⟩ = some (valAt xs i) := by simp [World.cell?, hCr, cV]
          clear hC hbS hgS hcell hCr cK cV
          have hifc := HONE.out _ (valAt_mem (xs := xs) (i := i) (by rw [HXL.out]; exact hin))
          generalize hkk : keyAt ks i = kk at c0
          generalize hcc : valAt xs i = c at c1 hifc
          have z1 : (0 : Int) ≤ (i : Int) := by omega
          have z2 : (i : Int) < (n : Int) := by omega
          obtain ⟨x, hx⟩ : ∃ x, vs[i]? = some x := ⟨vs[i]'(by rw [hnv]; exact hin), by rw [List.getElem?_eq_getElem]⟩
          have hE := jsonM_get (ks := ks) (by rw [hn]; exact hin) hx
          have hro := headO_room hg (by rw [hn]; exact hin) hx hz
          have hvk := hval (keyAt ks i) (List.mem_of_getElem? (keyAt_get (by rw [hn]; exact hin)))
          obtain ⟨xi, hxi, hxr⟩ := rdAV_get vs xs hr i x hx
          have hxc : xi = c := by rw [← hcc]; unfold valAt; rw [List.getD_eq_getElem?_getD, hxi]; rfl
          subst hxc
          rw [hkk] at hE hro hvk
          obtain ⟨L, hL1, hL2, hL3, hL4⟩ : ∃ L, L ++ entry kk x = headJ l 123 (jsonM ks vs) (i + 1) ∧ L.length ≤ (headJ l 123 (jsonM ks vs) i).length + 1 ∧ (i = 0 → L = headJ l 123 (jsonM ks vs) i) ∧ (0 < i → L = headJ l 123 (jsonM ks vs) i ++ [44]) := by
            by_cases h0 : i = 0
            · subst h0
              exact ⟨_, headJ_first hE, by omega, fun _ => rfl, fun h => by omega⟩
            · exact ⟨_, headJ_next hE (by omega), by simp, fun h => absurd h h0, fun _ => rfl⟩
          have HL := Sec.mk (And.intro hL1 (And.intro hL2 (And.intro hL3 hL4)))
          have HX := Sec.mk (And.intro hro (And.intro hvk (And.intro hxr (And.intro (V.goodL_get hg hx) (Nat.le_trans (V.cnt_le_get hx) hm)))))
          clear hE hro hvk hL1 hL2 hL3 hL4 hx hxi hkk hcc hxr
          rcases hifc with rfl | ⟨tc, uc, rfl⟩
          all_goals
            go_upto_if 45 with fail
            generalize ho6 : Obj.cells _ 123 (0, 0) = o6
            generalize hw6 : World.alloc wr o6 = w6
            have hb6 : Below wr.heap.size wr w6 := by rw [← hw6]; exact (Below.refl _ _).alloc (Nat.le_refl _) _
            have hc6 := ents_new wr o6 _ rfl
            rw [hw6, ← ho6] at hc6
            have hs6 := HS.out.below hb6
            have hk6 := HK.out.trans (Kp.of_below hb6 HS.out.size)
            have hTb : wr.heap.size ≠ b := fun e => by have := HS.out.wr.1.lt; omega
            have hTg : wr.heap.size ≠ g := fun e => by obtain ⟨cs, hE⟩ := HS.out.enc; have := hE.lt; omega
            have H6 := Sec.mk (And.intro hs6 (And.intro hk6 (And.intro hc6 (And.intro hTb hTg))))
            clear c0 c1 hw6 ho6 hb6 hc6 hs6 hk6 hTb hTg d0
            go_cut [] (fun wx => St wx B b g L ∧ Kp B b g w6 wx)
            case first =>
              obtain ⟨q, hq⟩ : ∃ q, decide (0 < i) = q := ⟨_, rfl⟩
              rw [hq]
              have HQ := Sec.mk hq
              clear hq
              cases q
              · have HM := Sec.mk (show St w6 B b g L ∧ Kp B b g w6 w6 from ⟨by rw [HL.out.2.2.1 (by have := of_decide_eq_false HQ.out; omega)]; exact H6.out.1, Kp.refl _ _ _ _⟩)
                go_wp2_with fail
                go_meet
                exact HM.out
              · obtain ⟨cs6, hE6⟩ := H6.out.1.enc
                have d0 := hE6.c0
                unfold wVal at d0
                clear hE6
                have CB := Sec.mk (st_byte 44 H6.out.1 (by have := HX.out.1; omega))
                go_wp2_with fail
                refine CB.out.mono ?_
                rintro e w7 ⟨⟨v7, rfl⟩, hs7, hk7⟩
                have HM := Sec.mk (show St w7 B b g L ∧ Kp B b g w6 w7 from ⟨by rw [HL.out.2.2.2 (of_decide_eq_true HQ.out)]; exact hs7, hk7⟩)
                clear hs7 hk7
                go_wp2_with fail
                go_meet
                exact HM.out
            case rest =>
              obtain ⟨hsx, hkx⟩ := hcut
              have hcx := hkx.cells H6.out.2.2.1 H6.out.2.2.2.1 H6.out.2.2.2.2 (by decide)
              have cK : wc.cell? ⟨wr.heap.size, 0, none⟩ = some (.string kk) := by simp [World.cell?, hcx]
              have hTx : Tabs wc := hT.same (Same.of_below (HK5.out.trans (H6.out.2.1.trans hkx)).below) hB2
              have CE := Sec.mk (encS_any kk B b g L wc hsx hTx hB2 HX.out.2.1 (by have := HX.out.1; have := HL.out.2.1; omega))
              have HKX := Sec.mk hkx
              have HCX := Sec.mk hcx
              clear hsx hkx hcx hTx
              go_wp2_with fail
              refine CE.out.mono ?_
              rintro e w8 ⟨⟨v8, rfl⟩, hs8, hk8⟩
              obtain ⟨cs8, hE8⟩ := hs8.enc
              have d0 := hE8.c0
              unfold wVal at d0
              have hq8 := quotE_len kk
              have CB := Sec.mk (st_byte 58 hs8 (by have := HX.out.1; have := HL.out.2.1; rw [List.length_append]; omega))
              have HC8 := Sec.mk (hk8.cells HCX.out H6.out.2.2.2.1 H6.out.2.2.2.2 (by decide))
              have HK8 := Sec.mk (HKX.out.trans hk8)
              clear hE8 hs8 hk8 cK
              go_wp2_with fail
              refine CB.out.mono ?_
              rintro e w9 ⟨⟨v9, rfl⟩, hs9, hk9⟩
              have hc9 := hk9.cells HC8.out H6.out.2.2.2.1 H6.out.2.2.2.2 (by decide)
              have cV := ents_two hc9
              have hk69 := HK8.out.trans hk9
              have hk59 := H6.out.2.1.trans hk69
              have CE2 := Sec.mk (ih x HX.out.2.2.2.2 HX.out.2.2.2.1 _ lo B b g _ w9 (RdA.same (SameIn.of_same (Same.of_below (HK5.out.trans hk59).below)) (Nat.le_refl _) (Nat.le_refl _) x _ HX.out.2.2.1) hs9 (hT.same (Same.of_below (HK5.out.trans hk59).below) hB2) hB2 (by
                have := HX.out.1; have := HL.out.2.1
                rw [List.length_append, List.length_append]
                simp only [List.length_cons, List.length_nil]
                omega))
              have HK9 := Sec.mk hk59
              clear hs9 hk9 hc9 hk69 hk59 d0
              go_wp2_with fail
              refine CE2.out.mono ?_
              rintro e w10 ⟨⟨v10, rfl⟩, hs10, hk10⟩
              have HF := Sec.mk (show St w10 B b g (headJ l 123 (jsonM ks vs) (i + 1)) ∧ Kp B b g w5 w10 from ⟨by
                rw [← HL.out.1]
                unfold entry
                have e1 : L ++ (quotE kk.data.toList ++ 58 :: json x) = ((L ++ quotE kk.data.toList) ++ [58]) ++ json x := by simp
                rw [e1]; exact hs10, HK9.out.trans hk10⟩)
              clear hs10 hk10 cV
              go_wp2_with fail
              go_roundw
              case rel => exact ⟨i + 1, by go_num, by omega, HF.out⟩
              case measure => simp [intOf]; omega
        · obtain rfl : i = n := by omega
          have CB := Sec.mk (st_byte 125 HS.out (by
            have h1 := headO_len (l := l) (ks := ks) hg i
            rw [List.take_of_length_le (by omega), List.take_of_length_le (by omega)] at h1
            omega))
          go_wp2_with fail
          refine CB.out.mono ?_
          rintro e w8 ⟨⟨v8, rfl⟩, h2, k2⟩
          have FIN := Sec.mk (show EncPost w B b g l (123 :: (joined (jsonM ks vs) ++ [125])) (.returned (.tuple #[])) w8 from ⟨⟨_, rfl⟩, by
            have e1 : headJ l 123 (jsonM ks vs) i ++ [125] = l ++ 123 :: (joined (jsonM ks vs) ++ [125]) := by
              unfold headJ
              rw [List.take_of_length_le (by rw [jsonM_zip, List.length_zipWith]; omega)]
              simp
            rw [← e1]; exact h2, HK5.out.trans (HK.out.trans k2)⟩)
          clear h2 k2
          go_wp2_with fail
          go_end0
          exact FIN.out
    · intro x c kl y yp w4 cnt4 hkey hlk hv hat hrg4 hlt4 hg4 hs4 hen
      have hfew := hl.few
      have hjn : js.length < n := by omega
      have hkl : kl = .string x.data.toList := by
        obtain ⟨x', ex, e2, _⟩ := Maps.keyOf_str Tryz.underlying9 hkey
        have : x.data.toList = x' := by
          have e3 : Value.string x = .string ⟨x'.toArray⟩ := ex
          injection e3 with e3
          rw [e3]
        rw [e2, this]
      subst hkl
      have hyc : y = .held c := by
        unfold heldR at hv
        simp only [Option.some.injEq, Prod.mk.injEq] at hv
        exact hv.1.symm
      subst hyc
      have hat' : ∀ zd, (DataW.map (pairs ks xs)).atKey (.string x.data.toList) zd = .held c := hat
      obtain ⟨i, hi, hki, hxi⟩ := atKey_inv hat'
      have hcol := hl.col.step hlk hat'
      obtain ⟨C, hC1, hC2, hC3⟩ := hl.row
      have hrS : w1.heap.size ≠ w1.heap.size + 2 := by omega
      have hC4 : w4.heap[w1.heap.size]? = some (.cells C 123 (0, 0)) := (hg4.block _ (ents_lt hC1) (by simp)).trans hC1
      have hbox4 : w4.heap[w1.heap.size + 1]? = some (.cells #[.slice (some ⟨w1.heap.size, 0, none⟩) n n] 121 (0, 0)) := (hg4.block _ (ents_lt hl.box) (by simp)).trans hl.box
      have c0 : w4.cell? ⟨w1.heap.size + 1, 0, none⟩ = some (.slice (some ⟨w1.heap.size, 0, none⟩) n n) := by simp [World.cell?, hbox4]
      have z1 : (0 : Int) ≤ (js.length : Int) := by omega
      have z2 : (js.length : Int) < (n : Int) := by omega
      have f0 : w4.frozen? ⟨w1.heap.size, js.length * 2, none⟩ = false := by simp [World.frozen?, hC4]
      have f1 : w4.frozen? ⟨w1.heap.size, js.length * 2 + 1, none⟩ = false := by simp [World.frozen?, hC4]
      have cellS : ∀ k, w4.cell? ⟨w1.heap.size, k, none⟩ = C[k]? := fun k => by simp [World.cell?, hC4]
      obtain ⟨u0, hu0⟩ : ∃ u, w4.cell? ⟨w1.heap.size, js.length * 2, none⟩ = some u := ⟨C[js.length * 2]'(by omega), (cellS _).trans (Array.getElem?_eq_getElem _)⟩
      obtain ⟨u1, hu1⟩ : ∃ u, w4.cell? ⟨w1.heap.size, js.length * 2 + 1, none⟩ = some u := ⟨C[js.length * 2 + 1]'(by omega), (cellS _).trans (Array.getElem?_eq_getElem _)⟩
      clear cellS
      have hcc : Ifc c := by rw [← hxi]; exact HONE.out _ (valAt_mem (by rw [HXL.out]; rw [hn] at hi; exact hi))
      rcases hcc with rfl | ⟨tc, uc, rfl⟩
      all_goals
        go_upto_region 6 with fail
        have hol := hl.step hg4 hrg4 hcol hlt4 (by rw [← hn]; exact hi) hki hxi (by have := HS1.out.size; omega)
        have HOL := Sec.mk hol
        go_wp2_with fail
        refine ⟨⟨_, cnt4, js ++ [i], by simp, HOL.out⟩, ?_⟩
        rw [HOL.out.rg.left_eq, hl.rg.left_eq]
        exact hlt4

end Go.Proofs.YtpamlgdcnmcedaaGreatDoor

namespace Go.Proofs.YtpamlgdcnmcedaaGreatDoor
set_option linter.unusedVariables false
set_option linter.unusedSimpArgs false
open Go.RowKit

theorem step_str {w : World} {B b g : Nat} {l : List UInt8} (hS : St w B b g l) (t : ByteArray) (T : List UInt8) (hT : t.data.toList = T) (hz : l.length + 10 ≤ 1000000000) (ht : T.length ≤ 10) : Calls Tryz.prog 199 #[.pointer (some ⟨b, 0, none⟩), .string t] w (EncPost w B b g l T) := by
  rw [← hT]
  exact st_string t hS (by rw [hT]; omega)

set_option maxHeartbeats 3200000 in
set_option maxRecDepth 100000 in
theorem encC_any (T : List UInt8) (v : Value) (B b g : Nat) (l : List UInt8) (w : World) (hS : St w B b g l) (hz : l.length + 10 ≤ 1000000000)
    (h : v = .nilIface ∧ T = [110, 117, 108, 108] ∨ v = .iface 4 (.bool false) ∧ T = [102, 97, 108, 115, 101] ∨ v = .iface 4 (.bool true) ∧ T = [116, 114, 117, 101]) :
    Calls Tryz.prog 29 #[.pointer (some ⟨g, 0, none⟩), v] w (EncPost w B b g l T) := by
  obtain ⟨cs, hE⟩ := hS.enc
  have d0 := hE.c0
  unfold wVal at d0
  rcases h with ⟨rfl, rfl⟩ | ⟨rfl, rfl⟩ | ⟨rfl, rfl⟩
  · have CS := Sec.mk (step_str hS ⟨#[110, 117, 108, 108]⟩ _ rfl hz (by decide))
    clear hE
    go_enter Tryz.func29, Tryz.ntmps29
    go_wp2_with fail
    refine CS.out.mono ?_
    rintro e w2 ⟨⟨u, rfl⟩, h1, h2⟩
    have FIN := Sec.mk (show EncPost w B b g l [110, 117, 108, 108] (.returned (.tuple #[])) w2 from ⟨⟨_, rfl⟩, h1, h2⟩)
    clear h1 h2
    go_wp2_with fail
    go_end0
    exact FIN.out
  · have CS := Sec.mk (step_str hS ⟨#[102, 97, 108, 115, 101]⟩ _ rfl hz (by decide))
    clear hE
    go_enter Tryz.func29, Tryz.ntmps29
    go_wp2_with fail
    refine CS.out.mono ?_
    rintro e w2 ⟨⟨u, rfl⟩, h1, h2⟩
    have FIN := Sec.mk (show EncPost w B b g l [102, 97, 108, 115, 101] (.returned (.tuple #[])) w2 from ⟨⟨_, rfl⟩, h1, h2⟩)
    clear h1 h2
    go_wp2_with fail
    go_end0
    exact FIN.out
  · have CS := Sec.mk (step_str hS ⟨#[116, 114, 117, 101]⟩ _ rfl hz (by decide))
    clear hE
    go_enter Tryz.func29, Tryz.ntmps29
    go_wp2_with fail
    refine CS.out.mono ?_
    rintro e w2 ⟨⟨u, rfl⟩, h1, h2⟩
    have FIN := Sec.mk (show EncPost w B b g l [116, 114, 117, 101] (.returned (.tuple #[])) w2 from ⟨⟨_, rfl⟩, h1, h2⟩)
    clear h1 h2
    go_wp2_with fail
    go_end0
    exact FIN.out

/-- The arms that hand on. -/
def HandsOn (fn : Nat) (ty : TypeId) : Prop := ∀ (u : Value) (B b g : Nat) (l T : List UInt8) (w : World), Calls Tryz.prog fn #[.pointer (some ⟨g, 0, none⟩), u] w (EncPost w B b g l T) → Calls Tryz.prog 29 #[.pointer (some ⟨g, 0, none⟩), .iface ty u] w (EncPost w B b g l T)
set_option maxHeartbeats 3200000 in
set_option maxRecDepth 100000 in
theorem hands_float : HandsOn 45 60 := by
  intro u B b g l T w hC
  have CC := Sec.mk hC
  clear hC
  go_enter Tryz.func29, Tryz.ntmps29
  go_wp2_with fail
  refine CC.out.mono ?_
  rintro e w2 ⟨⟨u, rfl⟩, h1, h2⟩
  have FIN := Sec.mk (show EncPost w B b g l T (.returned (.tuple #[])) w2 from ⟨⟨_, rfl⟩, h1, h2⟩)
  clear h1 h2
  go_wp2_with fail
  go_end0
  exact FIN.out
set_option maxHeartbeats 3200000 in
set_option maxRecDepth 100000 in
theorem hands_string : HandsOn 48 9 := by
  intro u B b g l T w hC
  have CC := Sec.mk hC
  clear hC
  go_enter Tryz.func29, Tryz.ntmps29
  go_wp2_with fail
  refine CC.out.mono ?_
  rintro e w2 ⟨⟨u, rfl⟩, h1, h2⟩
  have FIN := Sec.mk (show EncPost w B b g l T (.returned (.tuple #[])) w2 from ⟨⟨_, rfl⟩, h1, h2⟩)
  clear h1 h2
  go_wp2_with fail
  go_end0
  exact FIN.out
set_option maxHeartbeats 3200000 in
set_option maxRecDepth 100000 in
theorem hands_list : HandsOn 49 61 := by
  intro u B b g l T w hC
  have CC := Sec.mk hC
  clear hC
  go_enter Tryz.func29, Tryz.ntmps29
  go_wp2_with fail
  refine CC.out.mono ?_
  rintro e w2 ⟨⟨u, rfl⟩, h1, h2⟩
  have FIN := Sec.mk (show EncPost w B b g l T (.returned (.tuple #[])) w2 from ⟨⟨_, rfl⟩, h1, h2⟩)
  clear h1 h2
  go_wp2_with fail
  go_end0
  exact FIN.out
set_option maxHeartbeats 3200000 in
set_option maxRecDepth 100000 in
theorem hands_map : HandsOn 50 64 := by
  intro u B b g l T w hC
  have CC := Sec.mk hC
  clear hC
  go_enter Tryz.func29, Tryz.ntmps29
  go_wp2_with fail
  refine CC.out.mono ?_
  rintro e w2 ⟨⟨u, rfl⟩, h1, h2⟩
  have FIN := Sec.mk (show EncPost w B b g l T (.returned (.tuple #[])) w2 from ⟨⟨_, rfl⟩, h1, h2⟩)
  clear h1 h2
  go_wp2_with fail
  go_end0
  exact FIN.out

set_option maxHeartbeats 3200000 in
set_option maxRecDepth 100000 in
theorem encI_any (n : Int) (B b g : Nat) (l : List UInt8) (w : World) (hS : St w B b g l) (h0 : -1000000000000000000 < n) (h1 : n < 1000000000000000000) (hz : l.length + 30 ≤ 1000000000) :
    Calls Tryz.prog 29 #[.pointer (some ⟨g, 0, none⟩), .iface 3 (.int .i64 n)] w (EncPost w B b g l (intL n)) := by
  obtain ⟨cs, hE⟩ := hS.enc
  have d0 := hE.c0
  unfold wVal at d0
  have hln := intL_length h0 h1
  have hS' : St w.drew B b g l := hS.below (Below.refl _ _).drew
  have CU := Sec.mk (appendInt_any n g (wVal b) cs w.drew (hE.keep rfl) h0 h1)
  have HS := Sec.mk hS'
  have HK := Sec.mk (Kp.of_below (b := b) (g := g) (Below.refl w.heap.size w).drew hS.size)
  have HN := Sec.mk (And.intro hln hz)
  clear hS hE hS' hln hz h0 h1
  generalize intL n = T at *
  go_enter Tryz.func29, Tryz.ntmps29
  go_upto_region 13 with fail
  go_region_with (first | (go_at_call 44; refine CU.out.mono ?_; intro e w1 hw1; obtain ⟨rfl, ⟨cs', hE1⟩, hg1⟩ := hw1; have d1 := hE1.c0; unfold wVal at d1; have CW := Sec.mk (st_bytes (c := 64) ⟨T.toArray⟩ (HS.out.mine hg1 ⟨_, hE1⟩) hE1 (by have := HN.out; simp; omega)); have HK1 := Sec.mk (HK.out.trans (Kp.of_grown (b := b) hg1 HS.out.base HS.out.size)); clear hE1 hg1; generalize (ByteArray.mk T.toArray).size = sz at *) | (go_at_call 197; refine CW.out.mono ?_; intro e w2 hw2; obtain ⟨⟨u, rfl⟩, h2, k2⟩ := hw2; have FIN := Sec.mk (show EncPost w B b g l T (.returned (.tuple #[])) w2 from ⟨⟨_, rfl⟩, h2, HK1.out.trans k2⟩); clear h2 k2))
  all_goals
    go_wp2_with fail
    go_end0
    exact FIN.out

theorem V.length_le_cntL' (l : List V) : l.length ≤ V.cntL l := V.length_le_cntL l

theorem odd_abs {h : Int} (e : ¬ h.tmod 2 = 0) : h.natAbs % 2 = 1 := by
  rcases Nat.mod_two_eq_zero_or_one h.natAbs with h0 | h0
  · exact absurd (Int.tmod_eq_zero_of_dvd ⟨h / 2, by omega⟩) e
  · exact h0
theorem enc_upTo : ∀ m, m ≤ 1000000000 → EncUpTo m := by
  intro m
  induction m with
  | zero =>
    intro _ x hx
    cases x
    rw [V.cnt] at hx
    omega
  | succ m ih =>
    intro hm1 x hx hg v lo B b g l w hr hS hT hB2 hz
    have ihm := ih (by omega)
    cases x with
    | mk k h t l0 ks vs =>
      rw [V.cnt] at hx
      rw [V.cnt, V.nb] at hz
      rw [V.good] at hg
      rw [RdA] at hr
      obtain ⟨⟨g0, g6, gk3, gk4, gk5, gk6, gkl⟩, gB, gt, gl, gvs, gr, gv⟩ := hg
      obtain ⟨h0, h1, h2, h3, h4, h5, h6⟩ := hr
      have hk : k = 0 ∨ k = 1 ∨ k = 2 ∨ k = 3 ∨ k = 4 ∨ k = 5 ∨ k = 6 := by omega
      rw [json]
      rcases hk with e | e | e | e | e | e | e
      · rw [h0 e, if_pos e]
        exact encC_any _ _ B b g l w hS (by omega) (.inl ⟨rfl, rfl⟩)
      · rw [h1 e, if_neg (by omega), if_pos e]
        exact encC_any _ _ B b g l w hS (by omega) (.inr (.inl ⟨rfl, rfl⟩))
      · rw [h2 e, if_neg (by omega), if_neg (by omega), if_pos e]
        exact encC_any _ _ B b g l w hS (by omega) (.inr (.inr ⟨rfl, rfl⟩))
      · rw [h3 e, if_neg (by omega), if_neg (by omega), if_neg (by omega), if_pos e]
        obtain ⟨b1, b2, b3⟩ := gB
        by_cases hev : h.tmod 2 = 0
        · have hh : h = 2 * h.tdiv 2 := by have := Int.tmod_add_mul_tdiv h 2; omega
          rw [numA_even hev, figL_even hev]
          exact encI_any _ B b g l w hS (by omega) (by omega) (by omega)
        · rw [numA_odd hev]
          have b4 := b3.resolve_left hev
          exact hands_float _ B b g l _ w (encF_any h B b g l w hS (odd_abs hev) b4.1 b4.2 (by omega))
      · rw [h4 e, if_neg (by omega), if_neg (by omega), if_neg (by omega), if_neg (by omega), if_pos e]
        exact hands_string _ B b g l _ w (encS_any t B b g l w hS hT hB2 gt (by omega))
      · rw [if_neg (by omega), if_neg (by omega), if_neg (by omega), if_neg (by omega), if_neg (by omega), if_pos e]
        obtain ⟨A, c, rfl, e2, e3, e4⟩ := h5 e
        have := V.length_le_cntL l0
        exact hands_list _ B b g l _ w (encA_any m ihm l0 (by omega) gl A l0.length c lo B b g l w rfl e4 hS hT hB2 (by omega) (by omega))
      · rw [if_neg (by omega), if_neg (by omega), if_neg (by omega), if_neg (by omega), if_neg (by omega), if_neg (by omega)]
        obtain ⟨mb, nn, xs, rfl, e2, e3, e4, e5, e6⟩ := h6 e
        have := V.length_le_cntL vs
        exact hands_map _ B b g l _ w (encO_any m ihm ks vs (by omega) gv gr gvs ks.length rfl gkl.symm mb nn lo B b g xs l w e5 e3 e6 hS hT hB2 (by omega) (by omega))

end Go.Proofs.YtpamlgdcnmcedaaGreatDoor
