/-
  encodeObject's call of sort.Slice: the entries, in whatever order they came, stand in the order of their keys.
-/
import Derived.Test.YtpamlgdcnmcedaaGreatDoorShelfS
import Derived.Test.YtpamlgdcnmcedaaGreatDoorKeys
import Derived.Test.YtpamlgdcnmcedaaGreatDoorFrm
import Derived.Shelf.SlSortFuncK.WholeK
import Derived.Shelf.GgSortFunc.Tiny
namespace Go.Proofs.YtpamlgdcnmcedaaGreatDoor
set_option linter.unusedVariables false
set_option linter.unusedSimpArgs false
open Go.RowKit Go.Shelf Go.Lib Go.Sort

/-- Entry number i of the map: its key and its value. -/
def keyAt (ks : List ByteArray) (i : Nat) : ByteArray := ks.getD i ⟨#[]⟩
def valAt (xs : List Value) (i : Nat) : Value := xs.getD i .nilIface
def encE (ks : List ByteArray) (xs : List Value) (i : Nat) : List Value := [.string (keyAt ks i), valAt xs i]
def ltE (ks : List ByteArray) (i j : Nat) : Bool := Op.bytesLess (keyAt ks i).data.toList (keyAt ks j).data.toList
theorem swo_ltE (ks : List ByteArray) : SWO (ltE ks) where
  irrefl := fun x => by unfold ltE; rw [less_before, WideAt.bytes_irrefl]
  trans := fun x y z h1 h2 => by unfold ltE at *; rw [less_before] at *; exact WideShapes.bytes_trans _ _ _ h1 h2
  ntrans := fun x y z h1 h2 => by
    have e : ∀ a b, ltE ks a b = ltStr (keyAt ks a).data.toList (keyAt ks b).data.toList := fun a b => by unfold ltE ltStr; rw [bytesLess_eq]
    rw [e] at h1 h2 ⊢
    exact swo_ltStr.ntrans _ _ _ h1 h2
theorem keyAt_lt {ks : List ByteArray} (h : rises ks) {i j : Nat} (hij : i < j) (hj : j < ks.length) : ltE ks i j = true := by
  have h1 : ks[i]? = some (keyAt ks i) := by unfold keyAt; rw [List.getD_eq_getElem?_getD, List.getElem?_eq_getElem (by omega)]; rfl
  have h2 : ks[j]? = some (keyAt ks j) := by unfold keyAt; rw [List.getD_eq_getElem?_getD, List.getElem?_eq_getElem hj]; rfl
  exact rises_lt h (j - i - 1) i _ _ h1 (by rw [show i + (j - i - 1) + 1 = j from by omega]; exact h2)
/-- Sorted, the entries stand in the order of the map's keys. -/
theorem sorted_range {ks : List ByteArray} (h : rises ks) {d d' : Array Nat} (hd : d.toList.Perm (List.range ks.length)) (hp : PermIn 0 d.size d d') (hs : SortedIn (ltE ks) 0 d.size d') : d'.toList = List.range ks.length := by
  obtain ⟨p1, _, p3⟩ := hp
  have e1 : d'.extract 0 d.size = d' := by rw [← p1]; simp
  have e2 : d.extract 0 d.size = d := by simp
  rw [e1, e2] at p3
  have hp' := p3.trans hd
  have hlen : d'.size = ks.length := by have := hp'.length_eq; simpa using this
  have hmem : ∀ i (hi : i < d'.toList.length), d'.toList[i] < ks.length := fun i hi => by
    have := hp'.mem_iff.1 (List.getElem_mem hi)
    simpa using this
  refine List.Perm.eq_of_pairwise (le := fun a b => a ≤ b) (fun a b _ _ h1 h2 => Nat.le_antisymm h1 h2) ?_ ?_ hp'
  · rw [List.pairwise_iff_getElem]
    intro i j hi hj hij
    rcases Nat.lt_or_ge d'.toList[j] d'.toList[i] with hlt | hge
    · exfalso
      have h1 := hs i j (Nat.zero_le _) hij (by rw [← p1]; simpa using hj)
      have h2 := keyAt_lt h hlt (hmem i hi)
      have g1 : d'[i]! = d'.toList[i] := by rw [getElem!_pos _ _ (by simpa using hi)]; simp
      have g2 : d'[j]! = d'.toList[j] := by rw [getElem!_pos _ _ (by simpa using hj)]; simp
      rw [g1, g2, h2] at h1
      cases h1
    · exact hge
  · exact List.pairwise_lt_range.imp fun h => Nat.le_of_lt h

noncomputable def srtT : TypeInfo := (Tryz.prog.info? 121).get (by kernel_rfl)
noncomputable def srtE : TypeInfo := (Tryz.prog.info? 123).get (by kernel_rfl)
theorem srtK (n : Nat) (h2 : 2 ≤ n) : swapperK n srtE 25 = 9 := by
  have a : srtE.hasPointers = true := by kernel_rfl
  have b : srtE.bytes = 32 := by kernel_rfl
  have c : (n == 0) = false := by simp; omega
  have d : (n == 1) = false := by simp; omega
  simp [swapperK, a, b, c, d]

set_option maxHeartbeats 2000000 in
theorem less_any (blk c Bs size : Nat) (W : World) (G : Nat → ByteArray) (hs : W.cell? ⟨Bs, 0, none⟩ = some (.slice (some ⟨blk, 0, none⟩) size c))
    (hc : ∀ t, t < size → W.cell? ⟨blk, 0 + t * 2, none⟩ = some (.string (G t))) (i j : Nat) (hi : i < size) (hj : j < size) (_hsz : size < 4611686018427387904) :
    Calls Tryz.prog 70 #[.int .i64 i, .int .i64 j, .pointer (some ⟨Bs, 0, none⟩)] W fun e w' => e = .returned (.bool (Op.bytesLess (G i).data.toList (G j).data.toList)) ∧ ∃ q, w' = W.drewN q := by
  have ci := hc i hi; rw [Nat.zero_add] at ci
  have cj := hc j hj; rw [Nat.zero_add] at cj
  go_enter Tryz.func70, Tryz.ntmps70
  go_wp2
  go_quiet (fail)
  go_wp2
  go_ret
  refine ⟨?_, nq, rfl⟩
  simp [Lib.toList_data]

theorem grown_put (enc : Nat → List Value) (w : World) (m blk : Nat) (d : Array Nat) (os : Array Obj) (hblk : blk < w.heap.size) : w.grownBy (grow (putRowK enc 2 (Sort.ahead w m) blk 0 d) os) (some blk) := by
  refine ⟨rfl, rfl, rfl, ?_, fun k hk hne => ?_⟩
  · simp [grow, putRowK, putRow, mapBlock, Sort.ahead]
  · have hkb : blk ≠ k := fun e => hne (by rw [e])
    simp [grow, putRowK, putRow, mapBlock, Sort.ahead, Array.getElem?_append, Array.getElem?_modify, hk, hkb]
    rw [Array.getElem_modify, if_neg hkb]
theorem put_cells (enc : Nat → List Value) (w : World) (m blk : Nat) (d : Array Nat) (os : Array Obj) {C : Array Value} {T : TypeId} {fz : Nat × Nat} (hc : w.heap[blk]? = some (.cells C T fz)) : ∃ C', (grow (putRowK enc 2 (Sort.ahead w m) blk 0 d) os).heap[blk]? = some (.cells C' T fz) := by
  have hlt : blk < w.heap.size := (Array.getElem?_eq_some_iff.1 hc).1
  refine ⟨putCells id 0 (flatK enc 2 d) C, ?_⟩
  have h1 : (grow (putRowK enc 2 (Sort.ahead w m) blk 0 d) os).heap[blk]? = (w.heap.modify blk (onCells (putCells id 0 (flatK enc 2 d))))[blk]? := by
    show ((w.heap.modify blk (onCells (putCells id 0 (flatK enc 2 d)))) ++ os)[blk]? = _
    rw [Array.getElem?_append_left (by simpa using hlt)]
  rw [h1, Array.getElem?_modify, if_pos rfl, hc]
  rfl
theorem grown_grow (w : World) (os : Array Obj) (row : Option Nat) : w.grownBy (grow w os) row := by
  refine ⟨rfl, rfl, rfl, by simp [grow], fun k hk _ => ?_⟩
  simp [grow, Array.getElem?_append, hk]

theorem swapper_tiny (n : Nat) (h : n ≤ 1) : Tryz.prog.funcs.findIdx? (·.name == "internal/reflectlite" ++ ".Swapper$" ++ toString (swapperK n srtE 25)) = some (if n = 0 then 108 else 109) := by
  by_cases h0 : n = 0
  · rw [h0, show swapperK 0 srtE 25 = 1 from rfl]
    kernel_rfl
  · rw [show n = 1 from by omega, show swapperK 1 srtE 25 = 2 from rfl]
    kernel_rfl

theorem sort_any (ks : List ByteArray) (xs : List Value) (n : Nat) (hr : rises ks) (hn : ks.length = n) (hx1 : ∀ v ∈ xs, v.oneCell' = true) (js : List Nat) (hj : js.Perm (List.range n)) (hsz : n < 4611686018427387904) (blk c Bs : Nat) (w : World)
    (hH : HoldsK (encE ks xs) 2 w blk 0 js.toArray) (hblk : blk < w.heap.size) (hBs : w.cell? ⟨Bs, 0, none⟩ = some (.slice (some ⟨blk, 0, none⟩) n c)) (hB1 : Bs < w.heap.size) (hB2 : Bs ≠ blk) :
    Calls Tryz.prog 69 #[.iface 121 (.slice (some ⟨blk, 0, none⟩) n c), .func (.func 70) #[] #[.pointer (some ⟨Bs, 0, none⟩)]] w fun e w' => e = .returned (.tuple #[]) ∧ w.grownBy w' (some blk) ∧ HoldsK (encE ks xs) 2 w' blk 0 (List.range n).toArray ∧ ∀ C T fz, w.heap[blk]? = some (.cells C T fz) → ∃ C', w'.heap[blk]? = some (.cells C' T fz) := by
  have hjl : js.length = n := by have := hj.length_eq; simpa using this
  have hjs : js.toArray.size = n := by rw [List.size_toArray]; exact hjl
  by_cases h2 : 2 ≤ n
  · have hless : LessReadsK Tryz.prog 70 #[.pointer (some ⟨Bs, 0, none⟩)] (encE ks xs) 2 (ltE ks) blk 0 js.toArray.size w := by
      intro m os dk hs i j hi hj
      have e : sortWorldK (encE ks xs) 2 w blk 0 m dk os = putRowK (encE ks xs) 2 (grow (Sort.ahead w m) os) blk 0 dk := by
        unfold sortWorldK; rw [putRowK_grow _ _ (Sort.ahead w m) _ blk 0 _ hblk]
      have hHg : HoldsK (encE ks xs) 2 (grow (Sort.ahead w m) os) blk 0 js.toArray := holdsK_grow _ _ _ _ blk 0 _ hblk (holdsK_ahead _ _ _ _ _ _ _ hH)
      refine less_any blk c Bs js.toArray.size _ (fun t => keyAt ks dk[t]!) ?_ (fun t ht => ?_) i j hi hj (by omega)
      · rw [e, cell?_putRowK_other _ _ _ blk 0 dk _ (by exact hB2), cell?_grow _ _ _ (by exact hB1), hjs]; exact hBs
      · rw [e]; exact ((holdsK_putRowK _ _ _ blk 0 _ dk hHg hs).cell (i := t) (c := 0) (by omega) (by omega)).1
    have h := Any.sort_Slice_cells_sorted Tryz.laysGg6 121 123 srtT srtE (by kernel_rfl) (by kernel_rfl) (by kernel_rfl) (by kernel_rfl) 25 (fun _ => by kernel_rfl) (encE ks xs) 2 (fun _ => rfl) (by kernel_rfl) (fun _ => by kernel_rfl)
      (fun x v hv => by
        simp only [encE, List.mem_cons, List.not_mem_nil, or_false] at hv
        rcases hv with rfl | rfl
        · rfl
        · unfold valAt
          rw [List.getD_eq_getElem?_getD]
          cases hg : xs[x]? with
          | none => rfl
          | some u => exact hx1 u (List.mem_of_getElem? hg)) (ltE ks) (swo_ltE ks) 70 _
      (enters_of Tryz.func70 (by kernel_rfl) rfl) blk 0 c js.toArray (by omega) (by omega) 116 (by rw [hjs, srtK n h2]; kernel_rfl) false
      (fun args W => run_callFunc_extern Tryz.func116 (by kernel_rfl) (by kernel_rfl) (by kernel_rfl) (e := Extern.ReflectliteSwapper.swap false) (by kernel_rfl) args W) w hless hH hblk
    rw [hjs] at h
    refine h.mono ?_
    rintro e w' ⟨he, d', m, os, hp, hs, rfl⟩
    have hd' := sorted_range hr (d := js.toArray) (d' := d') (by rw [hn]; exact hj) (by rw [hjs]; exact hp) (by rw [hjs]; exact hs)
    have hd2 : d' = (List.range n).toArray := by rw [hn] at hd'; exact Array.toList_inj.1 hd'
    refine ⟨he, grown_put _ _ _ _ _ _ hblk, ?_, fun C T fz hc => put_cells _ _ _ _ _ _ hc⟩
    rw [← hd2]
    refine holdsK_grow _ _ _ _ _ _ _ (by simpa [putRowK, putRow, mapBlock, Sort.ahead] using hblk) (holdsK_putRowK _ _ _ _ _ js.toArray _ (holdsK_ahead _ _ _ _ _ _ _ hH) ?_)
    have := hp.1
    rw [this]
  · have h := Any.sort_Slice_tiny Tryz.laysGg6 121 123 srtT srtE (by kernel_rfl) (by kernel_rfl) (by kernel_rfl) (by kernel_rfl) 25 (fun _ => by kernel_rfl) (some ⟨blk, 0, none⟩) n c (by omega)
      (if n = 0 then 108 else 109) (swapper_tiny n (by omega)) (.func 70) #[] #[.pointer (some ⟨Bs, 0, none⟩)] w
    refine h.mono ?_
    rintro e w' ⟨he, os, rfl⟩
    refine ⟨he, grown_grow _ _ _, holdsK_grow _ _ _ _ _ _ _ hblk ?_, fun C T fz hc => ⟨C, (grown_grow w os none).block blk hblk (by simp) |>.trans hc⟩⟩
    have e1 : js = List.range n := by
      have hn01 : n = 0 ∨ n = 1 := by omega
      rcases hn01 with rfl | rfl
      · exact List.length_eq_zero_iff.1 hjl
      · exact List.perm_singleton.1 hj
    rw [← e1]
    exact hH

end Go.Proofs.YtpamlgdcnmcedaaGreatDoor
