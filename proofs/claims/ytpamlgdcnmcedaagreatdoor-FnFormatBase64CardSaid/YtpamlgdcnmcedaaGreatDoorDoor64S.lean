/-
  gojq's funcToBase64 and ZzBase64 at a right value. impl.FormatBase64: the base 64 text of what tostring gives.
-/
import Derived.Test.YtpamlgdcnmcedaaGreatDoorF64
import Derived.Test.YtpamlgdcnmcedaaGreatDoorToSS
import Derived.Test.YtpamlgdcnmcedaaGreatDoorSays
import Derived.Test.YtpamlgdcnmcedaaGreatDoorMapTo
namespace Go.Proofs.YtpamlgdcnmcedaaGreatDoor
set_option linter.unusedVariables false
set_option linter.unusedSimpArgs false
open Go.RowKit

theorem below_bytes (w : World) (s : ByteArray) : Below w.heap.size w (Lib.bytesWorld w 5 s) :=
  ⟨rfl, rfl, rfl, by rw [Lib.bytesWorld_size]; omega, fun j hj => Lib.bytesWorld_at_old w 5 s j hj⟩
theorem src_bytes (w : World) (s : ByteArray) : SrcAt (Lib.bytesWorld w 5 s) w.heap.size s.data.toList := fun j c hj => by
  have hl : j < s.size := by have := (List.getElem?_eq_some_iff.1 hj).1; rwa [Array.length_toList] at this
  rw [Lib.bytesWorld_cell w 5 s j hl, List.getD_eq_getElem?_getD, hj]
  rfl
theorem textV_len {x : V} (hf : Fits x) : (textV x).length ≤ 100000 := by
  obtain ⟨hg, hc, hb⟩ := hf
  have h1 := json_len x hg
  cases x with
  | mk k h t l ks vs =>
  rw [V.nb] at hb
  show (if k = 4 then t.data.toList else json (.mk k h t l ks vs)).length ≤ 100000
  split
  · rw [Array.length_toList]
    show t.size ≤ _
    omega
  · rw [V.nb] at h1
    omega

set_option maxHeartbeats 1600000 in
set_option maxRecDepth 100000 in
theorem toBase64_any (x : V) (hf : Fits x) (v : Value) (lo : Nat) (w : World) (hr : RdA w lo w.heap.size x v) (hT : Tabs w) (h2 : 2 ≤ w.heap.size) :
    Calls Tryz.prog 42 #[v] w (BoxIs (b64 (textV x)) w) := by
  have hl := textV_len hf
  have CS := Sec.mk (toString_any x (by obtain ⟨_, h, _⟩ := hf; omega) (by obtain ⟨_, _, h⟩ := hf; omega) hf.1 v lo w hr hT h2)
  obtain ⟨T, hTx⟩ : ∃ T, textV x = T := ⟨_, rfl⟩
  rw [hTx] at CS hl
  rw [hTx]
  obtain ⟨s, hs⟩ : ∃ s : ByteArray, (⟨T.toArray⟩ : ByteArray) = s := ⟨_, rfl⟩
  have hsT : s.data.toList = T := by rw [← hs]
  obtain ⟨n, hn⟩ : ∃ n, s.size = n := ⟨_, rfl⟩
  have hTn : T.length = n := by rw [← hn, ← hsT]; exact Array.length_toList
  have HS := Sec.mk (And.intro hs (And.intro hsT (And.intro hTn hl)))
  clear hs hsT hTn hl hr hT hTx hf
  go_enter Tryz.func42, Tryz.ntmps42
  go_wp2_with fail
  refine CS.out.mono ?_
  rintro e w1 ⟨he, hb1⟩
  rw [HS.out.1] at he
  subst he
  have HB1 := Sec.mk hb1
  clear hb1
  go_wp2_with fail
  refine (newEncoding_any w1).mono ?_
  rintro e w2 ⟨rfl, hE, hb2⟩
  have HE := Sec.mk hE
  have HB2 := Sec.mk hb2
  have hcv := Lib.run_convert_string_bytes (P := Tryz.prog) w2 9 45 5 s Tryz.underlying9 Tryz.underlying45 Tryz.underlying5
  have hcap := grownCap_ge w2 s.size 0 5
  obtain ⟨cap, hcp⟩ : ∃ cap, grownCap w2 s.size 0 5 = cap := ⟨_, rfl⟩
  rw [hcp] at hcv hcap
  have h3 := below_bytes w2 s
  have s3 := src_bytes w2 s
  have z3 : (Lib.bytesWorld w2 5 s).heap.size = w2.heap.size + 1 := Lib.bytesWorld_size w2 5 s
  obtain ⟨w3, hw3⟩ : ∃ w3, Lib.bytesWorld w2 5 s = w3 := ⟨_, rfl⟩
  rw [hw3] at hcv h3 s3 z3
  have hg : w1.heap.size < w2.heap.size := World.block_lt_of_cell? w2 _ hE.2
  have hE3 : EncW w3 w1.heap.size := ⟨fun j hj => (h3.cell (p := ⟨w1.heap.size, j, none⟩) hg).trans (hE.1 j hj), (h3.cell (p := ⟨w1.heap.size, 320, none⟩) hg).trans hE.2⟩
  rw [HS.out.2.1] at s3
  rw [hn] at hcv hcap
  have CE := Sec.mk (encodeTo_any w1.heap.size w2.heap.size n cap _ T w3 HS.out.2.2.1 (by have := HS.out.2.2; omega) hcap rfl hE3 s3 (by omega))
  have HB3 := Sec.mk h3
  clear hE hb2 hcap hcp h3 s3 z3 hw3 hg hE3
  go_wp2_with fail
  refine CE.out.mono ?_
  rintro e w4 ⟨rfl, hb4⟩
  have HB4 := Sec.mk hb4
  clear hb4
  go_wp2_with fail
  go_ret
  exact ⟨rfl, below_then' HB1.out (below_then' HB2.out (below_then' HB3.out HB4.out))⟩

set_option maxHeartbeats 800000 in
set_option maxRecDepth 100000 in
theorem zzBase64_any (x : V) (hf : Fits x) (v : Value) (lo : Nat) (w : World) (hr : RdA w lo w.heap.size x v) (hT : Tabs w) (h2 : 2 ≤ w.heap.size) :
    Calls Tryz.prog 23 #[v] w (BoxIs (b64 (textV x)) w) := by
  have CJ := Sec.mk (toBase64_any x hf v lo w hr hT h2)
  clear hr hT
  go_enter Tryz.func23, Tryz.ntmps23
  go_wp2_with fail
  refine CJ.out.mono ?_
  rintro e w1 ⟨rfl, hb1⟩
  have HB1 := Sec.mk hb1
  clear hb1
  go_wp2_with fail
  go_ret
  exact ⟨rfl, HB1.out⟩

end Go.Proofs.YtpamlgdcnmcedaaGreatDoor

namespace Go.Proofs.YtpamlgdcnmcedaaGreatDoor
set_option linter.unusedVariables false
set_option linter.unusedSimpArgs false
open Go.RowKit

/-- A fresh block for what a door gives. -/
def Z7 (w : World) (g : Nat) : Prop := w.heap[g]? = some (.cells #[.int .i64 0, .int .i64 0, .string ⟨#[]⟩, .slice none 0 0, .slice none 0 0, .slice none 0 0, .int .i64 0] 36 (0, 0))
theorem Z7.new (Y : World) : Z7 (Y.alloc (.cells #[.int .i64 0, .int .i64 0, .string ⟨#[]⟩, .slice none 0 0, .slice none 0 0, .slice none 0 0, .int .i64 0] 36)) Y.heap.size := heap_alloc_new Y _
theorem Z7.new' (Y : World) (g : Nat) (h : Y.heap.size = g) : Z7 (Y.alloc (.cells #[.int .i64 0, .int .i64 0, .string ⟨#[]⟩, .slice none 0 0, .slice none 0 0, .slice none 0 0, .int .i64 0] 36)) g := by subst h; exact Z7.new Y
theorem Z7.lt {w : World} {g : Nat} (h : Z7 w g) : g < w.heap.size := by
  unfold Z7 at h
  rcases Nat.lt_or_ge g w.heap.size with h' | h'
  · exact h'
  · rw [Array.getElem?_eq_none h'] at h; cases h
theorem Z7.keep {w w' : World} {g : Nat} (hb : Below w.heap.size w w') (h : Z7 w g) : Z7 w' g := (hb.block g h.lt).trans h
theorem Z7.old {w : World} {g : Nat} (h : Z7 w g) (o : Obj) : Z7 (w.alloc o) g := (Below.heap_alloc w o g h.lt).trans h
theorem Z7.dr {w : World} {g : Nat} (h : Z7 w g) : Z7 w.drew g := h
theorem Z7.cells {w : World} {g : Nat} (h : Z7 w g) : w.cell? ⟨g, 0, none⟩ = some (.int .i64 0) ∧ w.cell? ⟨g, 1, none⟩ = some (.int .i64 0) ∧ w.cell? ⟨g, 2, none⟩ = some (.string ⟨#[]⟩) ∧ w.cell? ⟨g, 3, none⟩ = some (.slice none 0 0) ∧ w.cell? ⟨g, 4, none⟩ = some (.slice none 0 0) ∧ w.cell? ⟨g, 5, none⟩ = some (.slice none 0 0) ∧ w.cell? ⟨g, 6, none⟩ = some (.int .i64 0) ∧
    w.frozen? ⟨g, 0, none⟩ = false ∧ w.frozen? ⟨g, 1, none⟩ = false ∧ w.frozen? ⟨g, 2, none⟩ = false ∧ w.frozen? ⟨g, 3, none⟩ = false ∧ w.frozen? ⟨g, 4, none⟩ = false ∧ w.frozen? ⟨g, 5, none⟩ = false ∧ w.frozen? ⟨g, 6, none⟩ = false ∧ g < w.heap.size := by
  have hl := h.lt
  unfold Z7 at h
  refine ⟨?_, ?_, ?_, ?_, ?_, ?_, ?_, ?_, ?_, ?_, ?_, ?_, ?_, ?_, hl⟩ <;> simp [World.cell?, World.frozen?, h]
def Gives (x : V) (en : Int) (w : World) (e : Ending) (w' : World) : Prop := ∃ cs, e = .returned (.agg (cs ++ [Value.int .i64 en]).toArray) ∧ RdF w' w.heap.size w'.heap.size x cs ∧ Below w.heap.size w w'
theorem rdF_plain {w : World} {lo B : Nat} {k : Int} {t : ByteArray} (ht : t.size ≤ reach) : RdF w lo B (.mk k 0 t [] [] []) [.int .i64 k, .int .i64 0, .string t, .slice none 0 0, .slice none 0 0, .slice none 0 0] := by
  intro w' _
  rw [Rd]
  exact ⟨none, 0, none, 0, none, 0, rfl, ht, ⟨Nat.le_refl _, by decide, by rw [RdL]; trivial⟩, ⟨Nat.le_refl _, by decide, fun i k hk => by simp at hk⟩, ⟨Nat.le_refl _, by decide, by rw [RdL]; trivial⟩⟩

set_option maxHeartbeats 400000 in
set_option maxRecDepth 100000 in
theorem fromGo_string (t : ByteArray) (w : World) (ht : t.size ≤ reach) :
    Calls Tryz.prog 41 #[.iface 9 (.string t)] w fun e w' => ∃ cs, e = .returned (.tuple #[.agg cs.toArray, .bool true]) ∧ RdF w' w.heap.size w'.heap.size (.mk 4 0 t [] [] []) cs ∧ Below w.heap.size w w' := by
  have HT := Sec.mk ht
  clear ht
  go_enter Tryz.func41, Tryz.ntmps41
  go_wp2
  refine bodyPost_ret (v := .tuple #[.agg #[.int .i64 4, .int .i64 0, .string t, .slice none 0 0, .slice none 0 0, .slice none 0 0], .bool true]) (by simp [results, Tryz.results41, go_sem]) rfl ⟨[.int .i64 4, .int .i64 0, .string t, .slice none 0 0, .slice none 0 0, .slice none 0 0], rfl, rdF_plain HT.out, (Below.refl _ _).alloc (Nat.le_refl _) _⟩


theorem below_set' {B g i : Nat} {w w' : World} {v : Value} (h : Below B w w') (hg : B ≤ g) : Below B w (w'.setCell ⟨g, i, none⟩ v) := h.setCell (p := ⟨g, i, none⟩) hg v
def strOf (l : List UInt8) : V := .mk 4 0 ⟨l.toArray⟩ [] [] []

set_option maxHeartbeats 1600000 in
set_option maxRecDepth 100000 in
theorem formatDoor_any (x : V) (hf : Fits x) (cs : List Value) (w : World) (B : Nat) (hr : Rd w B x cs) (hT : Tabs w) (h2 : 2 ≤ B) (hB : B ≤ w.heap.size) :
    Calls Tryz.prog 11 #[.agg cs.toArray] w (Gives (strOf (b64 (textV x))) 0 w) := by
  have cT1 : ∀ W, Below w.heap.size w W → Calls Tryz.prog 14 #[.agg cs.toArray] W fun e w' => ∃ v, e = .returned (.tuple #[v, .bool true]) ∧ RdA w' W.heap.size w'.heap.size x v ∧ Below W.heap.size W w' := fun W hb =>
    toGo_upTo 1000 (by omega) x (by obtain ⟨_, h, _⟩ := hf; omega) hf.1 cs W B (Rd.same ((Same.of_below hb).mono hB) _ cs hr) (Nat.le_trans hB hb.size)
  have hlen : (ByteArray.mk (b64 (textV x)).toArray).size ≤ reach := by
    show (b64 (textV x)).toArray.size ≤ reach
    rw [List.size_toArray, b64_len]
    have := textV_len hf
    unfold reach
    omega
  obtain ⟨k1, h1', t1, A31, n31, c31, A41, n41, c41, A51, n51, c51, rfl⟩ := hr.form
  obtain ⟨T, hTx⟩ : ∃ T, b64 (textV x) = T := ⟨_, rfl⟩
  rw [hTx] at hlen
  rw [hTx]
  have CT1 := Sec.mk cT1
  have HF0 := Sec.mk (And.intro hf hTx)
  have HT := Sec.mk (And.intro hT (And.intro h2 hB))
  have HLN := Sec.mk hlen
  clear cT1 hr hB hT h2 hf hTx hlen
  go_enter Tryz.func11, Tryz.ntmps11
  go_wp2_with fail
  obtain ⟨wa, hwa⟩ : ∃ wa, (w.alloc (.cells #[.int .i64 k1, .int .i64 h1', .string t1, .slice A31 n31 c31, .slice A41 n41 c41, .slice A51 n51 c51] 26)).alloc (.cells #[.int .i64 0, .int .i64 0, .string ⟨#[]⟩, .slice none 0 0, .slice none 0 0, .slice none 0 0, .int .i64 0] 36) = wa := ⟨_, rfl⟩
  have hba : Below w.heap.size w wa := by rw [← hwa]; exact ((Below.refl _ _).alloc (Nat.le_refl _) _).alloc (by simp) _
  have hsz : wa.heap.size = w.heap.size + 1 + 1 := by rw [← hwa]; simp
  have hz7 : Z7 wa (w.heap.size + 1) := by rw [← hwa]; exact Z7.new' _ _ (by simp)
  rw [hwa]
  have HBA := Sec.mk hba
  have HSZ := Sec.mk hsz
  have HZ := Sec.mk hz7
  clear hba hsz hz7 hwa
  refine (CT1.out _ HBA.out).mono ?_
  intro e w1 hw1
  obtain ⟨v, rfl, hv, hb1⟩ := hw1
  have hb01 := below_then' HBA.out hb1
  have cz := zzBase64_any x HF0.out.1 v _ w1 hv (HT.out.1.same ((Same.of_below hb01).mono HT.out.2.2) HT.out.2.1) (Nat.le_trans HT.out.2.1 (Nat.le_trans HT.out.2.2 hb01.size))
  rw [HF0.out.2] at cz
  have CZ := Sec.mk cz
  have HB1 := Sec.mk hb1
  clear hv hb1 hb01 cz
  go_wp2_with fail
  refine CZ.out.mono ?_
  rintro e w3 ⟨rfl, hb3⟩
  have HR := Sec.mk (result_of (strOf T) (.iface 9 (.string ⟨T.toArray⟩)) w3 (fun W => taStringError _ W) fun W2 hb2 => fromGo_string _ W2 HLN.out)
  have HB3 := Sec.mk (below_then HB1.out hb3)
  clear hb3
  go_wp2_with fail
  refine HR.out.mono ?_
  intro e w4 hw4
  obtain ⟨cs, rfl, hf, hb4⟩ := hw4
  obtain ⟨k3, h3', t3, A33, n33, c33, A43, n43, c43, A53, n53, c53, rfl⟩ := hf.rd.form
  have hb := below_then HB3.out hb4
  obtain ⟨d0, d1, d2, d3, d4, d5, d6, f0, f1, f2, f3, f4, f5, f6, hz⟩ := (HZ.out.keep hb).cells
  have HB := Sec.mk hb
  have HF := Sec.mk hf
  have HS := Sec.mk HB3.out.size
  clear hb hb4 hf
  go_wp2_with fail
  refine bodyPost_ret (v := .agg #[.int .i64 k3, .int .i64 h3', .string t3, .slice A33 n33 c33, .slice A43 n43 c43, .slice A53 n53 c53, .int .i64 0]) (by simp [results, Tryz.results11, go_sem, *]) rfl ⟨[.int .i64 k3, .int .i64 h3', .string t3, .slice A33 n33 c33, .slice A43 n43 c43, .slice A53 n53 c53], rfl, ?_, ?_⟩
  · have hs := HS.out
    rw [HSZ.out] at hs
    refine RdF.same HF.out ?_ (by omega) (by simp [World.setCell])
    iterate 7 refine SameIn.set ?_ (by omega)
    exact fun _ _ _ => rfl
  · iterate 7 refine below_set' ?_ (by omega)
    exact HBA.out.trans (HB.out.mono HBA.out.size)

end Go.Proofs.YtpamlgdcnmcedaaGreatDoor
