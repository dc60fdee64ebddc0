/-
  The looker of spec.Fit: its three cells, and its small methods want, part, str.
-/
import Derived.Test.YtpamlgdcnmcedaaGreatDoorV
import Derived.Lib.ValidU
import Derived.Shelf.Unicode.DecodeSlow
namespace Go.Proofs.YtpamlgdcnmcedaaGreatDoor
set_option linter.unusedVariables false
set_option linter.unusedSimpArgs false
open Go.RowKit

/-- The tables of unicode/utf8 lie as the program lays them. -/
def Tabs (w : World) : Prop := Lib.Utf8Tabs 0 1 w
theorem Tabs.same {w w' : World} {B : Nat} (h : Tabs w) (hs : Same B w w') (hB : 2 ≤ B) : Tabs w' := by
  have hc : ∀ (a : Addr), a.block < 2 → w'.cell? a = w.cell? a := fun a ha => World.cell?_of_block (w := w) (hs _ (by omega))
  exact ⟨fun c hl => (hc _ (by dsimp only; omega)).trans (h.1 c hl), fun i hi => ⟨(hc _ (by dsimp only; omega)).trans (h.2 i hi).1, (hc _ (by dsimp only; omega)).trans (h.2 i hi).2⟩⟩

/-- The looker at block g. -/
def Lk (w : World) (g : Nat) (p q : Int) (bad : Bool) : Prop := w.heap[g]? = some (.cells #[.int .i64 p, .int .i64 q, .bool bad] 41 (0, 0))
section
variable {w : World} {g : Nat} {p q : Int} {bad : Bool}
theorem Lk.lt (h : Lk w g p q bad) : g < w.heap.size := (Array.getElem?_eq_some_iff.1 h).1
theorem Lk.c0 (h : Lk w g p q bad) : w.cell? ⟨g, 0, none⟩ = some (.int .i64 p) := by simp [World.cell?, show w.heap[g]? = _ from h]
theorem Lk.c1 (h : Lk w g p q bad) : w.cell? ⟨g, 1, none⟩ = some (.int .i64 q) := by simp [World.cell?, show w.heap[g]? = _ from h]
theorem Lk.c2 (h : Lk w g p q bad) : w.cell? ⟨g, 2, none⟩ = some (.bool bad) := by simp [World.cell?, show w.heap[g]? = _ from h]
theorem Lk.f (h : Lk w g p q bad) (i : Nat) : w.frozen? ⟨g, i, none⟩ = false := by simp [World.frozen?, show w.heap[g]? = _ from h]
theorem Lk.s0 (h : Lk w g p q bad) (p' : Int) : Lk (w.setCell ⟨g, 0, none⟩ (.int .i64 p')) g p' q bad := by
  unfold Lk at h ⊢; simp [World.setCell, Array.getElem?_modify, h]
theorem Lk.s1 (h : Lk w g p q bad) (q' : Int) : Lk (w.setCell ⟨g, 1, none⟩ (.int .i64 q')) g p q' bad := by
  unfold Lk at h ⊢; simp [World.setCell, Array.getElem?_modify, h]
theorem Lk.s2 (h : Lk w g p q bad) (b' : Bool) : Lk (w.setCell ⟨g, 2, none⟩ (.bool b')) g p q b' := by
  unfold Lk at h ⊢; simp [World.setCell, Array.getElem?_modify, h]
end
theorem grown_set (w : World) (g i : Nat) (v : Value) : w.grownBy (w.setCell ⟨g, i, none⟩ v) (some g) :=
  ⟨rfl, rfl, rfl, by simp [World.setCell], fun k _ hk => Below.heap_setCell w ⟨g, i, none⟩ v k (fun e => hk (by rw [e]))⟩
theorem same_grown {w w' : World} {g B : Nat} (h : w.grownBy w' (some g)) (hB : B ≤ g) (hg : g < w.heap.size) : Same B w w' :=
  fun b hb => h.block b (by omega) (fun e => by injection e with e; omega)
theorem Lk.keep {w w' : World} {g : Nat} {p q : Int} {bad : Bool} (h : Lk w g p q bad) (hb : Below w.heap.size w w') : Lk w' g p q bad := (hb.block g h.lt).trans h

/-- Nothing is handed back; the looker stands so; nothing else that was there has turned. -/
def LkPost (w : World) (g : Nat) (p q : Int) (bad : Bool) (e : Ending) (w' : World) : Prop := e = .returned (.tuple #[]) ∧ Lk w' g p q bad ∧ w.grownBy w' (some g)

set_option maxHeartbeats 400000 in
theorem want_any (w : World) (g : Nat) (p q : Int) (bad ok : Bool) (h : Lk w g p q bad) :
    Calls Tryz.prog 25 #[.pointer (some ⟨g, 0, none⟩), .bool ok] w (LkPost w g p q (bad || !ok)) := by
  have H := Lib.hid h
  have c2 := h.c2
  have f2 := h.f 2
  clear h
  have hp := H.out.s2 (bad || !ok)
  have hg := grown_set w g 2 (.bool (bad || !ok))
  have HP := Lib.hid hp
  have HG := Lib.hid hg
  clear hp hg
  cases bad
  · go_enter Tryz.func25, Tryz.ntmps25
    go_wp2
    go_end0
    exact ⟨rfl, HP.out, HG.out⟩
  · go_enter Tryz.func25, Tryz.ntmps25
    go_wp2
    go_end0
    exact ⟨rfl, HP.out, HG.out⟩

set_option maxHeartbeats 400000 in
theorem part_any (w : World) (g : Nat) (p q deep : Int) (bad : Bool) (h : Lk w g p q bad) (hp0 : 0 ≤ p) (hp1 : p ≤ 400) (ok : Bool) (hok : ok = (decide (p + 1 ≤ 400) && decide (q ≤ 2000) && decide (deep ≤ 60))) :
    Calls Tryz.prog 24 #[.pointer (some ⟨g, 0, none⟩), .int .i64 deep] w fun e w' => e = .returned (.bool (!(bad || !ok))) ∧ Lk w' g (p + 1) q (bad || !ok) ∧ w.grownBy w' (some g) := by
  have H := Lib.hid h
  have c0 := h.c0
  have c1 := h.c1
  have c2 := h.c2
  have f0 := h.f 0
  have h1 := h.s0 (p + 1)
  have hg := grown_set w g 0 (.int .i64 (p + 1))
  have HG := Lib.hid hg
  have H1 := Lib.hid h1
  clear h h1 hg
  have cw : ∀ ok : Bool, Calls Tryz.prog 25 #[.pointer (some ⟨g, 0, none⟩), .bool ok] (w.setCell ⟨g, 0, none⟩ (.int .i64 (p + 1))) (LkPost _ g (p + 1) q (bad || !ok)) := fun ok => want_any _ g (p + 1) q bad ok H1.out
  have CW := Lib.hid cw
  clear cw
  have hcases : (p + 1 ≤ 400 ∧ q ≤ 2000 ∧ deep ≤ 60 ∧ ok = true) ∨ (p + 1 ≤ 400 ∧ q ≤ 2000 ∧ decide (deep ≤ 60) = false ∧ ok = false) ∨ (p + 1 ≤ 400 ∧ decide (q ≤ 2000) = false ∧ ok = false) ∨ (decide (p + 1 ≤ 400) = false ∧ ok = false) := by
    rw [hok]
    by_cases a1 : p + 1 ≤ 400 <;> by_cases a2 : q ≤ 2000 <;> by_cases a3 : deep ≤ 60 <;> simp [a1, a2, a3]
  clear hok
  rcases hcases with ⟨a1, a2, a3, rfl⟩ | ⟨a1, a2, a3, rfl⟩ | ⟨a1, a2, rfl⟩ | ⟨a1, rfl⟩
  all_goals
    go_enter Tryz.func24, Tryz.ntmps24
    go_wp2_with (go_at_call 25; refine (CW.out _).mono ?_; intro e w1 hw1; obtain ⟨rfl, hl, hgr⟩ := hw1; have d2 := hl.c2; have HL := Lib.hid hl; have HR := Lib.hid hgr; clear hl hgr)
    go_ret
    exact ⟨by first | rfl | simp, HL.out, HG.out.trans HR.out⟩

theorem grown_some {w w' : World} (h : Below w.heap.size w w') (g : Nat) : w.grownBy w' (some g) := ⟨h.os, h.tape, h.output, h.size, fun i hi _ => h.block i hi⟩
/-- unicode/utf8.ValidString, by the shelf's contract. -/
def ValidSaid : Prop := ∀ (s : ByteArray) (w : World), s.size ≤ reach → Tabs w → Calls Tryz.prog 43 #[.string s] w fun e w' => e = .returned (.bool (Lib.validD s.data.toList)) ∧ Below w.heap.size w w'

set_option maxHeartbeats 400000 in
theorem str_any (V : ValidSaid) (w : World) (g : Nat) (p q : Int) (bad : Bool) (s : ByteArray) (h : Lk w g p q bad) (hT : Tabs w) (hg2 : 2 ≤ g) (hq0 : 0 ≤ q) (hq1 : q ≤ 1000000000000000) (hs : s.size ≤ reach)
    (ok : Bool) (hok : ok = (decide (q + s.size ≤ 2000) && Lib.validD s.data.toList)) :
    Calls Tryz.prog 26 #[.pointer (some ⟨g, 0, none⟩), .string s] w (LkPost w g p (q + s.size) (bad || !ok)) := by
  have hs' : s.size ≤ 140737488351232 := hs
  have c1 := h.c1
  have f1 := h.f 1
  have h1 := h.s1 (q + s.size)
  have hg := grown_set w g 1 (.int .i64 (q + s.size))
  have c1' := h1.c1
  obtain ⟨w0, hw0⟩ : ∃ w0, w.setCell ⟨g, 1, none⟩ (.int .i64 (q + s.size)) = w0 := ⟨_, rfl⟩
  rw [hw0] at h1 hg c1'
  have hT1 : Tabs w0 := hT.same (same_grown hg (B := 2) hg2 h.lt) (Nat.le_refl _)
  have cV := V s w0 hs hT1
  have cw : ∀ (w2 : World) (ok : Bool), Lk w2 g p (q + s.size) bad → Calls Tryz.prog 25 #[.pointer (some ⟨g, 0, none⟩), .bool ok] w2 (LkPost w2 g p (q + s.size) (bad || !ok)) := fun w2 ok h2 => want_any w2 g p (q + s.size) bad ok h2
  have HG := Lib.hid hg
  have H1 := Lib.hid h1
  have CV := Lib.hid cV
  have CW := Lib.hid cw
  clear h h1 hg hT hT1 cw hs cV
  obtain ⟨v, hv⟩ : ∃ v, Lib.validD s.data.toList = v := ⟨_, rfl⟩
  rw [hv] at CV hok
  clear hv
  have hcases : (decide (q + s.size ≤ 2000) = true ∧ ok = v) ∨ (decide (q + s.size ≤ 2000) = false ∧ ok = false) := by
    rw [hok]
    by_cases a1 : q + s.size ≤ 2000 <;> simp [a1]
  clear hok
  rcases hcases with ⟨a1, rfl⟩ | ⟨a1, rfl⟩
  · go_enter Tryz.func26, Tryz.ntmps26
    go_wp2_with (first | (go_at_call 43; refine CV.out.mono ?_; intro e w1 hw1; obtain ⟨rfl, hb⟩ := hw1; have hl := H1.out.keep hb; have HL1 := Lib.hid hl; have HB := Lib.hid hb; clear hl hb) | (go_at_call 25; refine (CW.out _ _ HL1.out).mono ?_; intro e w2 hw2; obtain ⟨rfl, hl, hgr⟩ := hw2; have HL := Lib.hid hl; have HR := Lib.hid hgr; clear hl hgr))
    go_end0
    exact ⟨rfl, HL.out, HG.out.trans (World.grownBy.trans (grown_some HB.out g) HR.out)⟩
  · go_enter Tryz.func26, Tryz.ntmps26
    go_wp2_with (go_at_call 25; refine (CW.out _ _ H1.out).mono ?_; intro e w2 hw2; obtain ⟨rfl, hl, hgr⟩ := hw2; have HL := Lib.hid hl; have HR := Lib.hid hgr; clear hl hgr)
    go_end0
    exact ⟨rfl, HL.out, HG.out.trans HR.out⟩

end Go.Proofs.YtpamlgdcnmcedaaGreatDoor
