/-
  The encoder's writer (a bytes.Buffer or a strings.Builder): what its three methods leave.
-/
import Derived.Test.YtpamlgdcnmcedaaGreatDoorFrm
import Derived.Test.YtpamlgdcnmcedaaGreatDoorBld
namespace Go.Proofs.YtpamlgdcnmcedaaGreatDoor
set_option linter.unusedVariables false
set_option linter.unusedSimpArgs false
open Go.RowKit

/-- The bytes l have been written. -/
def BldF (b B : Nat) (l : List UInt8) (w : World) : Prop := Lib.IsBuilderF 196 5 B b (Lib.byteCells l) w
theorem BldF.lt {b B : Nat} {l : List UInt8} {w : World} (h : BldF b B l w) : b < w.heap.size := h.elim (fun x => x.lt) (fun x => x.lt)
def Wr (b B : Nat) (l : List UInt8) (w : World) : Prop := BldF b B l w ∧ B ≤ w.heap.size
theorem at_grown {b B : Nat} {p : Value} {bs : List Value} {w w' : World} {row : Option Nat} (h : Lib.BuilderAtF 196 5 B b p bs w) (hg : w.grownBy w' row) (hb : row ≠ some b) (hr : ∀ g, row = some g → ∀ c fz, w.heap[g]? ≠ some (.cells c 5 fz)) : Lib.BuilderAtF 196 5 B b p bs w' := by
  have hlt := h.lt
  obtain ⟨hB, v, h1, h2, h3⟩ := h
  refine ⟨hB, v, (hg.block b hlt (fun e => hb e.symm)).trans h1, ?_, h3⟩
  refine ⟨h2.1, ?_⟩
  rcases h2.2 with hn | ⟨r, cap, cur, fz, e, hBr, hgr, rest⟩
  · exact .inl hn
  · exact .inr ⟨r, cap, cur, fz, e, hBr, (hg.block r (Array.getElem?_eq_some_iff.1 hgr).1 (fun e => hr r e.symm _ _ hgr)).trans hgr, rest⟩
theorem Wr.grown {b B g : Nat} {l : List UInt8} {w w' : World} {row : Option Nat} (h : Wr b B l w) (hg : w.grownBy w' row) (hb : row ≠ some b) (hr : ∀ g, row = some g → ∀ c fz, w.heap[g]? ≠ some (.cells c 5 fz)) : Wr b B l w' :=
  ⟨h.1.elim (fun x => .inl (at_grown x hg hb hr)) (fun x => .inr (at_grown x hg hb hr)), Nat.le_trans h.2 hg.size⟩
theorem Wr.below {b B : Nat} {l : List UInt8} {w w' : World} (h : Wr b B l w) (hb : Below w.heap.size w w') : Wr b B l w' :=
  h.grown (g := 0) (row := none) ⟨hb.os, hb.tape, hb.output, hb.size, fun k hk _ => hb.block k hk⟩ (fun e => by cases e) (fun g e => by cases e)

theorem wr_string {b B : Nat} {l : List UInt8} (s : ByteArray) {w : World} (h : Wr b B l w) (hz : l.length + s.data.toList.length ≤ 1000000000) :
    Calls Tryz.prog 199 #[.pointer (some ⟨b, 0, none⟩), .string s] w fun e w' => (∃ v, e = .returned v) ∧ Wr b B (l ++ s.data.toList) w' ∧ Below B w w' ∧ Lib.OthersKept 5 (some b) w w' := by
  rw [Array.length_toList] at hz
  have hz' : l.length + s.size ≤ 1000000000 := hz
  refine (bld_string B b _ s w h.1 (by rw [Lib.byteCells_length]; omega) h.2).mono ?_
  rintro e w' ⟨he, h1, h2, h3⟩
  refine ⟨he, ⟨?_, Nat.le_trans h.2 h2.size⟩, h2, h3⟩
  unfold BldF
  rw [Lib.byteCells_append]
  exact .inr h1
theorem wr_byte {b B : Nat} {l : List UInt8} (c : UInt8) {w : World} (h : Wr b B l w) (hz : l.length + 1 ≤ 1000000000) :
    Calls Tryz.prog 198 #[.pointer (some ⟨b, 0, none⟩), .int .u8 (c.toNat : Int)] w fun e w' => (∃ v, e = .returned v) ∧ Wr b B (l ++ [c]) w' ∧ Below B w w' ∧ Lib.OthersKept 5 (some b) w w' := by
  refine (bld_byte B b _ _ w h.1 (by rw [Lib.byteCells_length]; omega) h.2).mono ?_
  rintro e w' ⟨he, h1, h2, h3⟩
  refine ⟨he, ⟨?_, Nat.le_trans h.2 h2.size⟩, h2, h3⟩
  unfold BldF
  rw [Lib.byteCells_append]
  exact .inr h1
theorem wr_bytes {b B g c : Nat} {l : List UInt8} (s : ByteArray) {it : Value} {cs : List Value} {w : World} (h : Wr b B l w) (hE : EncB w g it (Lib.strCells s ++ cs)) (hbg : g ≠ b) (hz : l.length + s.data.toList.length ≤ 1000000000) :
    Calls Tryz.prog 197 #[.pointer (some ⟨b, 0, none⟩), .slice (some ⟨g, 1, none⟩) s.size c] w fun e w' => (∃ v, e = .returned v) ∧ Wr b B (l ++ s.data.toList) w' ∧ Below B w w' ∧ Lib.OthersKept 5 (some b) w w' := by
  rw [Array.length_toList] at hz
  have hz' : l.length + s.size ≤ 1000000000 := hz
  refine (bld_bytes B b _ ⟨g, 1, none⟩ s.size c (Lib.strCells s) w h.1 (Lib.strCells_length s) ?_ (Lib.strCells_oneCell s) (by rw [Lib.byteCells_length]; omega) h.2).mono ?_
  · intro w' hk j v hj
    have hE' : EncB w' g it (Lib.strCells s ++ cs) := ⟨hk g _ hE.1 (fun e => hbg (Option.some.inj e)) (fun c fz e => enc_noRow hE c fz (by rw [hE.1, e])), hE.2⟩
    have e1 : (⟨g, 1, none⟩ : Addr).add j = ⟨g, j + 1, none⟩ := by unfold Addr.add; split <;> simp_all; omega
    rw [e1, hE'.cell j, List.getElem?_append_left (by have := (List.getElem?_eq_some_iff.1 hj).1; exact this)]
    exact hj
  · rintro e w' ⟨he, h1, h2, h3⟩
    refine ⟨he, ⟨?_, Nat.le_trans h.2 h2.size⟩, h2, h3⟩
    unfold BldF
    rw [Lib.byteCells_append]
    exact .inr h1
def wVal (b : Nat) : Value := .iface 194 (.pointer (some ⟨b, 0, none⟩))

/-- The method behind the interface. -/
@[go_sem ↓] theorem meth_string (b : Nat) (w : World) : (method 352 194 (.pointer (some ⟨b, 0, none⟩)) "WriteString").run Tryz.prog w = .ok (199, .pointer (some ⟨b, 0, none⟩)) w := by kernel_rfl
@[go_sem ↓] theorem meth_byte (b : Nat) (w : World) : (method 352 194 (.pointer (some ⟨b, 0, none⟩)) "WriteByte").run Tryz.prog w = .ok (198, .pointer (some ⟨b, 0, none⟩)) w := by kernel_rfl
@[go_sem ↓] theorem meth_bytes (b : Nat) (w : World) : (method 352 194 (.pointer (some ⟨b, 0, none⟩)) "Write").run Tryz.prog w = .ok (197, .pointer (some ⟨b, 0, none⟩)) w := by kernel_rfl

/-- The encoder at work: l has been written. -/
structure St (w : World) (B b g : Nat) (l : List UInt8) : Prop where
  wr : Wr b B l w
  enc : ∃ cs, EncB w g (wVal b) cs
  base : B ≤ g
  ne : g ≠ b
/-- out has been written besides. -/
def EncPost (w : World) (B b g : Nat) (l out : List UInt8) (e : Ending) (w' : World) : Prop := (∃ v, e = .returned v) ∧ St w' B b g (l ++ out) ∧ Kp B b g w w'
section
variable {w w' : World} {B b g : Nat} {l : List UInt8}
theorem St.below (h : St w B b g l) (hb : Below w.heap.size w w') : St w' B b g l := by
  obtain ⟨cs, hE⟩ := h.enc
  exact ⟨h.wr.below hb, ⟨cs, hE.keep (hb.block g hE.lt)⟩, h.base, h.ne⟩
theorem St.mine (h : St w B b g l) (hg : w.grownBy w' (some g)) (hE' : ∃ cs, EncB w' g (wVal b) cs) : St w' B b g l := by
  obtain ⟨cs, hE⟩ := h.enc
  exact ⟨h.wr.grown (g := g) hg (fun e => h.ne (Option.some.inj e)) (fun g' e => by obtain rfl := Option.some.inj e; exact enc_noRow hE), hE', h.base, h.ne⟩
theorem St.other {k : Nat} (h : St w B b g l) (hg : w.grownBy w' (some k)) (hb : k ≠ b) (hk : k ≠ g) (hr : ∀ c fz, w.heap[k]? ≠ some (.cells c 5 fz)) : St w' B b g l := by
  obtain ⟨cs, hE⟩ := h.enc
  exact ⟨h.wr.grown (g := k) hg (fun e => hb (Option.some.inj e)) (fun g' e => by obtain rfl := Option.some.inj e; exact hr), ⟨cs, hE.keep (hg.block g hE.lt (fun e => hk (Option.some.inj e).symm))⟩, h.base, h.ne⟩
theorem St.size (h : St w B b g l) : B ≤ w.heap.size := h.wr.2
theorem St.written {l' : List UInt8} (h : St w B b g l) (hw : Wr b B l' w') (hk : Kp B b g w w') (ho : Lib.OthersKept 5 (some b) w w') : St w' B b g l' := by
  obtain ⟨cs, hE⟩ := h.enc
  exact ⟨hw, ⟨cs, ho g _ hE.1 (fun e => h.ne (Option.some.inj e)) (fun c fz e => enc_noRow hE c fz (by rw [hE.1, e])), hE.2⟩, h.base, h.ne⟩
theorem st_string (s : ByteArray) (h : St w B b g l) (hz : l.length + s.data.toList.length ≤ 1000000000) : Calls Tryz.prog 199 #[.pointer (some ⟨b, 0, none⟩), .string s] w (EncPost w B b g l s.data.toList) := by
  refine (wr_string s h.wr hz).mono ?_
  rintro e w' ⟨he, h1, h2, h3⟩
  exact ⟨he, h.written h1 (Kp.of_others h2 h3) h3, Kp.of_others h2 h3⟩
theorem st_byte (c : UInt8) (h : St w B b g l) (hz : l.length + 1 ≤ 1000000000) : Calls Tryz.prog 198 #[.pointer (some ⟨b, 0, none⟩), .int .u8 (c.toNat : Int)] w (EncPost w B b g l [c]) := by
  refine (wr_byte c h.wr hz).mono ?_
  rintro e w' ⟨he, h1, h2, h3⟩
  exact ⟨he, h.written h1 (Kp.of_others h2 h3) h3, Kp.of_others h2 h3⟩
theorem st_bytes {c : Nat} {cs : List Value} (s : ByteArray) (h : St w B b g l) (hE : EncB w g (wVal b) (Lib.strCells s ++ cs)) (hz : l.length + s.data.toList.length ≤ 1000000000) : Calls Tryz.prog 197 #[.pointer (some ⟨b, 0, none⟩), .slice (some ⟨g, 1, none⟩) s.size c] w (EncPost w B b g l s.data.toList) := by
  refine (wr_bytes s h.wr hE h.ne hz).mono ?_
  rintro e w' ⟨he, h1, h2, h3⟩
  exact ⟨he, h.written h1 (Kp.of_others h2 h3) h3, Kp.of_others h2 h3⟩
theorem EncPost.then {w0 w1 : World} {l out out' : List UInt8} {e : Ending} (hk : Kp B b g w0 w) (h : EncPost w B b g (l ++ out) out' e w1) : EncPost w0 B b g l (out ++ out') e w1 := by
  obtain ⟨he, h1, h2⟩ := h
  exact ⟨he, by rw [← List.append_assoc]; exact h1, hk.trans h2⟩
end

end Go.Proofs.YtpamlgdcnmcedaaGreatDoor
