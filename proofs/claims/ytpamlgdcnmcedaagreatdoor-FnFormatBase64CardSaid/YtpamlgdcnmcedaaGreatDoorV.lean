/-
  The values that the laws speak of, as Lean data, and how memory is read as one: a predicate on a world, a bound on the blocks and the cells.
-/
import Derived.Test.YtpamlgdcnmcedaaGreatDoorProg
import Derived.WalkKit
import Derived.WalkSpells
import Derived.WalkLawsBesides
import Derived.Deep.LoopGhost
import Derived.Lib.Hide
import Derived.Outline
namespace Go.Proofs.YtpamlgdcnmcedaaGreatDoor
set_option linter.unusedVariables false
set_option linter.unusedSimpArgs false
open Go.RowKit

/-- A value of package impl. -/
inductive V where
  | mk (kind half : Int) (text : ByteArray) (list : List V) (keys : List ByteArray) (vals : List V)

/-- A fact that neither the walk nor 'subst' looks into. -/
structure Sec (p : Prop) : Prop where mk :: (out : p)

/-- No string, slice or map that is read takes more bytes. -/
def reach : Nat := 140737488351232

/-- Strings that lie one behind the other from address A on, in blocks below B. -/
def RdS (w : World) (B : Nat) (A : Option Addr) (ks : List ByteArray) : Prop :=
  ∀ i k, ks[i]? = some k → k.size ≤ reach ∧ ∃ ad, A = some ad ∧ ad.block < B ∧ w.cell? (ad.add i) = some (.string k)

mutual
/-- The six cells of a value. -/
def Rd (w : World) (B : Nat) : V → List Value → Prop
  | .mk k h t l ks vs, cs => ∃ A3 c3 A4 c4 A5 c5,
      cs = [.int .i64 k, .int .i64 h, .string t, .slice A3 l.length c3, .slice A4 ks.length c4, .slice A5 vs.length c5] ∧ t.size ≤ reach ∧
      (l.length ≤ c3 ∧ l.length ≤ reach ∧ RdL w B A3 0 l) ∧ (ks.length ≤ c4 ∧ ks.length ≤ reach ∧ RdS w B A4 ks) ∧ (vs.length ≤ c5 ∧ vs.length ≤ reach ∧ RdL w B A5 0 vs)
/-- Values that lie one behind the other, six cells each; the first is number i. -/
def RdL (w : World) (B : Nat) (A : Option Addr) : Nat → List V → Prop
  | _, [] => True
  | i, x :: xs => (∃ ad cs, A = some ad ∧ ad.block < B ∧ Rd w B x cs ∧ ∀ j u, cs[j]? = some u → w.cell? (ad.add (i * 6 + j)) = some u) ∧ RdL w B A (i + 1) xs
end

/-- The worlds agree on all blocks below B. -/
def Same (B : Nat) (w w' : World) : Prop := ∀ b, b < B → w'.heap[b]? = w.heap[b]?
theorem Same.refl (B : Nat) (w : World) : Same B w w := fun _ _ => rfl
theorem Same.trans {B : Nat} {a b c : World} (h : Same B a b) (k : Same B b c) : Same B a c := fun i hi => (k i hi).trans (h i hi)
theorem Same.mono {B B' : Nat} {w w' : World} (h : Same B w w') (hB : B' ≤ B) : Same B' w w' := fun b hb => h b (by omega)
theorem Same.of_below {B : Nat} {w w' : World} (h : Below B w w') : Same B w w' := h.block
theorem add_block (a : Addr) (n : Nat) : (a.add n).block = a.block := by unfold Addr.add; split <;> rfl
theorem Same.cell {B : Nat} {w w' : World} (h : Same B w w') {a : Addr} (hb : a.block < B) (n : Nat) : w'.cell? (a.add n) = w.cell? (a.add n) :=
  World.cell?_of_block (w := w) (h _ (by rw [add_block]; exact hb))

theorem RdS.same {w w' : World} {B : Nat} {A : Option Addr} {ks : List ByteArray} (h : RdS w B A ks) (hs : Same B w w') : RdS w' B A ks := by
  intro i k hk
  obtain ⟨hz, ad, e, hb, hc⟩ := h i k hk
  exact ⟨hz, ad, e, hb, (hs.cell hb i).trans hc⟩
theorem RdS.mono {w : World} {B B' : Nat} {A : Option Addr} {ks : List ByteArray} (h : RdS w B A ks) (hB : B ≤ B') : RdS w B' A ks := by
  intro i k hk
  obtain ⟨hz, ad, e, hb, hc⟩ := h i k hk
  exact ⟨hz, ad, e, by omega, hc⟩

mutual
theorem Rd.same {w w' : World} {B : Nat} (hs : Same B w w') : ∀ (x : V) (cs : List Value), Rd w B x cs → Rd w' B x cs
  | .mk k h t l ks vs, cs, hr => by
    rw [Rd] at hr ⊢
    obtain ⟨A3, c3, A4, c4, A5, c5, e, ht, ⟨a3, m3, r3⟩, ⟨a4, m4, r4⟩, ⟨a5, m5, r5⟩⟩ := hr
    exact ⟨A3, c3, A4, c4, A5, c5, e, ht, ⟨a3, m3, RdL.same hs l A3 0 r3⟩, ⟨a4, m4, r4.same hs⟩, ⟨a5, m5, RdL.same hs vs A5 0 r5⟩⟩
theorem RdL.same {w w' : World} {B : Nat} (hs : Same B w w') : ∀ (l : List V) (A : Option Addr) (i : Nat), RdL w B A i l → RdL w' B A i l
  | [], _, _, _ => by rw [RdL]; trivial
  | x :: xs, A, i, hr => by
    rw [RdL] at hr ⊢
    obtain ⟨⟨ad, cs, e, hb, hx, hc⟩, hr⟩ := hr
    exact ⟨⟨ad, cs, e, hb, Rd.same hs x cs hx, fun j u hu => (hs.cell hb _).trans (hc j u hu)⟩, RdL.same hs xs A (i + 1) hr⟩
end
mutual
theorem Rd.mono {w : World} {B B' : Nat} (hB : B ≤ B') : ∀ (x : V) (cs : List Value), Rd w B x cs → Rd w B' x cs
  | .mk k h t l ks vs, cs, hr => by
    rw [Rd] at hr ⊢
    obtain ⟨A3, c3, A4, c4, A5, c5, e, ht, ⟨a3, m3, r3⟩, ⟨a4, m4, r4⟩, ⟨a5, m5, r5⟩⟩ := hr
    exact ⟨A3, c3, A4, c4, A5, c5, e, ht, ⟨a3, m3, RdL.mono hB l A3 0 r3⟩, ⟨a4, m4, r4.mono hB⟩, ⟨a5, m5, RdL.mono hB vs A5 0 r5⟩⟩
theorem RdL.mono {w : World} {B B' : Nat} (hB : B ≤ B') : ∀ (l : List V) (A : Option Addr) (i : Nat), RdL w B A i l → RdL w B' A i l
  | [], _, _, _ => by rw [RdL]; trivial
  | x :: xs, A, i, hr => by
    rw [RdL] at hr ⊢
    obtain ⟨⟨ad, cs, e, hb, hx, hc⟩, hr⟩ := hr
    exact ⟨⟨ad, cs, e, by omega, Rd.mono hB x cs hx, hc⟩, RdL.mono hB xs A (i + 1) hr⟩
end

theorem Rd.length {w : World} {B : Nat} {x : V} {cs : List Value} (h : Rd w B x cs) : cs.length = 6 := by
  cases x; rw [Rd] at h; obtain ⟨_, _, _, _, _, _, rfl, _⟩ := h; rfl

/-- Element i of values that lie one behind the other. -/
theorem RdL.get {w : World} {B : Nat} {A : Option Addr} : ∀ (l : List V) (i0 : Nat), RdL w B A i0 l → ∀ i x, l[i]? = some x →
    ∃ ad cs, A = some ad ∧ ad.block < B ∧ Rd w B x cs ∧ ∀ j u, cs[j]? = some u → w.cell? (ad.add ((i0 + i) * 6 + j)) = some u
  | [], _, _, i, x, hx => by simp at hx
  | y :: ys, i0, h, 0, x, hx => by
    rw [RdL] at h
    obtain rfl : y = x := by simpa using hx
    simpa using h.1
  | y :: ys, i0, h, i + 1, x, hx => by
    rw [RdL] at h
    obtain ⟨ad, cs, h1, h2, h3, h4⟩ := RdL.get ys (i0 + 1) h.2 i x (by simpa using hx)
    exact ⟨ad, cs, h1, h2, h3, fun j u hu => by rw [show i0 + (i + 1) = i0 + 1 + i from by omega]; exact h4 j u hu⟩

theorem add_field (ad : Addr) (n j : Nat) (hj : 0 < j) : ad.add (n + j) = ⟨(ad.add n).block, (ad.add n).off + j, none⟩ := by
  unfold Addr.add
  by_cases h : n = 0
  · subst h; simp; omega
  · rw [if_neg h, if_neg (by omega)]; simp; omega
/-- The six cells of a value: their kinds. -/
theorem Rd.form {w : World} {B : Nat} {x : V} {cs : List Value} (h : Rd w B x cs) : ∃ k h t A3 n3 c3 A4 n4 c4 A5 n5 c5,
    cs = [.int .i64 k, .int .i64 h, .string t, .slice A3 n3 c3, .slice A4 n4 c4, .slice A5 n5 c5] := by
  cases x; rw [Rd] at h; obtain ⟨_, _, _, _, _, _, rfl, _⟩ := h; exact ⟨_, _, _, _, _, _, _, _, _, _, _, _, rfl⟩
/-- The cells of element k, as the walk asks for them. -/
theorem RdL.cells {w : World} {B : Nat} {A : Option Addr} {l : List V} {i : Nat} {x : V} (h : RdL w B A 0 l) (hx : l[i]? = some x) :
    ∃ ad k h t A3 n3 c3 A4 n4 c4 A5 n5 c5, A = some ad ∧ Rd w B x [.int .i64 k, .int .i64 h, .string t, .slice A3 n3 c3, .slice A4 n4 c4, .slice A5 n5 c5] ∧
      w.cell? (ad.add (i * 6)) = some (.int .i64 k) ∧ w.cell? ⟨(ad.add (i * 6)).block, (ad.add (i * 6)).off + 1, none⟩ = some (.int .i64 h) ∧
      w.cell? ⟨(ad.add (i * 6)).block, (ad.add (i * 6)).off + 2, none⟩ = some (.string t) ∧ w.cell? ⟨(ad.add (i * 6)).block, (ad.add (i * 6)).off + 3, none⟩ = some (.slice A3 n3 c3) ∧
      w.cell? ⟨(ad.add (i * 6)).block, (ad.add (i * 6)).off + 4, none⟩ = some (.slice A4 n4 c4) ∧ w.cell? ⟨(ad.add (i * 6)).block, (ad.add (i * 6)).off + 5, none⟩ = some (.slice A5 n5 c5) := by
  obtain ⟨ad, cs, e, _, hr, hc⟩ := RdL.get l 0 h i x hx
  obtain ⟨k, h, t, A3, n3, c3, A4, n4, c4, A5, n5, c5, rfl⟩ := hr.form
  rw [Nat.zero_add] at hc
  refine ⟨ad, k, h, t, A3, n3, c3, A4, n4, c4, A5, n5, c5, e, hr, hc 0 _ rfl, ?_, ?_, ?_, ?_, ?_⟩
  all_goals rw [← add_field _ _ _ (by omega)]
  · exact hc 1 _ rfl
  · exact hc 2 _ rfl
  · exact hc 3 _ rfl
  · exact hc 4 _ rfl
  · exact hc 5 _ rfl

end Go.Proofs.YtpamlgdcnmcedaaGreatDoor
