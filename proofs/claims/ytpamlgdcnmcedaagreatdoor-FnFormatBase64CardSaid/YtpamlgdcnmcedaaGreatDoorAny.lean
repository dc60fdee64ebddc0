/-
  What a value of package impl is as a value of the program (any): nil, a bool, an int or a float64, a string, a []any, a map[string]any.
-/
import Derived.Test.YtpamlgdcnmcedaaGreatDoorGood
import Derived.Test.YtpamlgdcnmcedaaGreatDoorNum
import Derived.Maps.Own
import Derived.Maps.Keyed
namespace Go.Proofs.YtpamlgdcnmcedaaGreatDoor
set_option linter.unusedVariables false
set_option linter.unusedSimpArgs false
open Go.RowKit

/-- An element of a map is told as it stands. -/
def heldR (v : Value) : Option (DataW Value × List MemPlace) := some (.held v, [])
/-- The entries of a map, in the order of the keys. -/
def pairs : List ByteArray → List Value → List (Lit × DataW Value)
  | k :: ks, x :: xs => (.string k.data.toList, .held x) :: pairs ks xs
  | _, _ => []

/-- The worlds agree on the blocks from lo on, below B. -/
def SameIn (lo B : Nat) (w w' : World) : Prop := ∀ b, lo ≤ b → b < B → w'.heap[b]? = w.heap[b]?
theorem SameIn.of_same {lo B : Nat} {w w' : World} (h : Same B w w') : SameIn lo B w w' := fun b _ hb => h b hb
theorem SameIn.of_below {lo : Nat} {w w' : World} (h : Below w.heap.size w w') : SameIn lo w.heap.size w w' := fun b _ hb => h.block b hb
theorem SameIn.of_grown {lo g : Nat} {w w' : World} (h : w.grownBy w' (some g)) (hg : g < lo) : SameIn lo w.heap.size w w' := fun b hl hb => h.block b hb (fun e => by injection e with e; omega)
theorem SameIn.cell {lo B : Nat} {w w' : World} (h : SameIn lo B w w') {a : Addr} (hl : lo ≤ a.block) (hb : a.block < B) (n : Nat) : w'.cell? (a.add n) = w.cell? (a.add n) :=
  World.cell?_of_block (w := w) (h _ (by rw [add_block]; exact hl) (by rw [add_block]; exact hb))
theorem owns_same {w w' : World} {b n : Nat} {D : DataW Value} (h : w.ownsMap Tryz.prog 9 heldR b n D) (hs : w'.heap[b]? = w.heap[b]?) : w'.ownsMap Tryz.prog 9 heldR b n D := by
  obtain ⟨es, clock, hb, F, hn, hD⟩ := h
  exact ⟨es, clock, hs.trans hb, F, hn, hD⟩

mutual
/-- v is what toGo makes of a value; all that it leads to lies in blocks from lo on, below B. -/
def RdA (w : World) (lo B : Nat) : V → Value → Prop
  | .mk k h t l ks vs, v =>
    (k = 0 → v = .nilIface) ∧ (k = 1 → v = .iface 4 (.bool false)) ∧ (k = 2 → v = .iface 4 (.bool true)) ∧ (k = 3 → v = numA h) ∧ (k = 4 → v = .iface 9 (.string t)) ∧
    (k = 5 → ∃ A c, v = .iface 61 (.slice A l.length c) ∧ l.length ≤ c ∧ c ≤ reach ∧ RdAL w lo B A 0 l) ∧
    (k = 6 → ∃ b n xs, v = .iface 64 (.map (some b)) ∧ lo ≤ b ∧ b < B ∧ n ≤ reach ∧ w.ownsMap Tryz.prog 9 heldR b n (.map (pairs ks xs)) ∧ RdAV w lo B vs xs)
/-- Values of the program one behind the other, a cell each; the first is number i. -/
def RdAL (w : World) (lo B : Nat) (A : Option Addr) : Nat → List V → Prop
  | _, [] => True
  | i, x :: xs => (∃ ad v, A = some ad ∧ lo ≤ ad.block ∧ ad.block < B ∧ RdA w lo B x v ∧ w.cell? (ad.add i) = some v) ∧ RdAL w lo B A (i + 1) xs
/-- A list of values of the program. -/
def RdAV (w : World) (lo B : Nat) : List V → List Value → Prop
  | [], ys => ys = []
  | x :: xs, ys => ∃ v r, ys = v :: r ∧ RdA w lo B x v ∧ RdAV w lo B xs r
end

mutual
theorem RdA.same {w w' : World} {lo B lo' B' : Nat} (hs : SameIn lo B w w') (hl : lo' ≤ lo) (hB : B ≤ B') : ∀ (x : V) (v : Value), RdA w lo B x v → RdA w' lo' B' x v
  | .mk k h t l ks vs, v, hr => by
    rw [RdA] at hr ⊢
    obtain ⟨h0, h1, h2, h3, h4, h5, h6⟩ := hr
    refine ⟨h0, h1, h2, h3, h4, fun e => ?_, fun e => ?_⟩
    · obtain ⟨A, c, e1, e2, e3, e4⟩ := h5 e
      exact ⟨A, c, e1, e2, e3, RdAL.same hs hl hB l A 0 e4⟩
    · obtain ⟨b, n, xs, e1, e2, e3, e4, e5, e6⟩ := h6 e
      exact ⟨b, n, xs, e1, by omega, by omega, e4, owns_same e5 (hs b e2 e3), RdAV.same hs hl hB vs xs e6⟩
theorem RdAL.same {w w' : World} {lo B lo' B' : Nat} (hs : SameIn lo B w w') (hl : lo' ≤ lo) (hB : B ≤ B') : ∀ (l : List V) (A : Option Addr) (i : Nat), RdAL w lo B A i l → RdAL w' lo' B' A i l
  | [], _, _, _ => by rw [RdAL]; trivial
  | x :: xs, A, i, hr => by
    rw [RdAL] at hr ⊢
    obtain ⟨⟨ad, v, e, h1, h2, hx, hc⟩, hr⟩ := hr
    exact ⟨⟨ad, v, e, by omega, by omega, RdA.same hs hl hB x v hx, (hs.cell h1 h2 i).trans hc⟩, RdAL.same hs hl hB xs A (i + 1) hr⟩
theorem RdAV.same {w w' : World} {lo B lo' B' : Nat} (hs : SameIn lo B w w') (hl : lo' ≤ lo) (hB : B ≤ B') : ∀ (l : List V) (ys : List Value), RdAV w lo B l ys → RdAV w' lo' B' l ys
  | [], _, hr => by rw [RdAV] at hr ⊢; exact hr
  | x :: xs, ys, hr => by
    rw [RdAV] at hr ⊢
    obtain ⟨v, r, e, hx, hr⟩ := hr
    exact ⟨v, r, e, RdA.same hs hl hB x v hx, RdAV.same hs hl hB xs r hr⟩
end

theorem RdAL.of {w : World} {lo B : Nat} {A : Option Addr} : ∀ (l : List V) (i0 : Nat),
    (∀ i x, l[i]? = some x → ∃ ad v, A = some ad ∧ lo ≤ ad.block ∧ ad.block < B ∧ RdA w lo B x v ∧ w.cell? (ad.add (i0 + i)) = some v) → RdAL w lo B A i0 l
  | [], _, _ => by rw [RdAL]; trivial
  | x :: xs, i0, h => by
    rw [RdAL]
    refine ⟨by simpa using h 0 x rfl, RdAL.of xs (i0 + 1) fun i y hy => ?_⟩
    obtain ⟨ad, v, h1, h2, h3, h4, h5⟩ := h (i + 1) y (by simpa using hy)
    exact ⟨ad, v, h1, h2, h3, h4, by rw [show i0 + 1 + i = i0 + (i + 1) from by omega]; exact h5⟩
theorem RdAL.get {w : World} {lo B : Nat} {A : Option Addr} : ∀ (l : List V) (i0 : Nat), RdAL w lo B A i0 l → ∀ (i : Nat) (x : V), l[i]? = some x → ∃ ad v, A = some ad ∧ lo ≤ ad.block ∧ ad.block < B ∧ RdA w lo B x v ∧ w.cell? (ad.add (i0 + i)) = some v
  | [], _, _, i, x, hx => by simp at hx
  | y :: ys, i0, h, 0, x, hx => by
    rw [RdAL] at h
    have e : y = x := by simpa using hx
    subst e
    simpa using h.1
  | y :: ys, i0, h, i + 1, x, hx => by
    rw [RdAL] at h
    obtain ⟨ad, v, h1, h2, h3, h4, h5⟩ := RdAL.get ys (i0 + 1) h.2 i x (by simpa using hx)
    exact ⟨ad, v, h1, h2, h3, h4, by rw [show i0 + (i + 1) = i0 + 1 + i from by omega]; exact h5⟩
theorem RdAV.get {w : World} {lo B : Nat} : ∀ (l : List V) (ys : List Value), RdAV w lo B l ys → ∀ (i : Nat) (x : V), l[i]? = some x → ∃ v, ys[i]? = some v ∧ RdA w lo B x v
  | [], _, _, i, x, hx => by simp at hx
  | y :: r, ys, h, i, x, hx => by
    rw [RdAV] at h
    obtain ⟨v, r', rfl, h1, h2⟩ := h
    cases i with
    | zero =>
      have e : y = x := by simpa using hx
      subst e
      exact ⟨v, rfl, h1⟩
    | succ i =>
      obtain ⟨v', h3, h4⟩ := RdAV.get r r' h2 i x (by simpa using hx)
      exact ⟨v', by simpa using h3, h4⟩
theorem RdAV.length {w : World} {lo B : Nat} : ∀ (l : List V) (ys : List Value), RdAV w lo B l ys → ys.length = l.length
  | [], _, h => by rw [RdAV] at h; simp [h]
  | y :: r, ys, h => by
    rw [RdAV] at h
    obtain ⟨v, r', rfl, h1, h2⟩ := h
    simp [RdAV.length r r' h2]
theorem RdAV.snoc {w : World} {lo B : Nat} : ∀ (l : List V) (ys : List Value) (x : V) (v : Value), RdAV w lo B l ys → RdA w lo B x v → RdAV w lo B (l ++ [x]) (ys ++ [v])
  | [], ys, x, v, h, hx => by
    rw [RdAV] at h
    subst h
    rw [List.nil_append, List.nil_append, RdAV]
    exact ⟨v, [], rfl, hx, by rw [RdAV]⟩
  | y :: r, ys, x, v, h, hx => by
    rw [RdAV] at h
    obtain ⟨u, r', rfl, h1, h2⟩ := h
    rw [List.cons_append, RdAV]
    exact ⟨u, r' ++ [v], rfl, h1, RdAV.snoc r r' x v h2 hx⟩

/-- The outer form of a right value of the program. -/
theorem RdA.form {w : World} {lo B : Nat} {x : V} {v : Value} (h : RdA w lo B x v) (hg : x.good) : v = .nilIface ∨ ∃ t u, v = .iface t u := by
  cases x with | mk k hf t l ks vs =>
  rw [RdA] at h
  rw [V.good] at hg
  obtain ⟨⟨g1, g2, _⟩, _⟩ := hg
  obtain ⟨h0, h1, h2, h3, h4, h5, h6⟩ := h
  have hk : k = 0 ∨ k = 1 ∨ k = 2 ∨ k = 3 ∨ k = 4 ∨ k = 5 ∨ k = 6 := by omega
  rcases hk with e | e | e | e | e | e | e
  · exact .inl (h0 e)
  · exact .inr ⟨_, _, h1 e⟩
  · exact .inr ⟨_, _, h2 e⟩
  · have := h3 e
    unfold numA at this
    split at this
    · exact .inr ⟨_, _, this⟩
    · exact .inr ⟨_, _, this⟩
  · exact .inr ⟨_, _, h4 e⟩
  · obtain ⟨A, c, e1, _⟩ := h5 e
    exact .inr ⟨_, _, e1⟩
  · obtain ⟨b, n, xs, e1, _⟩ := h6 e
    exact .inr ⟨_, _, e1⟩

end Go.Proofs.YtpamlgdcnmcedaaGreatDoor
