/-
  What stays where a writer writes: all below its base, and all blocks but the writer's, the encoder's and rows of bytes.
-/
import Derived.Test.YtpamlgdcnmcedaaGreatDoorApp
import Derived.Test.YtpamlgdcnmcedaaGreatDoorNum
import Derived.Lib.OthersKept
namespace Go.Proofs.YtpamlgdcnmcedaaGreatDoor
set_option linter.unusedVariables false
set_option linter.unusedSimpArgs false
open Go.RowKit

/-- No row of bytes. -/
def NoRow (o : Obj) : Prop := ∀ c fz, o ≠ .cells c 5 fz
structure Kp (B b g : Nat) (w w' : World) : Prop where
  below : Below B w w'
  oth : ∀ k o, w.heap[k]? = some o → k ≠ b → k ≠ g → NoRow o → w'.heap[k]? = some o
theorem Kp.refl (B b g : Nat) (w : World) : Kp B b g w w := ⟨Below.refl _ _, fun _ _ h _ _ _ => h⟩
theorem Kp.trans {B b g : Nat} {u v w : World} (h : Kp B b g u v) (k : Kp B b g v w) : Kp B b g u w := ⟨h.below.trans k.below, fun i o hi h1 h2 h3 => k.oth i o (h.oth i o hi h1 h2 h3) h1 h2 h3⟩
theorem Kp.of_below {B b g : Nat} {w w' : World} (h : Below w.heap.size w w') (hB : B ≤ w.heap.size) : Kp B b g w w' :=
  ⟨h.mono hB, fun k o hk _ _ _ => (h.block k (Array.getElem?_eq_some_iff.1 hk).1).trans hk⟩
theorem Kp.of_grown {B b g : Nat} {w w' : World} (h : w.grownBy w' (some g)) (hB : B ≤ g) (hs : B ≤ w.heap.size) : Kp B b g w w' :=
  ⟨(Below.refl B w).grown h hs (fun k e => by have e' : g = k := Option.some.inj e; omega), fun k o hk _ h2 _ => (h.block k (Array.getElem?_eq_some_iff.1 hk).1 (fun e => h2 (Option.some.inj e))).trans hk⟩
theorem Kp.of_others {B b g : Nat} {w w' : World} (h : Below B w w') (k : Lib.OthersKept 5 (some b) w w') : Kp B b g w w' :=
  ⟨h, fun i o hi h1 _ h3 => k i o hi (fun e => h1 (Option.some.inj e)) h3⟩
/-- A block of another kind stands, as a cell. -/
theorem Kp.cells {B b g k : Nat} {w w' : World} {cs : Array Value} {T : TypeId} {fz : Nat × Nat} (h : Kp B b g w w') (hk : w.heap[k]? = some (.cells cs T fz)) (hb : k ≠ b) (hg : k ≠ g) (hT : T ≠ 5) : w'.heap[k]? = some (.cells cs T fz) :=
  h.oth k _ hk hb hg (fun c fz' e => by injection e with _ e2 _; exact hT e2)
theorem enc_noRow {w : World} {g : Nat} {it : Value} {cs : List Value} (h : EncB w g it cs) : ∀ c fz, w.heap[g]? ≠ some (.cells c 5 fz) := by
  intro c fz e
  rw [h.1] at e
  injection e with e
  injection e with _ e2 _
  exact absurd e2 (by decide)

end Go.Proofs.YtpamlgdcnmcedaaGreatDoor
