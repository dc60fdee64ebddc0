/-
  spec.Fit, laws.zzFits1 and zzFits2 at whatever value that is read.
-/
import Derived.Test.YtpamlgdcnmcedaaGreatDoorVal
namespace Go.Proofs.YtpamlgdcnmcedaaGreatDoor
set_option linter.unusedVariables false
set_option linter.unusedSimpArgs false
open Go.RowKit

/-- Some bool, and the world is as it was. -/
def SomeBool (w : World) (e : Ending) (w' : World) : Prop := (∃ b : Bool, e = .returned (.bool b)) ∧ w = w'
/-- Some bool, and what was there before is as it was. -/
def SomeBoolB (w : World) (e : Ending) (w' : World) : Prop := (∃ b : Bool, e = .returned (.bool b)) ∧ Below w.heap.size w w'
/-- A bool; true only where something holds; and what was there before is as it was. -/
def TellsB (w : World) (p : Prop) (e : Ending) (w' : World) : Prop := ∃ b : Bool, e = .returned (.bool b) ∧ (b = true → p) ∧ Below w.heap.size w w'

set_option maxHeartbeats 400000 in
theorem zzFits2_any (A : Option Addr) (c n : Nat) (ks : List ByteArray) (w : World) (B : Nat) (hn : ks.length = n) (hr : RdS w B A ks) (hm : n ≤ reach) :
    Calls Tryz.prog 12 #[.slice A n c] w (SomeBool w) := by
  unfold reach at hm
  have HN := Lib.hid hn
  have HR := Lib.hid hr
  clear hn hr
  go_enter Tryz.func12, Tryz.ntmps12
  go_wp2
  · go_ret
    exact ⟨⟨_, rfl⟩, rfl⟩
  · go_loop [4, 10] (fun _ i => ∃ k : Nat, k ≤ n ∧ i = .int .i64 k) (fun _ i => n - (intOf i).toNat)
    case atStart => exact ⟨0, Nat.zero_le _, rfl⟩
    case round =>
      obtain ⟨k, hk, rfl⟩ := hrel
      by_cases hlt : k < n
      · obtain ⟨x, hx⟩ : ∃ x, ks[k]? = some x := ⟨ks[k]'(by rw [HN.out]; exact hlt), by simp [HN.out, hlt]⟩
        obtain ⟨_, ad, e, _, hc⟩ := HR.out k x hx
        subst e
        clear hx
        go_wp2
        · go_ret
          exact ⟨⟨_, rfl⟩, rfl⟩
        · go_round
          case rel => exact ⟨k + 1, by omega, by go_num⟩
          case measure => simp [intOf]; omega
      · go_wp2
        go_ret
        exact ⟨⟨_, rfl⟩, rfl⟩

set_option maxHeartbeats 400000 in
theorem zzFits1_any (x : V) (cs : List Value) (w : World) (B : Nat) (hr : Rd w B x cs) (hB : B ≤ w.heap.size) :
    Calls Tryz.prog 5 #[.agg cs.toArray] w (SomeBoolB w) := by
  cases x with | mk k h t l ks vs =>
  rw [Rd] at hr
  obtain ⟨A3, c3, A4, c4, A5, c5, rfl, ht, ⟨l3, m3, r3⟩, ⟨l4, m4, r4⟩, ⟨l5, m5, r5⟩⟩ := hr
  clear r3 r5
  obtain ⟨n4, hn4⟩ : ∃ n, ks.length = n := ⟨_, rfl⟩
  have HC : ∀ o, Calls Tryz.prog 12 #[.slice A4 n4 c4] (w.alloc o) (SomeBool (w.alloc o)) := fun o =>
    zzFits2_any A4 c4 n4 ks (w.alloc o) B hn4 (r4.same ((Same.of_below ((Below.refl w.heap.size w).alloc (Nat.le_refl _) o)).mono hB)) (by omega)
  rw [hn4]
  rw [hn4] at l4 m4
  have H := Lib.hid HC
  clear HC r4 hn4
  unfold reach at m3 m4 m5 ht
  go_enter Tryz.func5, Tryz.ntmps5
  go_wp2_with (go_at_call 12; refine (H.out _).mono ?_; rintro e w' ⟨⟨b, rfl⟩, rfl⟩)
  all_goals
    go_ret
    exact ⟨⟨_, rfl⟩, (Below.refl _ _).alloc (Nat.le_refl _) _⟩

/-- The cells of a block that was laid, in a later world. -/
theorem box_after (w : World) (cs : Array Value) (T : TypeId) (w' : World) (h : Below (w.alloc (.cells cs T)).heap.size (w.alloc (.cells cs T)) w') : ∀ j v, cs[j]? = some v → w'.cell? ⟨w.heap.size, j, none⟩ = some v := by
  intro j v hj
  have hb := h.block w.heap.size (by simp)
  have : w'.heap[w.heap.size]? = some (.cells cs T (0, 0)) := by rw [hb]; exact heap_alloc_new w _
  simp [World.cell?, this, hj]

/-- What Fit says of a value that it lets by. -/
def Fits (x : V) : Prop := x.good ∧ x.cnt ≤ 400 ∧ x.nb ≤ 2000

set_option maxHeartbeats 400000 in
theorem fit_any (VS : ValidSaid) (x : V) (cs : List Value) (w : World) (B : Nat) (hr : Rd w B x cs) (hT : Tabs w) (hB2 : 2 ≤ B) (hB : B ≤ w.heap.size) :
    Calls Tryz.prog 6 #[.agg cs.toArray] w (TellsB w (Fits x)) := by
  obtain ⟨k, h, t, A3, n3, c3, A4, n4, c4, A5, n5, c5, rfl⟩ := hr.form
  obtain ⟨o1, ho1⟩ : ∃ o, Obj.cells [Value.int .i64 k, .int .i64 h, .string t, .slice A3 n3 c3, .slice A4 n4 c4, .slice A5 n5 c5].toArray 26 = o := ⟨_, rfl⟩
  obtain ⟨o2, ho2⟩ : ∃ o, Obj.cells #[Value.int .i64 0, .int .i64 0, .bool false] 41 = o := ⟨_, rfl⟩
  obtain ⟨w2, hw2⟩ : ∃ w2, (w.alloc o1).alloc o2 = w2 := ⟨_, rfl⟩
  have hal : Below w.heap.size w w2 := by rw [← hw2]; exact ((Below.refl _ _).alloc (Nat.le_refl _) _).alloc (by simp) _
  have hs : Same B w w2 := (Same.of_below hal).mono hB
  have hl : Lk w2 (w.heap.size + 1) 0 0 false := by
    rw [← hw2, ← ho2]
    have := heap_alloc_new (w.alloc o1) (Obj.cells #[Value.int .i64 0, .int .i64 0, .bool false] 41)
    rw [World.size_alloc] at this
    exact this
  have cV := value_any VS (V.cnt x) x (Nat.le_refl _) _ w2 B (w.heap.size + 1) 0 0 0 false (Rd.same hs x _ hr) hl (hT.same hs hB2) hB2 (by omega) (by omega) (by omega) (by omega) (by omega) (by omega) (by omega)
  have hbx : ∀ j v, [Value.int .i64 k, .int .i64 h, .string t, .slice A3 n3 c3, .slice A4 n4 c4, .slice A5 n5 c5].toArray[j]? = some v → w2.cell? ⟨w.heap.size, j, none⟩ = some v := by
    rw [← hw2, ← ho1]
    exact fun j v hj => box_after w _ _ _ ((Below.refl _ _).alloc (Nat.le_refl _) _) j v hj
  have b0 := hbx 0 _ rfl
  have b1 := hbx 1 _ rfl
  have b2 := hbx 2 _ rfl
  have b3 := hbx 3 _ rfl
  have b4 := hbx 4 _ rfl
  have b5 := hbx 5 _ rfl
  clear hbx
  have CV := Sec.mk cV
  have HAL := Sec.mk hal
  clear cV hr hT hs hl hal
  go_enter Tryz.func6, Tryz.ntmps6
  go_wp2_with (go_at_call 13; refine CV.out.mono ?_; intro e w3 hw3; obtain ⟨rfl, hg3, p3, q3, bad3, hl3, hs3⟩ := hw3; have d2 := hl3.c2; have HG3 := Sec.mk hg3; have HS3 := Sec.mk hs3; clear hg3 hl3 hs3)
  go_ret
  refine ⟨_, rfl, fun hb => ?_, HAL.out.grown HG3.out HAL.out.size (fun k e => by injection e with e; omega)⟩
  obtain ⟨_, s2, s3, s4, s5, s6⟩ := HS3.out (by simpa using hb)
  exact ⟨s6, by omega, by omega⟩

end Go.Proofs.YtpamlgdcnmcedaaGreatDoor
