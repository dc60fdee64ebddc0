/-
  strconv.FormatUint in base ten.
-/
import Derived.Test.YtpamlgdcnmcedaaGreatDoorDig
import Derived.Test.YtpamlgdcnmcedaaGreatDoorDecP
import Derived.Laws.IdiomStrings
namespace Go.Proofs.YtpamlgdcnmcedaaGreatDoor
set_option linter.unusedVariables false
set_option linter.unusedSimpArgs false
open Go.RowKit

/-- What is still to be written: nothing of 0. -/
def restL (n : Nat) : List UInt8 := if n = 0 then [] else digitsL n
theorem rest_step (n : Nat) : restL (n / 10) ++ [48 + UInt8.ofNat (n % 10)] = digitsL n := by
  unfold restL
  by_cases h : n < 10
  · rw [if_pos (by omega), digitsL_small h, Nat.mod_eq_of_lt h]; rfl
  · rw [if_neg (by omega), digitsL_big h]
/-- The last bytes of the array. -/
def TailIs (w : World) (g i : Nat) (s : List UInt8) : Prop := ∃ cs : Array Value, w.heap[g]? = some (.cells cs 74 (0, 0)) ∧ cs.size = 64 ∧ i + s.length = 64 ∧ ∀ (j : Nat) (b : UInt8), s[j]? = some b → cs[i + j]? = some (.int .u8 b.toNat)
theorem TailIs.facts {w : World} {g i : Nat} {s : List UInt8} (h : TailIs w g i s) : g < w.heap.size ∧ ∀ j, j < 64 → (∃ v, w.cell? ⟨g, j, none⟩ = some v) ∧ w.frozen? ⟨g, j, none⟩ = false := by
  obtain ⟨cs, h1, h2, h3, h4⟩ := h
  refine ⟨?_, fun j hj => ⟨⟨cs[j]'(by omega), ?_⟩, ?_⟩⟩
  · rcases Nat.lt_or_ge g w.heap.size with h | h
    · exact h
    · rw [Array.getElem?_eq_none h] at h1; cases h1
  · simp [World.cell?, h1, h2, hj]
  · simp [World.frozen?, h1]
theorem TailIs.put {w : World} {g i : Nat} {s : List UInt8} (h : TailIs w g (i + 1) s) (b : UInt8) : TailIs (w.setCell ⟨g, i, none⟩ (.int .u8 b.toNat)) g i (b :: s) := by
  obtain ⟨cs, h1, h2, h3, h4⟩ := h
  refine ⟨cs.setIfInBounds i (.int .u8 b.toNat), by simp [World.setCell, Array.getElem?_modify, h1], by simp [h2], by rw [List.length_cons]; omega, fun j c hj => ?_⟩
  cases j with
  | zero =>
    have e : b = c := by simpa using hj
    subst e
    simp [Array.getElem?_setIfInBounds, h2]; omega
  | succ j =>
    have := h4 j c (by simpa using hj)
    rw [show i + (j + 1) = i + 1 + j from by omega, Array.getElem?_setIfInBounds, if_neg (by omega)]
    exact this
theorem TailIs.text {w : World} {g i : Nat} {s : List UInt8} (h : TailIs w g i s) (cap : Nat) :
    (convert 45 9 (.slice (some ⟨g, i, none⟩) (64 - i) cap)).run Tryz.prog w = .ok (.string ⟨s.toArray⟩) w := by
  obtain ⟨cs, h1, h2, h3, h4⟩ := h
  rw [show 64 - i = s.length from by omega]
  refine run_convert_bytes_back w _ _ 5 ⟨g, i, none⟩ cap s Tryz.underlying45 Tryz.underlying5 Tryz.underlying9 fun j hj => ?_
  rw [show (⟨g, i, none⟩ : Addr).add j = ⟨g, i + j, none⟩ from by unfold Addr.add; split <;> simp_all]
  have := h4 j s[j] (by rw [List.getElem?_eq_getElem])
  simp [World.cell?, h1, this]

theorem letter_at (k : Nat) (h : k < 10) (w : World) : (Instr.index 9 (.string ⟨#[48, 49, 50, 51, 52, 53, 54, 55, 56, 57, 97, 98, 99, 100, 101, 102, 103, 104, 105, 106, 107, 108, 109, 110, 111, 112, 113, 114, 115, 116, 117, 118, 119, 120, 121, 122]⟩) (.int .u64 (k : Int))).run Tryz.prog w = .ok (.int .u8 (48 + (k : Int))) w := by
  have : k = 0 ∨ k = 1 ∨ k = 2 ∨ k = 3 ∨ k = 4 ∨ k = 5 ∨ k = 6 ∨ k = 7 ∨ k = 8 ∨ k = 9 := by omega
  rcases this with rfl | rfl | rfl | rfl | rfl | rfl | rfl | rfl | rfl | rfl <;> (show _ = _; kernel_rfl)

theorem slice_from (g i : Nat) (h : i < 64) (w : World) : (Instr.sliceAt 74 (.pointer (some ⟨g, 0, none⟩)) (some (.int .i64 (i : Int))) none none).run Tryz.prog w = .ok (.slice (some ⟨g, i, none⟩) (64 - i) (64 - i)) w := by
  have e : Tryz.prog.arrayLen 74 = 64 := by kernel_rfl
  have e2 : ∀ w, (sizeOf (Tryz.prog.elem 74)).run Tryz.prog w = .ok 1 w := fun w => by kernel_rfl
  rw [run_sliceAt_array_l (P := Tryz.prog) w 74 ⟨g, 0, none⟩ (by kernel_rfl) .i64 (i : Int) (by omega) (by rw [e]; omega), e2, e]
  simp only [Result.andThen, slicedAt, Int.toNat_natCast, Nat.mul_one]
  rw [if_neg (by omega), show (⟨g, 0, none⟩ : Addr).add i = ⟨g, i, none⟩ from by unfold Addr.add; split <;> simp_all]
theorem digit_val (k : Nat) (h : k < 10) : (48 + (k : Int)) = ((48 + UInt8.ofNat k).toNat : Int) := by
  have : k = 0 ∨ k = 1 ∨ k = 2 ∨ k = 3 ∨ k = 4 ∨ k = 5 ∨ k = 6 ∨ k = 7 ∨ k = 8 ∨ k = 9 := by omega
  rcases this with rfl | rfl | rfl | rfl | rfl | rfl | rfl | rfl | rfl | rfl <;> rfl

set_option maxHeartbeats 800000 in
set_option maxRecDepth 100000 in
theorem uint_any (n : Nat) (w : World) (hn : n ≤ 1152921504606846976) :
    Calls Tryz.prog 81 #[.int .u64 (n : Int), .int .i64 10] w fun e w' => e = .returned (.string ⟨(digitsL n).toArray⟩) ∧ Below w.heap.size w w' := by
  have HN := Sec.mk hn
  clear hn
  go_enter Tryz.func81, Tryz.ntmps81
  go_wp2_with fail
  go_loopw [0, 6] (fun v0 v6 wr => ∃ (k i : Nat) (s : List UInt8), v0 = .int .u64 (k : Int) ∧ v6 = .int .i64 (i : Int) ∧ k ≤ n ∧ Below w.heap.size w wr ∧ TailIs wr w.heap.size i s ∧ ((i = 64 ∧ k = n) ∨ (i < 64 ∧ restL k ++ s = digitsL n)) ∧ k * 10 ^ s.length ≤ n) (fun _ v6 _ => (intOf v6).toNat)
  case atStart => exact ⟨n, 64, [], rfl, rfl, Nat.le_refl _, (Below.refl _ _).alloc (Nat.le_refl _) _, ⟨_, heap_alloc_new w _, rfl, rfl, fun j b h => by simp at h⟩, .inl ⟨rfl, rfl⟩, by simp⟩
  case round =>
    obtain ⟨k, i, s, rfl, rfl, hk, hb, ht, hd, hp⟩ := hrel
    obtain ⟨hg, hc⟩ := ht.facts
    have hi : i ≤ 64 := by obtain ⟨_, _, _, h3, _⟩ := ht; omega
    have HP := Sec.mk hp
    have HB := Sec.mk hb
    have HT := Sec.mk ht
    have hlen : 0 < k → 1 ≤ i := fun h0 => by
      obtain ⟨_, _, _, h3, _⟩ := HT.out
      apply Classical.byContradiction
      intro hc
      have h1 : 10 ^ 64 ≤ 10 ^ s.length := Nat.pow_le_pow_right (by decide) (by omega)
      have h2 : 1 * 10 ^ s.length ≤ k * 10 ^ s.length := Nat.mul_le_mul_right _ h0
      have h5 : (1152921504606846976 : Nat) < 10 ^ 64 := by decide
      have := HN.out
      omega
    have hk2 : k ≤ 1152921504606846976 := Nat.le_trans hk HN.out
    clear hp hb ht
    by_cases hgo : i = 64 ∨ 0 < k
    · have hi1 : 1 ≤ i := by
        rcases hgo with h | h
        · omega
        · exact hlen h
      have d1 : ((i : Int) == 64) = true ∨ (((i : Int) == 64) = false ∧ decide ((0 : Int) < (k : Int)) = true ∧ decide (0 < k) = true) := by
        by_cases h : i = 64
        · left; simp [h]
        · right
          have hk0 := hgo.resolve_left h
          exact ⟨by simp; omega, decide_eq_true (by omega), decide_eq_true hk0⟩
      obtain ⟨⟨v, c1⟩, f1⟩ := hc (i - 1) (by omega)
      have e1 := fun w => letter_at (k % 10) (by omega) w
      have ek : ((k % 10 : Nat) : Int) = (k : Int) % 10 := by omega
      rw [ek] at e1
      have fin : Below w.heap.size w (wr.setCell ⟨w.heap.size, i - 1, none⟩ (.int .u8 (48 + (k : Int) % 10))) ∧ TailIs (wr.setCell ⟨w.heap.size, i - 1, none⟩ (.int .u8 (48 + (k : Int) % 10))) w.heap.size (i - 1) ((48 + UInt8.ofNat (k % 10)) :: s) ∧
          restL (k / 10) ++ ((48 + UInt8.ofNat (k % 10)) :: s) = digitsL n ∧ k / 10 * 10 ^ (s.length + 1) ≤ n := by
        rw [← ek]
        refine ⟨HB.out.setCell (Nat.le_refl _) _, (by rw [digit_val _ (by omega)]; exact TailIs.put (by rw [show i - 1 + 1 = i from by omega]; exact HT.out) _), ?_, ?_⟩
        · rw [← List.singleton_append, ← List.append_assoc, rest_step]
          rcases hd with ⟨h1, h2⟩ | ⟨h1, h2⟩
          · obtain ⟨_, _, _, h3, _⟩ := HT.out
            rw [List.eq_nil_of_length_eq_zero (show s.length = 0 by omega), h2, List.append_nil]
          · rw [← h2, restL, if_neg]
            have := hgo.resolve_left (by omega)
            omega
        · rw [Nat.pow_succ, Nat.mul_comm (10 ^ s.length) 10, ← Nat.mul_assoc]
          exact Nat.le_trans (Nat.mul_le_mul_right _ (Nat.div_mul_le_self k 10)) HP.out
      have FIN := Sec.mk fin
      clear hgo hlen hc hd ek fin
      rcases d1 with d1 | ⟨d1, d2, d3⟩
      · go_wp2
        go_roundw
        case rel => exact ⟨k / 10, i - 1, _, by go_num, by go_num, by omega, FIN.out.1, FIN.out.2.1, .inr ⟨by omega, FIN.out.2.2.1⟩, FIN.out.2.2.2⟩
        case measure => simp [intOf]; omega
      · go_wp2
        go_roundw
        case rel => exact ⟨k / 10, i - 1, _, by go_num, by go_num, by omega, FIN.out.1, FIN.out.2.1, .inr ⟨by omega, FIN.out.2.2.1⟩, FIN.out.2.2.2⟩
        case measure => simp [intOf]; omega
    · obtain ⟨h1, h2⟩ := hd.resolve_left (fun h => hgo (.inl h.1))
      obtain rfl : k = 0 := by omega
      have d1 : ((i : Int) == 64) = false := by simp; omega
      have et := HT.out.text
      have es := fun w' => slice_from w.heap.size i h1 w'
      have ES := Sec.mk (show s = digitsL n by rw [← h2]; rfl)
      clear hgo hlen hd h2
      go_wp2
      go_ret
      exact ⟨by first | rfl | (rw [ES.out]; rfl), HB.out⟩

end Go.Proofs.YtpamlgdcnmcedaaGreatDoor
