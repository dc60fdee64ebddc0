/-
  The JSON text of a string as gojq writes it (a byte 127 is escaped, too), and runs of bytes that stand for themselves: plain Lean.
-/
import Derived.Test.YtpamlgdcnmcedaaGreatDoorQuot
import Derived.Lib.ValidLaws
import Derived.Shelf.Unicode.DecodeSlow
namespace Go.Proofs.YtpamlgdcnmcedaaGreatDoor
set_option linter.unusedVariables false
set_option linter.unusedSimpArgs false

def escE (c : UInt8) : List UInt8 := if c = 127 then [92, 117, 48, 48, 55, 102] else escL c
def quotE (s : List UInt8) : List UInt8 := 34 :: (s.flatMap escE ++ [34])
/-- A byte that stands for itself. -/
def PlainB (c : UInt8) : Prop := escE c = [c]
theorem plain_big {c : UInt8} (h : 128 ≤ c.toNat) : PlainB c := by
  unfold PlainB escE escL
  have e : ∀ k : UInt8, k.toNat < 128 → c ≠ k := fun k hk e => by rw [e] at h; omega
  rw [if_neg (e _ (by decide)), if_neg (fun h => by rcases h with h | h; exact e _ (by decide) h; exact e _ (by decide) h), if_neg (e _ (by decide)), if_neg (e _ (by decide)), if_neg (e _ (by decide)), if_neg (e _ (by decide)), if_neg (e _ (by decide)),
    if_neg (fun h' => by have := UInt8.lt_iff_toNat_lt.1 h'; rw [show (32 : UInt8).toNat = 32 from rfl] at this; omega)]
theorem plain_mid {c : UInt8} (h1 : 32 ≤ c.toNat) (h2 : c.toNat ≤ 126) (h3 : c.toNat ≠ 34) (h4 : c.toNat ≠ 92) : PlainB c := by
  unfold PlainB escE escL
  have e : ∀ k : UInt8, c.toNat ≠ k.toNat → c ≠ k := fun k hk e => hk (by rw [e])
  rw [if_neg (e _ (by show c.toNat ≠ 127; omega)), if_neg (fun h => by rcases h with h | h; exact e 34 h3 h; exact e 92 h4 h), if_neg (e _ (by show c.toNat ≠ 10; omega)), if_neg (e _ (by show c.toNat ≠ 9; omega)), if_neg (e _ (by show c.toNat ≠ 13; omega)),
    if_neg (e _ (by show c.toNat ≠ 8; omega)), if_neg (e _ (by show c.toNat ≠ 12; omega)), if_neg (fun h' => by have := UInt8.lt_iff_toNat_lt.1 h'; rw [show (32 : UInt8).toNat = 32 from rfl] at this; omega)]
theorem flat_plain {l : List UInt8} (h : ∀ c ∈ l, PlainB c) : l.flatMap escE = l := by
  induction l with
  | nil => rfl
  | cons c l ih =>
    rw [List.flatMap_cons, h c (List.mem_cons_self ..), ih (fun x hx => h x (List.mem_cons_of_mem _ hx))]
    rfl
/-- The text of a beginning, a run of plain bytes behind it. -/
theorem esc_run {s : List UInt8} {a i : Nat} (hai : a ≤ i) (h : ∀ j c, a ≤ j → j < i → s[j]? = some c → PlainB c) : (s.take i).flatMap escE = (s.take a).flatMap escE ++ (s.take i).drop a := by
  have e : s.take i = s.take a ++ (s.take i).drop a := by
    have : s.take a = (s.take i).take a := by rw [List.take_take, Nat.min_eq_left hai]
    rw [this, List.take_append_drop]
  conv => lhs; rw [e]
  rw [List.flatMap_append, flat_plain (l := (s.take i).drop a)]
  intro c hc
  obtain ⟨j, hj⟩ := List.getElem?_of_mem hc
  rw [List.getElem?_drop, List.getElem?_take] at hj
  split at hj
  · exact h (a + j) c (by omega) (by assumption) hj
  · cases hj
theorem escE_next {s : List UInt8} {i : Nat} {c : UInt8} (h : s[i]? = some c) : (s.take (i + 1)).flatMap escE = (s.take i).flatMap escE ++ escE c := by
  rw [List.take_add_one, h, List.flatMap_append]
  simp
theorem escE_length (c : UInt8) : (escE c).length ≤ 6 := by
  unfold escE
  split
  · simp
  · exact escL_length c
theorem escE_len (s : List UInt8) : (s.flatMap escE).length ≤ 6 * s.length := by
  induction s with
  | nil => simp
  | cons c s ih =>
    rw [List.flatMap_cons, List.length_append, List.length_cons]
    have := escE_length c
    omega

theorem get_list (l : List UInt8) (j : Nat) : (ByteArray.mk l.toArray).get! j = l.getD j 0 := by
  show (l.toArray)[j]! = _
  rw [List.getD_eq_getElem?_getD]
  by_cases h : j < l.length
  · rw [getElem!_pos _ _ (by simpa using h), List.getElem?_eq_getElem h]; simp
  · rw [getElem!_neg _ _ (by simpa using h), List.getElem?_eq_none (by omega)]; rfl
/-- A rune of several bytes in a valid text. -/
theorem lead_multi {l : List UInt8} (hne : l ≠ []) (h0 : 128 ≤ (l.getD 0 0).toNat) (hv : Lib.validD l = true) :
    2 ≤ (Lib.decodeL l).2 ∧ (Lib.decodeL l).2 ≤ l.length ∧ Lib.validD (l.drop (Lib.decodeL l).2) = true ∧ ∀ j c, j < (Lib.decodeL l).2 → l[j]? = some c → 128 ≤ c.toNat := by
  rw [Lib.validD_step l hne] at hv
  have hd : Lib.decodeL l = Lib.decodeN l.length (l.getD 0 0).toNat (l.getD 1 0).toNat (l.getD 2 0).toNat (l.getD 3 0).toNat := by
    unfold Lib.decodeL
    rw [Lib.decode_at]
    simp only [get_list, Nat.zero_add]
    congr 1
  have hlen : 0 < l.length := List.length_pos_iff.2 hne
  have hg : ∀ j c, l[j]? = some c → c = l.getD j 0 := fun j c h => by rw [List.getD_eq_getElem?_getD, h]; rfl
  by_cases hbad : (Lib.decodeL l).1 = 65533 ∧ (Lib.decodeL l).2 = 1
  · rw [if_pos hbad] at hv; cases hv
  · rw [if_neg hbad] at hv
    rw [hd] at hv hbad ⊢
    unfold Lib.decodeN at hv hbad ⊢
    rw [if_neg (by omega)] at hv hbad ⊢
    by_cases c2 : (l.getD 0 0).toNat / 32 = 6 ∧ (1 < l.length ∧ (l.getD 1 0).toNat / 64 = 2)
    · rw [if_pos c2] at hv hbad ⊢
      split at hbad
      · rename_i hc
        rw [if_pos hc] at hv ⊢
        refine ⟨Nat.le_refl _, c2.2.1, hv, fun j c hj hjc => ?_⟩
        have := hg j c hjc
        have hj2 : j = 0 ∨ j = 1 := by simp only at hj; omega
        rcases hj2 with rfl | rfl
        · rw [this]; exact h0
        · rw [this]; omega
      · exact absurd ⟨rfl, rfl⟩ hbad
    · rw [if_neg c2] at hv hbad ⊢
      by_cases c3 : (l.getD 0 0).toNat / 16 = 14 ∧ (1 < l.length ∧ (l.getD 1 0).toNat / 64 = 2) ∧ (2 < l.length ∧ (l.getD 2 0).toNat / 64 = 2)
      · rw [if_pos c3] at hv hbad ⊢
        split at hbad
        · rename_i hc
          rw [if_pos hc] at hv ⊢
          refine ⟨by simp only; omega, c3.2.2.1, hv, fun j c hj hjc => ?_⟩
          have := hg j c hjc
          have hj2 : j = 0 ∨ j = 1 ∨ j = 2 := by simp only at hj; omega
          rcases hj2 with rfl | rfl | rfl
          · rw [this]; exact h0
          · rw [this]; omega
          · rw [this]; omega
        · exact absurd ⟨rfl, rfl⟩ hbad
      · rw [if_neg c3] at hv hbad ⊢
        by_cases c4 : (l.getD 0 0).toNat / 8 = 30 ∧ (1 < l.length ∧ (l.getD 1 0).toNat / 64 = 2) ∧ (2 < l.length ∧ (l.getD 2 0).toNat / 64 = 2) ∧ (3 < l.length ∧ (l.getD 3 0).toNat / 64 = 2)
        · rw [if_pos c4] at hv hbad ⊢
          split at hbad
          · rename_i hc
            rw [if_pos hc] at hv ⊢
            refine ⟨by simp only; omega, c4.2.2.2.1, hv, fun j c hj hjc => ?_⟩
            have := hg j c hjc
            have hj2 : j = 0 ∨ j = 1 ∨ j = 2 ∨ j = 3 := by simp only at hj; omega
            rcases hj2 with rfl | rfl | rfl | rfl
            · rw [this]; exact h0
            · rw [this]; omega
            · rw [this]; omega
            · rw [this]; omega
          · exact absurd ⟨rfl, rfl⟩ hbad
        · rw [if_neg c4] at hbad
          exact absurd ⟨rfl, rfl⟩ hbad

end Go.Proofs.YtpamlgdcnmcedaaGreatDoor
