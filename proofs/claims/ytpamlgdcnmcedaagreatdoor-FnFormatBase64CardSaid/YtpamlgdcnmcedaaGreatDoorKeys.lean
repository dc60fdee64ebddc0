/-
  The keys of a map that rise: sorted they are themselves, and each leads to its value (no program).
-/
import Derived.Test.YtpamlgdcnmcedaaGreatDoorPairs
import Derived.Sort.KeysCollected
import Derived.StringKeys
namespace Go.Proofs.YtpamlgdcnmcedaaGreatDoor
set_option linter.unusedVariables false
set_option linter.unusedSimpArgs false
open Go.RowKit Go.Maps Go.Sort

theorem less_lt : ∀ (a b : List UInt8), Op.bytesLess a b = true → a < b
  | [], [], h => by cases h
  | _ :: _, [], h => by cases h
  | [], _ :: _, _ => List.nil_lt_cons _ _
  | a :: x, b :: y, h => by
    rw [Op.bytesLess, Bool.or_eq_true, Bool.and_eq_true, decide_eq_true_eq, beq_iff_eq] at h
    rw [List.cons_lt_cons_iff]
    rcases h with h | ⟨rfl, h⟩
    · exact .inl h
    · exact .inr ⟨rfl, less_lt x y h⟩
theorem strKeys_pairs : ∀ (ks : List ByteArray) (xs : List Value), ks.length = xs.length → strKeys (.map (pairs ks xs)) = ks.map (·.data.toList)
  | [], [], _ => rfl
  | [], _ :: _, h => by simp at h
  | _ :: _, [], h => by simp at h
  | k :: ks, x :: xs, h => by
    have ih := strKeys_pairs ks xs (by simpa using h)
    show strOf (.string k.data.toList) :: (pairs ks xs).map (fun p => strOf p.1) = _
    have e : (pairs ks xs).map (fun p => strOf p.1) = ks.map (·.data.toList) := ih
    rw [e]
    rfl
theorem rises_pairwise {ks : List ByteArray} (h : rises ks) : (ks.map (·.data.toList)).Pairwise (fun a b => leB a b = true) := by
  rw [List.pairwise_map, List.pairwise_iff_getElem]
  intro i j hi hj hij
  have hs := rises_lt h (j - i - 1) i ks[i] ks[j] (List.getElem?_eq_getElem hi) (by rw [show i + (j - i - 1) + 1 = j from by omega]; exact List.getElem?_eq_getElem hj)
  simp only [leB, decide_eq_true_eq]
  exact List.le_of_lt (less_lt _ _ hs)
theorem sorted_self {l : List (List UInt8)} (h : l.Pairwise (fun a b => leB a b = true)) : l.mergeSort leB = l := by
  have tr : ∀ a b c : List UInt8, leB a b = true → leB b c = true → leB a c = true := fun a b c h1 h2 => by simp only [leB, decide_eq_true_eq] at *; exact List.le_trans h1 h2
  have tot : ∀ a b : List UInt8, (leB a b || leB b a) = true := fun a b => by simp only [leB, Bool.or_eq_true, decide_eq_true_eq]; exact List.le_total a b
  refine List.Perm.eq_of_pairwise (le := fun a b => leB a b = true) (fun a b _ _ h1 h2 => ?_) (List.pairwise_mergeSort tr tot l) h (List.mergeSort_perm l leB)
  simp only [leB, decide_eq_true_eq] at h1 h2
  exact List.le_antisymm h1 h2
/-- The keys, sorted, are the keys. -/
theorem sorted_keys_eq {ks : List ByteArray} {xs : List Value} {ss : List (List UInt8)} (hl : ks.length = xs.length) (hr : rises ks) (hp : ss.Perm (strKeys (.map (pairs ks xs)))) :
    (ss.mergeSort (fun x y => decide (x ≤ y))).map encStr = ks.map Value.string ∧ ss.length = ks.length := by
  rw [strKeys_pairs ks xs hl] at hp
  have e : ss.mergeSort leB = ks.map (·.data.toList) := (mergeSort_of_perm hp).trans (sorted_self (rises_pairwise hr))
  refine ⟨?_, by rw [hp.length_eq, List.length_map]⟩
  show (ss.mergeSort leB).map encStr = _
  rw [e, List.map_map]
  refine List.map_congr_left fun k _ => ?_
  simp [encStr]

theorem find_pairs (kb : List UInt8) : ∀ (ks : List ByteArray) (xs : List Value) (i : Nat) (k : ByteArray) (x : Value), k.data.toList = kb → (∀ j k', j < i → ks[j]? = some k' → k'.data.toList ≠ kb) → ks[i]? = some k → xs[i]? = some x →
    (pairs ks xs).find? (fun p => p.1.sameKey (.string kb)) = some (.string kb, .held x)
  | [], _, i, k, x, _, _, h, _ => by simp at h
  | _ :: _, [], i, k, x, _, _, _, h => by simp at h
  | a :: ks, y :: xs, 0, k, x, hk, _, h1, h2 => by
    have e1 : a = k := by simpa using h1
    have e2 : y = x := by simpa using h2
    rw [pairs, List.find?_cons, e1, e2, hk]
    simp [Lit.sameKey]
  | a :: ks, y :: xs, i + 1, k, x, hk, hne, h1, h2 => by
    have h0 := hne 0 a (by omega) rfl
    rw [pairs, List.find?_cons]
    have e : (Lit.string a.data.toList).sameKey (.string kb) = false := by
      simp only [Lit.sameKey, beq_eq_false_iff_ne]
      exact h0
    rw [e]
    exact find_pairs kb ks xs i k x hk (fun j k' hj hk' => hne (j + 1) k' (by omega) (by simpa using hk')) (by simpa using h1) (by simpa using h2)
/-- Each key leads to its value. -/
theorem atKey_pairs {ks : List ByteArray} {xs : List Value} (hr : rises ks) {i : Nat} {k : ByteArray} {x : Value} (h1 : ks[i]? = some k) (h2 : xs[i]? = some x) (z : DataW Value) :
    (DataW.map (pairs ks xs)).atKey (.string k.data.toList) z = .held x := by
  have e := find_pairs k.data.toList ks xs i k x rfl (fun j k' hj hk' => sLess_ne (rises_lt hr (i - j - 1) j k' k hk' (by rw [show j + (i - j - 1) + 1 = i from by omega]; exact h1))) h1 h2
  simp only [DataW.atKey, e]
/-- What is looked up. -/
theorem lookup_pairs {w : World} {b n i : Nat} {ks : List ByteArray} {xs : List Value} {k : ByteArray} {x : Value} (ho : w.ownsMap Tryz.prog 9 heldR b n (.map (pairs ks xs))) (hr : rises ks) (h1 : ks[i]? = some k) (h2 : xs[i]? = some x) (hk : k.size ≤ maxLen) :
    (Instr.lookup 64 (.map (some b)) (.string k) false).run Tryz.prog w = .ok x w := by
  obtain ⟨v, ps, hrun, hv⟩ := World.ownsMap.lookup ho (string_keyed Tryz.underlying9) (t := 64) (e := 20) Tryz.underlying64 (z := .nilIface) (by kernel_rfl) (zd := .held .nilIface) (zp := []) rfl (key := .string k) (kl := .string k.data.toList) (WideMaps.keyOf_string_mk Tryz.underlying9 hk)
  rw [atKey_pairs hr h1 h2] at hv
  have e : v = x := by
    unfold heldR at hv
    simp only [Option.some.injEq, Prod.mk.injEq, DataW.held.injEq] at hv
    exact hv.1
  rw [← e]
  exact hrun

theorem pairs_length : ∀ (ks : List ByteArray) (xs : List Value), ks.length = xs.length → (pairs ks xs).length = ks.length
  | [], [], _ => rfl
  | [], _ :: _, h => by simp at h
  | _ :: _, [], h => by simp at h
  | k :: ks, x :: xs, h => by rw [pairs, List.length_cons, List.length_cons, pairs_length ks xs (by simpa using h)]
theorem rdAV_length {w : World} {lo B : Nat} : ∀ (l : List V) (ys : List Value), RdAV w lo B l ys → l.length = ys.length
  | [], ys, h => by rw [RdAV] at h; rw [h]; rfl
  | x :: l, ys, h => by
    rw [RdAV] at h
    obtain ⟨v, r, rfl, _, hr⟩ := h
    rw [List.length_cons, List.length_cons, rdAV_length l r hr]
theorem rdAV_get {w : World} {lo B : Nat} : ∀ (l : List V) (ys : List Value), RdAV w lo B l ys → ∀ (i : Nat) (x : V), l[i]? = some x → ∃ v, ys[i]? = some v ∧ RdA w lo B x v
  | [], _, _, i, x, hx => by simp at hx
  | y :: l, ys, h, i, x, hx => by
    rw [RdAV] at h
    obtain ⟨v, r, rfl, hv, hr⟩ := h
    cases i with
    | zero =>
      have e : y = x := by simpa using hx
      exact ⟨v, rfl, e ▸ hv⟩
    | succ i =>
      obtain ⟨u, h1, h2⟩ := rdAV_get l r hr i x (by simpa using hx)
      exact ⟨u, by simpa using h1, h2⟩

end Go.Proofs.YtpamlgdcnmcedaaGreatDoor
