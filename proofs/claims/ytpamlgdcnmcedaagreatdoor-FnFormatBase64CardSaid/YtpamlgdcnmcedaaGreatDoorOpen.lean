/-
  An argument that reads as data of the type impl.Value, opened: the tree that its cells hold.
-/
import Derived.Test.YtpamlgdcnmcedaaGreatDoorV
import Derived.ProofKit
import Derived.Deep.Slices
import Derived.SizedLaws
namespace Go.Proofs.YtpamlgdcnmcedaaGreatDoor
set_option linter.unusedVariables false
set_option linter.unusedSimpArgs false
open Go.RowKit

section
variable {H : Type} {enc : TypeId × Value → H} {W : World} {base : Nat} {spare : Nat → Bool} {held : Bool}

theorem list_of {α : Type} {p : Nat → α → Prop} : ∀ (n : Nat), (∀ i, i < n → ∃ x, p i x) → ∃ l : List α, l.length = n ∧ ∀ i x, l[i]? = some x → p i x
  | 0, _ => ⟨[], rfl, fun i x h => by simp at h⟩
  | n + 1, h => by
    obtain ⟨l, hl, hp⟩ := list_of n (fun i hi => h i (by omega))
    obtain ⟨x, hx⟩ := h n (by omega)
    refine ⟨l ++ [x], by simp [hl], fun i y hy => ?_⟩
    by_cases hi : i < n
    · rw [List.getElem?_append_left (by omega)] at hy
      exact hp i y hy
    · by_cases hin : i = n
      · subst hin
        rw [List.getElem?_append_right (by omega)] at hy
        have e : x = y := by simpa [hl] using hy
        exact e ▸ hx
      · rw [List.getElem?_eq_none (by simp [hl]; omega)] at hy
        cases hy

theorem RdL.of {w : World} {B : Nat} {A : Option Addr} : ∀ (l : List V) (i0 : Nat),
    (∀ i x, l[i]? = some x → ∃ ad cs, A = some ad ∧ ad.block < B ∧ Rd w B x cs ∧ ∀ j u, cs[j]? = some u → w.cell? (ad.add ((i0 + i) * 6 + j)) = some u) → RdL w B A i0 l
  | [], _, _ => by rw [RdL]; trivial
  | x :: xs, i0, h => by
    rw [RdL]
    refine ⟨by simpa using h 0 x rfl, RdL.of xs (i0 + 1) fun i y hy => ?_⟩
    obtain ⟨ad, cs, h1, h2, h3, h4⟩ := h (i + 1) y (by simpa using hy)
    exact ⟨ad, cs, h1, h2, h3, fun j u hu => by rw [show i0 + 1 + i = i0 + (i + 1) from by omega]; exact h4 j u hu⟩

theorem six {α : Type} {l : List α} (h : l.length = 6) : ∃ a b c d e f, l = [a, b, c, d, e, f] := by
  match l, h with
  | [a, b, c, d, e, f], _ => exact ⟨a, b, c, d, e, f, rfl⟩

theorem mem_weightsAll {P : Program} {e : TypeId} {d : DataW H} {n : Nat} : ∀ {l : List (DataW H)}, d ∈ l → n ∈ d.weights P e → n ∈ DataW.weightsAll P e l
  | [], h, _ => by cases h
  | x :: r, h, hn => by
    rw [DataW.weightsAll]
    rcases List.mem_cons.1 h with rfl | h
    · exact List.mem_append_left _ hn
    · exact List.mem_append_right _ (mem_weightsAll h hn)

/-- No weight passes the reach. -/
def light (l : List Nat) : Prop := ∀ n ∈ l, n ≤ reach

/-- A slice's elements, each opened. -/
theorem open_row {t e : TypeId} {fuel n : Nat} {cs : List Value} {x : DataW H × List MemPlace} {β : Type} {p : List Value → β → Prop} (ht : Tryz.prog.underlying t = some (.slice e)) (hc : 0 < Tryz.prog.cellsOf e) (hb : 0 < Tryz.prog.bytesOf e)
    (hfuel : fuel ≤ n + 1) (h : DataW.trod enc Tryz.prog W 0 (fun _ => true) true fuel t cs = some x) (hw : light (x.1.weights Tryz.prog t))
    (each : ∀ (m : Nat) (cs' : List Value) (y : DataW H × List MemPlace), m ≤ n → DataW.trod enc Tryz.prog W 0 (fun _ => true) true m e cs' = some y → light (y.1.weights Tryz.prog e) → ∃ v, p cs' v) :
    ∃ (A : Option Addr) (c : Nat) (l : List β), cs = [.slice A l.length c] ∧ l.length ≤ c ∧ c ≤ reach ∧
      ∀ i v, l[i]? = some v → ∃ ad cs', A = some ad ∧ ad.block < W.heap.size ∧ p cs' v ∧ cs'.length = Tryz.prog.cellsOf e ∧ ∀ j u, cs'[j]? = some u → W.cell? (ad.add (i * Tryz.prog.cellsOf e + j)) = some u := by
  rcases DataW.trod_slice ht h with ⟨rfl, rfl⟩ | ⟨a, len, cap, elems, rest, m, rfl, rfl, rfl, _, hl, hm, hlen, hel, hsp, _⟩
  · exact ⟨none, 0, [], rfl, Nat.le_refl _, Nat.zero_le _, fun i v hv => by simp at hv⟩
  · obtain ⟨hr, _⟩ := hsp rfl
    have hw' : light (((elems.map (·.1)).length * Tryz.prog.bytesOf e + (rest.map (·.1)).length * Tryz.prog.bytesOf e) :: (DataW.weightsAll Tryz.prog e (elems.map (·.1)) ++ DataW.weightsAll Tryz.prog e (rest.map (·.1)))) := by
      have := hw
      simp only [DataW.weights, ht, Nat.add_mul] at this
      exact this
    have hcap : cap ≤ reach := by
      have h0 := hw' _ (List.mem_cons_self ..)
      rw [List.length_map, List.length_map, hlen, hr, ← Nat.add_mul, show len + (cap - len) = cap from by omega] at h0
      exact Nat.le_trans (Nat.le_mul_of_pos_right _ hb) h0
    obtain ⟨l, hll, hp⟩ := list_of (p := fun i v => ∃ cs', p cs' v ∧ cs'.length = Tryz.prog.cellsOf e ∧ ∀ j u, cs'[j]? = some u → W.cell? (a.add (i * Tryz.prog.cellsOf e + j)) = some u) len (fun i hi => by
      have key := hel i hi
      rw [List.getElem?_eq_getElem (by omega)] at key
      obtain ⟨cs', h1, h2⟩ := Option.bind_eq_some_iff.1 key
      obtain ⟨_, h3, h4⟩ := World.cells?_some h1
      obtain ⟨v, hv⟩ := each m cs' _ (by omega) h2 (fun k hk => hw' k (List.mem_cons_of_mem _ (List.mem_append_left _ (mem_weightsAll (List.mem_map.2 ⟨elems[i]'(by omega), List.getElem_mem _, rfl⟩) hk))))
      refine ⟨v, cs', hv, h3, fun j u hu => ?_⟩
      have hj : j < Tryz.prog.cellsOf e := by rw [← h3]; exact (List.getElem?_eq_some_iff.1 hu).1
      rw [← Go.Deep.add_add, h4 j hj]
      exact hu)
    refine ⟨some a, cap, l, by rw [hll], by omega, hcap, fun i v hv => ?_⟩
    obtain ⟨cs', h1, h2, h3⟩ := hp i v hv
    refine ⟨a, cs', rfl, ?_, h1, h2, h3⟩
    have hlt : 0 < cs'.length := by omega
    have := World.block_lt_of_cell? W _ (h3 0 _ (List.getElem?_eq_getElem hlt))
    rwa [add_block] at this

theorem cells22 : Tryz.prog.cellsOf 22 = 1 := by kernel_rfl
theorem cellsInt : Tryz.prog.cellsOf 3 = 1 := by kernel_rfl
theorem cellsString : Tryz.prog.cellsOf 9 = 1 := by kernel_rfl
theorem cellsVs : Tryz.prog.cellsOf 23 = 1 := by kernel_rfl
theorem cellsKs : Tryz.prog.cellsOf 24 = 1 := by kernel_rfl
theorem cellsV : Tryz.prog.cellsOf 26 = 6 := by kernel_rfl
theorem bytesV : 0 < Tryz.prog.bytesOf 26 := by rw [show Tryz.prog.bytesOf 26 = 104 by kernel_rfl]; omega
theorem bytesString : 0 < Tryz.prog.bytesOf 9 := by rw [show Tryz.prog.bytesOf 9 = 16 by kernel_rfl]; omega

theorem open_str {m : Nat} {cs : List Value} {y : DataW H × List MemPlace} (h : DataW.trod enc Tryz.prog W 0 (fun _ => true) true m 9 cs = some y) (hw : light (y.1.weights Tryz.prog 9)) :
    ∃ s : ByteArray, cs = [.string s] ∧ s.size ≤ reach := by
  obtain ⟨s, rfl, rfl, _⟩ := DataW.trod_string Tryz.underlying9 h
  refine ⟨s, rfl, ?_⟩
  have := hw s.data.toList.length (by rw [DataW.weights]; exact List.mem_singleton.2 rfl)
  rw [Array.length_toList] at this
  exact this

/-- THE WHOLE: cells that read as an impl.Value hold a tree. -/
theorem open_V (n : Nat) : ∀ (fuel : Nat), fuel ≤ n → ∀ (cs : List Value) (x : DataW H × List MemPlace), DataW.trod enc Tryz.prog W 0 (fun _ => true) true fuel 26 cs = some x →
    light (x.1.weights Tryz.prog 26) → ∃ v : V, Rd W W.heap.size v cs := by
  induction n with
  | zero =>
    intro fuel hf cs x h _
    obtain rfl : fuel = 0 := by omega
    simp [DataW.trod] at h
  | succ n ih =>
    intro fuel hf cs x h hw
    obtain ⟨xs, m, rfl, rfl, hl, hxs, hfs⟩ := DataW.trod_struct Tryz.underlying26 h
    rw [cellsV] at hl
    obtain ⟨a0, a1, a2, a3, a4, a5, rfl⟩ := six hl
    obtain ⟨y0, y1, y2, y3, y4, y5, rfl⟩ := six (l := xs) hxs
    have h0 : DataW.trod enc Tryz.prog W 0 (fun _ => true) true m 22 (([a0, a1, a2, a3, a4, a5].drop 0).take (Tryz.prog.cellsOf 22)) = some y0 := hfs 0 _ rfl
    have h1 : DataW.trod enc Tryz.prog W 0 (fun _ => true) true m 3 (([a0, a1, a2, a3, a4, a5].drop 1).take (Tryz.prog.cellsOf 3)) = some y1 := hfs 1 _ rfl
    have h2 : DataW.trod enc Tryz.prog W 0 (fun _ => true) true m 9 (([a0, a1, a2, a3, a4, a5].drop 2).take (Tryz.prog.cellsOf 9)) = some y2 := hfs 2 _ rfl
    have h3 : DataW.trod enc Tryz.prog W 0 (fun _ => true) true m 23 (([a0, a1, a2, a3, a4, a5].drop 3).take (Tryz.prog.cellsOf 23)) = some y3 := hfs 3 _ rfl
    have h4 : DataW.trod enc Tryz.prog W 0 (fun _ => true) true m 24 (([a0, a1, a2, a3, a4, a5].drop 4).take (Tryz.prog.cellsOf 24)) = some y4 := hfs 4 _ rfl
    have h5 : DataW.trod enc Tryz.prog W 0 (fun _ => true) true m 23 (([a0, a1, a2, a3, a4, a5].drop 5).take (Tryz.prog.cellsOf 23)) = some y5 := hfs 5 _ rfl
    simp only [cells22, cellsInt, cellsString, cellsVs, cellsKs, List.drop_zero, List.drop_succ_cons, List.take_succ_cons, List.take_zero] at h0 h1 h2 h3 h4 h5
    have hw' : light (y2.1.weights Tryz.prog 9 ++ (y3.1.weights Tryz.prog 23 ++ (y4.1.weights Tryz.prog 24 ++ y5.1.weights Tryz.prog 23))) := by
      intro k hk
      apply hw k
      simp only [DataW.weights, Tryz.underlying26, DataW.weightsEach, List.map_cons, List.map_nil, List.append_nil]
      simp only [List.mem_append] at hk ⊢
      rcases hk with hk | hk | hk | hk <;> simp [hk]
    obtain ⟨k, e0, _, _⟩ := DataW.trod_int Tryz.underlying22 h0
    obtain ⟨hf', e1, _, _⟩ := DataW.trod_int Tryz.underlying3 h1
    obtain ⟨s, e2, hs⟩ := open_str h2 (fun k hk => hw' k (List.mem_append_left _ hk))
    obtain ⟨A3, c3, l, e3, l3, m3, r3⟩ := open_row (β := V) (p := fun cs v => Rd W W.heap.size v cs) (n := n) Tryz.underlying23 (by rw [cellsV]; omega) bytesV (by omega) h3
      (fun k hk => hw' k (List.mem_append_right _ (List.mem_append_left _ hk))) (fun m' cs' y hm' ht hwy => ih m' hm' cs' y ht hwy)
    obtain ⟨A4, c4, ks, e4, l4, m4, r4⟩ := open_row (β := ByteArray) (p := fun cs v => cs = [.string v] ∧ v.size ≤ reach) (n := n) Tryz.underlying24 (by rw [cellsString]; omega) bytesString (by omega) h4
      (fun k hk => hw' k (List.mem_append_right _ (List.mem_append_right _ (List.mem_append_left _ hk)))) (fun m' cs' y _ ht hwy => open_str ht hwy)
    obtain ⟨A5, c5, vs, e5, l5, m5, r5⟩ := open_row (β := V) (p := fun cs v => Rd W W.heap.size v cs) (n := n) Tryz.underlying23 (by rw [cellsV]; omega) bytesV (by omega) h5
      (fun k hk => hw' k (List.mem_append_right _ (List.mem_append_right _ (List.mem_append_right _ hk)))) (fun m' cs' y hm' ht hwy => ih m' hm' cs' y ht hwy)
    have q0 := (List.cons.inj e0).1
    subst q0
    have q1 := (List.cons.inj e1).1
    subst q1
    have q2 := (List.cons.inj e2).1
    subst q2
    have q3 := (List.cons.inj e3).1
    subst q3
    have q4 := (List.cons.inj e4).1
    subst q4
    have q5 := (List.cons.inj e5).1
    subst q5
    refine ⟨V.mk k hf' s l ks vs, ?_⟩
    rw [Rd]
    refine ⟨A3, c3, A4, c4, A5, c5, rfl, hs, ⟨l3, Nat.le_trans l3 m3, RdL.of l 0 fun i v hv => ?_⟩, ⟨l4, Nat.le_trans l4 m4, fun i v hv => ?_⟩, ⟨l5, Nat.le_trans l5 m5, RdL.of vs 0 fun i v hv => ?_⟩⟩
    · obtain ⟨ad, cs', q1, q2, q3, _, q4⟩ := r3 i v hv
      rw [cellsV] at q4
      exact ⟨ad, cs', q1, q2, q3, fun j u hu => by rw [Nat.zero_add]; exact q4 j u hu⟩
    · obtain ⟨ad, cs', q1, q2, ⟨rfl, q3⟩, _, q4⟩ := r4 i v hv
      rw [cellsString] at q4
      refine ⟨q3, ad, q1, q2, ?_⟩
      have := q4 0 _ rfl
      rwa [Nat.mul_one, Nat.add_zero] at this
    · obtain ⟨ad, cs', q1, q2, q3, _, q4⟩ := r5 i v hv
      rw [cellsV] at q4
      exact ⟨ad, cs', q1, q2, q3, fun j u hu => by rw [Nat.zero_add]; exact q4 j u hu⟩

end
end Go.Proofs.YtpamlgdcnmcedaaGreatDoor
