/-
  laws.FnTransposeThrice at whatever rows, where fromGo reads right values back.
-/
import Derived.Test.YtpamlgdcnmcedaaDoorTpDoor
import Derived.Test.YtpamlgdcnmcedaaDoorFine
import Derived.Test.YtpamlgdcnmcedaaDoorCmp
import Derived.Test.YtpamlgdcnmcedaaDoorZzs
import Derived.Deep.AppendLies
namespace Go.Proofs.YtpamlgdcnmcedaaDoor
set_option linter.unusedVariables false
set_option linter.unusedSimpArgs false
open Go.RowKit

set_option maxHeartbeats 800000 in
set_option maxRecDepth 100000 in
theorem array_said (A : Option Addr) (n c : Nat) (w : World) : Calls Tryd.prog 12 #[.slice A n c] w fun e w' => e = .returned (.agg #[.int .i64 5, .int .i64 0, .string ⟨#[]⟩, .slice A n c, .slice none 0 0, .slice none 0 0]) ∧ Below w.heap.size w w' := by
  go_enter Tryd.func12, Tryd.ntmps12
  go_wp2
  exact bodyPost_ret (v := .agg #[.int .i64 5, .int .i64 0, .string ⟨#[]⟩, .slice A n c, .slice none 0 0, .slice none 0 0]) (by simp [results, Tryd.results12, go_sem]) rfl ⟨rfl, (Below.refl _ _).alloc (Nat.le_refl _) _⟩

set_option maxHeartbeats 1600000 in
set_option maxRecDepth 100000 in
theorem fits_any (VS : ValidSaid) (l : List V) (A : Option Addr) (n c B : Nat) (w : World) (hn : l.length = n) (hz : n ≤ 1000000) (h1 : RdL w B A 0 l) (hT : Tabs w) (hB2 : 2 ≤ B) (hB : B ≤ w.heap.size) :
    Calls Tryd.prog 13 #[.slice A n c] w (TellsB w (∀ (j : Nat) (x : V), l[j]? = some x → Fits x)) := by
  have HN := Sec.mk hn
  have H1 := Sec.mk h1
  have HB := Sec.mk hB
  have HB2 := Sec.mk hB2
  have HT := Sec.mk hT
  clear hn h1 hB hB2 hT
  go_enter Tryd.func13, Tryd.ntmps13
  go_wp2_with fail
  go_loopw [4, 7] (fun _ v7 wr => ∃ i : Nat, v7 = .int .i64 i ∧ i ≤ n ∧ Below w.heap.size w wr ∧ ∀ (j : Nat) (x : V), j < i → l[j]? = some x → Fits x) (fun _ v7 _ => n - (intOf v7).toNat)
  case atStart => exact ⟨0, rfl, Nat.zero_le _, Below.refl _ _, fun j x hj => by omega⟩
  case round =>
    obtain ⟨i, rfl, hi, hb, hd⟩ := hrel
    have BL := Sec.mk hb
    have HD := Sec.mk hd
    clear hb hd
    by_cases hin : i < n
    · obtain ⟨x, hx⟩ : ∃ x, l[i]? = some x := ⟨l[i]'(by rw [HN.out]; exact hin), by rw [List.getElem?_eq_getElem]⟩
      have hsm := (Same.of_below BL.out).mono HB.out
      obtain ⟨ad, k', h', t', A3', n3', c3', A4', n4', c4', A5', n5', c5', e1, hr1, a0, a1, a2, a3, a4, a5⟩ := RdL.cells (RdL.same hsm l A 0 H1.out) hx
      subst e1
      have hal : Below wr.heap.size wr (wr.alloc (.cells #[.int .i64 k', .int .i64 h', .string t', .slice A3' n3' c3', .slice A4' n4' c4', .slice A5' n5' c5'] 26)) := (Below.refl _ _).alloc (Nat.le_refl _) _
      have cF := fit_any VS x _ _ B (Rd.same ((Same.of_below hal).mono (Nat.le_trans HB.out BL.out.size)) x _ hr1) (HT.out.same (Same.of_below (below_then BL.out hal)) (Nat.le_trans HB2.out HB.out)) HB2.out (Nat.le_trans HB.out (below_then BL.out hal).size)
      have CF := Sec.mk cF
      have HX := Sec.mk hx
      have HAL := Sec.mk hal
      clear hx hsm hr1 cF hal
      go_wp2_with fail
      refine CF.out.mono ?_
      intro e w1 hw1
      obtain ⟨b, rfl, hf, hb1⟩ := hw1
      have HB1 := Sec.mk (below_then HAL.out hb1)
      have HF := Sec.mk hf
      clear hb1 hf
      cases b
      · go_wp2
        go_ret
        exact ⟨false, rfl, (fun h => by cases h), below_then BL.out HB1.out⟩
      · have fin : Below w.heap.size w w1 ∧ ∀ (j : Nat) (x : V), j < i + 1 → l[j]? = some x → Fits x := by
          refine ⟨below_then BL.out HB1.out, fun j y hj hy => ?_⟩
          by_cases hji : j = i
          · subst hji
            have e : y = x := by have := HX.out; rw [hy] at this; injection this
            subst e
            exact HF.out rfl
          · exact HD.out j y (by omega) hy
        have FIN := Sec.mk fin
        clear fin
        go_wp2
        go_roundw
        case rel => exact ⟨i + 1, by go_num, by omega, FIN.out⟩
        case measure => simp [intOf]; omega
    · go_wp2
      go_ret
      exact ⟨true, rfl, fun _ j x hx => HD.out j x (by have := (List.getElem?_eq_some_iff.1 hx).1; rw [HN.out] at this; omega) hx, BL.out⟩

/-- Rows of values as they lie. -/
def RdRows (w : World) (B : Nat) (A : Option Addr) (m : List (List V)) : Prop := ∀ i r, m[i]? = some r → ∃ ad A' c', A = some ad ∧ ad.block < B ∧ w.cell? (ad.add i) = some (.slice A' r.length c') ∧ r.length ≤ c' ∧ r.length ≤ reach ∧ RdL w B A' 0 r
/-- A list of values: its cells. -/
theorem rdF_list {w w' : World} {B : Nat} {r : List V} {A : Option Addr} {c : Nat} (h1 : r.length ≤ c) (h2 : r.length ≤ reach) (h3 : RdL w B A 0 r) (hs : Same B w w') : RdF w' 0 B (listV r) [.int .i64 5, .int .i64 0, .string ⟨#[]⟩, .slice A r.length c, .slice none 0 0, .slice none 0 0] := by
  intro w'' hs'
  unfold listV
  rw [Rd]
  exact ⟨A, c, none, 0, none, 0, rfl, by decide, ⟨h1, h2, RdL.same (hs.trans fun b hb => hs' b (Nat.zero_le _) hb) _ _ _ h3⟩, ⟨Nat.le_refl _, by decide, fun i k hk => by simp at hk⟩, ⟨Nat.le_refl _, by decide, by rw [RdL]; trivial⟩⟩
theorem Rd.list_form {w : World} {B : Nat} {l : List V} {cs : List Value} (h : Rd w B (listV l) cs) : ∃ A c A4 c4 A5 c5, cs = [.int .i64 5, .int .i64 0, .string ⟨#[]⟩, .slice A l.length c, .slice A4 0 c4, .slice A5 0 c5] := by
  unfold listV at h
  rw [Rd] at h
  obtain ⟨A3, c3, A4, c4, A5, c5, e, _⟩ := h
  exact ⟨_, _, _, _, _, _, e⟩
theorem small_of {m : List (List V)} (h : Fits (matV m)) : Small m := by
  obtain ⟨hg, hc, hnb⟩ := h
  have hg1 := good_list_inv (l := m.map listV) hg
  have hc' : 1 + V.cntL (m.map listV) ≤ 400 := by
    have : (matV m).cnt = 1 + V.cntL (m.map listV) := cnt_list _
    omega
  have hrow : ∀ r ∈ m, 1 + V.cntL r ≤ V.cntL (m.map listV) := by
    intro r hr
    obtain ⟨i, hi⟩ := List.getElem?_of_mem hr
    have h1 := V.cnt_le_get (l := m.map listV) (i := i) (x := listV r) (by rw [List.getElem?_map, hi]; rfl)
    rw [cnt_list] at h1
    exact h1
  refine ⟨?_, fun r hr => ?_, fun r hr x hx => ?_, fun r hr x hx => ?_, fun r hr x hx => ?_⟩
  · have := V.length_le_cntL (m.map listV)
    rw [List.length_map] at this
    omega
  · have := V.length_le_cntL r
    have := hrow r hr
    omega
  · obtain ⟨j, hj⟩ := List.getElem?_of_mem hx
    have := V.cnt_le_get hj
    have := hrow r hr
    omega
  · exact good_list_inv (hg1 (listV r) (List.mem_map.2 ⟨r, hr, rfl⟩)) x hx
  · have h1 : (matV m).nb = V.nbL (m.map listV) := nb_list _
    have h2 := nb_le_mem (l := m.map listV) (List.mem_map.2 ⟨r, hr, rfl⟩)
    rw [nb_list] at h2
    have h3 := nb_le_mem hx
    omega

/-- The next row behind the ones so far. -/
theorem tp_next {w w1 w3 : World} {o : Obj} {g' cap i B : Nat} {A' : Option Addr} {c' : Nat} {m : List (List V)} {r : List V} {xs cs : List Value} (hb : Below w.heap.size w w1) (hrow : VRow (w1.alloc o) w.heap.size 0 (.slice A' i c') ((m.take i).map listV) xs) (hl : ((m.take i).map listV).length = i) (hnext : (m.take (i + 1)).map listV = (m.take i).map listV ++ [listV r])
    (hf : RdF (w1.alloc o) 0 B (listV r) cs) (hB : B ≤ w.heap.size) (ho : w3.ownsRow w.heap.size 26 6 (.slice (some ⟨g', 0, none⟩) (i + 1) cap) (i + 1) (xs ++ cs)) (hg : (w1.alloc o).grownBy w3 (Value.slice A' i c').ownBlock) (hat : (Value.slice A' i c').ownBlock = some g' ∨ g' = w1.heap.size + 1) :
    Below w.heap.size w w3 ∧ VRow w3 w.heap.size 0 (.slice (some ⟨g', 0, none⟩) (i + 1) cap) ((m.take (i + 1)).map listV) (xs ++ cs) := by
  have hs := hb.size
  refine ⟨(hb.alloc hb.size _).grown hg (by simp; omega) (fun k e => (hrow.1.1.lt k e).1), ?_⟩
  have hc : VCell (w1.alloc o) 0 (.slice A' i c') (listV r) cs := ⟨0, B, Nat.le_refl _, by simp; omega, fun g e => .inr (by have := (hrow.1.1.lt g e).1; omega), hf⟩
  have h := hrow.grow hc (by rw [hl]; exact ho) hg (by rw [World.size_alloc]; exact hat)
  rw [hl, ← hnext] at h
  exact h

set_option maxHeartbeats 800000 in
set_option maxRecDepth 100000 in
theorem fnTranspose_long (A0 : Option Addr) (n0 c0 : Nat) (w : World) (hs : 2147483647 < n0) : Calls Tryd.prog 4 #[.slice A0 n0 c0] w (Yes w) := by
  have d1 : decide ((2147483647 : Int) < n0) = true := decide_eq_true (by omega)
  clear hs
  go_enter Tryd.func4, Tryd.ntmps4
  go_wp2
  go_ret
  exact ⟨rfl, Below.refl _ _⟩

set_option maxHeartbeats 3200000 in
set_option maxRecDepth 100000 in
theorem fnTranspose_walk (VS : ValidSaid) (FG : FromGoUpTo 1000000000) (m : List (List V)) (A0 : Option Addr) (n0 c0 : Nat) (w : World) (B : Nat) (hr : RdRows w B A0 m) (hn : m.length = n0) (hz : n0 ≤ 2147483647) (hT : Tabs w) (hB2 : 2 ≤ B) (hB : B ≤ w.heap.size) :
    Calls Tryd.prog 4 #[.slice A0 n0 c0] w (Yes w) := by
  obtain ⟨i0, hi0, hz0, hz1, hz2⟩ := info_parts infoV
  have d1 : decide ((2147483647 : Int) < n0) = false := decide_eq_false (by omega)
  have HR := Sec.mk (And.intro hr (And.intro hn (And.intro hT (And.intro hB2 hB))))
  clear hr hn hT hB2 hB
  go_enter Tryd.func4, Tryd.ntmps4
  go_wp2_with fail
  go_loopw [3, 5, 14] (fun v3 _ v14 wr => ∃ (i : Nat) (xs : List Value), v14 = .int .i64 i ∧ i ≤ n0 ∧ Below w.heap.size w wr ∧ VRow wr w.heap.size 0 v3 ((m.take i).map listV) xs) (fun _ _ v14 _ => n0 - (intOf v14).toNat)
  case atStart => exact ⟨0, [], rfl, Nat.zero_le _, Below.refl _ _, VRow.nil _ (Nat.zero_le _)⟩
  case round =>
    obtain ⟨i, xs, rfl, hi, hb, hrow⟩ := hrel
    have hlen : ((m.take i).map listV).length = i := by rw [List.length_map, List.length_take, HR.out.2.1]; omega
    obtain ⟨A', c', rfl, hc', _⟩ := hrow.read
    have hrow0 := hrow
    rw [hlen]
    rw [hlen] at hrow
    have BL := Sec.mk hb
    have ROW := Sec.mk hrow
    have HL := Sec.mk hlen
    by_cases hin : i < n0
    · obtain ⟨r, hrr⟩ : ∃ r, m[i]? = some r := ⟨m[i]'(by rw [HR.out.2.1]; exact hin), by rw [List.getElem?_eq_getElem]⟩
      obtain ⟨ad, Ar, cr, rfl, hadb, hcell, hr1, hr2, hr3⟩ := HR.out.1 i r hrr
      obtain ⟨n, hn⟩ : ∃ n, r.length = n := ⟨_, rfl⟩
      rw [hn] at hcell
      have hcw : wr.cell? (ad.add i) = some (.slice Ar n cr) := (((Same.of_below hb).mono HR.out.2.2.2.2).cell hadb i).trans hcell
      have hnext : (m.take (i + 1)).map listV = (m.take i).map listV ++ [listV r] := by rw [List.take_add_one, hrr, List.map_append]; rfl
      have NX := Sec.mk hnext
      have NR := Sec.mk (And.intro hr1 (And.intro hr2 (And.intro hr3 hn)))
      clear hb hrow hrow0 hlen hrr hcell hr1 hr2 hr3 hn hnext hadb
      go_wp2_with fail
      refine (array_said Ar n cr _).mono ?_
      intro e w1 hw1
      obtain ⟨rfl, hb1⟩ := hw1
      have hrow1 := ROW.out.later hb1
      have own1 := hrow1.1.1
      rw [HL.out] at own1
      have hf := rdF_list (w' := w1.alloc (.cells #[.int .i64 5, .int .i64 0, .string ⟨#[]⟩, .slice Ar n cr, .slice none 0 0, .slice none 0 0] 26)) NR.out.1 NR.out.2.1 NR.out.2.2.1 ((Same.of_below ((below_then BL.out hb1).alloc (below_then BL.out hb1).size _)).mono HR.out.2.2.2.2)
      rw [NR.out.2.2.2] at hf
      have hbs : w.heap.size ≤ w1.heap.size := Nat.le_trans BL.out.size hb1.size
      have BB := HR.out.2.2.2.2
      have hrow2 : VRow (w1.alloc (.cells #[.int .i64 5, .int .i64 0, .string ⟨#[]⟩, .slice Ar n cr, .slice none 0 0, .slice none 0 0] 26)) w.heap.size 0 (.slice A' i c') ((m.take i).map listV) xs := hrow1.later ((Below.refl _ _).alloc (Nat.le_refl _) _)
      have B1 := Sec.mk (below_then BL.out hb1)
      have OWN1 := Sec.mk own1
      have ROW2 := Sec.mk hrow2
      have SF := Sec.mk hf
      have HBS := Sec.mk hbs
      have HBB := Sec.mk BB
      have NW := Sec.mk (World.news_of_block (heap_alloc_new w1 (.cells #[.int .i64 5, .int .i64 0, .string ⟨#[]⟩, .slice Ar n cr, .slice none 0 0, .slice none 0 0] 26)))
      have NB : Sec (i + 1 ≤ maxLen ∧ (i + 1) * 104 ≤ 140737488355328) := ⟨by unfold maxLen; omega, by omega⟩
      clear hb1 hrow1 own1 hf hbs BB hrow2
      go_wp2_with (at_builtin; refine wpList_append_lies _ rfl _ _ 23 rfl w.heap.size 26 i0 _ 6 104 Tryd.underlying23 hi0 hz0 hz1 hz2 rfl (by decide) (.slice A' i c') i xs rfl (World.ownsRow.alloc OWN1.out _) ⟨w1.heap.size, 0, none⟩ 1 1 [.int .i64 5, .int .i64 0, .string ⟨#[]⟩, .slice Ar n cr, .slice none 0 0, .slice none 0 0] rfl rfl NW.out one_six (by decide) NB.out.1 NB.out.2 (by rw [World.size_alloc]; exact Nat.le_succ_of_le HBS.out) (w1.heap.size + 1) (World.size_alloc _ _) ?_; intro g' cap w3 ho3 hg3 hat hlt; have FIN := Sec.mk (tp_next B1.out ROW2.out HL.out NX.out SF.out HBB.out ho3 hg3 hat); clear ho3 hg3 hat hlt)
      go_roundw
      case rel => exact ⟨i + 1, _, by go_num, by omega, FIN.out.1, FIN.out.2⟩
      case measure => simp [intOf]; omega
    · obtain rfl : n0 = i := by omega
      have e0 : m.take n0 = m := List.take_of_length_le (by rw [HR.out.2.1]; exact Nat.le_refl _)
      have hrf := hrow0.rdF (by rw [hlen]; unfold reach; omega)
      rw [hlen, e0] at hrf
      have RF := Sec.mk hrf
      clear hb hrow hrow0 hlen hrf e0 hc'
      go_wp2_with fail
      refine (array_said A' n0 c' _).mono ?_
      intro e w1 hw1
      obtain ⟨rfl, hb1⟩ := hw1
      have B1 := Sec.mk hb1
      clear hb1
      obtain ⟨w2, hw2⟩ : ∃ w2, w1.alloc (.cells #[.int .i64 5, .int .i64 0, .string ⟨#[]⟩, .slice A' n0 c', .slice none 0 0, .slice none 0 0] 26) = w2 := ⟨_, rfl⟩
      have hb2 : Below w1.heap.size w1 w2 := by rw [← hw2]; exact (Below.refl _ _).alloc (Nat.le_refl _) _
      have hp : ∀ j u, #[.int .i64 5, .int .i64 0, .string ⟨#[]⟩, .slice A' n0 c', .slice none 0 0, .slice none 0 0][j]? = some u → w2.cell? ⟨w1.heap.size, j, none⟩ = some u := by rw [← hw2]; exact box_after w1 _ _ _ (Below.refl _ _)
      have hlt2 : w1.heap.size < w2.heap.size := by rw [← hw2]; simp
      have bw2 := below_then B1.out hb2
      have hRL : RdL w2 w2.heap.size (some ⟨w1.heap.size, 0, none⟩) 0 [matV m] := by
        rw [RdL]
        refine ⟨⟨_, [.int .i64 5, .int .i64 0, .string ⟨#[]⟩, .slice A' n0 c', .slice none 0 0, .slice none 0 0], rfl, hlt2, Rd.mono bw2.size _ _ (RF.out w2 (SameIn.of_same (Same.of_below bw2))), fun j u hu => ?_⟩, by rw [RdL]; trivial⟩
        rw [add_plain, Nat.zero_mul, Nat.zero_add]
        exact hp j u (by simpa using hu)
      have bww := BL.out.trans (bw2.mono BL.out.size)
      have cF := fits_any VS [matV m] (some ⟨w1.heap.size, 0, none⟩) 1 1 w2.heap.size w2 rfl (by omega) hRL (HR.out.2.2.1.same (Same.of_below bww) (Nat.le_trans HR.out.2.2.2.1 HR.out.2.2.2.2)) (Nat.le_trans HR.out.2.2.2.1 (Nat.le_trans HR.out.2.2.2.2 bww.size)) (Nat.le_refl _)
      have CF := Sec.mk cF
      have BW2 := Sec.mk bw2
      clear hb2 hp hlt2 bw2 hRL bww cF
      go_wp2_with fail
      clear hw2
      refine CF.out.mono ?_
      intro e w3 hw3
      obtain ⟨b, rfl, hf, hb3⟩ := hw3
      have BW3 := Sec.mk (below_then BW2.out hb3)
      have HF := Sec.mk hf
      clear hb3 hf
      cases b
      · go_wp2
        go_ret
        exact ⟨rfl, BL.out.trans (BW3.out.mono BL.out.size)⟩
      have hsm := small_of (HF.out rfl 0 (matV m) rfl)
      have SM := Sec.mk hsm
      clear hsm
      go_wp2_with fail
      refine (array_said A' n0 c' _).mono ?_
      intro e w4 hw4
      obtain ⟨rfl, hb4⟩ := hw4
      have bw4 := below_then BW3.out hb4
      have c1 := transposeDoor FG m [.int .i64 5, .int .i64 0, .string ⟨#[]⟩, .slice A' n0 c', .slice none 0 0, .slice none 0 0] w4 wr.heap.size (RF.out w4 (SameIn.of_same (Same.of_below bw4))) bw4.size SM.out
      have C1 := Sec.mk c1
      have BW4 := Sec.mk bw4
      clear hb4 bw4 c1
      go_wp2_with fail
      refine C1.out.mono ?_
      intro e w5 hw5
      obtain ⟨cs, rfl, hf5, hb5⟩ := hw5
      obtain ⟨P1, q1, R1, s1, T1, u1, rfl⟩ := Rd.list_form hf5.rd
      obtain ⟨l, hl⟩ : ∃ l, ((tr m).map listV).length = l := ⟨_, rfl⟩
      rw [hl] at hf5
      rw [hl]
      have BW5 := Sec.mk (below_then BW4.out hb5)
      have bz5 : Below w5.heap.size w5 (w5.alloc (.cells #[.int .i64 5, .int .i64 0, .string ⟨#[]⟩, .slice P1 l q1, .slice R1 0 s1, .slice T1 0 u1, .int .i64 0] 30)) := (Below.refl _ _).alloc (Nat.le_refl _) _
      have c2 := transposeDoor FG (tr m) [.int .i64 5, .int .i64 0, .string ⟨#[]⟩, .slice P1 l q1, .slice R1 0 s1, .slice T1 0 u1] (w5.alloc (.cells #[.int .i64 5, .int .i64 0, .string ⟨#[]⟩, .slice P1 l q1, .slice R1 0 s1, .slice T1 0 u1, .int .i64 0] 30)) w5.heap.size (Rd.same (Same.of_below bz5) _ _ hf5.rd) bz5.size SM.out.tr
      have Z5 := Sec.mk (C7.new w5 w5.heap.size #[.int .i64 5, .int .i64 0, .string ⟨#[]⟩, .slice P1 l q1, .slice R1 0 s1, .slice T1 0 u1, .int .i64 0] rfl)
      have C2 := Sec.mk c2
      have BZ5 := Sec.mk bz5
      have F5 := Sec.mk hf5.rd
      have HLL := Sec.mk hl
      clear hb5 hf5 c2 bz5 hl
      go_wp2_with fail
      refine C2.out.mono ?_
      intro e w6 hw6
      obtain ⟨cs, rfl, hf6, hb6⟩ := hw6
      obtain ⟨P2, q2, R2, s2, T2, u2, rfl⟩ := Rd.list_form hf6.rd
      obtain ⟨k, hk⟩ : ∃ k, ((tr (tr m)).map listV).length = k := ⟨_, rfl⟩
      rw [hk] at hf6
      rw [hk]
      have Z6' := Sec.mk (Z5.out.keep hb6)
      have BW6 := Sec.mk (below_then (below_then BW5.out BZ5.out) hb6)
      have B56 := Sec.mk (below_then BZ5.out hb6)
      have bz6 : Below w6.heap.size w6 (w6.alloc (.cells #[.int .i64 5, .int .i64 0, .string ⟨#[]⟩, .slice P2 k q2, .slice R2 0 s2, .slice T2 0 u2, .int .i64 0] 30)) := (Below.refl _ _).alloc (Nat.le_refl _) _
      have c3 := transposeDoor FG (tr (tr m)) [.int .i64 5, .int .i64 0, .string ⟨#[]⟩, .slice P2 k q2, .slice R2 0 s2, .slice T2 0 u2] (w6.alloc (.cells #[.int .i64 5, .int .i64 0, .string ⟨#[]⟩, .slice P2 k q2, .slice R2 0 s2, .slice T2 0 u2, .int .i64 0] 30)) w6.heap.size (Rd.same (Same.of_below bz6) _ _ hf6.rd) bz6.size SM.out.tr.tr
      have Y6 := Sec.mk (C7.new w6 w6.heap.size #[.int .i64 5, .int .i64 0, .string ⟨#[]⟩, .slice P2 k q2, .slice R2 0 s2, .slice T2 0 u2, .int .i64 0] rfl)
      have C3 := Sec.mk c3
      have BZ6 := Sec.mk bz6
      have HKK := Sec.mk hk
      clear hb6 hf6 c3 bz6 hk
      go_wp2_with fail
      refine C3.out.mono ?_
      intro e w7 hw7
      obtain ⟨cs, rfl, hf7, hb7⟩ := hw7
      rw [tr_thrice] at hf7
      obtain ⟨P3, q3, R3, s3, T3, u3, rfl⟩ := Rd.list_form hf7.rd
      rw [HLL.out] at hf7
      rw [HLL.out]
      have b67 := below_then BZ6.out hb7
      have b57 := below_then B56.out b67
      have z7 := Z6'.out.keep b67
      have y7 := Y6.out.keep hb7
      have B57 := Sec.mk b57
      have BW7 := Sec.mk (below_then BW6.out b67)
      have e0 := z7.cell 0 _ rfl
      have e1 := z7.cell 1 _ rfl
      have e2 := z7.cell 2 _ rfl
      have e3 := z7.cell 3 _ rfl
      have e4 := z7.cell 4 _ rfl
      have e5 := z7.cell 5 _ rfl
      have e6 := z7.cell 6 _ rfl
      have f0 := y7.cell 0 _ rfl
      have f1 := y7.cell 1 _ rfl
      have f2 := y7.cell 2 _ rfl
      have f3 := y7.cell 3 _ rfl
      have f4 := y7.cell 4 _ rfl
      have f5 := y7.cell 5 _ rfl
      have f6 := y7.cell 6 _ rfl
      have lt5 := z7.lt
      have lt6 := y7.lt
      have bz7 : Below w7.heap.size w7 (w7.alloc (.cells #[.int .i64 5, .int .i64 0, .string ⟨#[]⟩, .slice P3 l q3, .slice R3 0 s3, .slice T3 0 u3, .int .i64 0] 30)) := (Below.refl _ _).alloc (Nat.le_refl _) _
      have b58 := below_then b57 bz7
      have cG : Calls Tryd.prog 10 #[.agg #[.int .i64 5, .int .i64 0, .string ⟨#[]⟩, .slice P3 l q3, .slice R3 0 s3, .slice T3 0 u3, .int .i64 0], .agg #[.int .i64 5, .int .i64 0, .string ⟨#[]⟩, .slice P1 l q1, .slice R1 0 s1, .slice T1 0 u1]] (w7.alloc (.cells #[.int .i64 5, .int .i64 0, .string ⟨#[]⟩, .slice P3 l q3, .slice R3 0 s3, .slice T3 0 u3, .int .i64 0] 30)) (Yes (w7.alloc (.cells #[.int .i64 5, .int .i64 0, .string ⟨#[]⟩, .slice P3 l q3, .slice R3 0 s3, .slice T3 0 u3, .int .i64 0] 30))) :=
        given_self (matV (tr m)) [.int .i64 5, .int .i64 0, .string ⟨#[]⟩, .slice P3 l q3, .slice R3 0 s3, .slice T3 0 u3] [.int .i64 5, .int .i64 0, .string ⟨#[]⟩, .slice P1 l q1, .slice R1 0 s1, .slice T1 0 u1] _ _ (Rd.mono bz7.size _ _ (Rd.same (Same.of_below bz7) _ _ hf7.rd)) (Rd.mono b58.size _ _ (Rd.same (Same.of_below b58) _ _ F5.out)) (Nat.le_refl _)
      have CG := Sec.mk cG
      have Z7' := Sec.mk (z7.old (.cells #[.int .i64 5, .int .i64 0, .string ⟨#[]⟩, .slice P3 l q3, .slice R3 0 s3, .slice T3 0 u3, .int .i64 0] 30))
      have Y7 := Sec.mk (y7.old (.cells #[.int .i64 5, .int .i64 0, .string ⟨#[]⟩, .slice P3 l q3, .slice R3 0 s3, .slice T3 0 u3, .int .i64 0] 30))
      have BZ7 := Sec.mk (below_then BW7.out bz7)
      clear hb7 hf7 b67 b57 z7 y7 bz7 b58 cG
      go_wp2_with fail
      refine CG.out.mono ?_
      intro e w9 hw9
      obtain ⟨rfl, hb9⟩ := hw9
      have g3 := (Z7'.out.keep hb9).cell 3 _ rfl
      have h3 := (Y7.out.keep hb9).cell 3 _ rfl
      have BW9 := Sec.mk (below_then BZ7.out hb9)
      have hlw : l = width m := by rw [← HLL.out, List.length_map, tr_length]
      have hkw : width m ≠ 0 → k = n0 := fun h => by rw [← HKK.out, List.length_map, tr_twice_length m h, HR.out.2.1]
      clear hb9 e0 f0 e1 f1 e2 f2 e3 f3 e4 f4 e5 f5 e6 f6 lt5 lt6
      by_cases hl0 : l = 0
      · have d2 : ((l : Int) == 0) = true := by simp [hl0]
        clear hlw hkw hl0
        go_wp2
        go_ret
        exact ⟨rfl, BL.out.trans (BW9.out.mono BL.out.size)⟩
      · have d2 : ((l : Int) == 0) = false := by simp; omega
        have d3 : ((k : Int) == (n0 : Int)) = true := by
          have := hkw (by omega)
          simp [this]
        clear hlw hkw hl0
        go_wp2
        go_ret
        exact ⟨rfl, BL.out.trans (BW9.out.mono BL.out.size)⟩

theorem fnTranspose_all (VS : ValidSaid) (FG : FromGoUpTo 1000000000) (m : List (List V)) (A0 : Option Addr) (n0 c0 : Nat) (w : World) (B : Nat) (hr : RdRows w B A0 m) (hn : m.length = n0) (hz : n0 ≤ reach) (hT : Tabs w) (hB2 : 2 ≤ B) (hB : B ≤ w.heap.size) :
    Calls Tryd.prog 4 #[.slice A0 n0 c0] w (Yes w) := by
  by_cases h : n0 ≤ 2147483647
  · exact fnTranspose_walk VS FG m A0 n0 c0 w B hr hn h hT hB2 hB
  · exact fnTranspose_long A0 n0 c0 w (by omega)

end Go.Proofs.YtpamlgdcnmcedaaDoor
