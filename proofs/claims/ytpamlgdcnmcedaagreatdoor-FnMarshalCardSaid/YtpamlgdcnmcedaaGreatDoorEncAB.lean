/-
  The text of a list, written: its elements one behind the other.
-/
import Derived.Test.YtpamlgdcnmcedaaGreatDoorEncSB
import Derived.Test.YtpamlgdcnmcedaaGreatDoorJson
import Derived.Test.YtpamlgdcnmcedaaGreatDoorToGo
namespace Go.Proofs.YtpamlgdcnmcedaaGreatDoor
set_option linter.unusedVariables false
set_option linter.unusedSimpArgs false
open Go.RowKit

/-- encode writes the text of every right value of at most m parts. -/
def EncUpTo (m : Nat) : Prop := ∀ (x : V), V.cnt x ≤ m → x.good → ∀ (v : Value) (lo B b g : Nat) (l : List UInt8) (w : World), RdA w lo B x v → St w B b g l → Tabs w → 2 ≤ B → l.length + 40 * x.cnt + 6 * x.nb ≤ 1000000000 →
    Calls Tryz.prog 29 #[.pointer (some ⟨g, 0, none⟩), v] w (EncPost w B b g l (json x))

theorem V.nb_le_get : ∀ {l : List V} {i : Nat} {x : V}, l[i]? = some x → V.nb x ≤ V.nbL l
  | [], i, x, h => by simp at h
  | y :: ys, 0, x, h => by
    obtain rfl : y = x := by simpa using h
    rw [V.nbL]; omega
  | y :: ys, i + 1, x, h => by
    have := V.nb_le_get (l := ys) (i := i) (x := x) (by simpa using h)
    rw [V.nbL]; omega
theorem V.cntL_split (l : List V) (i : Nat) : V.cntL l = V.cntL (l.take i) + V.cntL (l.drop i) := by rw [← V.cntL_append, List.take_append_drop]
theorem V.nbL_split (l : List V) (i : Nat) : V.nbL l = V.nbL (l.take i) + V.nbL (l.drop i) := by rw [← V.nbL_append, List.take_append_drop]
theorem V.goodL_take {l : List V} (h : V.goodL l) (i : Nat) : V.goodL (l.take i) := by
  have := (V.goodL_append (l.take i) (l.drop i)).1 (by rw [List.take_append_drop]; exact h)
  exact this.1

/-- The list's text so far. -/
def headA (l : List UInt8) (l0 : List V) (i : Nat) : List UInt8 := l ++ 91 :: joined (jsonL (l0.take i))
theorem headA_room {l : List UInt8} {l0 : List V} {i : Nat} {x : V} (hg : V.goodL l0) (hx : l0[i]? = some x) (hz : l.length + 2 + 40 * V.cntL l0 + 6 * V.nbL l0 ≤ 1000000000) : (headA l l0 i).length + 1 + 40 * x.cnt + 6 * x.nb ≤ 1000000000 := by
  have h1 := jsonL_len _ (V.goodL_take hg i)
  have h2 := joined_len (jsonL (l0.take i))
  have h3 := V.cntL_snoc hx
  have h4 := V.nbL_snoc hx
  have h5 := V.cntL_split l0 (i + 1)
  have h6 := V.nbL_split l0 (i + 1)
  unfold headA
  rw [List.length_append, List.length_cons]
  omega
theorem headA_end {l : List UInt8} {l0 : List V} (hg : V.goodL l0) (hz : l.length + 2 + 40 * V.cntL l0 + 6 * V.nbL l0 ≤ 1000000000) : (headA l l0 l0.length).length + 1 ≤ 1000000000 := by
  have h1 := jsonL_len _ hg
  have h2 := joined_len (jsonL l0)
  unfold headA
  rw [List.take_length, List.length_append, List.length_cons]
  omega
theorem headA_first {l : List UInt8} {l0 : List V} {x : V} (hx : l0[0]? = some x) : headA l l0 0 ++ json x = headA l l0 1 := by
  unfold headA
  rw [take_snoc hx]
  simp [jsonL, joined]
theorem headA_next {l : List UInt8} {l0 : List V} {i : Nat} {x : V} (hx : l0[i]? = some x) (hi : 0 < i) : (headA l l0 i ++ [44]) ++ json x = headA l l0 (i + 1) := by
  have hne : jsonL (l0.take i) ≠ [] := by
    rw [jsonL_map]
    intro e
    have h1 := congrArg List.length e
    have h2 := (List.getElem?_eq_some_iff.1 hx).1
    rw [List.length_map, List.length_take, List.length_nil, Nat.min_eq_left (by omega)] at h1
    omega
  have e : jsonL (l0.take (i + 1)) = jsonL (l0.take i) ++ [json x] := by rw [take_snoc hx, jsonL_map, jsonL_map]; simp
  unfold headA
  rw [e, joined_next hne]
  simp

set_option maxHeartbeats 1600000 in
set_option maxRecDepth 100000 in
theorem encA_any (m : Nat) (ih : EncUpTo m) (l0 : List V) (hm : V.cntL l0 ≤ m) (hg : V.goodL l0) (A : Option Addr) (n c lo B b g : Nat) (l : List UInt8) (w : World) (hn : l0.length = n) (hr : RdAL w lo B A 0 l0) (hS : St w B b g l) (hT : Tabs w) (hB2 : 2 ≤ B) (hz : l.length + 2 + 40 * V.cntL l0 + 6 * V.nbL l0 ≤ 1000000000) (hnz : n ≤ 1000000000) :
    Calls Tryz.prog 49 #[.pointer (some ⟨g, 0, none⟩), .slice A n c] w (EncPost w B b g l (91 :: (joined (jsonL l0) ++ [93]))) := by
  obtain ⟨cs, hE⟩ := hS.enc
  have d0 := hE.c0
  unfold wVal at d0
  have CW := Sec.mk (st_byte 91 hS (by omega))
  have HN := Sec.mk hn
  have HR := Sec.mk hr
  have HT := Sec.mk hT
  have HG := Sec.mk (And.intro hg (And.intro hm hz))
  clear hS hE hn hr hT hg hm hz
  go_enter Tryz.func49, Tryz.ntmps49
  go_wp2_with fail
  refine CW.out.mono ?_
  rintro e w1 ⟨⟨v, rfl⟩, hS1, hk1⟩
  have HL0 := Sec.mk (show St w1 B b g (headA l l0 0) ∧ Kp B b g w w1 from ⟨by unfold headA; simpa [jsonL, joined] using hS1, hk1⟩)
  clear hS1 hk1 d0
  go_wp2_with fail
  go_loopw [4, 5, 13] (fun _ _ v13 wr => ∃ i : Nat, v13 = .int .i64 (i : Int) ∧ i ≤ n ∧ St wr B b g (headA l l0 i) ∧ Kp B b g w wr) (fun _ _ v13 _ => n - (intOf v13).toNat)
  case atStart => exact ⟨0, rfl, Nat.zero_le _, HL0.out⟩
  case round =>
    obtain ⟨i, rfl, hi, hs, hk⟩ := hrel
    obtain ⟨cs1, hE1⟩ := hs.enc
    have d0 := hE1.c0
    unfold wVal at d0
    have HS := Sec.mk hs
    have HK := Sec.mk hk
    clear hs hk hE1
    by_cases hin : i < n
    · obtain ⟨x, hx⟩ : ∃ x, l0[i]? = some x := ⟨l0[i]'(by rw [HN.out]; exact hin), by rw [List.getElem?_eq_getElem]⟩
      have hsm : SameIn lo B w wr := SameIn.of_same (Same.of_below HK.out.below)
      obtain ⟨ad, xi, e1, a1, a2, hxr, hc⟩ := RdAL.get l0 0 (RdAL.same hsm (Nat.le_refl _) (Nat.le_refl _) l0 A 0 HR.out) i x hx
      rw [Nat.zero_add] at hc
      subst e1
      have HX := Sec.mk hx
      have HXR := Sec.mk hxr
      have hro := headA_room HG.out.1 hx HG.out.2.2
      have hgx := V.goodL_get HG.out.1 hx
      have hcx : V.cnt x ≤ m := Nat.le_trans (V.cnt_le_get hx) HG.out.2.1
      clear hx hxr a1 a2 hsm
      have w2 : (0 : Int) ≤ i := by omega
      have w3 : (i : Int) < n := by omega
      by_cases h0 : i = 0
      · have t1 : decide ((i : Int) > 0) = false := decide_eq_false (by omega)
        have t2 : decide (0 < i) = false := decide_eq_false (by omega)
        have HZ := Sec.mk h0
        have CE := Sec.mk (ih x hcx hgx xi lo B b g _ wr HXR.out HS.out (HT.out.same (Same.of_below HK.out.below) hB2) hB2 (by omega))
        clear hro hgx hcx d0 h0
        go_wp2_with fail
        refine CE.out.mono ?_
        rintro e w3 ⟨⟨v3, rfl⟩, hs3, hk3⟩
        have HF := Sec.mk (show St w3 B b g (headA l l0 1) ∧ Kp B b g w w3 from ⟨by rw [← headA_first (by have := HX.out; rw [HZ.out] at this; exact this)]; rw [HZ.out] at hs3; exact hs3, HK.out.trans hk3⟩)
        clear hs3 hk3
        go_wp2_with fail
        go_roundw
        case rel => exact ⟨1, by rw [HZ.out]; rfl, by omega, HF.out⟩
        case measure => simp [intOf]; omega
      · have t1 : decide ((i : Int) > 0) = true := decide_eq_true (by omega)
        have t2 : decide (0 < i) = true := decide_eq_true (by omega)
        have CB := Sec.mk (st_byte 44 HS.out (by omega))
        have HRO := Sec.mk (And.intro hro (And.intro hgx hcx))
        have HZ := Sec.mk h0
        clear hro hgx hcx h0
        go_wp2_with fail
        refine CB.out.mono ?_
        rintro e w2 ⟨⟨v2, rfl⟩, hs2, hk2⟩
        have CE := Sec.mk (ih x HRO.out.2.2 HRO.out.2.1 xi lo B b g _ w2 (RdA.same (SameIn.of_same (Same.of_below hk2.below)) (Nat.le_refl _) (Nat.le_refl _) x xi HXR.out) hs2 (HT.out.same (Same.of_below (HK.out.trans hk2).below) hB2) hB2 (by have := HRO.out.1; rw [List.length_append]; simp only [List.length_cons, List.length_nil]; omega))
        have HK2 := Sec.mk (HK.out.trans hk2)
        clear hs2 hk2 d0
        go_wp2_with fail
        refine CE.out.mono ?_
        rintro e w3 ⟨⟨v3, rfl⟩, hs3, hk3⟩
        have HF := Sec.mk (show St w3 B b g (headA l l0 (i + 1)) ∧ Kp B b g w w3 from ⟨by rw [← headA_next HX.out (by have := HZ.out; omega)]; exact hs3, HK2.out.trans hk3⟩)
        clear hs3 hk3
        go_wp2_with fail
        go_roundw
        case rel => exact ⟨i + 1, by go_num, by omega, HF.out⟩
        case measure => simp [intOf]; omega
    · obtain rfl : i = n := by omega
      have CB := Sec.mk (st_byte 93 HS.out (by have := headA_end HG.out.1 HG.out.2.2; rw [HN.out] at this; exact this))
      go_wp2_with fail
      refine CB.out.mono ?_
      rintro e w2 ⟨⟨v2, rfl⟩, h2, k2⟩
      have FIN := Sec.mk (show EncPost w B b g l (91 :: (joined (jsonL l0) ++ [93])) (.returned (.tuple #[])) w2 from ⟨⟨_, rfl⟩, by
        have e1 : headA l l0 i ++ [93] = l ++ 91 :: (joined (jsonL l0) ++ [93]) := by
          unfold headA
          rw [← HN.out, List.take_length]
          simp
        rw [← e1]; exact h2, HK.out.trans k2⟩)
      clear h2 k2
      go_wp2_with fail
      go_end0
      exact FIN.out

end Go.Proofs.YtpamlgdcnmcedaaGreatDoor
