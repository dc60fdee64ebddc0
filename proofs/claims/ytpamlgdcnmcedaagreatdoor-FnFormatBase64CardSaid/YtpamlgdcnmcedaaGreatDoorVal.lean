/-
  (*looker).value: what it leaves of a value that is read.
-/
import Derived.Test.YtpamlgdcnmcedaaGreatDoorLk
import Derived.Test.YtpamlgdcnmcedaaGreatDoorGood
import Derived.Deep.DeepCutAuto
import Derived.Deep.CutBlock
import Derived.Deep.QuietTactic
import Derived.BigQuiet
import Derived.StillTailTactics
namespace Go.Proofs.YtpamlgdcnmcedaaGreatDoor
set_option linter.unusedVariables false
set_option linter.unusedSimpArgs false
open Go.RowKit

/-- What a value's look leaves: nothing but the looker has turned; where it is not bad the value is right and counted. -/
def ValPost (w : World) (g : Nat) (p q : Int) (bad : Bool) (x : V) (e : Ending) (w' : World) : Prop :=
  e = .returned (.tuple #[]) ∧ w.grownBy w' (some g) ∧ ∃ p' q' bad', Lk w' g p' q' bad' ∧
    (bad' = false → bad = false ∧ p' = p + x.cnt ∧ q' = q + x.nb ∧ p' ≤ 400 ∧ q' ≤ 2000 ∧ x.good)
/-- The shape, by the lengths. -/
def okA' (k h : Int) (t : ByteArray) (n3 n4 n5 : Nat) : Prop := 0 ≤ k ∧ k ≤ 6 ∧ (k = 3 ∨ h = 0) ∧ (k = 4 ∨ t.size = 0) ∧ (k = 5 ∨ n3 = 0) ∧ (k = 6 ∨ n4 = 0) ∧ n4 = n5
/-- The values so far, within a value. -/
def Sweep (w0 : World) (g : Nat) (p1 q1 : Int) (A : Prop) (l : List V) (k : Nat) (wr : World) : Prop :=
  w0.grownBy wr (some g) ∧ ∃ p' q' bad', Lk wr g p' q' bad' ∧ (bad' = false → A ∧ p' = p1 + V.cntL (l.take k) ∧ q' = q1 + V.nbL (l.take k) ∧ p' ≤ 400 ∧ q' ≤ 2000 ∧ V.goodL (l.take k))
/-- The entries so far, within a value. -/
def Sweep2 (w0 : World) (g : Nat) (p1 q1 : Int) (A : Prop) (ks : List ByteArray) (l : List V) (k : Nat) (wr : World) : Prop :=
  w0.grownBy wr (some g) ∧ ∃ p' q' bad', Lk wr g p' q' bad' ∧ (bad' = false → A ∧ p' = p1 + V.cntL (l.take k) ∧ q' = q1 + V.nbS (ks.take k) + V.nbL (l.take k) ∧ p' ≤ 400 ∧ q' ≤ 2000 ∧ V.goodL (l.take k) ∧ validS (ks.take k) ∧ rises (ks.take k))
theorem grown_drew {w w' : World} {r : Option Nat} (h : w.grownBy w' r) : w.grownBy w'.drew r := ⟨h.os, h.tape, h.output, h.size, h.block⟩
theorem RdS.cells {w : World} {B : Nat} {A : Option Addr} {ks : List ByteArray} {i : Nat} {k : ByteArray} (h : RdS w B A ks) (hk : ks[i]? = some k) :
    ∃ ad, A = some ad ∧ w.cell? (ad.add i) = some (.string k) ∧ k.size ≤ reach := by
  obtain ⟨hz, ad, e, _, hc⟩ := h i k hk
  exact ⟨ad, e, hc, hz⟩
theorem wpStill_skip {P : Program} {ops : Array Oper} {w : World} {Q : Act → Prop} {a : Act} {o : Oper} {rest : List Oper} (hw : Region.wanted o (yielded ops a.tmps) = false)
    (h : wpStill P ops w Q rest (a.put o.dst undef)) : wpStill P ops w Q (o :: rest) a := by
  simp only [wpStill, hw]; exact h
theorem ite_skip {c : Bool} {p q : Prop} (h : c = false) (hq : q) : if c = true then p else q := by rw [h]; exact hq
theorem wpStill_want {P : Program} {ops : Array Oper} {w : World} {Q : Act → Prop} {a : Act} {o : Oper} {rest : List Oper} (hw : Region.wanted o (yielded ops a.tmps) = true)
    (h : ∀ K : Act → Prop, (∀ a, wpStill P ops w Q rest a → K a) → o.still P a w K) : wpStill P ops w Q (o :: rest) a := by
  simp only [wpStill, hw]; exact h _ (fun _ h => h)
theorem add_succ (ad : Addr) (j : Nat) : ad.add (j + 1) = ⟨ad.block, ad.off + (j + 1), none⟩ := by
  unfold Addr.add; rw [if_neg (by omega)]
theorem size0 {t : ByteArray} (h : t.toList = []) : t.size = 0 := by
  rw [Lib.toList_data] at h
  rw [Lib.size_eq, h]
  rfl
/-- What holds behind the first look at the shape. -/
def AfterA (w : World) (g : Nat) (p q : Int) (A : Prop) (w' : World) : Prop :=
  w.grownBy w' (some g) ∧ ∃ bad', Lk w' g p q bad' ∧ (bad' = false → A)

theorem box_cells {w w' : World} {cs : Array Value} {T : TypeId} {g : Nat} (h : (w.alloc (.cells cs T)).grownBy w' (some g)) (hg : g < w.heap.size) :
    ∀ j v, cs[j]? = some v → w'.cell? ⟨w.heap.size, j, none⟩ = some v := by
  intro j v hj
  have hb := h.block w.heap.size (by simp) (fun e => by injection e with e; omega)
  have : w'.heap[w.heap.size]? = some (.cells cs T (0, 0)) := by rw [hb]; exact heap_alloc_new w _
  simp [World.cell?, this, hj]

set_option maxHeartbeats 1600000 in
set_option maxRecDepth 100000 in
theorem value_any (VS : ValidSaid) (n : Nat) : ∀ (x : V), V.cnt x ≤ n → ∀ (cs : List Value) (w : World) (B g : Nat) (p q deep : Int) (bad : Bool), Rd w B x cs → Lk w g p q bad → Tabs w → 2 ≤ B → B ≤ g →
    0 ≤ p → p ≤ 400 → 0 ≤ q → q ≤ 1000000000000000 → 0 ≤ deep → deep ≤ 61 →
    Calls Tryz.prog 13 #[.pointer (some ⟨g, 0, none⟩), .agg cs.toArray, .int .i64 deep] w (ValPost w g p q bad x) := by
  induction n with
  | zero => intro x hx; have := V.cnt_pos x; omega
  | succ n ih =>
    intro x hx cs w B g p q deep bad hr hl hT hB hBg hp0 hp1 hq0 hq1 hd0 hd1
    cases x with | mk k h t l ks vs =>
    have hr0 := hr
    rw [Rd] at hr
    obtain ⟨A3, c3, A4, c4, A5, c5, rfl, ht, ⟨l3, m3, r3⟩, ⟨l4, m4, r4⟩, ⟨l5, m5, r5⟩⟩ := hr
    clear hr0
    have IH := Lib.hid ih
    have hlt := hl.lt
    obtain ⟨n3, hn3⟩ : ∃ n, l.length = n := ⟨_, rfl⟩
    obtain ⟨n4, hn4⟩ : ∃ n, ks.length = n := ⟨_, rfl⟩
    obtain ⟨n5, hn5⟩ : ∃ n, vs.length = n := ⟨_, rfl⟩
    rw [hn3] at l3 m3
    rw [hn4] at l4 m4
    rw [hn5] at l5 m5
    rw [hn3, hn4, hn5]
    have hl1 : Lk (w.alloc (.cells [Value.int .i64 k, .int .i64 h, .string t, .slice A3 n3 c3, .slice A4 n4 c4, .slice A5 n5 c5].toArray 26)) g p q bad := hl.keep ((Below.refl _ _).alloc (Nat.le_refl _) _)
    obtain ⟨ok, hok⟩ : ∃ ok, ok = (decide (p + 1 ≤ 400) && decide (q ≤ 2000) && decide (deep ≤ 60)) := ⟨_, rfl⟩
    have cP := part_any _ g p q deep bad hl1 hp0 hp1 ok hok
    have hk : ok = true → p + 1 ≤ 400 ∧ q ≤ 2000 ∧ deep ≤ 60 := by
      intro e
      rw [e] at hok
      simpa [and_assoc] using hok.symm
    have CP := Lib.hid cP
    have HX := Lib.hid hx
    have HL := Lib.hid hl
    have HT := Lib.hid hT
    have HB := Lib.hid hB
    have HBg := Lib.hid hBg
    have R3 := Lib.hid r3
    have R4 := Lib.hid r4
    have R5 := Lib.hid r5
    have HLT := Lib.hid hlt
    have M : Hid (n3 ≤ reach ∧ n4 ≤ reach ∧ n5 ≤ reach ∧ t.size ≤ reach) := Lib.hid ⟨m3, m4, m5, ht⟩
    obtain ⟨w0, hw0⟩ : ∃ w0, w.alloc (.cells [Value.int .i64 k, .int .i64 h, .string t, .slice A3 n3 c3, .slice A4 n4 c4, .slice A5 n5 c5].toArray 26) = w0 := ⟨_, rfl⟩
    have hal : Below w.heap.size w w0 := by rw [← hw0]; exact (Below.refl _ _).alloc (Nat.le_refl _) _
    have hbx : ∀ w', w0.grownBy w' (some g) → _ := fun w' hg => box_cells (hw0 ▸ hg) hlt
    have HAL := Lib.hid hal
    have sb : ∀ w', w0.grownBy w' (some g) → Same B w w' := fun w' hg => ((Same.of_below hal).mono (by omega)).trans (same_grown hg hBg (Nat.lt_of_lt_of_le hlt hal.size))
    have SB := Lib.hid sb
    have HBX := Lib.hid hbx
    rw [hw0] at CP
    have hz3 : n3 ≤ 140737488351232 := m3
    have hz4 : n4 ≤ 140737488351232 := m4
    have hz5 : n5 ≤ 140737488351232 := m5
    have N3 := Sec.mk hn3
    have N4 := Sec.mk hn4
    have N5 := Sec.mk hn5
    clear hn3 hn4 hn5
    clear ih hl1 cP hx hl hT hB hBg r3 r4 r5 hlt m3 m4 m5 ht hok hal hbx sb
    by_cases hgo : bad = false ∧ ok = true
    · obtain ⟨rfl, rfl⟩ := hgo
      obtain ⟨hp2, hq2, hd2⟩ := hk rfl
      clear hk
      go_enter Tryz.func13, Tryz.ntmps13
      go_upto_region 2 with (go_at_call 24; refine CP.out.mono ?_; intro e w1 hw1; obtain ⟨rfl, hl1, hg1⟩ := hw1; have b0 := HBX.out w1 hg1 0 _ rfl; have b1 := HBX.out w1 hg1 1 _ rfl; have b2 := HBX.out w1 hg1 2 _ rfl; have b3 := HBX.out w1 hg1 3 _ rfl; have b4 := HBX.out w1 hg1 4 _ rfl; have b5 := HBX.out w1 hg1 5 _ rfl; have HL1 := Lib.hid hl1; have HG1 := Lib.hid hg1; clear hl1 hg1 CP)
      have cW : ∀ ok, Calls Tryz.prog 25 #[.pointer (some ⟨g, 0, none⟩), .bool ok] w1 (LkPost w1 g (p + 1) q (false || !ok)) := fun ok => want_any w1 g (p + 1) q false ok HL1.out
      have CW := Lib.hid cW
      clear cW
      go_cut [] (fun wx => AfterA w1 g (p + 1) q (okA' k h t n3 n4 n5) wx)
      case first =>
        --SLOW1
        go_wp2_with (go_at_call 25; refine (CW.out _).mono ?_; intro e w2 hw2; obtain ⟨rfl, hl2, hg2⟩ := hw2; have HL2 := Lib.hid hl2; have HG2 := Lib.hid hg2; clear hl2 hg2)
        all_goals
          subst_vars
          go_meet
          refine ⟨HG2.out, _, HL2.out, fun hb => ?_⟩
          simp at hb
        all_goals exact ⟨by omega, by omega, by omega, by first | omega | exact .inr (size0 (by assumption)), by omega, by omega, by omega⟩
        --ENDSLOW1
      case rest =>
        obtain ⟨hg2, bad2, hl2, ha2⟩ := hcut
        have HG2 := Lib.hid (HG1.out.trans hg2)
        have HL2 := Lib.hid hl2
        have HA2 := Lib.hid ha2
        have b0 := HBX.out wc HG2.out 0 _ rfl
        have b1 := HBX.out wc HG2.out 1 _ rfl
        have b2 := HBX.out wc HG2.out 2 _ rfl
        have b3 := HBX.out wc HG2.out 3 _ rfl
        have b4 := HBX.out wc HG2.out 4 _ rfl
        have b5 := HBX.out wc HG2.out 5 _ rfl
        clear hg2 hl2 ha2 CW HL1 HG1
        have cW : ∀ ok, Calls Tryz.prog 25 #[.pointer (some ⟨g, 0, none⟩), .bool ok] wc (LkPost wc g (p + 1) q (bad2 || !ok)) := fun ok => want_any wc g (p + 1) q bad2 ok HL2.out
        have CW := Lib.hid cW
        clear cW
        go_upto_region 3 with fail
        go_cut [] (fun wx => AfterA wc g (p + 1) q (okA' k h t n3 n4 n5 ∧ okB h) wx)
        case first =>
          --SLOW2
          go_wp2_with (go_at_call 25; refine (CW.out _).mono ?_; intro e w2 hw2; obtain ⟨rfl, hl2, hg2⟩ := hw2; have HL3 := Lib.hid hl2; have HG3 := Lib.hid hg2; clear hl2 hg2)
          all_goals
            go_meet
            refine ⟨HG3.out, _, HL3.out, fun hb => ?_⟩
            simp at hb
          all_goals refine ⟨HA2.out ?_, ?_⟩
          all_goals first | (first | exact hb | exact hb.1) | exact ⟨by omega, by omega, by first | exact .inl (by assumption) | exact .inr ⟨by assumption, hb.2 (by assumption)⟩ | exact .inl hb.2⟩
          --ENDSLOW2
        case rest =>
        obtain ⟨hg3, bad3, hl3, ha3⟩ := hcut
        have HG3 := Lib.hid (HG2.out.trans hg3)
        have HL3 := Lib.hid hl3
        have HA3 := Lib.hid ha3
        clear hg3 hl3 ha3 CW HL2 HG2 HA2
        rename_i wb _ _
        clear b0 b1 b2 b3 b4 b5
        have b0 := HBX.out wc HG3.out 0 _ rfl
        have b1 := HBX.out wc HG3.out 1 _ rfl
        have b2 := HBX.out wc HG3.out 2 _ rfl
        have b3 := HBX.out wc HG3.out 3 _ rfl
        have b4 := HBX.out wc HG3.out 4 _ rfl
        have b5 := HBX.out wc HG3.out 5 _ rfl
        obtain ⟨ok4, hok4⟩ : ∃ ok, ok = (decide (q + t.size ≤ 2000) && Lib.validD t.data.toList) := ⟨_, rfl⟩
        have cS := str_any VS wc g (p + 1) q bad3 t HL3.out (HT.out.same (SB.out wc HG3.out) HB.out) (Nat.le_trans HB.out HBg.out) hq0 hq1 M.out.2.2.2 ok4 hok4
        have CS := Lib.hid cS
        have HOK4 := Sec.mk hok4
        clear cS hok4
        go_upto_block 0 with (go_at_call 26; refine CS.out.mono ?_; intro e w4 hw4; obtain ⟨rfl, hl4, hg4⟩ := hw4; have HL4 := Lib.hid hl4; have HG4 := Lib.hid (HG3.out.trans hg4); clear hl4 hg4)
        go_cut [] (fun wx => Sweep w0 g (p + 1) (q + t.size) (bad3 = false ∧ ok4 = true) l n3 wx)
        case first =>
          --SLOW3
          clear CS HL3
          go_wp2_with fail
          go_loopw [6] (fun v6 wr => ∃ i : Nat, v6 = .int .i64 i ∧ i ≤ n3 ∧ Sweep w0 g (p + 1) (q + t.size) (bad3 = false ∧ ok4 = true) l i wr) (fun v6 _ => n3 - (intOf v6).toNat)
          case atStart =>
            refine ⟨0, rfl, Nat.zero_le _, HG4.out, _, _, _, HL4.out, fun hb => ?_⟩
            have hb' : bad3 = false ∧ ok4 = true := by simpa using hb
            have hq := HOK4.out
            rw [hb'.2] at hq
            have hq' : q + t.size ≤ 2000 := by
              have := hq.symm
              simp only [Bool.and_eq_true, decide_eq_true_eq] at this
              exact this.1
            exact ⟨hb', by simp [V.cntL], by simp [V.nbL], hp2, hq', by simp [V.goodL]⟩
          case round =>
            obtain ⟨i, rfl, hi, hg5, p5, q5, bad5, hl5, hs5⟩ := hrel
            have HG5 := Lib.hid hg5
            have HL5 := Lib.hid hl5
            have HS5 := Lib.hid hs5
            have d2 := hl5.c2
            clear b0 b1 b2 b3 b4 b5
            have b3 := HBX.out wr hg5 3 _ rfl
            clear hg5 hl5 hs5
            by_cases hend : i < n3 ∧ bad5 = false
            · obtain ⟨hin, rfl⟩ := hend
              obtain ⟨x, hx⟩ : ∃ x, l[i]? = some x := ⟨l[i]'(by rw [N3.out]; exact hin), by simp [N3.out, hin]⟩
              obtain ⟨ad, k', h', t', A3', n3', c3', A4', n4', c4', A5', n5', c5', e3, hrx, e0, e1, e2, e3', e4, e5⟩ := RdL.cells (RdL.same (SB.out wr HG5.out) l A3 0 R3.out) hx
              subst e3
              obtain ⟨s1, s2, s3, s4, s5, s6⟩ := HS5.out rfl
              have hcx : V.cnt x ≤ n := by
                have h1 := V.cnt_le_get hx
                have h2 := HX.out
                rw [V.cnt] at h2
                omega
              have cV := IH.out x hcx _ wr B g p5 q5 (deep + 1) false hrx HL5.out (HT.out.same (SB.out wr HG5.out) HB.out) HB.out HBg.out (by omega) s4 (by omega) (by omega) (by omega) (by omega)
              have CV := Lib.hid cV
              have HX2 := Lib.hid hx
              have HRX := Lib.hid hrx
              clear cV hrx s1 s2 s3 s4 s5 s6 hx
              go_wp2_with (go_at_call 13; refine CV.out.mono ?_; intro e w6 hw6; obtain ⟨rfl, hg6, p6, q6, bad6, hl6, hs6⟩ := hw6; have HG6 := Lib.hid hg6; have HL6 := Lib.hid hl6; have HS6 := Lib.hid hs6; clear hg6 hl6 hs6)
              go_roundw
              case rel =>
                refine ⟨i + 1, by go_num, by omega, HG5.out.trans HG6.out, p6, q6, bad6, HL6.out, fun hb => ?_⟩
                obtain ⟨s1, s2, s3, s4, s5, s6⟩ := HS5.out (by trivial)
                obtain ⟨_, t2, t3, t4, t5, t6⟩ := HS6.out hb
                refine ⟨s1, ?_, ?_, t4, t5, (V.goodL_snoc HX2.out).2 ⟨s6, t6⟩⟩
                · rw [V.cntL_snoc HX2.out]; omega
                · rw [V.nbL_snoc HX2.out]; omega
              case measure => simp [intOf]; omega
            · have hb : decide (i < n3) = false ∨ bad5 = true := by
                rcases Nat.lt_or_ge i n3 with h1 | h1
                · exact .inr (by cases bad5; exact absurd ⟨h1, rfl⟩ hend; rfl)
                · exact .inl (decide_eq_false (by omega))
              have HE := Sec.mk hb
              have hend' : i < n3 → bad5 = true := fun hlt => by cases bad5; exact absurd ⟨hlt, rfl⟩ hend; rfl
              have HEND := Sec.mk hend'
              clear hend hb hend'
              by_cases hin : i < n3
              · obtain rfl : bad5 = true := HEND.out hin
                go_wp2
                go_meet
                exact ⟨HG5.out, p5, q5, true, HL5.out, fun hb => by cases hb⟩
              · go_wp2
                go_meet
                obtain rfl : i = n3 := by omega
                exact ⟨HG5.out, p5, q5, bad5, HL5.out, HS5.out⟩
          --ENDSLOW3
        case rest =>
        clear CS HL3 HL4 HG4
        have HC1 := Sec.mk hcut
        clear hcut
        have fin : ∀ (i : Nat) (wx : World), (i = n4 ∨ ∃ p' q', Lk wx g p' q' true) → Sweep2 w0 g (p + 1 + V.cntL l) (q + t.size + V.nbL l) ((bad3 = false ∧ ok4 = true) ∧ V.goodL l) ks vs i wx → ValPost w g p q false (V.mk k h t l ks vs) (.returned (.tuple #[])) wx := by
          intro i wx hcase hsw
          obtain ⟨hg5, p5, q5, bad5, hl5, hs5⟩ := hsw
          refine ⟨rfl, World.grownBy.trans (grown_some HAL.out g) hg5, p5, q5, bad5, hl5, fun hb => ?_⟩
          subst hb
          rcases hcase with hi | ⟨p', q', ht⟩
          · obtain ⟨⟨⟨s1, s1'⟩, s1''⟩, s2, s3, s4, s5, s6, s7, s8⟩ := hs5 rfl
            obtain ⟨hA, hB'⟩ := HA3.out s1
            have hA' : okA k h t l ks vs := by
              obtain ⟨a1, a2, a3, a4, a5, a6, a7⟩ := hA
              exact ⟨a1, a2, a3, a4, by rw [N3.out]; exact a5, by rw [N4.out]; exact a6, by rw [N4.out, N5.out]; exact a7⟩
            have e45 : vs.length = n4 := by rw [N5.out]; exact hA.2.2.2.2.2.2.symm
            have eT : vs.take i = vs := List.take_of_length_le (by omega)
            have eK : ks.take i = ks := List.take_of_length_le (by rw [N4.out]; omega)
            rw [eT] at s2 s3 s6
            rw [eK] at s3 s7 s8
            have hok := HOK4.out
            rw [s1'] at hok
            have hvt : Lib.validD t.data.toList = true := by
              have := hok.symm
              simp only [Bool.and_eq_true] at this
              exact this.2
            refine ⟨rfl, ?_, ?_, s4, s5, hA', hB', hvt, s1'', s7, s8, s6⟩
            · rw [V.cnt]; omega
            · rw [V.nb]; omega
          · unfold Lk at hl5 ht
            rw [ht] at hl5
            simp at hl5
        have FIN := Sec.mk fin
        clear fin
        go_wp2_with fail
        go_loopw [7] (fun v7 wr => ∃ i : Nat, v7 = .int .i64 i ∧ i ≤ n4 ∧ Sweep2 w0 g (p + 1 + V.cntL l) (q + t.size + V.nbL l) ((bad3 = false ∧ ok4 = true) ∧ V.goodL l) ks vs i wr) (fun v7 _ => n4 - (intOf v7).toNat)
        case atStart =>
          obtain ⟨hg5, p5, q5, bad5, hl5, hs5⟩ := HC1.out
          refine ⟨0, rfl, Nat.zero_le _, hg5, p5, q5, bad5, hl5, fun hb => ?_⟩
          obtain ⟨s1, s2, s3, s4, s5, s6⟩ := hs5 hb
          rw [List.take_of_length_le (by rw [N3.out]; omega)] at s2 s3 s6
          exact ⟨⟨s1, s6⟩, by simp [V.cntL, s2], by simp [V.nbL, V.nbS, s3], s4, s5, by simp [V.goodL], by simp [validS], by simp [rises]⟩
        case round =>
          clear HC1
          obtain ⟨i, rfl, hi, hg5, p5, q5, bad5, hl5, hs5⟩ := hrel
          have HG5 := Lib.hid hg5
          have HL5 := Lib.hid hl5
          have HS5 := Sec.mk hs5
          have d2 := hl5.c2
          clear b0 b1 b2 b3 b4 b5
          have b4 := HBX.out wr hg5 4 _ rfl
          clear hg5 hl5 hs5
          by_cases hend : i < n4 ∧ bad5 = false
          · obtain ⟨hin, rfl⟩ := hend
            obtain ⟨ky, hky⟩ : ∃ x, ks[i]? = some x := ⟨ks[i]'(by rw [N4.out]; exact hin), by simp [N4.out, hin]⟩
            obtain ⟨ad, e4, hcy, hzy⟩ := RdS.cells (R4.out.same (SB.out wr HG5.out)) hky
            subst e4
            obtain ⟨s1, s2, s3, s4, s5, s6, s7, s8⟩ := HS5.out rfl
            obtain ⟨ok6, hok6⟩ : ∃ ok, ok = (decide (q5 + ky.size ≤ 2000) && Lib.validD ky.data.toList) := ⟨_, rfl⟩
            have cS := str_any VS wr g p5 q5 false ky HL5.out (HT.out.same (SB.out wr HG5.out) HB.out) (Nat.le_trans HB.out HBg.out) (by omega) (by omega) hzy ok6 hok6
            have CS := Lib.hid cS
            have HOK6 := Sec.mk hok6
            have HKY := Sec.mk hky
            have hn5 : n5 = n4 := by
              obtain ⟨a1, a2, a3, a4, a5, a6, a7⟩ := (HA3.out s1.1.1).1
              exact a7.symm
            have HN5 := Sec.mk hn5
            have P5 := Sec.mk (show 0 ≤ p5 ∧ p5 ≤ 400 ∧ 0 ≤ q5 ∧ q5 ≤ 2000 from ⟨by omega, s4, by omega, s5⟩)
            clear cS hok6 s1 s2 s3 s4 s5 s6 s7 s8 hky hn5
            go_upto_region 13 with (go_at_call 26; refine CS.out.mono ?_; intro e w6 hw6; obtain ⟨rfl, hl6, hg6⟩ := hw6; have HL6 := Lib.hid hl6; have HG6 := Lib.hid (HG5.out.trans hg6); clear hl6 hg6)
            have hcy6 := HBX.out w6 HG6.out 4 _ rfl
            have hk6 := (R4.out.same (SB.out w6 HG6.out))
            obtain ⟨ad', e4', hcy6', _⟩ := RdS.cells hk6 HKY.out
            obtain rfl : ad = ad' := by injection e4'
            have HK6 := Sec.mk hk6
            clear hk6 b4 hcy d2 e4'
            have cW : ∀ (w7 : World) (ok : Bool), Lk w7 g p5 (q5 + ky.size) (!ok6) → Calls Tryz.prog 25 #[.pointer (some ⟨g, 0, none⟩), .bool ok] w7 (LkPost w7 g p5 (q5 + ky.size) (!ok6 || !ok)) := fun w7 ok h7 => want_any w7 g p5 (q5 + ky.size) (!ok6) ok h7
            have CW := Sec.mk cW
            clear cW
            go_cut [] (fun wx => w0.grownBy wx (some g) ∧ ∃ bad7, Lk wx g p5 (q5 + ky.size) bad7 ∧ (bad7 = false → ok6 = true ∧ ∀ a b, 0 < i → ks[i - 1]? = some a → ks[i]? = some b → sLess a b = true))
            case first =>
              by_cases hi0 : i = 0
              · subst hi0
                refine wp_region_still_tail 17 (by kernel_rfl) (by kernel_rfl) ?_
                simp only [List.take_succ_cons, List.take_zero, List.drop_succ_cons, List.drop_zero]
                iterate 4 still_step
                iterate 12 ((with_reducible refine wpStill_skip ?hh ?_); (case hh => kernel_rfl); simp only [Act.put, List.setIfInBounds_toArray, List.set_cons_zero, List.set_cons_succ])
                still_step
                refine wpStill_nil ?_
                obtain ⟨wd, hwd⟩ : ∃ wd, w6.drew = wd := ⟨_, rfl⟩
                have hld : Lk wd g p5 (q5 + ky.size) (!ok6) := by rw [← hwd]; exact HL6.out
                have hgd : w0.grownBy wd (some g) := by rw [← hwd]; exact grown_drew HG6.out
                change wpList _ _ _ _ _ w6.drew
                rw [hwd]
                have HLD := Sec.mk hld
                have HGD := Sec.mk hgd
                clear hld hgd hwd
                go_wp2_with (go_at_call 25; refine (CW.out _ _ HLD.out).mono ?_; intro e w7 hw7; obtain ⟨rfl, hl7, hg7⟩ := hw7; have HL7 := Lib.hid hl7; have HG7 := Lib.hid (HGD.out.trans hg7); clear hl7 hg7)
                (try go_meet)
                exact ⟨HG7.out, _, HL7.out, fun hb => ⟨by simpa using hb, fun a b h0 => absurd h0 (by omega)⟩⟩
              · obtain ⟨j, rfl⟩ : ∃ j, i = j + 1 := ⟨i - 1, by omega⟩
                obtain ⟨kz, hkz⟩ : ∃ x, ks[j]? = some x := ⟨ks[j]'(by rw [N4.out]; omega), by rw [List.getElem?_eq_getElem]⟩
                obtain ⟨adz, ez, hcz, _⟩ := RdS.cells HK6.out hkz
                obtain rfl : ad = adz := by injection ez
                have HKZ := Sec.mk hkz
                clear hkz ez
                have hcy7 : w6.cell? ⟨ad.block, ad.off + (j + 1), none⟩ = some (.string ky) := by rw [← add_succ]; exact hcy6'
                clear hcy6'
                have hw1 : IntKind.i64.wrap (j : Int) = j := IntWalk.i64_in _ (by omega)
                have hw2 : (0 : Int) ≤ j := by omega
                have hw3 : (j : Int) < n4 := by omega
                have hw4 : (j : Int) + 1 < n4 := by omega
                have hw5 : (0 : Int) ≤ (j : Int) + 1 := by omega
                have hw6 : ((j : Int) + 1).toNat = j + 1 := by omega
                refine wp_region_still_tail 17 (by kernel_rfl) (by kernel_rfl) ?_
                simp only [List.take_succ_cons, List.take_zero, List.drop_succ_cons, List.drop_zero]
                iterate 4 still_step
                iterate 12 ((with_reducible refine wpStill_want ?hh (fun K hK => ?_)); (case hh => kernel_rfl); go_simp; refine hK _ ?_; clear hK K)
                still_step
                refine wpStill_nil ?_
                clear hw1 hw2 hw3 hw4 hw5 hw6
                obtain ⟨wd, hwd⟩ : ∃ wd, w6.drew = wd := ⟨_, rfl⟩
                have hld : Lk wd g p5 (q5 + ky.size) (!ok6) := by rw [← hwd]; exact HL6.out
                have hgd : w0.grownBy wd (some g) := by rw [← hwd]; exact grown_drew HG6.out
                change wpList _ _ _ _ _ w6.drew
                rw [hwd]
                have HLD := Sec.mk hld
                have HGD := Sec.mk hgd
                clear hld hgd hwd
                go_wp2_with (go_at_call 25; refine (CW.out _ _ HLD.out).mono ?_; intro e w7 hw7; obtain ⟨rfl, hl7, hg7⟩ := hw7; have HL7 := Lib.hid hl7; have HG7 := Lib.hid (HGD.out.trans hg7); clear hl7 hg7)
                go_meet
                refine ⟨HG7.out, _, HL7.out, fun hb => ?_⟩
                have hb' : ok6 = true ∧ Op.bytesLess kz.toList ky.toList = true := by
                  have h' := hb
                  simp at h'
                  exact ⟨h'.1, h'.2 (by omega)⟩
                refine ⟨hb'.1, fun a b _ ha hb2 => ?_⟩
                rw [Nat.add_sub_cancel, HKZ.out] at ha
                rw [HKY.out] at hb2
                cases ha
                cases hb2
                unfold sLess
                rw [← Lib.toList_data, ← Lib.toList_data]
                exact hb'.2
            case rest =>
              obtain ⟨hg7, bad7, hl7, hs7⟩ := hcut
              have HG7 := Lib.hid hg7
              have HL7 := Lib.hid hl7
              have HS7 := Sec.mk hs7
              clear hcy6 hcy6' HL6 HG6 CS HK6 CW
              have b5 := HBX.out wc hg7 5 _ rfl
              clear hg7 hl7 hs7
              obtain ⟨x, hx⟩ : ∃ x, vs[i]? = some x := ⟨vs[i]'(by rw [N5.out, HN5.out]; exact hin), by rw [List.getElem?_eq_getElem]⟩
              obtain ⟨ad5, k', h', t', A3', n3', c3', A4', n4', c4', A5', n5', c5', e3, hrx, e0, e1, e2, e3', e4, e5⟩ := RdL.cells (RdL.same (SB.out wc HG7.out) vs A5 0 R5.out) hx
              subst e3
              have hcx : V.cnt x ≤ n := by
                have h1 := V.cnt_le_get hx
                have h2 := HX.out
                rw [V.cnt] at h2
                omega
              have hin5 : i < n5 := by rw [HN5.out]; exact hin
              have hky5 : ky.size ≤ 140737488351232 := hzy
              have cV := IH.out x hcx _ wc B g p5 (q5 + ky.size) (deep + 1) bad7 hrx HL7.out (HT.out.same (SB.out wc HG7.out) HB.out) HB.out HBg.out P5.out.1 P5.out.2.1 (by have := P5.out.2.2.1; omega) (by have := P5.out.2.2.2; omega) (by omega) (by omega)
              have CV := Lib.hid cV
              have HX2 := Sec.mk hx
              clear cV hrx hx hzy hky5 hcx
              go_wp2_with (go_at_call 13; refine CV.out.mono ?_; intro e w8 hw8; obtain ⟨rfl, hg8, p8, q8, bad8, hl8, hs8⟩ := hw8; have HG8 := Lib.hid hg8; have HL8 := Lib.hid hl8; have HS8 := Sec.mk hs8; clear hg8 hl8 hs8)
              go_roundw
              case rel =>
                refine ⟨i + 1, by go_num, by omega, HG7.out.trans HG8.out, p8, q8, bad8, HL8.out, fun hb => ?_⟩
                obtain ⟨s1, s2, s3, s4, s5, s6, s7, s8⟩ := HS5.out (by trivial)
                obtain ⟨t1, t2, t3, t4, t5, t6⟩ := HS8.out hb
                obtain ⟨u1, u2⟩ := HS7.out t1
                have hok := HOK6.out
                rw [u1] at hok
                have hvk : Lib.validD ky.data.toList = true := by
                  have := hok.symm
                  simp only [Bool.and_eq_true] at this
                  exact this.2
                refine ⟨s1, ?_, ?_, t4, t5, (V.goodL_snoc HX2.out).2 ⟨s6, t6⟩, (validS_snoc HKY.out).2 ⟨s7, hvk⟩, rises_snoc s8 u2⟩
                · rw [V.cntL_snoc HX2.out]; omega
                · rw [V.nbL_snoc HX2.out, V.nbS_snoc HKY.out]; omega
              case measure => simp [intOf]; omega
          · have hend' : i < n4 → bad5 = true := fun hlt => by cases bad5; exact absurd ⟨hlt, rfl⟩ hend; rfl
            have HEND := Sec.mk hend'
            clear hend hend'
            by_cases hin : i < n4
            · obtain rfl : bad5 = true := HEND.out hin
              go_wp2
              go_end0
              exact FIN.out i _ (.inr ⟨p5, q5, HL5.out⟩) ⟨HG5.out, p5, q5, true, HL5.out, HS5.out⟩
            · go_wp2
              go_end0
              exact FIN.out i _ (.inl (by omega)) ⟨HG5.out, p5, q5, bad5, HL5.out, HS5.out⟩
    · have hk' : (bad || !ok) = true := by
        cases bad <;> cases ok <;> simp at hgo ⊢
      rw [hk'] at CP
      clear hgo hk hk'
      go_enter Tryz.func13, Tryz.ntmps13
      go_wp2_with (go_at_call 24; refine CP.out.mono ?_; intro e w1 hw1; obtain ⟨rfl, hl1, hg1⟩ := hw1; have HL1 := Lib.hid hl1; have HG1 := Lib.hid hg1; clear hl1 hg1 CP)
      (try simp only [Exit.inBlock, Exit.then])
      refine bodyPost_ret (results_none rfl _ _ _) rfl ?_
      exact ⟨rfl, World.grownBy.trans (grown_some HAL.out g) HG1.out, _, _, _, HL1.out, fun hb => by cases hb⟩

end Go.Proofs.YtpamlgdcnmcedaaGreatDoor
