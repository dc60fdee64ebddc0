/-
  spec.String and spec.Format at base64. laws.control: it ends, with a boolean. laws.formatted at base64: what the door gives is what spec.Format says, where it speaks. laws.FnFormatBase64: the walk.
-/
import Derived.Test.YtpamlgdcnmcedaaGreatDoorJsS
import Derived.Test.YtpamlgdcnmcedaaGreatDoorPk
import Derived.Test.YtpamlgdcnmcedaaGreatDoorDoor64S
import Derived.Test.YtpamlgdcnmcedaaGreatDoorFit
import Derived.Test.YtpamlgdcnmcedaaGreatDoorUpD
import Derived.Deep.DeepCutAuto
import Derived.Deep.CutBlock
import Derived.Deep.CutRange
import Derived.Deep.RegionWith
import Derived.BigRegion
import Derived.Test.YtpamlgdcnmcedaaGreatDoorFine
namespace Go.Proofs.YtpamlgdcnmcedaaGreatDoor
set_option linter.unusedVariables false
set_option linter.unusedSimpArgs false
open Go.RowKit

set_option maxHeartbeats 800000 in
set_option maxRecDepth 100000 in
theorem string_any (x : V) (hf : Fits x) (cs : List Value) (w : World) (B : Nat) (hr : Rd w B x cs) (hB : B ≤ w.heap.size) :
    Calls Tryz.prog 33 #[.agg cs.toArray] w (JsIs (textV x) w) := by
  have cJ : ∀ W, Below w.heap.size w W → Calls Tryz.prog 8 #[.agg cs.toArray] W (JsIs (json x) W) := fun W hb =>
    js_any x hf cs W B (Rd.same ((Same.of_below hb).mono hB) x cs hr) (Nat.le_trans hB hb.size)
  cases x with
  | mk k h t l ks vs =>
  rw [Rd] at hr
  obtain ⟨A3, c3, A4, c4, A5, c5, rfl, _⟩ := hr
  have CJ := Sec.mk cJ
  clear cJ hf hB
  obtain ⟨n3, hn3⟩ : ∃ n, l.length = n := ⟨_, rfl⟩
  obtain ⟨n4, hn4⟩ : ∃ n, ks.length = n := ⟨_, rfl⟩
  obtain ⟨n5, hn5⟩ : ∃ n, vs.length = n := ⟨_, rfl⟩
  rw [hn3, hn4, hn5] at CJ
  rw [hn3, hn4, hn5]
  clear hn3 hn4 hn5
  by_cases e4 : k = 4
  · have HT : Sec (textV (.mk k h t l ks vs) = t.data.toList) := ⟨if_pos e4⟩
    subst e4
    clear CJ
    go_enter Tryz.func33, Tryz.ntmps33
    go_wp2_with fail
    go_ret2
    exact ⟨_, 0, rfl, ⟨fun _ => HT.out.symm, by decide⟩, (Below.refl _ _).alloc (Nat.le_refl _) _⟩
  · have HT : Sec (textV (.mk k h t l ks vs) = json (.mk k h t l ks vs)) := ⟨if_neg e4⟩
    have k4 : (k == 4) = false := by simp [e4]
    obtain ⟨T, hTx⟩ : ∃ T, json (.mk k h t l ks vs) = T := ⟨_, rfl⟩
    rw [HT.out, hTx]
    rw [hTx] at CJ
    clear e4 HT hTx
    go_enter Tryz.func33, Tryz.ntmps33
    go_wp2_with fail
    refine (CJ.out _ ((Below.refl _ _).alloc (Nat.le_refl _) _)).mono ?_
    rintro e w1 ⟨o, how, rfl, h1, hb⟩
    have H1 := Sec.mk h1
    have HB := Sec.mk (show Below w.heap.size w w1 from below_then' ((Below.refl _ _).alloc (Nat.le_refl _) _) hb)
    clear h1 hb
    go_wp2_with fail
    go_ret2
    exact ⟨o, how, rfl, H1.out, HB.out⟩

set_option maxHeartbeats 1600000 in
set_option maxRecDepth 100000 in
theorem format_any (x : V) (hf : Fits x) (cs : List Value) (w : World) (B : Nat) (hr : Rd w B x cs) (hB : B ≤ w.heap.size) :
    Calls Tryz.prog 18 #[.string ⟨#[98, 97, 115, 101, 54, 52]⟩, .agg cs.toArray] w (JsIs (b64 (textV x)) w) := by
  have cS : ∀ W, Below w.heap.size w W → Calls Tryz.prog 33 #[.agg cs.toArray] W (JsIs (textV x) W) := fun W hb =>
    string_any x hf cs W B (Rd.same ((Same.of_below hb).mono hB) x cs hr) (Nat.le_trans hB hb.size)
  have hl := textV_len hf
  obtain ⟨k, h, t, A3, n3, c3, A4, n4, c4, A5, n5, c5, rfl⟩ := hr.form
  obtain ⟨T, hTx⟩ : ∃ T, textV x = T := ⟨_, rfl⟩
  rw [hTx] at cS hl
  rw [hTx]
  have CS := Sec.mk cS
  have HL := Sec.mk hl
  clear cS hl hTx hr hB hf
  go_enter Tryz.func18, Tryz.ntmps18
  go_wp2_with fail
  refine (CS.out _ ((Below.refl _ _).alloc (Nat.le_refl _) _)).mono ?_
  rintro e w1 ⟨o, how, rfl, h1, hb⟩
  have H1 := Sec.mk h1
  have HB := Sec.mk (show Below w.heap.size w w1 from below_then' ((Below.refl _ _).alloc (Nat.le_refl _) _) hb)
  clear h1 hb
  by_cases hh : how = 0
  · subst hh
    have ho := H1.out.1 rfl
    have CP := Sec.mk (packed_any o w1 (by have := size_of ho; have := HL.out; omega))
    rw [ho] at CP
    clear ho
    go_wp2_with fail
    refine CP.out.mono ?_
    rintro e w2 ⟨rfl, hw2⟩
    obtain rfl : w1 = w2 := hw2.symm
    go_wp2_with fail
    go_ret2
    exact ⟨_, 0, rfl, ⟨fun _ => rfl, by decide⟩, HB.out⟩
  · have t1 : (how != 0) = true := by simp [hh]
    have HH := Sec.mk hh
    clear hh
    go_wp2_with fail
    go_ret2
    exact ⟨_, how, rfl, ⟨fun e => absurd e HH.out, H1.out.2⟩, HB.out⟩

end Go.Proofs.YtpamlgdcnmcedaaGreatDoor

namespace Go.Proofs.YtpamlgdcnmcedaaGreatDoor
set_option linter.unusedVariables false
set_option linter.unusedSimpArgs false
open Go.RowKit

theorem wpList_append_zero {P : Program} {w : World} {ops : Array Oper} {rest : List Oper} {o : Oper} {a : Act} {Q : Exit → Act → World → Prop} (hgd : o.guard = none) (s x : Operand) (t : TypeId)
    (ho : o.op = .call { callee := .builtin .append, args := #[s, x], argTypes := #[t, t] }) (e : TypeId) (i : TypeInfo) (ht : P.underlying t = some (.slice e)) (hi : P.info? e = some i)
    (a0 : Addr) (m cap c : Nat) (A : Option Addr) (hs : a.eval s = .slice (some a0) m cap) (hx : a.eval x = .slice A 0 c) (hm : m ≤ cap)
    (h : wpList P ops Q rest (a.put o.dst (.slice (some a0) m cap)) w) : wpList P ops Q (o :: rest) a w := by
  refine wpList_plain hgd fun K hK => ?_
  have hr := run_append_zero w t o.type e i ht hi a0 m cap c A hm
  unfold Oper.wp execOp
  simp only [ho, resolve, invoke, builtin, Sem.run_bind, Sem.run_pure, Result.andThen_ok, List.map_toArray, List.map_cons, List.map_nil, hs, hx, hr]
  exact hK _ _ h
theorem infoS8 : (Tryz.prog.info? 9).map (fun i => (i.zero, i.size, i.bytes)) = some (some (.string ⟨#[]⟩), 1, 16) := by kernel_rfl
theorem ownG_cap {w : World} {base e size g n cap : Nat} {xs : List Value} (h : w.ownsRow base e size (.slice (some ⟨g, 0, none⟩) n cap) n xs) : n ≤ cap := by
  rcases h.2 with ⟨h', _⟩ | ⟨g', cap', cur, h', _, _, hc, _⟩
  · cases h'
  · injection h' with _ _ h3
    rw [h3]; exact hc
/-- A row of strings. -/
def StrRow (w : World) (v : Value) (n : Nat) : Prop := ∃ a cap, v = .slice (some a) n cap ∧ n ≤ cap ∧ ∀ j, j < n → ∃ s : ByteArray, s.size ≤ reach ∧ w.cell? (a.add j) = some (.string s)
theorem StrRow.keep {w w' : World} {v : Value} {n : Nat} (h : StrRow w v n) (hb : Below w.heap.size w w') : StrRow w' v n := by
  obtain ⟨a, cap, h1, h2, h3⟩ := h
  refine ⟨a, cap, h1, h2, fun j hj => ?_⟩
  obtain ⟨s, hs, hc⟩ := h3 j hj
  exact ⟨s, hs, (hb.cell (p := a.add j) (World.block_lt_of_cell? w _ hc)).trans hc⟩

/-- control at every value of at most m parts. -/
def CtlUpTo (m : Nat) : Prop := ∀ (x : V), V.cnt x ≤ m → x.good → ∀ (cs : List Value) (w : World) (B : Nat), Rd w B x cs → B ≤ w.heap.size → Calls Tryz.prog 19 #[.agg cs.toArray] w (SomeBoolB w)

set_option maxHeartbeats 6400000 in
set_option maxRecDepth 100000 in
theorem ctl_step (m : Nat) (ih : CtlUpTo m) (k h : Int) (t : ByteArray) (l : List V) (ks : List ByteArray) (vs : List V) (hm3 : V.cntL l ≤ m) (hm5 : V.cntL vs ≤ m) (hg3 : V.goodL l) (hg5 : V.goodL vs) (hm : m ≤ 1000000) (hks : ks.length ≤ 1000000) (cs : List Value) (w : World) (B : Nat) (hr : Rd w B (.mk k h t l ks vs) cs) (hB : B ≤ w.heap.size) :
    Calls Tryz.prog 19 #[.agg cs.toArray] w (SomeBoolB w) := by
  rw [Rd] at hr
  obtain ⟨A3, c3, A4, c4, A5, c5, rfl, ht, ⟨m3, -, r3⟩, ⟨m4, -, r4⟩, ⟨m5, -, r5⟩⟩ := hr
  obtain ⟨n3, hn3⟩ : ∃ n, l.length = n := ⟨_, rfl⟩
  obtain ⟨n4, hn4⟩ : ∃ n, ks.length = n := ⟨_, rfl⟩
  obtain ⟨n5, hn5⟩ : ∃ n, vs.length = n := ⟨_, rfl⟩
  rw [hn3] at m3
  rw [hn4] at m4 hks
  rw [hn5] at m5
  rw [hn3, hn4, hn5]
  have hl3 := V.length_le_cntL l
  have hl5 := V.length_le_cntL vs
  have hz3 : n3 ≤ 1000000 := by omega
  have hz5 : n5 ≤ 1000000 := by omega
  have R3 := Sec.mk (And.intro hn3 (And.intro r3 (And.intro hm3 hg3)))
  have R4 := Sec.mk (And.intro hn4 r4)
  have R5 := Sec.mk (And.intro hn5 (And.intro r5 (And.intro hm5 hg5)))
  have HB := Sec.mk (And.intro hB ht)
  clear hn3 hn4 hn5 r3 r4 r5 hm3 hm5 hg3 hg5 hB ht hl3 hl5
  go_enter Tryz.func19, Tryz.ntmps19
  go_upto_region 1 with fail
  generalize ho1 : Obj.cells _ 26 = o1
  generalize hw0 : World.alloc w o1 = w0
  have hb0 : Below w.heap.size w w0 := by rw [← hw0]; exact (Below.refl _ _).alloc (Nat.le_refl _) _
  have hlt : w.heap.size < w0.heap.size := by rw [← hw0]; simp
  have hbox : w0.heap[w.heap.size]? = some (.cells #[Value.int .i64 k, .int .i64 h, .string t, .slice A3 n3 c3, .slice A4 n4 c4, .slice A5 n5 c5] 26 (0, 0)) := by rw [← hw0, ← ho1]; exact heap_alloc_new w _
  have b2 : w0.cell? ⟨w.heap.size, 2, none⟩ = some (.string t) := by simp [World.cell?, hbox]
  have b3 : w0.cell? ⟨w.heap.size, 3, none⟩ = some (.slice A3 n3 c3) := by simp [World.cell?, hbox]
  have b4 : w0.cell? ⟨w.heap.size, 4, none⟩ = some (.slice A4 n4 c4) := by simp [World.cell?, hbox]
  have b5 : w0.cell? ⟨w.heap.size, 5, none⟩ = some (.slice A5 n5 c5) := by simp [World.cell?, hbox]
  have BX := Sec.mk (And.intro hlt (And.intro b3 b5))
  have HB0 := Sec.mk hb0
  obtain ⟨i0, hi0, hz0, hz1, hz2⟩ := info_parts infoS8
  clear ho1 hw0 hb0 hbox b3 b5 hlt
  go_cut [13, 14, 15] (fun v13 v14 v15 wx => v14 = .int .i64 ((n4 + 1 : Nat) : Int) ∧ v15 = .int .i64 0 ∧ StrRow wx v13 (n4 + 1) ∧ Below w0.heap.size w0 wx)
  case first =>
    have hown : (w0.alloc (.cells #[.string t] 9)).ownsRow w0.heap.size 9 1 (.slice (some ⟨w0.heap.size, 0, none⟩) 1 1) 1 [.string t] :=
      World.ownsRow_lit (base := w0.heap.size) (e := 9) (size := 1) w0 #[.string t] 1 (Nat.le_refl _) (by decide) rfl
    have hba : Below w0.heap.size w0 (w0.alloc (.cells #[.string t] 9)) := (Below.refl _ _).alloc (Nat.le_refl _) _
    have hb4 : (w0.alloc (.cells #[.string t] 9)).cell? ⟨w.heap.size, 4, none⟩ = some (.slice A4 n4 c4) := (hba.cell (p := ⟨w.heap.size, 4, none⟩) BX.out.1).trans b4
    by_cases hn0 : n4 = 0
    · subst hn0
      have HO := Sec.mk hown
      have HBA := Sec.mk hba
      have HI := Sec.mk hi0
      clear hown hba hi0 hz0 hz1 hz2
      go_wp2_with (at_builtin; refine wpList_append_zero (by rfl) _ _ 24 (by rfl) 9 i0 Tryz.underlying24 HI.out ⟨w0.heap.size, 0, none⟩ 1 1 c4 A4 (by rfl) (by rfl) (Nat.le_refl _) ?_; (try simp only [Act.put, List.setIfInBounds_toArray, List.set_cons_zero, List.set_cons_succ]))
      go_wp2_with fail
      go_meet
      refine ⟨rfl, rfl, ⟨⟨w0.heap.size, 0, none⟩, 1, rfl, Nat.le_refl _, fun j hj => ⟨t, HB.out.2, ?_⟩⟩, HBA.out⟩
      obtain rfl : j = 0 := by omega
      rw [add_plain, HO.out.cellAt 0 (by omega)]
      rfl
    · have hx : ks[0]? = some (ks[0]'(by have := R4.out.1; omega)) := by rw [List.getElem?_eq_getElem]
      obtain ⟨-, a4, hA, -, -⟩ := R4.out.2 0 _ hx
      subst hA
      have hnews : ∀ j u, (ks.map Value.string)[j]? = some u → (w0.alloc (.cells #[.string t] 9)).cell? (a4.add j) = some u := fun j u hj => by
        rw [List.getElem?_map, Option.map_eq_some_iff] at hj
        obtain ⟨key, hkey, rfl⟩ := hj
        obtain ⟨_, a4', e, hlt4, hc4⟩ := R4.out.2 j key hkey
        obtain rfl := Option.some.inj e
        have h1 : (a4.add j).block < w.heap.size := by rw [add_block]; have := HB.out; omega
        exact (hba.cell (p := a4.add j) (Nat.lt_trans h1 BX.out.1)).trans ((HB0.out.cell (p := a4.add j) h1).trans hc4)
      have HN := Sec.mk (And.intro (show (ks.map Value.string).length = n4 * 1 by rw [List.length_map, R4.out.1, Nat.mul_one]) (And.intro hnews (show ∀ u ∈ ks.map Value.string, u.oneCell' = true from fun u hu => by obtain ⟨key, _, rfl⟩ := List.mem_map.1 hu; rfl)))
      have HO := Sec.mk hown
      have HBA := Sec.mk hba
      have HI := Sec.mk (And.intro hi0 (And.intro hz0 (And.intro hz1 hz2)))
      clear hown hba hi0 hz0 hz1 hz2 hx hnews hn0
      go_wp2_with (at_builtin; refine wpList_append_own _ (by rfl) _ _ 24 (by rfl) w0.heap.size 9 i0 (.string ⟨#[]⟩) 1 16 Tryz.underlying24 HI.out.1 HI.out.2.1 HI.out.2.2.1 HI.out.2.2.2 rfl (by decide) _ _ _ (by rfl) HO.out a4 n4 c4 (ks.map Value.string) (by rfl) HN.out.1 HN.out.2.1 HN.out.2.2 (by unfold maxLen; omega) (by omega) (by simp) ?_)
      intro v' w' hown' hgrow _
      obtain ⟨g, cap, rfl, _, _⟩ := hown'.form (by omega)
      have HOW := Sec.mk hown'
      have HBW := Sec.mk (HBA.out.grown hgrow HBA.out.size (fun k e => by have e' : w0.heap.size = k := Option.some.inj e; omega))
      clear hown' hgrow
      try simp only [Act.put, List.setIfInBounds_toArray, List.set_cons_zero, List.set_cons_succ]
      go_wp2_with fail
      go_meet
      refine ⟨?_, rfl, ⟨⟨g, 0, none⟩, cap, ?_, ?_, fun j hj => ?_⟩, HBW.out⟩
      · first | rfl | (simp; omega)
      · rw [Nat.add_comm]
      · have := ownG_cap HOW.out; omega
      · rw [add_plain, HOW.out.cellAt j (by omega)]
        cases j with
        | zero => exact ⟨t, HB.out.2, rfl⟩
        | succ j =>
          have hx : ks[j]? = some (ks[j]'(by have := R4.out.1; omega)) := by rw [List.getElem?_eq_getElem]
          refine ⟨_, (R4.out.2 j _ hx).1, ?_⟩
          rw [List.getElem?_cons_succ, List.getElem?_map, hx]
          rfl
  case rest =>
    obtain ⟨rfl, rfl, hrow, hbx⟩ := hcut
    have ROW := Sec.mk hrow
    have HBX := Sec.mk hbx
    clear b2 b4 hi0 hz0 hz1 hz2 hrow hbx
    obtain ⟨N, hN⟩ : ∃ N, n4 + 1 = N := ⟨_, rfl⟩
    have hN9 : N ≤ 1000001 := by omega
    rw [hN] at ROW
    rw [hN]
    obtain ⟨a, cap, rfl, hcap, hcells⟩ := ROW.out
    have HC := Sec.mk hcells
    clear hN ROW hcells
    go_wp2_with fail
    go_loopw [4, 5, 15] (fun _ _ v15 wr => ∃ j : Nat, v15 = .int .i64 (j : Int) ∧ j ≤ N ∧ wr = wc) (fun _ _ v15 _ => N - (intOf v15).toNat)
    case atStart => exact ⟨0, rfl, Nat.zero_le _, rfl⟩
    case round =>
      obtain ⟨j, rfl, hj, rfl⟩ := hrel
      by_cases hjn : j < N
      · obtain ⟨s, hs, hc⟩ := HC.out j hjn
        obtain ⟨n, hn⟩ : ∃ n, s.size = n := ⟨_, rfl⟩
        have hz : n ≤ 140737488351232 := by rw [← hn]; exact hs
        have HJ := Sec.mk hjn
        clear hs
        go_wp2_with fail
        go_loopw [5] (fun v5 wx => ∃ i : Nat, v5 = .int .i64 (i : Int) ∧ i ≤ n ∧ wx = wr) (fun v5 _ => n - (intOf v5).toNat)
        case atStart => exact ⟨0, rfl, Nat.zero_le _, rfl⟩
        case round =>
          obtain ⟨i, rfl, hi, rfl⟩ := hrel
          by_cases hin : i < n
          · obtain ⟨c, hcc⟩ : ∃ c, s.data.toList[i]? = some c := ⟨_, List.getElem?_eq_getElem (by rw [show s.data.toList.length = s.size from Array.length_toList, hn]; exact hin)⟩
            have hix : ∀ W : World, (Instr.index 9 (.string s) (.int .i64 (i : Int))).run Tryz.prog W = .ok (.int .u8 (c.toNat : Int)) W := fun W => by
              obtain ⟨hlt, e⟩ := List.getElem?_eq_some_iff.1 hcc
              rw [Array.length_toList] at hlt
              have hlt' : i < s.size := hlt
              rw [run_index_string W 9 s .i64 (i : Int) Tryz.underlying9, dif_pos ⟨by omega, by omega⟩]
              rw [Array.getElem_toList] at e
              congr 4
            obtain ⟨C, hC⟩ : ∃ C, c.toNat = C := ⟨_, rfl⟩
            rw [hC] at hix
            have HIN := Sec.mk hin
            clear hcc hC hc
            by_cases h32 : C < 32
            · have t1 : decide ((C : Int) < 32) = true := decide_eq_true (by omega)
              clear h32
              go_wp2_with fail
              go_ret
              exact ⟨⟨true, rfl⟩, below_then' HB0.out HBX.out⟩
            · have t1 : decide ((C : Int) < 32) = false := decide_eq_false (by omega)
              by_cases h127 : C = 127
              · have t2 : ((C : Int) == 127) = true := by simp; omega
                clear h127 h32
                go_wp2_with fail
                go_ret
                exact ⟨⟨true, rfl⟩, below_then' HB0.out HBX.out⟩
              · have t2 : ((C : Int) == 127) = false := by simp; omega
                clear h127 h32
                go_wp2_with fail
                go_roundw
                case rel => exact ⟨i + 1, by go_num, by have := HIN.out; omega, by trivial⟩
                case measure => have := HIN.out; simp [intOf]; omega
          · obtain rfl : i = n := by omega
            clear hc
            go_wp2_with fail
            go_roundw
            case rel => exact ⟨j + 1, by go_num, by have := HJ.out; omega, by trivial⟩
            case measure => have := HJ.out; simp [intOf]; omega
      · obtain rfl : j = N := by omega
        go_wp2_with fail
        go_loopw [6] (fun v wr => ∃ i : Nat, v = .int .i64 (i : Int) ∧ i ≤ n3 ∧ Below w0.heap.size w0 wr) (fun v _ => n3 - (intOf v).toNat)
        case atStart => exact ⟨0, rfl, Nat.zero_le _, HBX.out⟩
        case round =>
          obtain ⟨i, rfl, hi, hb⟩ := hrel
          have HBR := Sec.mk hb
          have b9 : wr.cell? ⟨w.heap.size, 3, none⟩ = some (.slice A3 n3 c3) := (hb.cell (p := ⟨w.heap.size, 3, none⟩) BX.out.1).trans BX.out.2.1
          clear hb
          by_cases hin : i < n3
          · obtain ⟨x, hx⟩ : ∃ x, (l)[i]? = some x := ⟨_, List.getElem?_eq_getElem (by rw [R3.out.1]; exact hin)⟩
            have hsm : Same B w wr := (Same.of_below (below_then' HB0.out HBR.out)).mono HB.out.1
            obtain ⟨ad, k', h', t', A3', n3', c3', A4', n4', c4', A5', n5', c5', e1, hr1, a0, a1, a2, a3, a4, a5⟩ := RdL.cells (RdL.same hsm _ _ 0 R3.out.2.1) hx
            subst e1
            have CI := Sec.mk (ih x (Nat.le_trans (V.cnt_le_get hx) R3.out.2.2.1) (V.goodL_get R3.out.2.2.2 hx) _ wr B hr1 (Nat.le_trans HB.out.1 (below_then' HB0.out HBR.out).size))
            have HIN := Sec.mk hin
            have f1 : (0 : Int) ≤ (i : Int) := by omega
            have f2 : (i : Int) < (n3 : Int) := by omega
            clear hx hsm hr1
            go_wp2_with fail
            refine CI.out.mono ?_
            rintro e w3 ⟨⟨q, rfl⟩, hb3⟩
            have HB3 := Sec.mk (below_then HBR.out hb3)
            clear hb3 b9 a0 a1 a2 a3 a4 a5
            cases q
            · go_wp2_with fail
              go_roundw
              case rel => exact ⟨i + 1, by go_num, by have := HIN.out; omega, HB3.out⟩
              case measure => have := HIN.out; simp [intOf]; omega
            · go_wp2_with fail
              go_ret
              exact ⟨⟨true, rfl⟩, below_then' HB0.out HB3.out⟩
          · obtain rfl : i = n3 := by omega
            go_wp2_with fail
            clear b9
            go_loopw [7] (fun v wr => ∃ i : Nat, v = .int .i64 (i : Int) ∧ i ≤ n5 ∧ Below w0.heap.size w0 wr) (fun v _ => n5 - (intOf v).toNat)
            case atStart => exact ⟨0, rfl, Nat.zero_le _, HBR.out⟩
            case round =>
              obtain ⟨i, rfl, hi, hb⟩ := hrel
              have HBR := Sec.mk hb
              have b9 : wr.cell? ⟨w.heap.size, 5, none⟩ = some (.slice A5 n5 c5) := (hb.cell (p := ⟨w.heap.size, 5, none⟩) BX.out.1).trans BX.out.2.2
              clear hb
              by_cases hin : i < n5
              · obtain ⟨x, hx⟩ : ∃ x, (vs)[i]? = some x := ⟨_, List.getElem?_eq_getElem (by rw [R5.out.1]; exact hin)⟩
                have hsm : Same B w wr := (Same.of_below (below_then' HB0.out HBR.out)).mono HB.out.1
                obtain ⟨ad, k', h', t', A3', n3', c3', A4', n4', c4', A5', n5', c5', e1, hr1, a0, a1, a2, a3, a4, a5⟩ := RdL.cells (RdL.same hsm _ _ 0 R5.out.2.1) hx
                subst e1
                have CI := Sec.mk (ih x (Nat.le_trans (V.cnt_le_get hx) R5.out.2.2.1) (V.goodL_get R5.out.2.2.2 hx) _ wr B hr1 (Nat.le_trans HB.out.1 (below_then' HB0.out HBR.out).size))
                have HIN := Sec.mk hin
                have f1 : (0 : Int) ≤ (i : Int) := by omega
                have f2 : (i : Int) < (n5 : Int) := by omega
                clear hx hsm hr1
                go_wp2_with fail
                refine CI.out.mono ?_
                rintro e w3 ⟨⟨q, rfl⟩, hb3⟩
                have HB3 := Sec.mk (below_then HBR.out hb3)
                clear hb3 b9 a0 a1 a2 a3 a4 a5
                cases q
                · go_wp2_with fail
                  go_roundw
                  case rel => exact ⟨i + 1, by go_num, by have := HIN.out; omega, HB3.out⟩
                  case measure => have := HIN.out; simp [intOf]; omega
                · go_wp2_with fail
                  go_ret
                  exact ⟨⟨true, rfl⟩, below_then' HB0.out HB3.out⟩
              · obtain rfl : i = n5 := by omega
                go_wp2_with fail
                go_ret
                exact ⟨⟨false, rfl⟩, below_then' HB0.out HBR.out⟩

theorem ctl_upTo : ∀ m, m ≤ 1000000 → CtlUpTo m := by
  intro m
  induction m with
  | zero =>
    intro _ x hx
    cases x
    rw [V.cnt] at hx
    omega
  | succ m ih =>
    intro hm1 x hx hg cs w B hr hB
    cases x with
    | mk k h t l ks vs =>
      rw [V.cnt] at hx
      rw [V.good] at hg
      obtain ⟨⟨_, _, _, _, _, _, gkl⟩, _, _, gl, _, _, gv⟩ := hg
      have hl2 := V.length_le_cntL vs
      exact ctl_step m (ih (by omega)) k h t l ks vs (by omega) (by omega) gl gv (by omega) (by omega) cs w B hr hB
theorem control_any (x : V) (hf : Fits x) (cs : List Value) (w : World) (B : Nat) (hr : Rd w B x cs) (hB : B ≤ w.heap.size) : Calls Tryz.prog 19 #[.agg cs.toArray] w (SomeBoolB w) :=
  ctl_upTo 1000 (by omega) x (by obtain ⟨_, _, _⟩ := hf; omega) hf.1 cs w B hr hB

end Go.Proofs.YtpamlgdcnmcedaaGreatDoor

namespace Go.Proofs.YtpamlgdcnmcedaaGreatDoor
set_option linter.unusedVariables false
set_option linter.unusedSimpArgs false
open Go.RowKit

theorem bytes_of {o : ByteArray} {l : List UInt8} (h : o.data.toList = l) : o = ⟨l.toArray⟩ := by
  cases o with | mk d =>
  rw [← h]

set_option maxHeartbeats 800000 in
set_option maxRecDepth 100000 in
theorem told_silent (k1 h1 k2 h2 en how : Int) (t1 t2 : ByteArray) (s3 s4 s5 r3 r4 r5 : Value) (w : World) (h0 : how ≠ 0) (h1' : how ≠ 1) :
    Calls Tryz.prog 20 #[.agg #[.int .i64 k1, .int .i64 h1, .string t1, s3, s4, s5, .int .i64 en], .agg #[.int .i64 k2, .int .i64 h2, .string t2, r3, r4, r5], .int .i64 how] w (Yes w) := by
  have q0 : (how == 0) = false := by simp [h0]
  have q1 : (how == 1) = false := by simp [h1']
  clear h0 h1'
  go_enter Tryz.func20, Tryz.ntmps20
  go_wp2_with fail
  go_ret
  exact ⟨rfl, ((Below.refl _ _).alloc (Nat.le_refl _) _).alloc (by simp) _⟩

set_option maxHeartbeats 400000 in
set_option maxRecDepth 100000 in
theorem strGives (s : ByteArray) (w : World) : Calls Tryz.prog 21 #[.string s] w fun e w' => e = .returned (.agg #[.int .i64 4, .int .i64 0, .string s, .slice none 0 0, .slice none 0 0, .slice none 0 0]) ∧ Below w.heap.size w w' := by
  go_enter Tryz.func21, Tryz.ntmps21
  go_wp2
  refine bodyPost_ret (v := .agg #[.int .i64 4, .int .i64 0, .string s, .slice none 0 0, .slice none 0 0, .slice none 0 0]) (by simp [results, Tryz.results21, go_sem]) rfl ⟨rfl, (Below.refl _ _).alloc (Nat.le_refl _) _⟩

/-- told at what the door gave and at what Format said. -/
theorem told_any (l : List UInt8) (hl : (ByteArray.mk l.toArray).size ≤ reach) (o : ByteArray) (how : Int) (ho : (how = 0 → o.data.toList = l) ∧ how ≠ 1) (cs : List Value) (w : World) (B : Nat) (hr : Rd w B (strOf l) cs) (hB : B ≤ w.heap.size) :
    Calls Tryz.prog 20 #[.agg (cs ++ [Value.int .i64 0]).toArray, .agg #[.int .i64 4, .int .i64 0, .string o, .slice none 0 0, .slice none 0 0, .slice none 0 0], .int .i64 how] w (Yes w) := by
  by_cases hh : how = 0
  · subst hh
    obtain rfl := bytes_of (ho.1 rfl)
    have h2 : Rd w B (strOf l) [.int .i64 4, .int .i64 0, .string ⟨l.toArray⟩, .slice none 0 0, .slice none 0 0, .slice none 0 0] := rdF_plain (lo := 0) hl w fun _ _ _ => rfl
    exact told_self (strOf l) cs _ w B hr h2 hB
  · obtain ⟨k1, h1, t1, A3, n3, c3, A4, n4, c4, A5, n5, c5, rfl⟩ := hr.form
    exact told_silent _ _ _ _ _ _ _ _ _ _ _ _ _ _ w hh ho.2

theorem heap_cell {w : World} {g : Nat} {cs : Array Value} {T : TypeId} {fz : Nat × Nat} (h : w.heap[g]? = some (.cells cs T fz)) (j : Nat) (v : Value) (hj : cs[j]? = some v) : w.cell? ⟨g, j, none⟩ = some v := by
  simp [World.cell?, h, hj]

set_option maxHeartbeats 3200000 in
set_option maxRecDepth 100000 in
theorem formatted_any (x : V) (hf : Fits x) (rs cs : List Value) (w : World) (B : Nat) (hr1 : Rd w B (strOf (b64 (textV x))) rs) (hr2 : Rd w B x cs) (hB : B ≤ w.heap.size) :
    Calls Tryz.prog 10 #[.agg (rs ++ [Value.int .i64 0]).toArray, .string ⟨#[98, 97, 115, 101, 54, 52]⟩, .agg cs.toArray] w (Yes w) := by
  have cF : ∀ W, Below w.heap.size w W → Calls Tryz.prog 18 #[.string ⟨#[98, 97, 115, 101, 54, 52]⟩, .agg cs.toArray] W (JsIs (b64 (textV x)) W) := fun W hb =>
    format_any x hf cs W B (Rd.same ((Same.of_below hb).mono hB) x cs hr2) (Nat.le_trans hB hb.size)
  have cC : ∀ W, Below w.heap.size w W → Calls Tryz.prog 19 #[.agg cs.toArray] W (SomeBoolB W) := fun W hb =>
    control_any x hf cs W B (Rd.same ((Same.of_below hb).mono hB) x cs hr2) (Nat.le_trans hB hb.size)
  have hlen : (ByteArray.mk (b64 (textV x)).toArray).size ≤ reach := by
    show (b64 (textV x)).toArray.size ≤ reach
    rw [List.size_toArray, b64_len]
    have := textV_len hf
    unfold reach
    omega
  have cT : ∀ (o : ByteArray) (how : Int), ((how = 0 → o.data.toList = b64 (textV x)) ∧ how ≠ 1) → ∀ W, Below w.heap.size w W → Calls Tryz.prog 20 #[.agg (rs ++ [Value.int .i64 0]).toArray, .agg #[.int .i64 4, .int .i64 0, .string o, .slice none 0 0, .slice none 0 0, .slice none 0 0], .int .i64 how] W (Yes W) := fun o how ho W hb =>
    told_any _ hlen o how ho rs W B (Rd.same ((Same.of_below hb).mono hB) _ rs hr1) (Nat.le_trans hB hb.size)
  obtain ⟨k, h, t, A3, n3, c3, A4, n4, c4, A5, n5, c5, rfl⟩ := hr2.form
  obtain ⟨k', h', t', A3', n3', c3', A4', n4', c4', A5', n5', c5', rfl⟩ := hr1.form
  obtain ⟨T, hTx⟩ : ∃ T, b64 (textV x) = T := ⟨_, rfl⟩
  rw [hTx] at cF cT
  have CF := Sec.mk cF
  have CC := Sec.mk cC
  have CT := Sec.mk cT
  clear cF cC cT hr1 hr2 hB hlen hTx hf
  go_enter Tryz.func10, Tryz.ntmps10
  go_upto_region 1 with fail
  generalize ho1 : Obj.cells _ 36 = o1
  generalize ho2 : Obj.cells _ 26 = o2
  generalize hw0 : World.alloc (World.alloc w o1) o2 = w0
  have hb0 : Below w.heap.size w w0 := by rw [← hw0]; exact ((Below.refl _ _).alloc (Nat.le_refl _) _).alloc (by simp) _
  have hs0 : w0.heap.size = w.heap.size + 1 + 1 := by rw [← hw0]; simp
  have x1 : w0.heap[w.heap.size]? = some (.cells #[Value.int .i64 k', .int .i64 h', .string t', .slice A3' n3' c3', .slice A4' n4' c4', .slice A5' n5' c5', .int .i64 0] 36 (0, 0)) := by
    rw [← hw0, ← ho1]
    exact (Below.heap_alloc _ _ _ (by simp)).trans (heap_alloc_new w _)
  have x2 : w0.heap[w.heap.size + 1]? = some (.cells #[Value.int .i64 k, .int .i64 h, .string t, .slice A3 n3 c3, .slice A4 n4 c4, .slice A5 n5 c5] 26 (0, 0)) := by
    rw [← hw0, ← ho2]
    have := heap_alloc_new (World.alloc w o1) (Obj.cells #[Value.int .i64 k, .int .i64 h, .string t, .slice A3 n3 c3, .slice A4 n4 c4, .slice A5 n5 c5] 26)
    simpa using this
  have HB0 := Sec.mk hb0
  have X12 := Sec.mk (And.intro x1 (And.intro x2 hs0))
  have a0 := heap_cell x2 0 _ rfl
  have a1 := heap_cell x2 1 _ rfl
  have a2 := heap_cell x2 2 _ rfl
  have a3 := heap_cell x2 3 _ rfl
  have a4 := heap_cell x2 4 _ rfl
  have a5 := heap_cell x2 5 _ rfl
  clear ho1 ho2 hw0 hb0 hs0 x1 x2
  go_wp2_with fail
  refine (CF.out _ HB0.out).mono ?_
  rintro e w1 ⟨o, how, rfl, h1, hb1⟩
  have H1 := Sec.mk h1
  have HB1 := Sec.mk hb1
  have hx2 := (hb1.block _ (by have := X12.out.2.2; omega)).trans X12.out.2.1
  clear h1 hb1 a0 a1 a2 a3 a4 a5
  have a0 := heap_cell hx2 0 _ rfl
  have a1 := heap_cell hx2 1 _ rfl
  have a2 := heap_cell hx2 2 _ rfl
  have a3 := heap_cell hx2 3 _ rfl
  have a4 := heap_cell hx2 4 _ rfl
  have a5 := heap_cell hx2 5 _ rfl
  clear hx2
  go_upto_region 2 with fail
  go_cut [33] (fun v33 wx => ∃ q, v33 = .bool q ∧ Below w1.heap.size w1 wx)
  case first =>
    by_cases k4 : k = 4
    · subst k4
      go_wp2_with fail
      go_meet
      exact ⟨_, rfl, Below.refl _ _⟩
    · have q4 : (k != 4) = true := by simp [k4]
      clear k4
      go_wp2_with fail
      refine (CC.out _ (below_then' HB0.out HB1.out)).mono ?_
      rintro e w2 ⟨⟨q, rfl⟩, hb2⟩
      have HB2 := Sec.mk hb2
      clear hb2 a0 a1 a2 a3 a4 a5
      cases q
      · go_wp2_with fail
        go_meet
        exact ⟨_, rfl, HB2.out⟩
      · go_wp2_with fail
        go_meet
        exact ⟨_, rfl, HB2.out⟩
  case rest =>
    obtain ⟨q, rfl, hb2⟩ := hcut
    have HB2 := Sec.mk hb2
    have hx1 := (hb2.block _ (by have := X12.out.2.2; have := HB1.out.size; omega)).trans ((HB1.out.block _ (by have := X12.out.2.2; omega)).trans X12.out.1)
    clear hb2 a0 a1 a2 a3 a4 a5
    cases q
    · have a0 := heap_cell hx1 0 _ rfl
      have a1 := heap_cell hx1 1 _ rfl
      have a2 := heap_cell hx1 2 _ rfl
      have a3 := heap_cell hx1 3 _ rfl
      have a4 := heap_cell hx1 4 _ rfl
      have a5 := heap_cell hx1 5 _ rfl
      have a6 := heap_cell hx1 6 _ rfl
      have hlt : w.heap.size < wc.heap.size := by have := X12.out.2.2; have := HB1.out.size; have := HB2.out.size; omega
      clear hx1
      go_upto_region 4 with fail
      go_region_with (first | (go_at_call 21; refine (strGives _ _).mono ?_; rintro e w3 ⟨rfl, hb3⟩; have HB3 := Sec.mk (show Below wc.heap.size wc w3 from ((Below.refl wc.heap.size wc).drew.trans hb3)); have e0 := (HB3.out.cell (p := ⟨w.heap.size, 0, none⟩) hlt).trans a0; have e1 := (HB3.out.cell (p := ⟨w.heap.size, 1, none⟩) hlt).trans a1; have e2 := (HB3.out.cell (p := ⟨w.heap.size, 2, none⟩) hlt).trans a2; have e3 := (HB3.out.cell (p := ⟨w.heap.size, 3, none⟩) hlt).trans a3; have e4 := (HB3.out.cell (p := ⟨w.heap.size, 4, none⟩) hlt).trans a4; have e5 := (HB3.out.cell (p := ⟨w.heap.size, 5, none⟩) hlt).trans a5; have e6 := (HB3.out.cell (p := ⟨w.heap.size, 6, none⟩) hlt).trans a6; clear hb3) | (go_at_call 20; refine (CT.out o how H1.out _ (below_then' HB0.out (below_then' HB1.out (below_then' HB2.out HB3.out)))).mono ?_; rintro e w4 ⟨rfl, hb4⟩; have HB4 := Sec.mk hb4; clear hb4))
      all_goals
        go_wp2_with fail
        go_ret
        exact ⟨rfl, below_then' HB0.out (below_then' HB1.out (below_then' HB2.out (below_then' HB3.out HB4.out)))⟩
    · clear hx1
      go_wp2_with fail
      go_ret
      exact ⟨rfl, below_then' HB0.out (below_then' HB1.out HB2.out)⟩

end Go.Proofs.YtpamlgdcnmcedaaGreatDoor

namespace Go.Proofs.YtpamlgdcnmcedaaGreatDoor
set_option linter.unusedVariables false
set_option linter.unusedSimpArgs false
open Go.RowKit

set_option maxHeartbeats 6400000 in
set_option maxRecDepth 100000 in
theorem fnFormatBase64_walk (VS : ValidSaid) (x : V) (cs : List Value) (w : World) (B : Nat) (hr : Rd w B x cs) (hT : Tabs w) (hB2 : 2 ≤ B) (hB : B ≤ w.heap.size) :
    Calls Tryz.prog 4 #[.agg cs.toArray] w (Yes w) := by
  have cZ : ∀ w', Below w.heap.size w w' → Calls Tryz.prog 5 #[.agg cs.toArray] w' (SomeBoolB w') := fun w' hb =>
    zzFits1_any x cs w' B (Rd.same ((Same.of_below hb).mono hB) x cs hr) (Nat.le_trans hB hb.size)
  have cN : ∀ (g : Nat) (W : World), W.heap[g]? = some (.cells cs.toArray 26 (0, 0)) → Below w.heap.size w W → Calls Tryz.prog 9 #[.slice (some ⟨g, 0, none⟩) 1 1] W (TellsB W (∀ (j : Nat) (y : V), [x][j]? = some y → Fine y)) := fun g W hg hb => by
    have hlt : g < W.heap.size := (Array.getElem?_eq_some_iff.1 hg).1
    refine fine_any VS [x] (some ⟨g, 0, none⟩) 1 1 W.heap.size W rfl (by omega) (rdL_of_cells (a := ⟨g, 0, none⟩) hlt [x] 0 fun i y hy => ?_) (hT.same (Same.of_below hb) (Nat.le_trans hB2 hB)) (Nat.le_trans hB2 (Nat.le_trans hB hb.size)) (Nat.le_refl _)
    have hi : i = 0 := by have := (List.getElem?_eq_some_iff.1 hy).1; simp at this; exact this
    subst hi
    obtain rfl : x = y := by simpa using hy
    refine ⟨cs, Rd.mono (Nat.le_trans hB hb.size) _ _ (Rd.same ((Same.of_below hb).mono hB) x cs hr), fun j u hu => ?_⟩
    rw [show (0 + 0) * 6 + j = j from by omega, add_plain, cell_of_row W g j _ _ _ hg]
    simpa using hu
  have cD : Fits x → ∀ W, Below w.heap.size w W → Calls Tryz.prog 11 #[.agg cs.toArray] W (Gives (strOf (b64 (textV x))) 0 W) := fun hf W hb =>
    formatDoor_any x hf cs W B (Rd.same ((Same.of_below hb).mono hB) x cs hr) (hT.same (Same.of_below hb) (Nat.le_trans hB2 hB)) hB2 (Nat.le_trans hB hb.size)
  have cM : Fits x → ∀ (rs : List Value) (W1 W : World), Rd W1 W1.heap.size (strOf (b64 (textV x))) rs → Below w.heap.size w W1 → Below W1.heap.size W1 W →
      Calls Tryz.prog 10 #[.agg (rs ++ [Value.int .i64 0]).toArray, .string ⟨#[98, 97, 115, 101, 54, 52]⟩, .agg cs.toArray] W (Yes W) := fun hf rs W1 W h1 hb1 hb =>
    formatted_any x hf rs cs W W1.heap.size (Rd.same (Same.of_below hb) _ rs h1) (Rd.mono (Nat.le_trans hB hb1.size) _ _ (Rd.same ((Same.of_below (below_then' hb1 hb)).mono hB) x cs hr)) hb.size
  obtain ⟨k, h, t, A3, n3, c3, A4, n4, c4, A5, n5, c5, rfl⟩ := hr.form
  have CZ := Sec.mk cZ
  have CN := Sec.mk cN
  have CD := Sec.mk cD
  have CM := Sec.mk cM
  clear cZ cN cD cM hT hB hB2 hr
  obtain ⟨w0, hw0⟩ : ∃ w0, w.alloc (.cells #[.int .i64 k, .int .i64 h, .string t, .slice A3 n3 c3, .slice A4 n4 c4, .slice A5 n5 c5] 26) = w0 := ⟨_, rfl⟩
  have b0 : Below w.heap.size w w0 := by rw [← hw0]; exact (Below.refl _ _).alloc (Nat.le_refl _) _
  have hlt0 : w.heap.size < w0.heap.size := by rw [← hw0]; simp
  have bx : ∀ w', Below w0.heap.size w0 w' → (∀ j v, #[.int .i64 k, .int .i64 h, .string t, .slice A3 n3 c3, .slice A4 n4 c4, .slice A5 n5 c5][j]? = some v → w'.cell? ⟨w.heap.size, j, none⟩ = some v) := by
    intro w' hb
    rw [← hw0] at hb
    exact box_after w _ _ w' hb
  have a0 := bx w0 (Below.refl _ _) 0 _ rfl
  have a1 := bx w0 (Below.refl _ _) 1 _ rfl
  have a2 := bx w0 (Below.refl _ _) 2 _ rfl
  have a3 := bx w0 (Below.refl _ _) 3 _ rfl
  have a4 := bx w0 (Below.refl _ _) 4 _ rfl
  have a5 := bx w0 (Below.refl _ _) 5 _ rfl
  have BX := Sec.mk bx
  have B0 := Sec.mk b0
  have HL0 := Sec.mk hlt0
  clear bx b0 hlt0
  go_enter Tryz.func4, Tryz.ntmps4
  go_wp2_with fail
  refine (CZ.out _ B0.out).mono ?_
  intro e w1 hw1
  obtain ⟨⟨b1, rfl⟩, hb1⟩ := hw1
  have BS1 := Sec.mk hb1
  clear hb1
  cases b1
  · go_wp2
    go_ret
    exact ⟨rfl, below_then' B0.out BS1.out⟩
  · clear a0 a1 a2 a3 a4 a5
    have a0 := BX.out w1 BS1.out 0 _ rfl
    have a1 := BX.out w1 BS1.out 1 _ rfl
    have a2 := BX.out w1 BS1.out 2 _ rfl
    have a3 := BX.out w1 BS1.out 3 _ rfl
    have a4 := BX.out w1 BS1.out 4 _ rfl
    have a5 := BX.out w1 BS1.out 5 _ rfl
    have hlt : w.heap.size < w1.heap.size := Nat.lt_of_lt_of_le HL0.out BS1.out.size
    have BW1 := Sec.mk (below_then' B0.out BS1.out)
    go_upto_region 3 with fail
    go_region_with (first
      | (go_at_call 9
         refine (CN.out _ _ (by repeat (first | (with_reducible refine heap_new' _ _ _ ?_; simp; done) | with_reducible refine heap_dr' ?_)) (below_then' BW1.out (by repeat (first | with_reducible exact Below.refl _ _ | with_reducible refine below_dr ?_ | with_reducible refine below_up ?_ _)))).mono ?_
         rintro e w2 ⟨b, rfl, hfn, hb2⟩
         have HF := Sec.mk hfn
         have HB2 := Sec.mk (show Below w1.heap.size w1 w2 from below_then (by repeat (first | with_reducible exact Below.refl _ _ | with_reducible refine below_dr ?_ | with_reducible refine below_up ?_ _)) hb2)
         clear hfn hb2 a0 a1 a2 a3 a4 a5
         cases b
         · go_wp2_with fail
           refine wpAny_ready (rs := [3]) (by kernel_rfl) (by simp) (AllReady.cons rfl (fun K hK => ?_) AllReady.nil)
           go_simp
           refine hK _ _ ?_
           clear hK K
           refine wpAny_ready (rs := [4]) (by kernel_rfl) (by simp) (AllReady.cons rfl (fun K hK => ?_) AllReady.nil)
           go_simp
           refine hK _ _ ?_
           clear hK K
           refine wpAny_ready (rs := [5, 7]) (by kernel_rfl) (by simp) (AllReady.cons rfl (fun K hK => ?_) (AllReady.cons rfl (fun K hK => ?_) AllReady.nil))
           · go_simp
             refine hK _ _ ?_
             clear hK K
             refine wpAny_ready (rs := [6, 7]) (by kernel_rfl) (by simp) (AllReady.cons rfl (fun K hK => ?_) (AllReady.cons rfl (fun K hK => ?_) AllReady.nil))
             · go_simp
               refine hK _ _ ?_
               clear hK K
               refine wpAny_ready (rs := [7]) (by kernel_rfl) (by simp) (AllReady.cons rfl (fun K hK => ?_) AllReady.nil)
               go_simp
               refine hK _ _ ?_
               clear hK K
               refine wpAny_ready (rs := [8]) (by kernel_rfl) (by simp) (AllReady.cons rfl (fun K hK => ?_) AllReady.nil)
               go_simp
               refine hK _ _ ?_
               clear hK K
               refine wpAny_ready (rs := [9]) (by kernel_rfl) (by simp) (AllReady.cons rfl (fun K hK => ?_) AllReady.nil)
               go_simp
               refine hK _ _ ?_
               clear hK K
               refine wpAny_ready (rs := [10]) (by kernel_rfl) (by simp) (AllReady.cons rfl (fun K hK => ?_) AllReady.nil)
               go_simp
               refine hK _ _ ?_
               clear hK K
               refine wpAny_done (by kernel_rfl) ?_ _
               go_wp2_with fail
               go_ret
               exact ⟨rfl, below_then' BW1.out HB2.out⟩
             · go_simp
               refine hK _ _ ?_
               clear hK K
               refine wpAny_ready (rs := [6]) (by kernel_rfl) (by simp) (AllReady.cons rfl (fun K hK => ?_) AllReady.nil)
               go_simp
               refine hK _ _ ?_
               clear hK K
               refine wpAny_ready (rs := [8]) (by kernel_rfl) (by simp) (AllReady.cons rfl (fun K hK => ?_) AllReady.nil)
               go_simp
               refine hK _ _ ?_
               clear hK K
               refine wpAny_ready (rs := [9]) (by kernel_rfl) (by simp) (AllReady.cons rfl (fun K hK => ?_) AllReady.nil)
               go_simp
               refine hK _ _ ?_
               clear hK K
               refine wpAny_ready (rs := [10]) (by kernel_rfl) (by simp) (AllReady.cons rfl (fun K hK => ?_) AllReady.nil)
               go_simp
               refine hK _ _ ?_
               clear hK K
               refine wpAny_done (by kernel_rfl) ?_ _
               go_wp2_with fail
               go_ret
               exact ⟨rfl, below_then' BW1.out HB2.out⟩
           · go_simp
             refine hK _ _ ?_
             clear hK K
             refine wpAny_ready (rs := [5]) (by kernel_rfl) (by simp) (AllReady.cons rfl (fun K hK => ?_) AllReady.nil)
             go_simp
             refine hK _ _ ?_
             clear hK K
             refine wpAny_ready (rs := [6]) (by kernel_rfl) (by simp) (AllReady.cons rfl (fun K hK => ?_) AllReady.nil)
             go_simp
             refine hK _ _ ?_
             clear hK K
             refine wpAny_ready (rs := [8]) (by kernel_rfl) (by simp) (AllReady.cons rfl (fun K hK => ?_) AllReady.nil)
             go_simp
             refine hK _ _ ?_
             clear hK K
             refine wpAny_ready (rs := [9]) (by kernel_rfl) (by simp) (AllReady.cons rfl (fun K hK => ?_) AllReady.nil)
             go_simp
             refine hK _ _ ?_
             clear hK K
             refine wpAny_ready (rs := [10]) (by kernel_rfl) (by simp) (AllReady.cons rfl (fun K hK => ?_) AllReady.nil)
             go_simp
             refine hK _ _ ?_
             clear hK K
             refine wpAny_done (by kernel_rfl) ?_ _
             go_wp2_with fail
             go_ret
             exact ⟨rfl, below_then' BW1.out HB2.out⟩
         have hfit := (HF.out rfl 0 x rfl).1
         have a0 := BX.out w2 (below_then BS1.out HB2.out) 0 _ rfl
         have a1 := BX.out w2 (below_then BS1.out HB2.out) 1 _ rfl
         have a2 := BX.out w2 (below_then BS1.out HB2.out) 2 _ rfl
         have a3 := BX.out w2 (below_then BS1.out HB2.out) 3 _ rfl
         have a4 := BX.out w2 (below_then BS1.out HB2.out) 4 _ rfl
         have a5 := BX.out w2 (below_then BS1.out HB2.out) 5 _ rfl
         have HFIT := Sec.mk hfit
         have hlt2 : w.heap.size < w2.heap.size := Nat.lt_of_lt_of_le hlt HB2.out.size
         clear hfit)
      | (go_at_call 11
         refine (CD.out HFIT.out _ (below_then' BW1.out HB2.out)).mono ?_
         rintro e w3 ⟨rs, rfl, hrs, hb3⟩
         obtain ⟨k3, h3', t3, A33, n33, c33, A43, n43, c43, A53, n53, c53, rfl⟩ := hrs.rd.form
         have HRS := Sec.mk hrs.rd
         have HB3 := Sec.mk hb3
         have e0 := (hb3.cell (p := ⟨w.heap.size, 0, none⟩) hlt2).trans a0
         have e1 := (hb3.cell (p := ⟨w.heap.size, 1, none⟩) hlt2).trans a1
         have e2 := (hb3.cell (p := ⟨w.heap.size, 2, none⟩) hlt2).trans a2
         have e3 := (hb3.cell (p := ⟨w.heap.size, 3, none⟩) hlt2).trans a3
         have e4 := (hb3.cell (p := ⟨w.heap.size, 4, none⟩) hlt2).trans a4
         have e5 := (hb3.cell (p := ⟨w.heap.size, 5, none⟩) hlt2).trans a5
         clear hrs hb3)
      | (go_at_call 10
         refine (CM.out HFIT.out _ _ _ HRS.out (below_then' BW1.out (below_then' HB2.out HB3.out)) (Below.refl _ _)).mono ?_
         rintro e w4 ⟨rfl, hb4⟩
         have HB4 := Sec.mk hb4
         clear hb4))
    all_goals
      go_wp2_with fail
      go_ret
      exact ⟨rfl, below_then' BW1.out (below_then' HB2.out (below_then' HB3.out HB4.out))⟩

end Go.Proofs.YtpamlgdcnmcedaaGreatDoor
