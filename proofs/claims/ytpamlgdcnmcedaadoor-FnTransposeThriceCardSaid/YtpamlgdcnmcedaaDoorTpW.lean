/-
  gojq.funcTranspose at a list of lists: the walk.
-/
import Derived.Test.YtpamlgdcnmcedaaDoorTpF
namespace Go.Proofs.YtpamlgdcnmcedaaDoor
set_option linter.unusedVariables false
set_option linter.unusedSimpArgs false
open Go.RowKit

theorem taListForce (v : Value) (w : World) : (Instr.typeAssert (.iface 68 v) 20 68 false).run Tryd.prog w = .ok v w := by kernel_rfl
/-- The two slices that funcTranspose fills, and the columns behind them. -/
structure Shelf2 (w wr : World) (k l i jj : Nat) (val : Nat → Nat → Value) (fW fX : Nat → Value) : Prop where
  below : Below w.heap.size w wr
  wss : Blk wr w.heap.size 68 l fW
  xs : Blk wr (w.heap.size + 1) 20 l fX
  cols : Cols wr (w.heap.size + 2) k l val i jj
  fw : ∀ j, j < l → fW j = .slice (some ⟨w.heap.size + 2 + j, 0, none⟩) k k
  fx : ∀ j, j < l → fX j = .iface 68 (.slice (some ⟨w.heap.size + 2 + j, 0, none⟩) k k)

theorem Shelf2.step {w wr : World} {k l i jj : Nat} {val : Nat → Nat → Value} {fW fX : Nat → Value} (h : Shelf2 w wr k l i jj val fW fX) (hj : jj < l) : Shelf2 w (wr.setCell ⟨w.heap.size + 2 + jj, i, none⟩ (val i jj)) k l i (jj + 1) val fW fX :=
  ⟨h.below.setCell (by show w.heap.size ≤ w.heap.size + 2 + jj; omega) _, h.wss.far (by omega), h.xs.far (by omega), h.cols.step hj, h.fw, h.fx⟩
theorem Shelf2.next {w wr : World} {k l i n : Nat} {val : Nat → Nat → Value} {fW fX : Nat → Value} (h : Shelf2 w wr k l i n val fW fX) (hn : ∀ j, n ≤ j → val i j = .nilIface) : Shelf2 w wr k l (i + 1) 0 val fW fX :=
  ⟨h.below, h.wss, h.xs, h.cols.next hn, h.fw, h.fx⟩
theorem Shelf2.done {w wr : World} {lo B l : Nat} {A0 : Option Addr} {m : List (List V)} {sl : Nat → Option Addr × Nat} {val : Nat → Nat → Value} {fW fX : Nat → Value} (h : Shelf2 w wr m.length l m.length 0 val fW fX) (hR : Rows2 w lo B A0 m sl val) (hl : width m = l) (hB : B ≤ w.heap.size) (hlo : lo ≤ w.heap.size) (hk : m.length ≤ 1000) (hl2 : l ≤ 1000) :
    RdA wr lo wr.heap.size (matV (tr m)) (.iface 68 (.slice (some ⟨w.heap.size + 1, 0, none⟩) l l)) := by
  have e : ((tr m).map listV).length = l := by rw [List.length_map, tr_length, hl]
  have hr := rdA_mk (w := wr) (lo := lo) (B := wr.heap.size) (l := (tr m).map listV) (A := some ⟨w.heap.size + 1, 0, none⟩) (c := l) (by rw [e]; exact Nat.le_refl _) (Nat.le_trans hl2 (by decide)) (RdAL.of _ 0 fun j x hx => ?_)
  · rw [e] at hr
    exact hr
  · rw [List.getElem?_map] at hx
    obtain ⟨c, hc, rfl⟩ := Option.map_eq_some_iff.1 hx
    have hj : j < l := by rw [← hl, ← tr_length]; exact (List.getElem?_eq_some_iff.1 hc).1
    rw [tr_get (by rw [hl]; exact hj)] at hc
    obtain rfl := Option.some.inj hc
    refine ⟨_, .iface 68 (.slice (some ⟨w.heap.size + 2 + j, 0, none⟩) m.length m.length), rfl, by show lo ≤ w.heap.size + 1; omega, h.xs.lt, ?_, ?_⟩
    · have e2 : (m.map fun r => (r[j]?).getD nilV).length = m.length := List.length_map ..
      have hr2 := rdA_mk (w := wr) (lo := lo) (B := wr.heap.size) (l := m.map fun r => (r[j]?).getD nilV) (A := some ⟨w.heap.size + 2 + j, 0, none⟩) (c := m.length) (by rw [e2]; exact Nat.le_refl _) (Nat.le_trans hk (by decide)) (RdAL.of _ 0 fun i x hx => ?_)
      · rw [e2] at hr2
        exact hr2
      · rw [List.getElem?_map] at hx
        obtain ⟨r, hri, rfl⟩ := Option.map_eq_some_iff.1 hx
        have hi : i < m.length := (List.getElem?_eq_some_iff.1 hri).1
        refine ⟨_, val i j, rfl, by show lo ≤ w.heap.size + 2 + j; omega, (h.cols j hj).lt, ?_, ?_⟩
        · exact RdA.same (SameIn.of_same ((Same.of_below h.below).mono hB)) (Nat.le_refl _) (Nat.le_trans hB h.below.size) _ _ (hR.rd i r j hri)
        · rw [Nat.zero_add, add_plain, (h.cols j hj).cell i hi, if_pos (.inl hi)]
    · rw [Nat.zero_add, add_plain, h.xs.cell j hj, h.fx j hj]

set_option maxHeartbeats 3200000 in
set_option maxRecDepth 100000 in
theorem funcTranspose_any (m : List (List V)) (w : World) (lo B : Nat) (v : Value) (hv : RdA w lo B (matV m) v) (hB : B ≤ w.heap.size) (hlo : lo ≤ w.heap.size) (hk : m.length ≤ 1000) (hw : ∀ r ∈ m, r.length ≤ 1000) (hg : ∀ r ∈ m, ∀ x ∈ r, x.good) :
    Calls Tryd.prog 47 #[v] w fun e w' => ∃ u, e = .returned u ∧ RdA w' lo w'.heap.size (matV (tr m)) u ∧ Below w.heap.size w w' := by
  obtain ⟨A0, c0, rfl, hc1, hc2, hA⟩ := rdA_list (l := m.map listV) hv
  obtain ⟨sl, val, hR⟩ := rows_of hA
  have hwl : width m ≤ 1000 := width_le hw
  obtain ⟨l, hl⟩ : ∃ l, width m = l := ⟨_, rfl⟩
  obtain ⟨k, hkk⟩ : ∃ k, m.length = k := ⟨_, rfl⟩
  have hform : ∀ i j r, m[i]? = some r → val i j = .nilIface ∨ ∃ t u, val i j = .iface t u := by
    intro i j r hr
    cases hx : r[j]? with
    | none => exact .inl (hR.none i r j hr (List.getElem?_eq_none_iff.1 hx))
    | some x =>
      have h := hR.rd i r j hr
      rw [hx] at h
      exact h.form (hg r (List.mem_of_getElem? hr) x (List.mem_of_getElem? hx))
  rw [List.length_map, hkk]
  have RR := Sec.mk hR
  have HN := Sec.mk (And.intro hB (And.intro hlo (And.intro hl hkk)))
  have HF := Sec.mk hform
  have HW := Sec.mk hw
  by_cases hk0 : k = 0
  · have d0 : ((k : Int) == 0) = true := by simp [hk0]
    have hm0 : m = [] := List.eq_nil_of_length_eq_zero (by rw [hkk]; exact hk0)
    subst hm0
    clear hv hA hR hwl hl hkk hform hB hlo hk hw hg hk0
    go_enter Tryd.func47, Tryd.ntmps47
    go_wp2
    go_ret
    exact ⟨_, rfl, rdA_mk (l := []) (Nat.le_refl _) (Nat.zero_le _) (by rw [RdAL]; trivial), (Below.refl _ _).alloc (Nat.le_refl _) _⟩
  have d0 : ((k : Int) == 0) = false := by simp; omega
  have hk1 : k ≤ 1000 := by omega
  have hl1 : l ≤ 1000 := by omega
  have hmkW : ∀ W : World, (Instr.makeSlice 91 (.int .i64 (l : Int)) (.int .i64 (l : Int))).run Tryd.prog W = .ok (.slice (some ⟨W.heap.size, 0, none⟩) l l) (W.alloc (.cells (madeCells #[.slice none 0 0] l) 68)) := fun W =>
    run_make_row' 91 68 (.slice none 0 0) 24 Tryd.underlying91 (by kernel_rfl) rfl .i64 .i64 l (by omega) (by omega) W
  have hmkX : ∀ W : World, (Instr.makeSlice 68 (.int .i64 (l : Int)) (.int .i64 (l : Int))).run Tryd.prog W = .ok (.slice (some ⟨W.heap.size, 0, none⟩) l l) (W.alloc (.cells (madeCells #[.nilIface] l) 20)) := fun W =>
    run_make_row' 68 20 .nilIface 16 Tryd.underlying68 (by kernel_rfl) rfl .i64 .i64 l (by omega) (by omega) W
  have hmkK : ∀ W : World, (Instr.makeSlice 68 (.int .i64 (k : Int)) (.int .i64 (k : Int))).run Tryd.prog W = .ok (.slice (some ⟨W.heap.size, 0, none⟩) k k) (W.alloc (.cells (madeCells #[.nilIface] k) 20)) := fun W =>
    run_make_row' 68 20 .nilIface 16 Tryd.underlying68 (by kernel_rfl) rfl .i64 .i64 k (by omega) (by omega) W
  have hta := fun (u : Value) (W : World) => taListForce u W
  clear hv hA hR hwl hl hkk hform hB hlo hk hw hg hk0
  go_enter Tryd.func47, Tryd.ntmps47
  go_wp2_with fail
  go_loopw [5, 7, 8, 9, 10, 38] (fun v5 _ _ _ _ v38 wr => ∃ i a : Nat, v38 = .int .i64 i ∧ i ≤ k ∧ v5 = .int .i64 a ∧ width (m.take i) = a ∧ wr = w) (fun _ _ _ _ _ v38 _ => k - (intOf v38).toNat)
  case atStart => exact ⟨0, 0, rfl, Nat.zero_le _, rfl, by rw [List.take_zero]; rfl, rfl⟩
  case round =>
    obtain ⟨i, a, rfl, hi, rfl, hwa, e⟩ := hrel
    have e' := e.symm
    subst e'
    clear e
    have WA := Sec.mk hwa
    clear hwa
    by_cases hin : i < k
    · obtain ⟨r, hr⟩ : ∃ r, m[i]? = some r := ⟨m[i]'(by rw [HN.out.2.2.2]; exact hin), by rw [List.getElem?_eq_getElem]⟩
      obtain ⟨ad, rfl, hb, hc⟩ := RR.out.row i r hr
      have hnext : width (m.take (i + 1)) = max a r.length := by rw [List.take_add_one, hr, ← WA.out]; exact width_snoc r _
      obtain ⟨n, hn⟩ : ∃ n, r.length = n := ⟨_, rfl⟩
      rw [hn] at hc hnext
      have hn1 : n ≤ 1000 := by rw [← hn]; exact HW.out r (List.mem_of_getElem? hr)
      have NX := Sec.mk hnext
      obtain ⟨Ai, ci⟩ := sl i
      clear hr hnext hn hb
      by_cases ha : a < n
      · have d1 : decide ((a : Int) < (n : Int)) = true := decide_eq_true (by omega)
        have NX2 : Sec (width (m.take (i + 1)) = n) := ⟨NX.out.trans (Nat.max_eq_right (Nat.le_of_lt ha))⟩
        go_wp2
        go_roundw
        case rel => exact ⟨i + 1, n, by go_num, by omega, rfl, NX2.out, by first | rfl | trivial⟩
        case measure => simp [intOf]; omega
      · have d1 : decide ((a : Int) < (n : Int)) = false := decide_eq_false (by omega)
        have NX2 : Sec (width (m.take (i + 1)) = a) := ⟨NX.out.trans (Nat.max_eq_left (Nat.le_of_not_lt ha))⟩
        go_wp2
        go_roundw
        case rel => exact ⟨i + 1, a, by go_num, by omega, rfl, NX2.out, by first | rfl | trivial⟩
        case measure => simp [intOf]; omega
    · obtain rfl : k = i := by omega
      obtain rfl : l = a := by rw [← WA.out, ← HN.out.2.2.1, List.take_of_length_le (by rw [HN.out.2.2.2]; exact Nat.le_refl _)]
      go_wp2_with fail
      obtain ⟨w0, hw0⟩ : ∃ w0, (w.alloc (.cells (madeCells #[.slice none 0 0] l) 68)).alloc (.cells (madeCells #[.nilIface] l) 20) = w0 := ⟨_, rfl⟩
      have hb0 : Below w.heap.size w w0 := by rw [← hw0]; exact ((Below.refl _ _).alloc (Nat.le_refl _) _).alloc (by simp) _
      have hsz0 : w0.heap.size = w.heap.size + 2 + 0 := by rw [← hw0]; simp
      have hW0 : Blk w0 w.heap.size 68 l (fun _ => .slice none 0 0) := by rw [← hw0]; exact (Blk.made w _ _ _).old _
      have hX0 : Blk w0 (w.heap.size + 1) 20 l (fun _ => .nilIface) := by
        have h := Blk.made (w.alloc (.cells (madeCells #[.slice none 0 0] l) 68)) .nilIface 20 l
        rw [World.size_alloc, hw0] at h
        exact h
      rw [hw0]
      have ST := Sec.mk (And.intro hb0 (And.intro hsz0 (And.intro hW0 hX0)))
      clear hw0 hb0 hsz0 hW0 hX0
      go_loopw [13, 15] (fun v13 _ wr => ∃ i : Nat, v13 = .int .i64 i ∧ i ≤ l ∧ wr.heap.size = w.heap.size + 2 + i ∧ Below w.heap.size w wr ∧ (∃ f, Blk wr w.heap.size 68 l f ∧ ∀ j, j < i → f j = .slice (some ⟨w.heap.size + 2 + j, 0, none⟩) k k) ∧
        (∃ f, Blk wr (w.heap.size + 1) 20 l f ∧ ∀ j, j < i → f j = .iface 68 (.slice (some ⟨w.heap.size + 2 + j, 0, none⟩) k k)) ∧ Cols wr (w.heap.size + 2) k i val 0 0) (fun v13 _ _ => l - (intOf v13).toNat)
      case atStart => exact ⟨0, rfl, Nat.zero_le _, ST.out.2.1, ST.out.1, ⟨_, ST.out.2.2.1, fun j hj => by omega⟩, ⟨_, ST.out.2.2.2, fun j hj => by omega⟩, fun j hj => by omega⟩
      case round =>
        obtain ⟨i, rfl, hi, hsz, hb, ⟨f, hfW, hfw⟩, ⟨f', hfX, hfx⟩, hcols⟩ := hrel
        by_cases hin : i < l
        · have c1 := hfW.cell i hin
          have f1 := hfW.free i
          have c2 := hfX.cell i hin
          have f2 := hfX.free i
          have lt1 := hfW.lt
          have lt2 := hfX.lt
          have fin : ∀ wx, wx = ((wr.setCell ⟨w.heap.size, i, none⟩ (.slice (some ⟨wr.heap.size, 0, none⟩) k k)).setCell ⟨w.heap.size + 1, i, none⟩ (.iface 68 (.slice (some ⟨wr.heap.size, 0, none⟩) k k))).alloc (.cells (madeCells #[.nilIface] k) 20) →
              wx.heap.size = w.heap.size + 2 + (i + 1) ∧ Below w.heap.size w wx ∧ (∃ f, Blk wx w.heap.size 68 l f ∧ ∀ j, j < i + 1 → f j = .slice (some ⟨w.heap.size + 2 + j, 0, none⟩) k k) ∧
              (∃ f, Blk wx (w.heap.size + 1) 20 l f ∧ ∀ j, j < i + 1 → f j = .iface 68 (.slice (some ⟨w.heap.size + 2 + j, 0, none⟩) k k)) ∧ Cols wx (w.heap.size + 2) k (i + 1) val 0 0 := by
            rintro wx rfl
            refine ⟨by simp [World.setCell]; omega, ((hb.setCell (p := ⟨w.heap.size, i, none⟩) (Nat.le_refl _) _).setCell (p := ⟨w.heap.size + 1, i, none⟩) (Nat.le_succ _) _).alloc (by simp [World.setCell]; exact hb.size) _, ?_, ?_, ?_⟩
            · refine ⟨_, ((hfW.set i (.slice (some ⟨wr.heap.size, 0, none⟩) k k)).far (by omega)).old _, fun j hj => ?_⟩
              by_cases e : j = i
              · subst e; rw [if_pos rfl, hsz]
              · rw [if_neg e]; exact hfw j (by omega)
            · refine ⟨_, ((hfX.far (by omega)).set i (.iface 68 (.slice (some ⟨wr.heap.size, 0, none⟩) k k))).old _, fun j hj => ?_⟩
              by_cases e : j = i
              · subst e; rw [if_pos rfl, hsz]
              · rw [if_neg e]; exact hfx j (by omega)
            · intro j hj
              by_cases e : j = i
              · subst e
                have h := Blk.made ((wr.setCell ⟨w.heap.size, j, none⟩ (.slice (some ⟨wr.heap.size, 0, none⟩) k k)).setCell ⟨w.heap.size + 1, j, none⟩ (.iface 68 (.slice (some ⟨wr.heap.size, 0, none⟩) k k))) .nilIface 20 k
                have hX : ((wr.setCell ⟨w.heap.size, j, none⟩ (.slice (some ⟨wr.heap.size, 0, none⟩) k k)).setCell ⟨w.heap.size + 1, j, none⟩ (.iface 68 (.slice (some ⟨wr.heap.size, 0, none⟩) k k))).heap.size = w.heap.size + 2 + j := by simp only [World.setCell, Array.size_modify]; exact hsz
                rw [hX] at h
                exact h.congr fun i' _ => by rw [if_neg (by omega)]
              · exact (((hcols j (by omega)).far (by omega)).far (by omega)).old _
          have FIN := Sec.mk (fin _ rfl)
          clear fin hsz hb hfW hfw hfX hfx hcols
          go_wp2
          go_roundw
          case rel => exact ⟨i + 1, by go_num, by omega, FIN.out⟩
          case measure => simp [intOf]; omega
        · obtain rfl : l = i := by omega
          have S0 : Shelf2 w wr k l 0 0 val f f' := ⟨hb, hfW, hfX, hcols, hfw, hfx⟩
          have SH := Sec.mk S0
          obtain ⟨wo, hwo⟩ : ∃ wo : World, wo = wr := ⟨_, rfl⟩
          subst hwo
          clear hsz hb hfW hfw hfX hfx hcols S0
          go_wp2_with fail
          go_loopw [16, 17, 84] (fun _ _ v84 wr => ∃ i : Nat, v84 = .int .i64 i ∧ i ≤ k ∧ Shelf2 w wr k l i 0 val f f') (fun _ _ v84 _ => k - (intOf v84).toNat)
          case atStart => exact ⟨0, rfl, Nat.zero_le _, SH.out⟩
          case round =>
            obtain ⟨i, rfl, hi, hsh⟩ := hrel
            have SI := Sec.mk hsh
            by_cases hin : i < k
            · obtain ⟨r, hr⟩ : ∃ r, m[i]? = some r := ⟨m[i]'(by rw [HN.out.2.2.2]; exact hin), by rw [List.getElem?_eq_getElem]⟩
              obtain ⟨ad, rfl, hadb, hc⟩ := RR.out.row i r hr
              obtain ⟨n, hn⟩ : ∃ n, r.length = n := ⟨_, rfl⟩
              rw [hn] at hc
              have hcw : wr.cell? (ad.add i) = some (.iface 68 (.slice (sl i).1 n (sl i).2)) := ((Same.of_below hsh.below).cell (Nat.lt_of_lt_of_le hadb HN.out.1) i).trans hc
              have hnl : n ≤ l := by rw [← hn, ← HN.out.2.2.1]; exact row_le_width (List.mem_of_getElem? hr)
              have HE := Sec.mk (fun j x hx => RR.out.el i r j x hr hx)
              have HNO := Sec.mk (fun j hj => RR.out.none i r j hr hj)
              have HFI := Sec.mk (fun j => HF.out i j r hr)
              have HNL := Sec.mk hn
              obtain ⟨Ai, ci, hsl⟩ : ∃ Ai ci, sl i = (Ai, ci) := ⟨_, _, rfl⟩
              rw [hsl] at hcw
              have HSL := Sec.mk hsl
              obtain ⟨wi, hwi⟩ : ∃ wi : World, wi = wr := ⟨_, rfl⟩
              subst hwi
              clear hsh hc hr hn hadb hsl
              go_wp2_with fail
              go_loopw [18, 19, 92] (fun _ _ v92 wr => ∃ jj : Nat, v92 = .int .i64 jj ∧ jj ≤ n ∧ Shelf2 w wr k l i jj val f f') (fun _ _ v92 _ => n - (intOf v92).toNat)
              case atStart => exact ⟨0, rfl, Nat.zero_le _, SI.out⟩
              case round =>
                obtain ⟨jj, rfl, hjj, hsj⟩ := hrel
                have SJ := Sec.mk hsj
                by_cases hjn : jj < n
                · obtain ⟨x, hx⟩ : ∃ x, r[jj]? = some x := ⟨r[jj]'(by rw [HNL.out]; exact hjn), by rw [List.getElem?_eq_getElem]⟩
                  obtain ⟨ae, hae, haeb, hce⟩ := HE.out jj x hx
                  rw [HSL.out] at hae
                  have hae' : Ai = some ae := hae
                  subst hae'
                  have hcv : wr.cell? (ae.add jj) = some (val i jj) := ((Same.of_below hsj.below).cell (Nat.lt_of_lt_of_le haeb HN.out.1) jj).trans hce
                  have hjl : jj < l := by omega
                  have g1 := hsj.wss.cell jj hjl
                  rw [hsj.fw jj hjl] at g1
                  have g2 := (hsj.cols jj hjl).cell i hin
                  have g3 := (hsj.cols jj hjl).free i
                  have g4 := (hsj.cols jj hjl).lt
                  have NXT := Sec.mk (hsj.step hjl)
                  generalize (if i < i ∨ (i = i ∧ jj < jj) then val i jj else Value.nilIface) = old at g2
                  have hv := HFI.out jj
                  clear hsj hx hce haeb hae
                  obtain ⟨vv, hvv⟩ : ∃ vv, val i jj = vv := ⟨_, rfl⟩
                  rw [hvv] at hcv hv NXT
                  have VV := Sec.mk hvv
                  clear hvv
                  rcases hv with rfl | ⟨ty, u, rfl⟩
                  all_goals
                    go_wp2
                    go_roundw
                    case rel => exact ⟨jj + 1, by go_num, by omega, NXT.out⟩
                    case measure => simp [intOf]; omega
                · obtain rfl : n = jj := by omega
                  have NXT := Sec.mk (hsj.next fun j hj => HNO.out j (by rw [HNL.out]; exact hj))
                  clear hsj
                  go_wp2
                  go_roundw
                  case rel => exact ⟨i + 1, by go_num, by omega, NXT.out⟩
                  case measure => simp [intOf]; omega
            · obtain rfl : k = i := by omega
              clear hsh
              go_wp2
              go_ret
              have hkk := HN.out.2.2.2
              subst hkk
              exact ⟨.iface 68 (.slice (some ⟨w.heap.size + 1, 0, none⟩) l l), rfl, Shelf2.done SI.out RR.out HN.out.2.2.1 HN.out.1 HN.out.2.1 hk1 hl1, SI.out.below⟩

end Go.Proofs.YtpamlgdcnmcedaaDoor
