/-
  The first digits of a decimal, rounded down or up.
-/
import Derived.Test.YtpamlgdcnmcedaaGreatDoorCmpD
import Derived.Deep.RegionHeld3
import Derived.Deep.RegionLaw
import Derived.Deep.DeepCutAuto
import Derived.Deep.CutBlock
namespace Go.Proofs.YtpamlgdcnmcedaaGreatDoor
set_option linter.unusedVariables false
set_option linter.unusedSimpArgs false
open Go.RowKit
open Dc

/-- Whatever is appended to a row that is there: some slice, in a row of the call's own. -/
theorem step_append_some {P : Program} {w : World} {ops : Array Oper} {o : Oper} {a : Act} {K : Act → World → Prop} {Q : Exit → Act → World → Prop} {E : Prop} (hgd : o.guard = none) (s x : Operand) (t : TypeId)
    (ho : o.op = .call { callee := .builtin .append, args := #[s, x], argTypes := #[t, t] })
    (base : Nat) (e : TypeId) (i : TypeInfo) (z : Value) (size bytes : Nat) (ht : P.underlying t = some (.slice e)) (hi : P.info? e = some i) (hz : i.zero = some z)
    (hsize : i.size = size) (hby : i.bytes = bytes) (hzs : z.cells.size = size) (hsz : 0 < size)
    (v : Value) (n : Nat) (xs : List Value) (hs : a.eval s = v) (hown : w.ownsRow base e size v n xs) (hv : ∃ b, v.ownBlock = some b)
    (ad : Addr) (m c : Nat) (news : List Value) (hx : a.eval x = .slice (some ad) m c) (hl : news.length = m * size) (hnews : ∀ j u, news[j]? = some u → w.cell? (ad.add j) = some u) (h1 : ∀ u ∈ news, u.oneCell' = true)
    (h63 : n + m ≤ maxLen) (hbytes : (n + m) * bytes ≤ 140737488355328) (hbase : base ≤ w.heap.size)
    (h : ∀ g cap w', w'.ownsRow base e size (.slice (some ⟨g, 0, none⟩) (n + m) cap) (n + m) (xs ++ news) → w.grownBy w' v.ownBlock → K (a.put o.dst (.slice (some ⟨g, 0, none⟩) (n + m) cap)) w') :
    if Region.wanted o (yielded ops a.tmps) = true then Oper.wp P o a w K Q else E := by
  have hw : Region.wanted o (yielded ops a.tmps) = true := by simp [Region.wanted, hgd]
  rw [if_pos hw]
  refine wp_append_own w s x t ho base e i z size bytes ht hi hz hsize hby hzs hsz v n xs hs hown ad m c news hx hl hnews h1 h63 hbytes hbase fun v' w' h2 h3 h4 => ?_
  rcases h2.2 with ⟨e0, _⟩ | ⟨g, cap, cur, e0, rest⟩
  · have := (h4.1 e0).1
    rw [this] at hv
    obtain ⟨b, hb⟩ := hv
    cases hb
  · rw [e0] at h2 ⊢
    exact h g cap w' h2 h3

/-- A decimal by its block and its row: they are two, since their types are. -/
theorem DecAt.mk' {w : World} {lo g : Nat} {v : Value} {ds : List Nat} {dp : Int} (h1 : w.heap[g]? = some (.cells #[v, .int .i64 dp] 173 (0, 0))) (h2 : w.ownsRow lo 5 1 v ds.length (ds.map d8)) (h3 : lo ≤ g) : DecAt w lo g v ds dp := by
  refine ⟨h1, h2, h3, fun e => ?_⟩
  rcases h2.2 with ⟨rfl, _⟩ | ⟨r, cap, cur, rfl, _, hr, _⟩
  · simp [Value.ownBlock] at e
  · have e' : r = g := by simpa [Value.ownBlock] using e
    rw [e', h1] at hr
    simp at hr

theorem heap_lt {w : World} {g : Nat} {o : Obj} (h : w.heap[g]? = some o) : g < w.heap.size := by
  rcases Nat.lt_or_ge g w.heap.size with h' | h'
  · exact h'
  · rw [Array.getElem?_eq_none h'] at h; cases h
theorem heap_new' (Y : World) (o : Obj) (g : Nat) (h : Y.heap.size = g) : (Y.alloc o).heap[g]? = some o := by subst h; exact heap_alloc_new Y o
theorem heap_old' {Y : World} {g : Nat} {o : Obj} (h : Y.heap[g]? = some o) (o' : Obj) : (Y.alloc o').heap[g]? = some o := (Below.heap_alloc Y o' g (heap_lt h)).trans h
theorem heap_dr' {Y : World} {g : Nat} {o : Obj} (h : Y.heap[g]? = some o) : Y.drew.heap[g]? = some o := h
theorem below_up {w W : World} (h : Below w.heap.size w W) (o : Obj) : Below w.heap.size w (W.alloc o) := h.alloc h.size o
theorem below_dr {w W : World} (h : Below w.heap.size w W) : Below w.heap.size w W.drew := h.drew
theorem own_empty {W : World} {base b : Nat} (hb : base ≤ b) (h : W.heap[b]? = some (.cells #[] 5 (0, 0))) : W.ownsRow base 5 1 (.slice (some ⟨b, 0, none⟩) 0 0) 0 [] :=
  ⟨rfl, .inr ⟨b, 0, #[], rfl, hb, h, Nat.le_refl _, Nat.zero_le _, rfl, rfl⟩⟩
theorem after_app {w W w3 : World} {v : Value} (hb : Below w.heap.size w W) (hg : W.grownBy w3 v.ownBlock) (hv : ∀ k, v.ownBlock = some k → w.heap.size ≤ k) : Below w.heap.size w w3 := hb.grown hg hb.size hv
theorem dec_after {W w3 : World} {v : Value} {b : Nat} (h : W.heap[b]? = some (.cells #[.slice none 0 0, .int .i64 0] 173 (0, 0))) (hg : W.grownBy w3 v.ownBlock) (hne : v.ownBlock ≠ some b) :
    w3.heap[b]? = some (.cells #[.slice none 0 0, .int .i64 0] 173 (0, 0)) ∧ w3.cell? ⟨b, 0, none⟩ = some (.slice none 0 0) ∧ w3.cell? ⟨b, 1, none⟩ = some (.int .i64 0) ∧ w3.frozen? ⟨b, 0, none⟩ = false ∧ w3.frozen? ⟨b, 1, none⟩ = false ∧ b < w3.heap.size := by
  have e : w3.heap[b]? = some (.cells #[.slice none 0 0, .int .i64 0] 173 (0, 0)) := (hg.block b (heap_lt h) (fun e => hne e.symm)).trans h
  refine ⟨e, ?_, ?_, ?_, ?_, heap_lt e⟩ <;> simp [World.cell?, World.frozen?, e]
theorem one8s (l : List Nat) : ∀ u ∈ l.map d8, u.oneCell' = true := by
  intro u hu
  obtain ⟨d, _, rfl⟩ := List.mem_map.1 hu
  rfl
/-- The point of no digit is 0. -/
def pointOf (ds : List Nat) (dp : Int) : Int := if ds = [] then 0 else dp
/-- A new decimal. -/
def DownIs (w : World) (ds : List Nat) (dp : Int) (v5 : Value) (wx : World) : Prop := ∃ g v, v5 = .pointer (some ⟨g, 0, none⟩) ∧ DecAt wx w.heap.size g v ds dp ∧ Below w.heap.size w wx

theorem row_fix {w w3 : World} {g' n cap : Nat} {l : List Nat} (hl : l.length = n) (ho : w3.ownsRow w.heap.size 5 1 (.slice (some ⟨g', 0, none⟩) (0 + n) cap) (0 + n) ([] ++ l.map d8)) : w3.ownsRow w.heap.size 5 1 (.slice (some ⟨g', 0, none⟩) n cap) l.length (l.map d8) := by
  rw [Nat.zero_add, List.nil_append] at ho
  rw [hl]
  exact ho
theorem DownIs.laid {w w3 : World} {g' n cap : Nat} {l : List Nat} {dp : Int} (hl : l.length = n) (ho : w3.ownsRow w.heap.size 5 1 (.slice (some ⟨g', 0, none⟩) (0 + n) cap) (0 + n) ([] ++ l.map d8)) (hb : Below w.heap.size w w3) :
    DownIs w l dp (.pointer (some ⟨w3.heap.size, 0, none⟩)) (w3.alloc (.cells #[.slice (some ⟨g', 0, none⟩) n cap, .int .i64 dp] 173)) :=
  ⟨_, _, rfl, DecAt.mk' (heap_alloc_new w3 _) ((row_fix hl ho).alloc _) hb.size, hb.alloc hb.size _⟩
theorem DownIs.put {w w3 : World} {g' n cap b : Nat} {l : List Nat} {dp : Int} (hl : l.length = n) (ho : w3.ownsRow w.heap.size 5 1 (.slice (some ⟨g', 0, none⟩) (0 + n) cap) (0 + n) ([] ++ l.map d8)) (hb : Below w.heap.size w w3)
    (hz : w3.heap[b]? = some (.cells #[.slice none 0 0, .int .i64 0] 173 (0, 0))) (hwb : w.heap.size ≤ b) :
    DownIs w l dp (.pointer (some ⟨b, 0, none⟩)) ((w3.setCell ⟨b, 0, none⟩ (.slice (some ⟨g', 0, none⟩) n cap)).setCell ⟨b, 1, none⟩ (.int .i64 dp)) := by
  have hne : (Value.slice (some ⟨g', 0, none⟩) n cap).ownBlock ≠ some b := fun e => by
    have e' : g' = b := by simpa [Value.ownBlock] using e
    rcases ho.2 with ⟨e1, _⟩ | ⟨r, cap', cur, e1, _, hr, _⟩
    · cases e1
    · have e2 : g' = r := by injection e1 with e1; injection e1 with e1; injection e1
      rw [← e2, e', hz] at hr
      simp at hr
  refine ⟨_, _, rfl, DecAt.mk' (v := .slice (some ⟨g', 0, none⟩) n cap) ?_ (((row_fix hl ho).kept (grownSet' w3 b 0 _) (.inr hne)).kept (grownSet' _ b 1 _) (.inr hne)) hwb, (hb.setCell (p := ⟨b, 0, none⟩) hwb _).setCell (p := ⟨b, 1, none⟩) hwb _⟩
  simp [World.setCell, Array.getElem?_modify, hz]

set_option maxHeartbeats 1600000 in
set_option maxRecDepth 100000 in
theorem down_any (w : World) (lo g : Nat) (v : Value) (ds : List Nat) (dp : Int) (n : Nat) (h : DecAt w lo g v ds dp) (ht : Ten ds) (hz : ds.length ≤ 1000) (hn : n < ds.length) :
    Calls Tryz.prog 134 #[.pointer (some ⟨g, 0, none⟩), .int .i64 (n : Int)] w fun e w' => ∃ v5, e = .returned v5 ∧ DownIs w (trimL (ds.take n)) (pointOf (trimL (ds.take n)) dp) v5 w' := by
  obtain ⟨i0, hi0, hz0, hz1, hz2⟩ := info_parts infoB
  obtain ⟨A, c, rfl, hlc, hcell⟩ := h.form
  have c0 := h.c0
  have c1 := h.c1
  obtain ⟨L, hL⟩ : ∃ L, ds.length = L := ⟨_, rfl⟩
  rw [hL] at c0 hlc hz hn
  obtain ⟨d0, hd0⟩ : ∃ d, ds[0]? = some d := ⟨_, List.getElem?_eq_getElem (by omega)⟩
  obtain ⟨ad, rfl, _⟩ := hcell 0 d0 hd0
  have hnews : ∀ W, Below w.heap.size w W → ∀ (j : Nat) (u : Value), ((ds.take n).map d8)[j]? = some u → W.cell? (ad.add j) = some u := by
    intro W hb j u hu
    rw [List.getElem?_map] at hu
    cases hd : (ds.take n)[j]? with
    | none => rw [hd] at hu; cases hu
    | some d =>
      rw [hd] at hu
      injection hu with hu
      subst hu
      have hd' : ds[j]? = some d := by
        rw [List.getElem?_take] at hd
        split at hd
        · exact hd
        · cases hd
      obtain ⟨ad', e, hc⟩ := hcell j d hd'
      injection e with e
      subst e
      have hlt : (ad.add j).block < w.heap.size := World.block_lt_of_cell? w _ hc
      exact (hb.cell (p := ad.add j) hlt).trans hc
  have hlt := h.lt
  have H := Sec.mk h
  have HN := Sec.mk hnews
  have HT := Sec.mk (And.intro ht hL)
  have dl : decide (L ≤ n) = false := decide_eq_false (by omega)
  clear h hnews hcell hd0 ht hL
  go_enter Tryz.func134, Tryz.ntmps134
  go_upto_region 3 with fail
  go_cut [5] (fun v5 wx => DownIs w (ds.take n) dp v5 wx)
  case first =>
    have s1 : (0 : Int) ≤ (n : Int) := by omega
    have s2 : (n : Int) ≤ (c : Int) := by omega
    have s3 : ∀ (ts : Array TypeId) (t : TypeId) (W : World), (Builtin.max_ ts t #[.int .i64 (n : Int), .int .i64 0]).run Tryz.prog W = .ok (.int .i64 (n : Int)) W := fun ts t W => by
      rw [run_max_int2, if_neg (by omega)]
    have s5 : ¬ ((n : Int) < 0) := by omega
    have s6 : (n : Int) ≤ (L : Int) := by omega
    have s4 : n ≤ c := by omega
    have C0 := Sec.mk (And.intro c0 c1)
    have hlen : ((ds.take n).map d8).length = n * 1 := by rw [List.length_map, List.length_take, HT.out.2]; omega
    have HLEN := Sec.mk hlen
    clear hlen
    have ga : g ≠ w.heap.size := by omega
    have gb : g ≠ w.heap.size + 1 := by omega
    have gc : ¬ (w.heap.size = g) := by omega
    have gd : ¬ (w.heap.size + 1 = g) := by omega
    go_region_held3 (fun W => W.cell? ⟨g, 0, none⟩ = some (.slice (some ad) L c) ∧ W.cell? ⟨g, 1, none⟩ = some (.int .i64 dp)) (first | exact ⟨k0, k1⟩ | go_keep) (first | (refine step_append_some (by rfl) _ _ _ (by rfl) w.heap.size 5 i0 (.int .u8 0) 1 1 Tryz.underlying45 hi0 hz0 hz1 hz2 rfl (by decide) (.slice (some ⟨w.heap.size, 0, none⟩) 0 0) 0 [] (by rfl) (own_empty (Nat.le_refl _) (by repeat (first | (with_reducible refine heap_new' _ _ _ ?_; simp; done) | with_reducible refine heap_dr' ?_ | with_reducible refine heap_old' ?_ _))) ⟨_, rfl⟩ ad n c ((ds.take n).map d8) (by rfl) HLEN.out (HN.out _ (by repeat (first | with_reducible exact Below.refl _ _ | with_reducible refine below_dr ?_ | with_reducible refine below_up ?_ _))) (one8s _) (by unfold maxLen; omega) (by omega) (by first | (simp; done) | (simp; omega)) ?_; intro g' cap w3 ho3 hg3; have hz5 := dec_after (b := w.heap.size + 1) (by first | (((with_reducible refine heap_new' _ _ _ ?_); simp <;> fail)) | ((with_reducible refine heap_dr' ?_); ((with_reducible refine heap_new' _ _ _ ?_); simp <;> fail)) | ((with_reducible refine heap_old' ?_ _); ((with_reducible refine heap_new' _ _ _ ?_); simp <;> fail)) | ((with_reducible refine heap_dr' ?_); (with_reducible refine heap_old' ?_ _); ((with_reducible refine heap_new' _ _ _ ?_); simp <;> fail)) | ((with_reducible refine heap_old' ?_ _); (with_reducible refine heap_dr' ?_); ((with_reducible refine heap_new' _ _ _ ?_); simp <;> fail)) | ((with_reducible refine heap_dr' ?_); (with_reducible refine heap_old' ?_ _); (with_reducible refine heap_dr' ?_); ((with_reducible refine heap_new' _ _ _ ?_); simp <;> fail)) | ((with_reducible refine heap_dr' ?_); (with_reducible refine heap_dr' ?_); ((with_reducible refine heap_new' _ _ _ ?_); simp <;> fail)) | ((with_reducible refine heap_dr' ?_); (with_reducible refine heap_dr' ?_); (with_reducible refine heap_old' ?_ _); ((with_reducible refine heap_new' _ _ _ ?_); simp <;> fail)) | ((with_reducible refine heap_dr' ?_); (with_reducible refine heap_old' ?_ _); (with_reducible refine heap_dr' ?_); (with_reducible refine heap_dr' ?_); ((with_reducible refine heap_new' _ _ _ ?_); simp <;> fail)) | ((with_reducible refine heap_dr' ?_); (with_reducible refine heap_old' ?_ _); (with_reducible refine heap_old' ?_ _); ((with_reducible refine heap_new' _ _ _ ?_); simp <;> fail))) hg3 (by simp [Value.ownBlock]); have z0 := hz5.2.1; have z1 := hz5.2.2.1; have zf0 := hz5.2.2.2.1; have zf1 := hz5.2.2.2.2.1; have zl := hz5.2.2.2.2.2; have Z5 := Sec.mk hz5.1; clear hz5; have hb3 := after_app (w := w) (by repeat (first | with_reducible exact Below.refl _ _ | with_reducible refine below_dr ?_ | with_reducible refine below_up ?_ _)) hg3 (fun k e => by simp [Value.ownBlock] at e; omega); have k0 := (hb3.cell (p := ⟨g, 0, none⟩) hlt).trans C0.out.1; have k1 := (hb3.cell (p := ⟨g, 1, none⟩) hlt).trans C0.out.2; have HO3 := Sec.mk ho3; have HB3 := Sec.mk hb3; clear ho3 hg3 hb3) | (refine step_append_some (by rfl) _ _ _ (by rfl) w.heap.size 5 i0 (.int .u8 0) 1 1 Tryz.underlying45 hi0 hz0 hz1 hz2 rfl (by decide) (.slice (some ⟨w.heap.size, 0, none⟩) 0 0) 0 [] (by rfl) (own_empty (Nat.le_refl _) (by repeat (first | (with_reducible refine heap_new' _ _ _ ?_; simp; done) | with_reducible refine heap_dr' ?_ | with_reducible refine heap_old' ?_ _))) ⟨_, rfl⟩ ad n c ((ds.take n).map d8) (by rfl) HLEN.out (HN.out _ (by repeat (first | with_reducible exact Below.refl _ _ | with_reducible refine below_dr ?_ | with_reducible refine below_up ?_ _))) (one8s _) (by unfold maxLen; omega) (by omega) (by first | (simp; done) | (simp; omega)) ?_; intro g' cap w3 ho3 hg3; have hb3 := after_app (w := w) (by repeat (first | with_reducible exact Below.refl _ _ | with_reducible refine below_dr ?_ | with_reducible refine below_up ?_ _)) hg3 (fun k e => by simp [Value.ownBlock] at e; omega); have k0 := (hb3.cell (p := ⟨g, 0, none⟩) hlt).trans C0.out.1; have k1 := (hb3.cell (p := ⟨g, 1, none⟩) hlt).trans C0.out.2; have HO3 := Sec.mk ho3; have HB3 := Sec.mk hb3; clear ho3 hg3 hb3) | (refine step_append_some (by rfl) _ _ _ (by rfl) w.heap.size 5 i0 (.int .u8 0) 1 1 Tryz.underlying45 hi0 hz0 hz1 hz2 rfl (by decide) (.slice (some ⟨w.heap.size + 1, 0, none⟩) 0 0) 0 [] (by rfl) (own_empty (Nat.le_succ _) (by repeat (first | (with_reducible refine heap_new' _ _ _ ?_; simp; done) | with_reducible refine heap_dr' ?_ | with_reducible refine heap_old' ?_ _))) ⟨_, rfl⟩ ad n c ((ds.take n).map d8) (by rfl) HLEN.out (HN.out _ (by repeat (first | with_reducible exact Below.refl _ _ | with_reducible refine below_dr ?_ | with_reducible refine below_up ?_ _))) (one8s _) (by unfold maxLen; omega) (by omega) (by first | (simp; done) | (simp; omega)) ?_; intro g' cap w3 ho3 hg3; have hz5 := dec_after (b := w.heap.size) (by first | (((with_reducible refine heap_new' _ _ _ ?_); simp <;> fail)) | ((with_reducible refine heap_dr' ?_); ((with_reducible refine heap_new' _ _ _ ?_); simp <;> fail)) | ((with_reducible refine heap_old' ?_ _); ((with_reducible refine heap_new' _ _ _ ?_); simp <;> fail)) | ((with_reducible refine heap_dr' ?_); (with_reducible refine heap_old' ?_ _); ((with_reducible refine heap_new' _ _ _ ?_); simp <;> fail)) | ((with_reducible refine heap_old' ?_ _); (with_reducible refine heap_dr' ?_); ((with_reducible refine heap_new' _ _ _ ?_); simp <;> fail)) | ((with_reducible refine heap_dr' ?_); (with_reducible refine heap_old' ?_ _); (with_reducible refine heap_dr' ?_); ((with_reducible refine heap_new' _ _ _ ?_); simp <;> fail)) | ((with_reducible refine heap_dr' ?_); (with_reducible refine heap_dr' ?_); ((with_reducible refine heap_new' _ _ _ ?_); simp <;> fail)) | ((with_reducible refine heap_dr' ?_); (with_reducible refine heap_dr' ?_); (with_reducible refine heap_old' ?_ _); ((with_reducible refine heap_new' _ _ _ ?_); simp <;> fail)) | ((with_reducible refine heap_dr' ?_); (with_reducible refine heap_old' ?_ _); (with_reducible refine heap_dr' ?_); (with_reducible refine heap_dr' ?_); ((with_reducible refine heap_new' _ _ _ ?_); simp <;> fail)) | ((with_reducible refine heap_dr' ?_); (with_reducible refine heap_old' ?_ _); (with_reducible refine heap_old' ?_ _); ((with_reducible refine heap_new' _ _ _ ?_); simp <;> fail))) hg3 (by simp [Value.ownBlock]); have z0 := hz5.2.1; have z1 := hz5.2.2.1; have zf0 := hz5.2.2.2.1; have zf1 := hz5.2.2.2.2.1; have zl := hz5.2.2.2.2.2; have Z5 := Sec.mk hz5.1; clear hz5; have hb3 := after_app (w := w) (by repeat (first | with_reducible exact Below.refl _ _ | with_reducible refine below_dr ?_ | with_reducible refine below_up ?_ _)) hg3 (fun k e => by simp [Value.ownBlock] at e; omega); have k0 := (hb3.cell (p := ⟨g, 0, none⟩) hlt).trans C0.out.1; have k1 := (hb3.cell (p := ⟨g, 1, none⟩) hlt).trans C0.out.2; have HO3 := Sec.mk ho3; have HB3 := Sec.mk hb3; clear ho3 hg3 hb3))
    all_goals
      go_wp2_with fail
      go_meet
      have hlt' : (ds.take n).length = n := by rw [List.length_take, HT.out.2]; omega
      first
        | exact DownIs.laid hlt' HO3.out HB3.out
        | exact DownIs.put hlt' HO3.out HB3.out Z5.out (Nat.le_succ _)
        | exact DownIs.put hlt' HO3.out HB3.out Z5.out (Nat.le_refl _)
  case rest =>
    obtain ⟨g5, v5, rfl, hd5, hb5⟩ := hcut
    have hten : Ten (ds.take n) := fun d hd => HT.out.1 d (List.mem_of_mem_take hd)
    have CT := Sec.mk (trim_any _ w.heap.size g5 v5 (ds.take n) dp hd5 hten (by rw [List.length_take]; omega))
    have HB5 := Sec.mk hb5
    have H5 := Sec.mk hd5.base
    clear hd5 hb5 hten
    go_wp2_with (go_at_call 131; refine CT.out.mono ?_; intro e w4 hw4; obtain ⟨rfl, ⟨v', hd'⟩, hg4⟩ := hw4; have HD' := Sec.mk hd'; have HG4 := Sec.mk hg4; clear hd' hg4)
    go_ret
    exact ⟨_, rfl, g5, v', rfl, HD'.out, HB5.out.grown HG4.out HB5.out.size (fun k e => by have e' : g5 = k := Option.some.inj e; have := H5.out; omega)⟩




/-- The digit at place m, one greater. -/
theorem DecAt.bump {w : World} {lo g r m n cap d : Nat} {l : List Nat} {dp : Int} (h : DecAt w lo g (.slice (some ⟨r, 0, none⟩) n cap) (l ++ [d]) dp) (hm : l.length = m) :
    DecAt (w.setCell ⟨r, m, none⟩ (.int .u8 ((d : Int) + 1))) lo g (.slice (some ⟨r, 0, none⟩) n cap) (l ++ [d + 1]) dp := by
  have hne : g ≠ r := fun e => h.ne (by rw [e]; rfl)
  have hl : (l ++ [d]).length = n := by
    rcases h.row.2 with ⟨e, _⟩ | ⟨_, _, _, e, _⟩
    · cases e
    · injection e with _ e2 _; exact e2.symm
  have hrow := h.row
  rw [hl] at hrow
  have hs := (hrow.stored m (.int .u8 ((d : Int) + 1))).1
  have e : ((l ++ [d]).map d8).set m (.int .u8 ((d : Int) + 1)) = (l ++ [d + 1]).map d8 := by
    rw [List.map_append, List.map_append, List.set_append_right _ _ (by rw [List.length_map]; omega), List.length_map, hm, Nat.sub_self]
    rfl
  rw [e] at hs
  have hl2 : (l ++ [d + 1]).length = n := by rw [← hl]; simp
  exact ⟨(Below.heap_setCell _ _ _ _ hne).trans h.box, by rw [hl2]; exact hs, h.base, h.ne⟩
theorem DecAt.one {w : World} {lo g r m n cap d : Nat} {l : List Nat} {dp : Int} (h : DecAt w lo g (.slice (some ⟨r, 0, none⟩) n cap) (l ++ [d]) dp) (hm : l.length = m) :
    w.cell? ⟨r, m, none⟩ = some (.int .u8 (d : Int)) ∧ w.frozen? ⟨r, m, none⟩ = false ∧ r < w.heap.size ∧ n = m + 1 ∧ lo ≤ r := by
  have hl : (l ++ [d]).length = n := by
    rcases h.row.2 with ⟨e, _⟩ | ⟨_, _, _, e, _⟩
    · cases e
    · injection e with _ e2 _; exact e2.symm
  have hrow := h.row
  rw [hl] at hrow
  have hn : n = m + 1 := by rw [← hl, List.length_append, hm]; rfl
  refine ⟨?_, hrow.frozenAt m, (hrow.lt r rfl).2, hn, (hrow.lt r rfl).1⟩
  rw [hrow.cellAt m (by omega), List.getElem?_map, List.getElem?_append_right (by omega), hm, Nat.sub_self]
  rfl
/-- up's answer. -/
def UpIs (w : World) (ds : List Nat) (n : Nat) (dp : Int) (e : Ending) (w' : World) : Prop := ∃ v5 u dpu, e = .returned v5 ∧ DownIs w u dpu v5 w' ∧ IsUp ds n dp u dpu

set_option maxHeartbeats 3200000 in
set_option maxRecDepth 100000 in
theorem up_any (w : World) (lo g : Nat) (v : Value) (ds : List Nat) (dp : Int) (n : Nat) (h : DecAt w lo g v ds dp) (ht : Ten ds) (hz : ds.length ≤ 1000) (hn : n < ds.length) (b1 : -1000 ≤ dp) (b2 : dp ≤ 1000) :
    Calls Tryz.prog 135 #[.pointer (some ⟨g, 0, none⟩), .int .i64 (n : Int)] w (UpIs w ds n dp) := by
  obtain ⟨i0, hi0, hz0, hz1, hz2⟩ := info_parts infoB
  obtain ⟨A, c, rfl, hlc, hcell⟩ := h.form
  have c0 := h.c0
  have c1 := h.c1
  obtain ⟨L, hL⟩ : ∃ L, ds.length = L := ⟨_, rfl⟩
  rw [hL] at c0 hlc hz hn
  obtain ⟨d0, hd0⟩ : ∃ d, ds[0]? = some d := ⟨_, List.getElem?_eq_getElem (by omega)⟩
  obtain ⟨ad, rfl, _⟩ := hcell 0 d0 hd0
  have hcell' : ∀ (j d : Nat), ds[j]? = some d → w.cell? (ad.add j) = some (.int .u8 (d : Int)) := fun j d hd => by
    obtain ⟨ad', e, hc⟩ := hcell j d hd
    injection e with e
    subst e
    exact hc
  have hnews : ∀ (m : Nat) W, Below w.heap.size w W → ∀ (j : Nat) (u : Value), ((ds.take (m + 1)).map d8)[j]? = some u → W.cell? (ad.add j) = some u := by
    intro m W hb j u hu
    rw [List.getElem?_map] at hu
    cases hd : (ds.take (m + 1))[j]? with
    | none => rw [hd] at hu; cases hu
    | some d =>
      rw [hd] at hu
      injection hu with hu
      subst hu
      have hd' : ds[j]? = some d := by
        rw [List.getElem?_take] at hd
        split at hd
        · exact hd
        · cases hd
      have hc := hcell' j d hd'
      have hlt : (ad.add j).block < w.heap.size := World.block_lt_of_cell? w _ hc
      exact (hb.cell (p := ad.add j) hlt).trans hc
  have hlt := h.lt
  have H := Sec.mk h
  have HNN := Sec.mk hnews
  have HCC := Sec.mk hcell'
  have HT := Sec.mk (And.intro ht hL)
  have dl : decide (L ≤ n) = false := decide_eq_false (by omega)
  clear h hnews hcell hd0 ht hL hcell'
  go_enter Tryz.func135, Tryz.ntmps135
  go_wp2_with fail
  go_loopw [5, 6] (fun v5 _ wr => ∃ k : Nat, v5 = .int .i64 ((k : Int) - 1) ∧ k ≤ n ∧ wr = w) (fun v5 _ _ => (intOf v5 + 1).toNat)
  case atStart => exact ⟨n, rfl, Nat.le_refl _, rfl⟩
  case round =>
    obtain ⟨k, rfl, hk, e⟩ := hrel
    have e' := e.symm
    subst e'
    clear e
    rcases Nat.eq_zero_or_pos k with h0 | h0
    · subst h0
      have d1 : decide ((0 : Int) ≤ (((0 : Nat) : Int) - 1)) = false := rfl
      have e1 : (((0 : Nat) : Int) - 1) = -1 := rfl
      rw [e1]
      rw [e1] at d1
      have w1 : IntKind.i64.wrap (dp + 1) = dp + 1 := IntWalk.i64_in _ (by omega)
      have FIN := Sec.mk (show UpIs w ds n dp (.returned (.pointer (some ⟨w.heap.size + 1, 0, none⟩))) ((w.alloc (.cells #[.int .u8 1] 5)).alloc (.cells #[.slice (some ⟨w.heap.size, 0, none⟩) 1 1, .int .i64 (dp + 1)] 173)) from by
        refine ⟨_, [1], dp + 1, rfl, ⟨w.heap.size + 1, .slice (some ⟨w.heap.size, 0, none⟩) 1 1, rfl, DecAt.mk' ?_ ?_ (Nat.le_succ _), ((Below.refl _ _).alloc (Nat.le_refl _) _).alloc (by simp) _⟩, .inr ⟨rfl, rfl⟩⟩
        · exact heap_new' _ _ _ (by simp)
        · exact ⟨rfl, .inr ⟨w.heap.size, 1, #[.int .u8 1], rfl, Nat.le_refl _, heap_old' (heap_alloc_new w _) _, Nat.le_refl _, by decide, rfl, rfl⟩⟩)
      go_wp2_with fail
      go_ret
      exact FIN.out
    · obtain ⟨m, rfl⟩ : ∃ m, k = m + 1 := ⟨k - 1, by omega⟩
      obtain ⟨d, hd⟩ : ∃ d, ds[m]? = some d := ⟨_, List.getElem?_eq_getElem (by rw [HT.out.2]; omega)⟩
      have hcd := HCC.out m d hd
      have em : (((m + 1 : Nat) : Int) - 1) = (m : Int) := by omega
      rw [em]
      have HD := Sec.mk hd
      clear hd em
      by_cases h9 : d < 9
      · have H9 := Sec.mk h9
        have d9 : decide ((d : Int) < 9) = true := decide_eq_true (by omega)
        go_upto_region 7 with fail
        go_cut [6] (fun v6 wx => DownIs w (ds.take (m + 1)) dp v6 wx)
        case first =>
          have s1 : (0 : Int) ≤ (m : Int) + 1 := by omega
          have s2 : (m : Int) + 1 ≤ (c : Int) := by omega
          have s3 : IntKind.i64.wrap ((m : Int) + 1) = (m : Int) + 1 := IntWalk.i64_in _ (by omega)
          have s4 : m + 1 ≤ c := by omega
          have s5 : ((m : Int) + 1).toNat = m + 1 := by omega
          have s6 : (m : Int) + 1 ≤ (L : Int) := by omega
          have s7 : (m : Int) < (c : Int) := by omega
          have s8 : m < c := by omega
          have HN := Sec.mk (HNN.out m)
          have C0 := Sec.mk (And.intro c0 c1)
          have hlen : ((ds.take (m + 1)).map d8).length = (m + 1) * 1 := by rw [List.length_map, List.length_take, HT.out.2]; omega
          have HLEN := Sec.mk hlen
          clear hlen
          have ga : g ≠ w.heap.size := by omega
          have gb : g ≠ w.heap.size + 1 := by omega
          have gc : ¬ (w.heap.size = g) := by omega
          have gd : ¬ (w.heap.size + 1 = g) := by omega
          go_region_held3 (fun W => W.cell? ⟨g, 0, none⟩ = some (.slice (some ad) L c) ∧ W.cell? ⟨g, 1, none⟩ = some (.int .i64 dp)) (first | exact ⟨k0, k1⟩ | go_keep) (first | (refine step_append_some (by rfl) _ _ _ (by rfl) w.heap.size 5 i0 (.int .u8 0) 1 1 Tryz.underlying45 hi0 hz0 hz1 hz2 rfl (by decide) (.slice (some ⟨w.heap.size, 0, none⟩) 0 0) 0 [] (by rfl) (own_empty (Nat.le_refl _) (by repeat (first | (with_reducible refine heap_new' _ _ _ ?_; simp; done) | with_reducible refine heap_dr' ?_ | with_reducible refine heap_old' ?_ _))) ⟨_, rfl⟩ ad (m + 1) c ((ds.take (m + 1)).map d8) (by rfl) HLEN.out (HN.out _ (by repeat (first | with_reducible exact Below.refl _ _ | with_reducible refine below_dr ?_ | with_reducible refine below_up ?_ _))) (one8s _) (by unfold maxLen; omega) (by omega) (by first | (simp; done) | (simp; omega)) ?_; intro g' cap w3 ho3 hg3; have hz5 := dec_after (b := w.heap.size + 1) (by first | (((with_reducible refine heap_new' _ _ _ ?_); simp <;> fail)) | ((with_reducible refine heap_dr' ?_); ((with_reducible refine heap_new' _ _ _ ?_); simp <;> fail)) | ((with_reducible refine heap_old' ?_ _); ((with_reducible refine heap_new' _ _ _ ?_); simp <;> fail)) | ((with_reducible refine heap_dr' ?_); (with_reducible refine heap_old' ?_ _); ((with_reducible refine heap_new' _ _ _ ?_); simp <;> fail)) | ((with_reducible refine heap_old' ?_ _); (with_reducible refine heap_dr' ?_); ((with_reducible refine heap_new' _ _ _ ?_); simp <;> fail)) | ((with_reducible refine heap_dr' ?_); (with_reducible refine heap_old' ?_ _); (with_reducible refine heap_dr' ?_); ((with_reducible refine heap_new' _ _ _ ?_); simp <;> fail)) | ((with_reducible refine heap_dr' ?_); (with_reducible refine heap_dr' ?_); ((with_reducible refine heap_new' _ _ _ ?_); simp <;> fail)) | ((with_reducible refine heap_dr' ?_); (with_reducible refine heap_dr' ?_); (with_reducible refine heap_old' ?_ _); ((with_reducible refine heap_new' _ _ _ ?_); simp <;> fail)) | ((with_reducible refine heap_dr' ?_); (with_reducible refine heap_old' ?_ _); (with_reducible refine heap_dr' ?_); (with_reducible refine heap_dr' ?_); ((with_reducible refine heap_new' _ _ _ ?_); simp <;> fail)) | ((with_reducible refine heap_dr' ?_); (with_reducible refine heap_old' ?_ _); (with_reducible refine heap_old' ?_ _); ((with_reducible refine heap_new' _ _ _ ?_); simp <;> fail))) hg3 (by simp [Value.ownBlock]); have z0 := hz5.2.1; have z1 := hz5.2.2.1; have zf0 := hz5.2.2.2.1; have zf1 := hz5.2.2.2.2.1; have zl := hz5.2.2.2.2.2; have Z5 := Sec.mk hz5.1; clear hz5; have hb3 := after_app (w := w) (by repeat (first | with_reducible exact Below.refl _ _ | with_reducible refine below_dr ?_ | with_reducible refine below_up ?_ _)) hg3 (fun k e => by simp [Value.ownBlock] at e; omega); have k0 := (hb3.cell (p := ⟨g, 0, none⟩) hlt).trans C0.out.1; have k1 := (hb3.cell (p := ⟨g, 1, none⟩) hlt).trans C0.out.2; have HO3 := Sec.mk ho3; have HB3 := Sec.mk hb3; clear ho3 hg3 hb3) | (refine step_append_some (by rfl) _ _ _ (by rfl) w.heap.size 5 i0 (.int .u8 0) 1 1 Tryz.underlying45 hi0 hz0 hz1 hz2 rfl (by decide) (.slice (some ⟨w.heap.size, 0, none⟩) 0 0) 0 [] (by rfl) (own_empty (Nat.le_refl _) (by repeat (first | (with_reducible refine heap_new' _ _ _ ?_; simp; done) | with_reducible refine heap_dr' ?_ | with_reducible refine heap_old' ?_ _))) ⟨_, rfl⟩ ad (m + 1) c ((ds.take (m + 1)).map d8) (by rfl) HLEN.out (HN.out _ (by repeat (first | with_reducible exact Below.refl _ _ | with_reducible refine below_dr ?_ | with_reducible refine below_up ?_ _))) (one8s _) (by unfold maxLen; omega) (by omega) (by first | (simp; done) | (simp; omega)) ?_; intro g' cap w3 ho3 hg3; have hb3 := after_app (w := w) (by repeat (first | with_reducible exact Below.refl _ _ | with_reducible refine below_dr ?_ | with_reducible refine below_up ?_ _)) hg3 (fun k e => by simp [Value.ownBlock] at e; omega); have k0 := (hb3.cell (p := ⟨g, 0, none⟩) hlt).trans C0.out.1; have k1 := (hb3.cell (p := ⟨g, 1, none⟩) hlt).trans C0.out.2; have HO3 := Sec.mk ho3; have HB3 := Sec.mk hb3; clear ho3 hg3 hb3) | (refine step_append_some (by rfl) _ _ _ (by rfl) w.heap.size 5 i0 (.int .u8 0) 1 1 Tryz.underlying45 hi0 hz0 hz1 hz2 rfl (by decide) (.slice (some ⟨w.heap.size + 1, 0, none⟩) 0 0) 0 [] (by rfl) (own_empty (Nat.le_succ _) (by repeat (first | (with_reducible refine heap_new' _ _ _ ?_; simp; done) | with_reducible refine heap_dr' ?_ | with_reducible refine heap_old' ?_ _))) ⟨_, rfl⟩ ad (m + 1) c ((ds.take (m + 1)).map d8) (by rfl) HLEN.out (HN.out _ (by repeat (first | with_reducible exact Below.refl _ _ | with_reducible refine below_dr ?_ | with_reducible refine below_up ?_ _))) (one8s _) (by unfold maxLen; omega) (by omega) (by first | (simp; done) | (simp; omega)) ?_; intro g' cap w3 ho3 hg3; have hz5 := dec_after (b := w.heap.size) (by first | (((with_reducible refine heap_new' _ _ _ ?_); simp <;> fail)) | ((with_reducible refine heap_dr' ?_); ((with_reducible refine heap_new' _ _ _ ?_); simp <;> fail)) | ((with_reducible refine heap_old' ?_ _); ((with_reducible refine heap_new' _ _ _ ?_); simp <;> fail)) | ((with_reducible refine heap_dr' ?_); (with_reducible refine heap_old' ?_ _); ((with_reducible refine heap_new' _ _ _ ?_); simp <;> fail)) | ((with_reducible refine heap_old' ?_ _); (with_reducible refine heap_dr' ?_); ((with_reducible refine heap_new' _ _ _ ?_); simp <;> fail)) | ((with_reducible refine heap_dr' ?_); (with_reducible refine heap_old' ?_ _); (with_reducible refine heap_dr' ?_); ((with_reducible refine heap_new' _ _ _ ?_); simp <;> fail)) | ((with_reducible refine heap_dr' ?_); (with_reducible refine heap_dr' ?_); ((with_reducible refine heap_new' _ _ _ ?_); simp <;> fail)) | ((with_reducible refine heap_dr' ?_); (with_reducible refine heap_dr' ?_); (with_reducible refine heap_old' ?_ _); ((with_reducible refine heap_new' _ _ _ ?_); simp <;> fail)) | ((with_reducible refine heap_dr' ?_); (with_reducible refine heap_old' ?_ _); (with_reducible refine heap_dr' ?_); (with_reducible refine heap_dr' ?_); ((with_reducible refine heap_new' _ _ _ ?_); simp <;> fail)) | ((with_reducible refine heap_dr' ?_); (with_reducible refine heap_old' ?_ _); (with_reducible refine heap_old' ?_ _); ((with_reducible refine heap_new' _ _ _ ?_); simp <;> fail))) hg3 (by simp [Value.ownBlock]); have z0 := hz5.2.1; have z1 := hz5.2.2.1; have zf0 := hz5.2.2.2.1; have zf1 := hz5.2.2.2.2.1; have zl := hz5.2.2.2.2.2; have Z5 := Sec.mk hz5.1; clear hz5; have hb3 := after_app (w := w) (by repeat (first | with_reducible exact Below.refl _ _ | with_reducible refine below_dr ?_ | with_reducible refine below_up ?_ _)) hg3 (fun k e => by simp [Value.ownBlock] at e; omega); have k0 := (hb3.cell (p := ⟨g, 0, none⟩) hlt).trans C0.out.1; have k1 := (hb3.cell (p := ⟨g, 1, none⟩) hlt).trans C0.out.2; have HO3 := Sec.mk ho3; have HB3 := Sec.mk hb3; clear ho3 hg3 hb3))
          all_goals
            go_wp2_with fail
            go_meet
            have hlt' : (ds.take (m + 1)).length = m + 1 := by rw [List.length_take, HT.out.2]; omega
            first
              | exact DownIs.laid hlt' HO3.out HB3.out
              | exact DownIs.put hlt' HO3.out HB3.out Z5.out (Nat.le_succ _)
              | exact DownIs.put hlt' HO3.out HB3.out Z5.out (Nat.le_refl _)
        case rest =>
          obtain ⟨g5, v5, rfl, hd5, hb5⟩ := hcut
          have etk : ds.take (m + 1) = ds.take m ++ [d] := take_snoc HD.out
          have hlm : (ds.take m).length = m := by rw [List.length_take, HT.out.2]; omega
          rw [etk] at hd5
          obtain ⟨A5, c5, e5, _, _⟩ := hd5.form
          obtain ⟨r, hr⟩ : ∃ r, A5 = some ⟨r, 0, none⟩ := by
            rcases hd5.row.2 with ⟨_, e0⟩ | ⟨r, cap, cur, e0, _⟩
            · simp at e0
            · rw [e5] at e0
              injection e0 with e1 e2 e3
              exact ⟨r, e1⟩
          rw [hr] at e5
          subst e5
          have h5 := hd5.c0
          obtain ⟨a1, a2, a3, a4, a5⟩ := hd5.one hlm
          have hbp := hd5.bump hlm
          rw [a4] at h5
          have FIN := Sec.mk (show UpIs w ds n dp (.returned (.pointer (some ⟨g5, 0, none⟩))) _ from
            ⟨_, _, _, rfl, ⟨g5, _, rfl, hbp, hb5.setCell (p := ⟨r, m, none⟩) a5 _⟩, .inl ⟨m, d, by omega, HD.out, H9.out, rfl, rfl⟩⟩)
          have hd9 : d < 9 := H9.out
          clear hd5 hb5 hbp a4 a5 etk hlm hcd c0 c1 hr
          go_wp2_with fail
          go_ret
          exact FIN.out
      · have d9 : decide ((d : Int) < 9) = false := decide_eq_false (by omega)
        go_wp2_with fail
        go_roundw
        case rel => exact ⟨m, by first | rfl | go_num, by omega, by first | rfl | trivial⟩
        case measure => simp [intOf] <;> omega

end Go.Proofs.YtpamlgdcnmcedaaGreatDoor
