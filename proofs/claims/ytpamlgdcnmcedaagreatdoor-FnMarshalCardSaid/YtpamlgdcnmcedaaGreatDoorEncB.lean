/-
  encode: the text of every right value, written.
-/
import Derived.Test.YtpamlgdcnmcedaaGreatDoorEncOB
import Derived.Test.YtpamlgdcnmcedaaGreatDoorTa
import Derived.Deep.RegionWith
import Derived.BigRegion
namespace Go.Proofs.YtpamlgdcnmcedaaGreatDoor
set_option linter.unusedVariables false
set_option linter.unusedSimpArgs false
open Go.RowKit

theorem step_str {w : World} {B b g : Nat} {l : List UInt8} (hS : St w B b g l) (t : ByteArray) (T : List UInt8) (hT : t.data.toList = T) (hz : l.length + 10 ≤ 1000000000) (ht : T.length ≤ 10) : Calls Tryz.prog 181 #[.pointer (some ⟨b, 0, none⟩), .string t] w (EncPost w B b g l T) := by
  rw [← hT]
  exact st_string t hS (by rw [hT]; omega)

set_option maxHeartbeats 3200000 in
set_option maxRecDepth 100000 in
theorem encC_any (T : List UInt8) (v : Value) (B b g : Nat) (l : List UInt8) (w : World) (hS : St w B b g l) (hz : l.length + 10 ≤ 1000000000)
    (h : v = .nilIface ∧ T = [110, 117, 108, 108] ∨ v = .iface 4 (.bool false) ∧ T = [102, 97, 108, 115, 101] ∨ v = .iface 4 (.bool true) ∧ T = [116, 114, 117, 101]) :
    Calls Tryz.prog 29 #[.pointer (some ⟨g, 0, none⟩), v] w (EncPost w B b g l T) := by
  obtain ⟨cs, hE⟩ := hS.enc
  have d0 := hE.c0
  unfold wVal at d0
  rcases h with ⟨rfl, rfl⟩ | ⟨rfl, rfl⟩ | ⟨rfl, rfl⟩
  · have CS := Sec.mk (step_str hS ⟨#[110, 117, 108, 108]⟩ _ rfl hz (by decide))
    clear hE
    go_enter Tryz.func29, Tryz.ntmps29
    go_wp2_with fail
    refine CS.out.mono ?_
    rintro e w2 ⟨⟨u, rfl⟩, h1, h2⟩
    have FIN := Sec.mk (show EncPost w B b g l [110, 117, 108, 108] (.returned (.tuple #[])) w2 from ⟨⟨_, rfl⟩, h1, h2⟩)
    clear h1 h2
    go_wp2_with fail
    go_end0
    exact FIN.out
  · have CS := Sec.mk (step_str hS ⟨#[102, 97, 108, 115, 101]⟩ _ rfl hz (by decide))
    clear hE
    go_enter Tryz.func29, Tryz.ntmps29
    go_wp2_with fail
    refine CS.out.mono ?_
    rintro e w2 ⟨⟨u, rfl⟩, h1, h2⟩
    have FIN := Sec.mk (show EncPost w B b g l [102, 97, 108, 115, 101] (.returned (.tuple #[])) w2 from ⟨⟨_, rfl⟩, h1, h2⟩)
    clear h1 h2
    go_wp2_with fail
    go_end0
    exact FIN.out
  · have CS := Sec.mk (step_str hS ⟨#[116, 114, 117, 101]⟩ _ rfl hz (by decide))
    clear hE
    go_enter Tryz.func29, Tryz.ntmps29
    go_wp2_with fail
    refine CS.out.mono ?_
    rintro e w2 ⟨⟨u, rfl⟩, h1, h2⟩
    have FIN := Sec.mk (show EncPost w B b g l [116, 114, 117, 101] (.returned (.tuple #[])) w2 from ⟨⟨_, rfl⟩, h1, h2⟩)
    clear h1 h2
    go_wp2_with fail
    go_end0
    exact FIN.out

/-- The arms that hand on. -/
def HandsOn (fn : Nat) (ty : TypeId) : Prop := ∀ (u : Value) (B b g : Nat) (l T : List UInt8) (w : World), Calls Tryz.prog fn #[.pointer (some ⟨g, 0, none⟩), u] w (EncPost w B b g l T) → Calls Tryz.prog 29 #[.pointer (some ⟨g, 0, none⟩), .iface ty u] w (EncPost w B b g l T)
set_option maxHeartbeats 3200000 in
set_option maxRecDepth 100000 in
theorem hands_float : HandsOn 45 60 := by
  intro u B b g l T w hC
  have CC := Sec.mk hC
  clear hC
  go_enter Tryz.func29, Tryz.ntmps29
  go_wp2_with fail
  refine CC.out.mono ?_
  rintro e w2 ⟨⟨u, rfl⟩, h1, h2⟩
  have FIN := Sec.mk (show EncPost w B b g l T (.returned (.tuple #[])) w2 from ⟨⟨_, rfl⟩, h1, h2⟩)
  clear h1 h2
  go_wp2_with fail
  go_end0
  exact FIN.out
set_option maxHeartbeats 3200000 in
set_option maxRecDepth 100000 in
theorem hands_string : HandsOn 48 9 := by
  intro u B b g l T w hC
  have CC := Sec.mk hC
  clear hC
  go_enter Tryz.func29, Tryz.ntmps29
  go_wp2_with fail
  refine CC.out.mono ?_
  rintro e w2 ⟨⟨u, rfl⟩, h1, h2⟩
  have FIN := Sec.mk (show EncPost w B b g l T (.returned (.tuple #[])) w2 from ⟨⟨_, rfl⟩, h1, h2⟩)
  clear h1 h2
  go_wp2_with fail
  go_end0
  exact FIN.out
set_option maxHeartbeats 3200000 in
set_option maxRecDepth 100000 in
theorem hands_list : HandsOn 49 61 := by
  intro u B b g l T w hC
  have CC := Sec.mk hC
  clear hC
  go_enter Tryz.func29, Tryz.ntmps29
  go_wp2_with fail
  refine CC.out.mono ?_
  rintro e w2 ⟨⟨u, rfl⟩, h1, h2⟩
  have FIN := Sec.mk (show EncPost w B b g l T (.returned (.tuple #[])) w2 from ⟨⟨_, rfl⟩, h1, h2⟩)
  clear h1 h2
  go_wp2_with fail
  go_end0
  exact FIN.out
set_option maxHeartbeats 3200000 in
set_option maxRecDepth 100000 in
theorem hands_map : HandsOn 50 64 := by
  intro u B b g l T w hC
  have CC := Sec.mk hC
  clear hC
  go_enter Tryz.func29, Tryz.ntmps29
  go_wp2_with fail
  refine CC.out.mono ?_
  rintro e w2 ⟨⟨u, rfl⟩, h1, h2⟩
  have FIN := Sec.mk (show EncPost w B b g l T (.returned (.tuple #[])) w2 from ⟨⟨_, rfl⟩, h1, h2⟩)
  clear h1 h2
  go_wp2_with fail
  go_end0
  exact FIN.out

set_option maxHeartbeats 3200000 in
set_option maxRecDepth 100000 in
theorem encI_any (n : Int) (B b g : Nat) (l : List UInt8) (w : World) (hS : St w B b g l) (h0 : -1000000000000000000 < n) (h1 : n < 1000000000000000000) (hz : l.length + 30 ≤ 1000000000) :
    Calls Tryz.prog 29 #[.pointer (some ⟨g, 0, none⟩), .iface 3 (.int .i64 n)] w (EncPost w B b g l (intL n)) := by
  obtain ⟨cs, hE⟩ := hS.enc
  have d0 := hE.c0
  unfold wVal at d0
  have hln := intL_length h0 h1
  have hS' : St w.drew B b g l := hS.below (Below.refl _ _).drew
  have CU := Sec.mk (appendInt_any n g (wVal b) cs w.drew (hE.keep rfl) h0 h1)
  have HS := Sec.mk hS'
  have HK := Sec.mk (Kp.of_below (b := b) (g := g) (Below.refl w.heap.size w).drew hS.size)
  have HN := Sec.mk (And.intro hln hz)
  clear hS hE hS' hln hz h0 h1
  generalize intL n = T at *
  go_enter Tryz.func29, Tryz.ntmps29
  go_upto_region 13 with fail
  go_region_with (first | (go_at_call 44; refine CU.out.mono ?_; intro e w1 hw1; obtain ⟨rfl, ⟨cs', hE1⟩, hg1⟩ := hw1; have d1 := hE1.c0; unfold wVal at d1; have CW := Sec.mk (st_bytes (c := 64) ⟨T.toArray⟩ (HS.out.mine hg1 ⟨_, hE1⟩) hE1 (by have := HN.out; simp; omega)); have HK1 := Sec.mk (HK.out.trans (Kp.of_grown (b := b) hg1 HS.out.base HS.out.size)); clear hE1 hg1; generalize (ByteArray.mk T.toArray).size = sz at *) | (go_at_call 179; refine CW.out.mono ?_; intro e w2 hw2; obtain ⟨⟨u, rfl⟩, h2, k2⟩ := hw2; have FIN := Sec.mk (show EncPost w B b g l T (.returned (.tuple #[])) w2 from ⟨⟨_, rfl⟩, h2, HK1.out.trans k2⟩); clear h2 k2))
  all_goals
    go_wp2_with fail
    go_end0
    exact FIN.out

theorem V.length_le_cntL' (l : List V) : l.length ≤ V.cntL l := V.length_le_cntL l

theorem odd_abs {h : Int} (e : ¬ h.tmod 2 = 0) : h.natAbs % 2 = 1 := by
  rcases Nat.mod_two_eq_zero_or_one h.natAbs with h0 | h0
  · exact absurd (Int.tmod_eq_zero_of_dvd ⟨h / 2, by omega⟩) e
  · exact h0
theorem enc_upTo : ∀ m, m ≤ 1000000000 → EncUpTo m := by
  intro m
  induction m with
  | zero =>
    intro _ x hx
    cases x
    rw [V.cnt] at hx
    omega
  | succ m ih =>
    intro hm1 x hx hg v lo B b g l w hr hS hT hB2 hz
    have ihm := ih (by omega)
    cases x with
    | mk k h t l0 ks vs =>
      rw [V.cnt] at hx
      rw [V.cnt, V.nb] at hz
      rw [V.good] at hg
      rw [RdA] at hr
      obtain ⟨⟨g0, g6, gk3, gk4, gk5, gk6, gkl⟩, gB, gt, gl, gvs, gr, gv⟩ := hg
      obtain ⟨h0, h1, h2, h3, h4, h5, h6⟩ := hr
      have hk : k = 0 ∨ k = 1 ∨ k = 2 ∨ k = 3 ∨ k = 4 ∨ k = 5 ∨ k = 6 := by omega
      rw [json]
      rcases hk with e | e | e | e | e | e | e
      · rw [h0 e, if_pos e]
        exact encC_any _ _ B b g l w hS (by omega) (.inl ⟨rfl, rfl⟩)
      · rw [h1 e, if_neg (by omega), if_pos e]
        exact encC_any _ _ B b g l w hS (by omega) (.inr (.inl ⟨rfl, rfl⟩))
      · rw [h2 e, if_neg (by omega), if_neg (by omega), if_pos e]
        exact encC_any _ _ B b g l w hS (by omega) (.inr (.inr ⟨rfl, rfl⟩))
      · rw [h3 e, if_neg (by omega), if_neg (by omega), if_neg (by omega), if_pos e]
        obtain ⟨b1, b2, b3⟩ := gB
        by_cases hev : h.tmod 2 = 0
        · have hh : h = 2 * h.tdiv 2 := by have := Int.tmod_add_mul_tdiv h 2; omega
          rw [numA_even hev, figL_even hev]
          exact encI_any _ B b g l w hS (by omega) (by omega) (by omega)
        · rw [numA_odd hev]
          have b4 := b3.resolve_left hev
          exact hands_float _ B b g l _ w (encF_any h B b g l w hS (odd_abs hev) b4.1 b4.2 (by omega))
      · rw [h4 e, if_neg (by omega), if_neg (by omega), if_neg (by omega), if_neg (by omega), if_pos e]
        exact hands_string _ B b g l _ w (encS_any t B b g l w hS hT hB2 gt (by omega))
      · rw [if_neg (by omega), if_neg (by omega), if_neg (by omega), if_neg (by omega), if_neg (by omega), if_pos e]
        obtain ⟨A, c, rfl, e2, e3, e4⟩ := h5 e
        have := V.length_le_cntL l0
        exact hands_list _ B b g l _ w (encA_any m ihm l0 (by omega) gl A l0.length c lo B b g l w rfl e4 hS hT hB2 (by omega) (by omega))
      · rw [if_neg (by omega), if_neg (by omega), if_neg (by omega), if_neg (by omega), if_neg (by omega), if_neg (by omega)]
        obtain ⟨mb, nn, xs, rfl, e2, e3, e4, e5, e6⟩ := h6 e
        have := V.length_le_cntL vs
        exact hands_map _ B b g l _ w (encO_any m ihm ks vs (by omega) gv gr gvs ks.length rfl gkl.symm mb nn lo B b g xs l w e5 e3 e6 hS hT hB2 (by omega) (by omega))

end Go.Proofs.YtpamlgdcnmcedaaGreatDoor
