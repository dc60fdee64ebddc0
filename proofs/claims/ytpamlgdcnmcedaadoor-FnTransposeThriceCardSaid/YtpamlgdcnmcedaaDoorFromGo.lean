/-
  impl.fromGo reads back what toGo makes: every right value, where mapFromGo does.
-/
import Derived.Test.YtpamlgdcnmcedaaDoorTpDoor
import Derived.Test.YtpamlgdcnmcedaaDoorKeys
namespace Go.Proofs.YtpamlgdcnmcedaaDoor
set_option linter.unusedVariables false
set_option linter.unusedSimpArgs false
open Go.RowKit

/-- mapFromGo at maps of right values. -/
def MapFrom (m : Nat) : Prop := FromGoUpTo m → ∀ (ks : List ByteArray) (vs : List V), V.goodL vs → V.cntL vs ≤ m → V.nbL vs ≤ 1000000000 → rises ks → ks.length = vs.length → (∀ k ∈ ks, k.size ≤ reach) →
  ∀ (b n : Nat) (xs : List Value) (w : World) (lo B : Nat), w.ownsMap Tryd.prog 9 heldR b n (.map (pairs ks xs)) → b < B → RdAV w lo B vs xs → B ≤ w.heap.size →
    Calls Tryd.prog 55 #[.map (some b)] w (Back (.mk 6 0 ⟨#[]⟩ [] ks vs) w)

set_option maxHeartbeats 800000 in
set_option maxRecDepth 100000 in
theorem fromGo_map (x : V) (v : Value) (w : World) (H : ∀ W, Below w.heap.size w W → Calls Tryd.prog 55 #[v] W (Back x W)) :
    Calls Tryd.prog 45 #[.iface 71 v] w (Back x w) := by
  have CF := Sec.mk H
  clear H
  go_enter Tryd.func45, Tryd.ntmps45
  go_wp2_with fail
  refine (CF.out _ ((Below.refl _ _).alloc (Nat.le_refl _) _)).mono ?_
  intro e w1 hw1
  obtain ⟨cs, rfl, hf, hb⟩ := hw1
  obtain ⟨k2, h2', t2, A32, n32, c32, A42, n42, c42, A52, n52, c52, rfl⟩ := hf.rd.form
  have hl := laid_after _ _ _ _ hb
  have HB := Sec.mk hb
  have HF := Sec.mk hf
  obtain ⟨hc, hfr, hz⟩ := hl
  clear hb hf
  have d0 := hc 0 _ rfl
  have d1 := hc 1 _ rfl
  have d2 := hc 2 _ rfl
  have d3 := hc 3 _ rfl
  have d4 := hc 4 _ rfl
  have d5 := hc 5 _ rfl
  have f0 := hfr 0
  have f1 := hfr 1
  have f2 := hfr 2
  have f3 := hfr 3
  have f4 := hfr 4
  have f5 := hfr 5
  clear hc hfr
  go_wp2_with fail
  refine bodyPost_ret (v := .tuple #[.agg #[.int .i64 k2, .int .i64 h2', .string t2, .slice A32 n32 c32, .slice A42 n42 c42, .slice A52 n52 c52], .bool true]) (by simp [results, Tryd.results45, go_sem, *]) rfl ⟨[.int .i64 k2, .int .i64 h2', .string t2, .slice A32 n32 c32, .slice A42 n42 c42, .slice A52 n52 c52], rfl, ?_, ?_⟩
  · have hf := HF.out
    rw [World.size_alloc] at hf
    refine RdF.same hf ?_ (Nat.le_succ _) (by simp [World.setCell])
    iterate 6 refine SameIn.set ?_ (Nat.lt_succ_self _)
    exact fun _ _ _ => rfl
  · iterate 6 refine below_set ?_ (Nat.le_refl _)
    exact below_laid HB.out

theorem size_zero {t : ByteArray} (h : t.size = 0) : t = ⟨#[]⟩ := by
  obtain ⟨a⟩ := t
  have : a = #[] := Array.eq_empty_of_size_eq_zero h
  rw [this]
theorem rdF_num {w : World} {lo B : Nat} (h : Int) : RdF w lo B (.mk 3 h ⟨#[]⟩ [] [] []) [.int .i64 3, .int .i64 h, .string ⟨#[]⟩, .slice none 0 0, .slice none 0 0, .slice none 0 0] := by
  intro w' _
  rw [Rd]
  exact ⟨none, 0, none, 0, none, 0, rfl, by decide, ⟨Nat.le_refl _, by decide, by rw [RdL]; trivial⟩, ⟨Nat.le_refl _, by decide, fun i k hk => by simp at hk⟩, ⟨Nat.le_refl _, by decide, by rw [RdL]; trivial⟩⟩
theorem le_nbS {ks : List ByteArray} {k : ByteArray} (h : k ∈ ks) : k.size ≤ V.nbS ks := by
  induction ks with
  | nil => cases h
  | cons a ks ih =>
    have e : V.nbS (a :: ks) = a.size + V.nbS ks := by simp [V.nbS]
    rw [e]
    rcases List.mem_cons.1 h with rfl | h
    · omega
    · have := ih h
      omega

theorem fromGo_step (m : Nat) (hm : m ≤ 1000000000) (MF : MapFrom m) (ih : FromGoUpTo m) : FromGoUpTo (m + 1) := by
  rintro x ⟨hg, hc, hnb⟩ v w lo B hv hB
  have hv0 := hv
  cases x with | mk k h t l ks vs =>
  rw [RdA] at hv
  rw [V.good] at hg
  rw [V.cnt] at hc
  rw [V.nb] at hnb
  obtain ⟨⟨g0, g1, g2, g3, g4, g5, g6⟩, gb, gt, gl, gs, gr, gv⟩ := hg
  obtain ⟨v0, v1, v2, v3, v4, v5, v6⟩ := hv
  have hk : k = 0 ∨ k = 1 ∨ k = 2 ∨ k = 3 ∨ k = 4 ∨ k = 5 ∨ k = 6 := by omega
  have zl : k ≠ 5 → l = [] := fun e => List.eq_nil_of_length_eq_zero (g4.resolve_left e)
  have zk : k ≠ 6 → ks = [] := fun e => List.eq_nil_of_length_eq_zero (g5.resolve_left e)
  have zv : k ≠ 6 → vs = [] := fun e => List.eq_nil_of_length_eq_zero (by rw [← g6]; exact g5.resolve_left e)
  have zt : k ≠ 4 → t = ⟨#[]⟩ := fun e => size_zero (g3.resolve_left e)
  have zh : k ≠ 3 → h = 0 := fun e => g2.resolve_left e
  rcases hk with rfl | rfl | rfl | rfl | rfl | rfl | rfl
  · rw [v0 rfl, zl (by decide), zk (by decide), zv (by decide), zt (by decide), zh (by decide)]
    exact fromGo_nil w
  · rw [v1 rfl, zl (by decide), zk (by decide), zv (by decide), zt (by decide), zh (by decide)]
    exact fromGo_bool false w
  · rw [v2 rfl, zl (by decide), zk (by decide), zv (by decide), zt (by decide), zh (by decide)]
    exact fromGo_bool true w
  · rw [v3 rfl, zl (by decide), zk (by decide), zv (by decide), zt (by decide)]
    refine (fromGo_num h w gb).mono ?_
    rintro e w' ⟨rfl, hb⟩
    exact ⟨[.int .i64 3, .int .i64 h, .string ⟨#[]⟩, .slice none 0 0, .slice none 0 0, .slice none 0 0], rfl, rdF_num h, hb⟩
  · rw [v4 rfl, zl (by decide), zk (by decide), zv (by decide), zh (by decide)]
    exact fromGo_string t w (by unfold reach; omega)
  · obtain ⟨A, c, rfl, h1, h2, h3⟩ := v5 rfl
    rw [zk (by decide), zv (by decide), zt (by decide), zh (by decide)]
    have e1 := V.length_le_cntL l
    refine fromGo_list _ _ w fun W hb => listFromGo_any _ ih (fun x hx w lo B v hr => hr.form hx.1) l (fun x hx => ⟨goodL_mem gl hx, ?_, ?_⟩) A _ c lo B W rfl (by omega) (RdAL.same (SameIn.of_same ((Same.of_below hb).mono hB)) (Nat.le_refl _) (Nat.le_refl _) _ _ _ h3) (Nat.le_trans hB hb.size)
    · obtain ⟨i, hi⟩ := List.getElem?_of_mem hx
      have := V.cnt_le_get hi
      omega
    · have := nb_le_mem hx
      omega
  · obtain ⟨b, n, xs, rfl, h1, h2, h3, h4, h5⟩ := v6 rfl
    rw [zl (by decide), zt (by decide), zh (by decide)]
    exact fromGo_map _ _ w fun W hb => MF ih ks vs gv (by omega) (by omega) gr g6 (fun k hk => by have := le_nbS hk; unfold reach; omega) b n xs W lo B (owns_same h4 (hb.block b (by omega))) h2 (RdAV.same (SameIn.of_same ((Same.of_below hb).mono hB)) (Nat.le_refl _) (Nat.le_refl _) _ _ h5) (Nat.le_trans hB hb.size)

/-- fromGo makes of what toGo made of a right value the same. -/
theorem fromGo_upTo (MF : ∀ m, m ≤ 1000000000 → MapFrom m) : ∀ m : Nat, m ≤ 1000000001 → FromGoUpTo m
  | 0, _ => fun x hx => by have := V.cnt_pos x; have := hx.2.1; omega
  | m + 1, h => fromGo_step m (by omega) (MF m (by omega)) (fromGo_upTo MF m (by omega))

end Go.Proofs.YtpamlgdcnmcedaaDoor
