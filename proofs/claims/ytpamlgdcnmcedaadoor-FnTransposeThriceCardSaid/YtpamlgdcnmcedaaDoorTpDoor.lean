/-
  impl.Transpose at rows of right values, where fromGo reads right values back.
-/
import Derived.Test.YtpamlgdcnmcedaaDoorTpW
import Derived.Test.YtpamlgdcnmcedaaDoorMapTo
import Derived.Test.YtpamlgdcnmcedaaDoorTwo
namespace Go.Proofs.YtpamlgdcnmcedaaDoor
set_option linter.unusedVariables false
set_option linter.unusedSimpArgs false
open Go.RowKit

theorem goodL_of : ∀ {l : List V}, (∀ x ∈ l, x.good) → V.goodL l
  | [], _ => by rw [V.goodL]; trivial
  | x :: l, h => by rw [V.goodL]; exact ⟨h x (List.mem_cons_self ..), goodL_of fun y hy => h y (List.mem_cons_of_mem _ hy)⟩
theorem goodL_mem : ∀ {l : List V} {x : V}, V.goodL l → x ∈ l → x.good
  | y :: l, x, h, hx => by
    rw [V.goodL] at h
    rcases List.mem_cons.1 hx with rfl | hx
    · exact h.1
    · exact goodL_mem h.2 hx
theorem good_list {l : List V} (h : ∀ x ∈ l, x.good) : (listV l).good := by
  unfold listV
  rw [V.good]
  refine ⟨⟨by decide, by decide, .inr rfl, .inr rfl, .inl rfl, .inr rfl, rfl⟩, ⟨by decide, by decide, .inl (by decide)⟩, rfl, goodL_of h, fun k hk => by simp at hk, fun i a b ha => by simp at ha, by rw [V.goodL]; trivial⟩
theorem good_list_inv {l : List V} (h : (listV l).good) : ∀ x ∈ l, x.good := by
  unfold listV at h
  rw [V.good] at h
  exact fun x hx => goodL_mem h.2.2.2.1 hx
theorem good_nil : nilV.good := by
  unfold nilV
  rw [V.good]
  exact ⟨⟨by decide, by decide, .inr rfl, .inr rfl, .inr rfl, .inr rfl, rfl⟩, ⟨by decide, by decide, .inl (by decide)⟩, rfl, by rw [V.goodL]; trivial, fun k hk => by simp at hk, fun i a b ha => by simp at ha, by rw [V.goodL]; trivial⟩
theorem good_mat {m : List (List V)} (h : ∀ r ∈ m, ∀ x ∈ r, x.good) : (matV m).good :=
  good_list fun x hx => by
    obtain ⟨r, hr, rfl⟩ := List.mem_map.1 hx
    exact good_list (h r hr)
theorem good_tr {m : List (List V)} (h : ∀ r ∈ m, ∀ x ∈ r, x.good) : ∀ r ∈ tr m, ∀ x ∈ r, x.good := by
  intro r hr x hx
  rcases tr_mem hr hx with rfl | ⟨r', hr', hx'⟩
  · exact good_nil
  · exact h r' hr' x hx'
theorem cntL_le {b : Nat} : ∀ {l : List V}, (∀ x ∈ l, x.cnt ≤ b) → V.cntL l ≤ l.length * b
  | [], _ => by rw [V.cntL]; simp
  | x :: l, h => by
    rw [V.cntL, List.length_cons, Nat.succ_mul]
    have h1 := h x (List.mem_cons_self ..)
    have h2 := cntL_le (b := b) fun y hy => h y (List.mem_cons_of_mem x hy)
    omega
theorem cnt_list (l : List V) : (listV l).cnt = 1 + V.cntL l := by
  have e : V.cntL [] = 0 := by rw [V.cntL]
  unfold listV
  rw [V.cnt, e, Nat.add_zero]
/-- Rows, columns and elements are few, so all is little. -/
theorem cnt_mat {m : List (List V)} {a b c : Nat} (h1 : m.length ≤ a) (h2 : ∀ r ∈ m, r.length ≤ b) (h3 : ∀ r ∈ m, ∀ x ∈ r, x.cnt ≤ c) : (matV m).cnt ≤ 1 + a * (1 + b * c) := by
  unfold matV
  rw [cnt_list]
  have h : V.cntL (m.map listV) ≤ (m.map listV).length * (1 + b * c) := cntL_le fun x hx => by
    obtain ⟨r, hr, rfl⟩ := List.mem_map.1 hx
    rw [cnt_list]
    have e1 : V.cntL r ≤ r.length * c := cntL_le (h3 r hr)
    have e2 : r.length * c ≤ b * c := Nat.mul_le_mul_right _ (h2 r hr)
    omega
  rw [List.length_map] at h
  have e3 : m.length * (1 + b * c) ≤ a * (1 + b * c) := Nat.mul_le_mul_right _ h1
  omega
theorem cnt_nil : nilV.cnt = 1 := by unfold nilV; rw [V.cnt, V.cntL]
theorem cnt_tr {m : List (List V)} {c : Nat} (hc : 1 ≤ c) (h : ∀ r ∈ m, ∀ x ∈ r, x.cnt ≤ c) : ∀ r ∈ tr m, ∀ x ∈ r, x.cnt ≤ c := by
  intro r hr x hx
  rcases tr_mem hr hx with rfl | ⟨r', hr', hx'⟩
  · rw [cnt_nil]; exact hc
  · exact h r' hr' x hx'

theorem nbL_le {b : Nat} : ∀ {l : List V}, (∀ x ∈ l, x.nb ≤ b) → V.nbL l ≤ l.length * b
  | [], _ => by rw [V.nbL]; simp
  | x :: l, h => by
    rw [V.nbL, List.length_cons, Nat.succ_mul]
    have h1 := h x (List.mem_cons_self ..)
    have h2 := nbL_le (b := b) fun y hy => h y (List.mem_cons_of_mem x hy)
    omega
theorem nb_le_mem : ∀ {l : List V} {x : V}, x ∈ l → x.nb ≤ V.nbL l
  | y :: l, x, h => by
    rw [V.nbL]
    rcases List.mem_cons.1 h with rfl | h
    · omega
    · have := nb_le_mem h
      omega
theorem nb_list (l : List V) : (listV l).nb = V.nbL l := by
  have e : V.nbL [] = 0 := by rw [V.nbL]
  have e2 : V.nbS [] = 0 := rfl
  have e3 : (ByteArray.mk #[]).size = 0 := rfl
  unfold listV
  rw [V.nb, e, e2, e3]
  omega
theorem nb_nil : nilV.nb = 0 := by
  have e : V.nbL [] = 0 := by rw [V.nbL]
  have e2 : V.nbS [] = 0 := rfl
  have e3 : (ByteArray.mk #[]).size = 0 := rfl
  unfold nilV
  rw [V.nb, e, e2, e3]
theorem nb_mat {m : List (List V)} {a b c : Nat} (h1 : m.length ≤ a) (h2 : ∀ r ∈ m, r.length ≤ b) (h3 : ∀ r ∈ m, ∀ x ∈ r, x.nb ≤ c) : (matV m).nb ≤ a * (b * c) := by
  unfold matV
  rw [nb_list]
  have h : V.nbL (m.map listV) ≤ (m.map listV).length * (b * c) := nbL_le fun x hx => by
    obtain ⟨r, hr, rfl⟩ := List.mem_map.1 hx
    rw [nb_list]
    exact Nat.le_trans (nbL_le (h3 r hr)) (Nat.mul_le_mul_right _ (h2 r hr))
  rw [List.length_map] at h
  exact Nat.le_trans h (Nat.mul_le_mul_right _ h1)

/-- Rows that are few and short, of right values that are small. -/
structure Small (m : List (List V)) : Prop where
  rows : m.length ≤ 400
  cols : ∀ r ∈ m, r.length ≤ 400
  cnt : ∀ r ∈ m, ∀ x ∈ r, x.cnt ≤ 400
  good : ∀ r ∈ m, ∀ x ∈ r, x.good
  nb : ∀ r ∈ m, ∀ x ∈ r, x.nb ≤ 2000
theorem Small.tr {m : List (List V)} (h : Small m) : Small (tr m) :=
  ⟨by rw [tr_length]; exact width_le h.cols, fun r hr => by rw [tr_row hr]; exact h.rows, cnt_tr (by decide) h.cnt, good_tr h.good, fun r hr x hx => by
    rcases tr_mem hr hx with rfl | ⟨r', hr', hx'⟩
    · rw [nb_nil]; exact Nat.zero_le _
    · exact h.nb r' hr' x hx'⟩
theorem Small.total {m : List (List V)} (h : Small m) : (matV m).cnt ≤ 1000000000 := Nat.le_trans (cnt_mat h.rows h.cols h.cnt) (by decide)

theorem Small.bytes {m : List (List V)} (h : Small m) : (matV m).nb ≤ 1000000000 := Nat.le_trans (nb_mat h.rows h.cols h.nb) (by decide)

/-- fromGo at every right value of at most m parts (and no giant texts). -/
def FromGoUpTo (m : Nat) : Prop := FromGoAt fun x => x.good ∧ x.cnt ≤ m ∧ x.nb ≤ 1000000000

set_option maxHeartbeats 400000 in
set_option maxRecDepth 100000 in
theorem zzTransposeF (v : Value) (W : World) (P : Value → World → Prop) (h : Calls Tryd.prog 47 #[v] W fun e W1 => ∃ r, e = .returned r ∧ P r W1) :
    Calls Tryd.prog 33 #[v] W fun e W1 => ∃ r, e = .returned r ∧ P r W1 := by
  have H := Sec.mk h
  clear h
  go_enter Tryd.func33, Tryd.ntmps33
  go_wp2_with (go_at_call 47; refine H.out.mono ?_; intro e w1 hw1; obtain ⟨r, rfl, hp⟩ := hw1; have HP := Sec.mk hp; clear hp)
  go_ret
  exact ⟨_, rfl, HP.out⟩

set_option maxHeartbeats 1600000 in
set_option maxRecDepth 100000 in
theorem transposeDoor (FG : FromGoUpTo 1000000000) (m : List (List V)) (cs : List Value) (w : World) (B : Nat) (hr : Rd w B (matV m) cs) (hB : B ≤ w.heap.size) (hm : Small m) :
    Calls Tryd.prog 14 #[.agg cs.toArray] w (Gives (matV (tr m)) 0 w) := by
  have cT1 : ∀ W, Below w.heap.size w W → Calls Tryd.prog 30 #[.agg cs.toArray] W fun e w' => ∃ v, e = .returned (.tuple #[v, .bool true]) ∧ RdA w' W.heap.size w'.heap.size (matV m) v ∧ Below W.heap.size W w' := fun W hb =>
    toGo_upTo 1000000000 (by omega) (matV m) hm.total (good_mat hm.good) cs W B (Rd.same ((Same.of_below hb).mono hB) _ cs hr) (Nat.le_trans hB hb.size)
  obtain ⟨k1, h1', t1, A31, n31, c31, A41, n41, c41, A51, n51, c51, rfl⟩ := hr.form
  have CT1 := Sec.mk cT1
  have HG := Sec.mk hm
  clear cT1 hr hB hm
  go_enter Tryd.func14, Tryd.ntmps14
  go_wp2_with fail
  obtain ⟨wa, hwa⟩ : ∃ wa, (w.alloc (.cells #[.int .i64 k1, .int .i64 h1', .string t1, .slice A31 n31 c31, .slice A41 n41 c41, .slice A51 n51 c51] 26)).alloc (.cells #[.int .i64 0, .int .i64 0, .string ⟨#[]⟩, .slice none 0 0, .slice none 0 0, .slice none 0 0, .int .i64 0] 30) = wa := ⟨_, rfl⟩
  have hba : Below w.heap.size w wa := by rw [← hwa]; exact ((Below.refl _ _).alloc (Nat.le_refl _) _).alloc (by simp) _
  have hsz : wa.heap.size = w.heap.size + 1 + 1 := by rw [← hwa]; simp
  have hz7 : Z7 wa (w.heap.size + 1) := by rw [← hwa]; exact Z7.new' _ _ (by simp)
  rw [hwa]
  have HBA := Sec.mk hba
  have HSZ := Sec.mk hsz
  have HZ := Sec.mk hz7
  clear hba hsz hz7 hwa
  refine (CT1.out _ HBA.out).mono ?_
  intro e w1 hw1
  obtain ⟨v, rfl, hv, hb1⟩ := hw1
  have cS := fun (W : World) (hb : Below w1.heap.size w1 W) => zzTransposeF v W (fun r W1 => Below W.heap.size W W1 ∧ Calls Tryd.prog 31 #[r] W1 (Gives (matV (tr m)) 0 W1)) ((funcTranspose_any m W wa.heap.size w1.heap.size v (RdA.same (SameIn.of_below hb) (Nat.le_refl _) (Nat.le_refl _) _ _ hv) hb.size (Nat.le_trans hb1.size hb.size) (Nat.le_trans HG.out.rows (by decide)) (fun r hr => Nat.le_trans (HG.out.cols r hr) (by decide)) HG.out.good).mono (by
      rintro e W1 ⟨u, rfl, hu, hbu⟩
      refine ⟨u, rfl, hbu, ?_⟩
      obtain ⟨A, c, rfl, _, _, _⟩ := rdA_list (l := (tr m).map listV) hu
      exact result_of _ _ W1 (fun W => taListError _ W) fun W2 hb2 => FG (matV (tr m)) ⟨good_mat HG.out.tr.good, HG.out.tr.total, HG.out.tr.bytes⟩ _ W2 _ _ (RdA.same (SameIn.of_below hb2) (Nat.le_refl _) (Nat.le_refl _) _ _ hu) hb2.size))
  have CS := Sec.mk cS
  have HB1 := Sec.mk hb1
  clear cS hv hb1
  go_wp2_with fail
  refine (CS.out _ (Below.refl _ _)).mono ?_
  intro e w3 hw3
  obtain ⟨r, rfl, hb3, hres⟩ := hw3
  have HR := Sec.mk hres
  have HB3 := Sec.mk (below_then HB1.out hb3)
  clear hb3 hres
  go_wp2_with fail
  refine HR.out.mono ?_
  intro e w4 hw4
  obtain ⟨cs, rfl, hf, hb4⟩ := hw4
  obtain ⟨k3, h3', t3, A33, n33, c33, A43, n43, c43, A53, n53, c53, rfl⟩ := hf.rd.form
  have hb := below_then HB3.out hb4
  obtain ⟨d0, d1, d2, d3, d4, d5, d6, f0, f1, f2, f3, f4, f5, f6, hz⟩ := (HZ.out.keep hb).cells
  have HB := Sec.mk hb
  have HF := Sec.mk hf
  have HS := Sec.mk HB3.out.size
  clear hb hb4 hf
  go_wp2_with fail
  refine bodyPost_ret (v := .agg #[.int .i64 k3, .int .i64 h3', .string t3, .slice A33 n33 c33, .slice A43 n43 c43, .slice A53 n53 c53, .int .i64 0]) (by simp [results, Tryd.results14, go_sem, *]) rfl ⟨[.int .i64 k3, .int .i64 h3', .string t3, .slice A33 n33 c33, .slice A43 n43 c43, .slice A53 n53 c53], rfl, ?_, ?_⟩
  · have hs := HS.out
    rw [HSZ.out] at hs
    refine RdF.same HF.out ?_ (by omega) (by simp [World.setCell])
    iterate 7 refine SameIn.set ?_ (by omega)
    exact fun _ _ _ => rfl
  · iterate 7 refine below_set ?_ (by omega)
    exact HBA.out.trans (HB.out.mono HBA.out.size)

end Go.Proofs.YtpamlgdcnmcedaaDoor
