/-
  Decimal digits as plain lists of numbers: their value, halving, trimming, comparing. No program here.
-/
import GoSem.Core.Float
namespace Go.Proofs.YtpamlgdcnmcedaaGreatDoor.Dc
set_option linter.unusedVariables false
set_option linter.unusedSimpArgs false

/-- The number that digits make. -/
def numOf (ds : List Nat) : Nat := ds.foldl (fun n d => 10 * n + d) 0
theorem numOf_nil : numOf [] = 0 := rfl
theorem numOf_snoc (ds : List Nat) (d : Nat) : numOf (ds ++ [d]) = 10 * numOf ds + d := by simp [numOf, List.foldl_append]
theorem foldl_num (ds : List Nat) : ∀ n, ds.foldl (fun n d => 10 * n + d) n = n * 10 ^ ds.length + numOf ds := by
  induction ds with
  | nil => intro n; simp [numOf]
  | cons d ds ih =>
    intro n
    have e : numOf (d :: ds) = d * 10 ^ ds.length + numOf ds := by
      show List.foldl _ (10 * 0 + d) ds = _
      rw [ih, Nat.mul_zero, Nat.zero_add]
    rw [List.foldl_cons, ih, e, List.length_cons, Nat.pow_succ]
    rw [Nat.add_mul, Nat.mul_comm 10 n, Nat.mul_assoc, Nat.mul_comm 10 (10 ^ _)]
    omega
theorem numOf_append (a b : List Nat) : numOf (a ++ b) = numOf a * 10 ^ b.length + numOf b := by
  rw [numOf, List.foldl_append, foldl_num]; rfl
theorem numOf_cons (d : Nat) (b : List Nat) : numOf (d :: b) = d * 10 ^ b.length + numOf b := by
  have := numOf_append [d] b
  simpa [numOf] using this
theorem numOf_zeros (k : Nat) : numOf (List.replicate k 0) = 0 := by
  induction k with
  | zero => rfl
  | succ k ih => rw [List.replicate_succ', numOf_snoc, ih]
/-- Digits of base ten. -/
def Ten (ds : List Nat) : Prop := ∀ d ∈ ds, d < 10
theorem numOf_lt {ds : List Nat} (h : Ten ds) : numOf ds < 10 ^ ds.length := by
  induction ds with
  | nil => simp [numOf]
  | cons d ds ih =>
    rw [numOf_cons, List.length_cons, Nat.pow_succ]
    have h1 := ih (fun x hx => h x (List.mem_cons_of_mem _ hx))
    have h2 := h d (List.mem_cons_self ..)
    have h3 : d * 10 ^ ds.length ≤ 9 * 10 ^ ds.length := Nat.mul_le_mul_right _ (by omega)
    omega
theorem numOf_ge {ds : List Nat} (h : ds.head? ≠ some 0) (hne : ds ≠ []) : 10 ^ (ds.length - 1) ≤ numOf ds := by
  cases ds with
  | nil => exact absurd rfl hne
  | cons d ds =>
    rw [numOf_cons, List.length_cons, Nat.add_sub_cancel]
    have : d ≠ 0 := by simpa using h
    have := Nat.mul_le_mul_right (10 ^ ds.length) (show 1 ≤ d by omega)
    omega
theorem numOf_inj_len : ∀ (a b : List Nat), a.length = b.length → Ten a → Ten b → numOf a = numOf b → a = b
  | [], [], _, _, _, _ => rfl
  | [], _ :: _, h, _, _, _ => by simp at h
  | _ :: _, [], h, _, _, _ => by simp at h
  | x :: a, y :: b, h, ha, hb, e => by
    have hl : a.length = b.length := by simpa using h
    have ta : Ten a := fun d hd => ha d (List.mem_cons_of_mem _ hd)
    have tb : Ten b := fun d hd => hb d (List.mem_cons_of_mem _ hd)
    rw [numOf_cons, numOf_cons, hl] at e
    have h1 := numOf_lt ta
    have h2 := numOf_lt tb
    rw [hl] at h1
    have hp := Nat.pow_pos (n := b.length) (show 0 < 10 by decide)
    have hxy : x = y := by
      rcases Nat.lt_trichotomy x y with g | g | g
      · have := Nat.mul_le_mul_right (10 ^ b.length) (show x + 1 ≤ y by omega)
        rw [Nat.add_mul] at this
        omega
      · exact g
      · have := Nat.mul_le_mul_right (10 ^ b.length) (show y + 1 ≤ x by omega)
        rw [Nat.add_mul] at this
        omega
    subst hxy
    rw [numOf_inj_len a b hl ta tb (by omega)]
theorem numOf_inj {a b : List Nat} (ha : Ten a) (hb : Ten b) (za : a.head? ≠ some 0) (zb : b.head? ≠ some 0) (na : a ≠ []) (nb : b ≠ []) (e : numOf a = numOf b) : a = b := by
  refine numOf_inj_len a b ?_ ha hb e
  have a1 := numOf_lt ha
  have a2 := numOf_ge za na
  have b1 := numOf_lt hb
  have b2 := numOf_ge zb nb
  have la : 0 < a.length := List.length_pos_iff.2 na
  have lb : 0 < b.length := List.length_pos_iff.2 nb
  rcases Nat.lt_trichotomy a.length b.length with g | g | g
  · have := Nat.pow_le_pow_right (n := 10) (by decide) (show a.length ≤ b.length - 1 by omega)
    omega
  · exact g
  · have := Nat.pow_le_pow_right (n := 10) (by decide) (show b.length ≤ a.length - 1 by omega)
    omega

/-- The digits of a number. -/
def digs (n : Nat) : List Nat := if n < 10 then [n] else digs (n / 10) ++ [n % 10]
termination_by n
decreasing_by omega
theorem digs_small {n : Nat} (h : n < 10) : digs n = [n] := by rw [digs, if_pos h]
theorem digs_big {n : Nat} (h : ¬ n < 10) : digs n = digs (n / 10) ++ [n % 10] := by rw [digs, if_neg h]
theorem digs_all (P : Nat → Prop) (h0 : ∀ n, n < 10 → P n) (h1 : ∀ n, ¬ n < 10 → P (n / 10) → P n) : ∀ n, P n := by
  intro n
  induction n using Nat.strongRecOn with
  | ind n ih => by_cases h : n < 10
                · exact h0 n h
                · exact h1 n h (ih (n / 10) (by omega))
theorem digs_num : ∀ n, numOf (digs n) = n := by
  refine digs_all _ (fun n h => ?_) (fun n h ih => ?_)
  · rw [digs_small h]; simp [numOf]
  · rw [digs_big h, numOf_snoc, ih]; omega
theorem digs_ten : ∀ n, Ten (digs n) := by
  refine digs_all _ (fun n h => ?_) (fun n h ih => ?_)
  · rw [digs_small h]; intro d hd; simp at hd; omega
  · rw [digs_big h]
    intro d hd
    rcases List.mem_append.1 hd with hd | hd
    · exact ih d hd
    · simp at hd; omega
theorem digs_ne : ∀ n, digs n ≠ [] := by
  refine digs_all _ (fun n h => ?_) (fun n h ih => ?_)
  · rw [digs_small h]; simp
  · rw [digs_big h]; simp
theorem digs_head : ∀ n, 0 < n → (digs n).head? ≠ some 0 := by
  refine digs_all _ (fun n h => ?_) (fun n h ih => ?_)
  · intro h0; rw [digs_small h]; simp; omega
  · intro h0
    rw [digs_big h, List.head?_append]
    have := ih (by omega)
    cases e : (digs (n / 10)).head? with
    | none => exact absurd (List.head?_eq_none_iff.1 e) (digs_ne _)
    | some x => rw [e] at this; simpa using this
theorem digs_len : ∀ (d n : Nat), n < 10 ^ (d + 1) → (digs n).length ≤ d + 1
  | 0, n, h => by rw [digs_small (by simpa using h)]; simp
  | d + 1, n, h => by
    by_cases hn : n < 10
    · rw [digs_small hn]; simp
    · rw [digs_big hn, List.length_append]
      have := digs_len d (n / 10) (by rw [Nat.pow_succ] at h; exact Nat.div_lt_of_lt_mul (by rw [Nat.mul_comm]; exact h))
      simp
      omega

/-- Digits without the zeros behind them. -/
def trimL (ds : List Nat) : List Nat := (ds.reverse.dropWhile (· == 0)).reverse
theorem trimL_nil : trimL [] = [] := rfl
theorem trimL_zero (ds : List Nat) : trimL (ds ++ [0]) = trimL ds := by simp [trimL]
theorem trimL_other (ds : List Nat) (d : Nat) (h : d ≠ 0) : trimL (ds ++ [d]) = ds ++ [d] := by simp [trimL, h]
theorem snoc_cases (ds : List Nat) : ds = [] ∨ ∃ r d, ds = r ++ [d] := by
  rcases List.eq_nil_or_concat ds with h | ⟨r, d, h⟩
  · exact .inl h
  · exact .inr ⟨r, d, by simpa using h⟩
/-- Trimming takes zeros alone. -/
theorem trimL_spec : ∀ (n : Nat) (ds : List Nat), ds.length ≤ n → ∃ k, ds = trimL ds ++ List.replicate k 0 ∧ (trimL ds).getLast? ≠ some 0
  | 0, ds, h => by
    have : ds = [] := List.eq_nil_of_length_eq_zero (by omega)
    subst this
    exact ⟨0, rfl, by simp [trimL]⟩
  | n + 1, ds, h => by
    rcases snoc_cases ds with rfl | ⟨r, d, rfl⟩
    · exact ⟨0, rfl, by simp [trimL]⟩
    · by_cases hd : d = 0
      · subst hd
        rw [trimL_zero]
        obtain ⟨k, e, hl⟩ := trimL_spec n r (by simp at h; omega)
        refine ⟨k + 1, ?_, hl⟩
        rw [List.replicate_succ', ← List.append_assoc, ← e]
      · rw [trimL_other _ _ hd]
        exact ⟨0, by simp, by simpa using hd⟩
theorem trimL_eq (ds : List Nat) : ∃ k, ds = trimL ds ++ List.replicate k 0 ∧ (trimL ds).getLast? ≠ some 0 := trimL_spec _ ds (Nat.le_refl _)
theorem trimL_len (ds : List Nat) : (trimL ds).length ≤ ds.length := by
  obtain ⟨k, e, _⟩ := trimL_eq ds
  have := congrArg List.length e
  rw [List.length_append] at this
  omega
theorem trimL_ten {ds : List Nat} (h : Ten ds) : Ten (trimL ds) := by
  obtain ⟨k, e, _⟩ := trimL_eq ds
  intro d hd
  exact h d (by rw [e]; exact List.mem_append_left _ hd)
theorem trimL_head {ds : List Nat} (h : ds.head? ≠ some 0) : (trimL ds).head? ≠ some 0 := by
  obtain ⟨k, e, _⟩ := trimL_eq ds
  intro hc
  apply h
  rw [e, List.head?_append, hc]
  rfl

/-- The value of digits behind the point, the point moved by dp, is A by 2 to the power k. -/
def DV (ds : List Nat) (dp : Int) (A k : Nat) : Prop := ∃ c n : Nat, (n : Int) = dp + c ∧ numOf ds * 10 ^ n * 2 ^ k = A * 10 ^ (ds.length + c)

/-- Digits that stand for a number above 0, as they are kept. -/
structure Nrm (ds : List Nat) : Prop where
  ten : Ten ds
  ne : ds ≠ []
  head : ds.head? ≠ some 0
  last : ds.getLast? ≠ some 0

theorem DV.trim {ds : List Nat} {dp : Int} {A k : Nat} (h : DV ds dp A k) : DV (trimL ds) dp A k := by
  obtain ⟨c, n, e, hv⟩ := h
  obtain ⟨j, ej, _⟩ := trimL_eq ds
  have hl : ds.length = (trimL ds).length + j := by rw [ej]; simp [List.length_append]; rw [← ej]
  have hn : numOf ds = numOf (trimL ds) * 10 ^ j := by
    have := numOf_append (trimL ds) (List.replicate j 0)
    rw [← ej, numOf_zeros, List.length_replicate] at this
    omega
  refine ⟨c, n, e, ?_⟩
  have hp := Nat.pow_pos (n := j) (show 0 < 10 by decide)
  apply Nat.eq_of_mul_eq_mul_right hp
  rw [hl, hn] at hv
  calc numOf (trimL ds) * 10 ^ n * 2 ^ k * 10 ^ j = numOf (trimL ds) * 10 ^ j * 10 ^ n * 2 ^ k := by
        simp only [Nat.mul_comm, Nat.mul_left_comm]
    _ = A * 10 ^ ((trimL ds).length + j + c) := hv
    _ = A * 10 ^ ((trimL ds).length + c) * 10 ^ j := by rw [Nat.mul_assoc, ← Nat.pow_add]; congr 2; omega

theorem DV.digs (n : Nat) : DV (digs n) (digs n).length n 0 := ⟨0, (Dc.digs n).length, by omega, by rw [digs_num]; simp⟩

theorem Nrm.pos {ds : List Nat} (h : Nrm ds) : 0 < numOf ds := Nat.lt_of_lt_of_le (Nat.pow_pos (by decide)) (numOf_ge h.head h.ne)
theorem Nrm.mod {ds : List Nat} (h : Nrm ds) : numOf ds % 10 ≠ 0 := by
  rcases snoc_cases ds with rfl | ⟨r, d, rfl⟩
  · exact absurd rfl h.ne
  · have h1 := h.ten d (by simp)
    have h2 : d ≠ 0 := by simpa using h.last
    rw [numOf_snoc]; omega
theorem mul_pow_inj : ∀ (a b X Y : Nat), X % 10 ≠ 0 → Y % 10 ≠ 0 → X * 10 ^ a = Y * 10 ^ b → X = Y ∧ a = b
  | 0, 0, X, Y, _, _, e => by simpa using e
  | 0, b + 1, X, Y, hx, _, e => by
    rw [Nat.pow_succ, ← Nat.mul_assoc] at e
    simp at e
    omega
  | a + 1, 0, X, Y, _, hy, e => by
    rw [Nat.pow_succ, ← Nat.mul_assoc] at e
    simp at e
    omega
  | a + 1, b + 1, X, Y, hx, hy, e => by
    rw [Nat.pow_succ, Nat.pow_succ, ← Nat.mul_assoc, ← Nat.mul_assoc] at e
    have := mul_pow_inj a b X Y hx hy (by omega)
    exact ⟨this.1, by omega⟩
/-- The same, the point told further on. -/
theorem DV.shift {ds : List Nat} {dp : Int} {A k : Nat} (h : DV ds dp A k) : ∃ c0 : Nat, ∀ c : Nat, c0 ≤ c → ∃ n : Nat, (n : Int) = dp + c ∧ numOf ds * 10 ^ n * 2 ^ k = A * 10 ^ (ds.length + c) := by
  obtain ⟨c, n, e, hv⟩ := h
  refine ⟨c, fun c' hc => ⟨n + (c' - c), by omega, ?_⟩⟩
  rw [Nat.pow_add, show ds.length + c' = ds.length + c + (c' - c) from by omega, Nat.pow_add 10 (ds.length + c), ← Nat.mul_assoc A, ← hv]
  ac_rfl
theorem DV.two {x y : List Nat} {dpx dpy : Int} {A B k j : Nat} (hx : DV x dpx A k) (hy : DV y dpy B j) :
    ∃ c n m : Nat, (n : Int) = dpx + c ∧ (m : Int) = dpy + c ∧ numOf x * 10 ^ n * 2 ^ k = A * 10 ^ (x.length + c) ∧ numOf y * 10 ^ m * 2 ^ j = B * 10 ^ (y.length + c) := by
  obtain ⟨c1, h1⟩ := hx.shift
  obtain ⟨c2, h2⟩ := hy.shift
  obtain ⟨n, e1, v1⟩ := h1 (max c1 c2) (Nat.le_max_left ..)
  obtain ⟨m, e2, v2⟩ := h2 (max c1 c2) (Nat.le_max_right ..)
  exact ⟨_, n, m, e1, e2, v1, v2⟩
/-- A number's digits and its point are one. -/
theorem DV.unique {x y : List Nat} {dpx dpy : Int} {A k : Nat} (hx : DV x dpx A k) (hy : DV y dpy A k) (nx : Nrm x) (ny : Nrm y) : x = y ∧ dpx = dpy := by
  obtain ⟨c, n, m, e1, e2, v1, v2⟩ := DV.two hx hy
  have p2 := Nat.pow_pos (n := k) (show 0 < 2 by decide)
  have hA : 0 < A := by
    rcases Nat.eq_zero_or_pos A with h | h
    · subst h
      rw [Nat.zero_mul] at v1
      have := Nat.mul_pos (Nat.mul_pos nx.pos (Nat.pow_pos (n := n) (show 0 < 10 by decide))) p2
      omega
    · exact h
  have e : numOf x * 10 ^ (n + y.length) = numOf y * 10 ^ (m + x.length) := by
    have pc := Nat.pow_pos (n := c) (show 0 < 10 by decide)
    apply Nat.eq_of_mul_eq_mul_right (Nat.mul_pos (Nat.mul_pos p2 pc) hA)
    calc numOf x * 10 ^ (n + y.length) * (2 ^ k * 10 ^ c * A) = (numOf x * 10 ^ n * 2 ^ k) * (10 ^ (y.length + c) * A) := by
          rw [Nat.pow_add, Nat.pow_add]; ac_rfl
      _ = (A * 10 ^ (x.length + c)) * (10 ^ (y.length + c) * A) := by rw [v1]
      _ = (A * 10 ^ (y.length + c)) * (10 ^ (x.length + c) * A) := by ac_rfl
      _ = (numOf y * 10 ^ m * 2 ^ k) * (10 ^ (x.length + c) * A) := by rw [v2]
      _ = numOf y * 10 ^ (m + x.length) * (2 ^ k * 10 ^ c * A) := by
          rw [Nat.pow_add, Nat.pow_add]; ac_rfl
  obtain ⟨a, b⟩ := mul_pow_inj _ _ _ _ nx.mod ny.mod e
  have hxy := numOf_inj nx.ten ny.ten nx.head ny.head nx.ne ny.ne a
  subst hxy
  exact ⟨rfl, by omega⟩
/-- Twos that stand on both sides. -/
theorem DV.twos {x : List Nat} {dp : Int} {A k : Nat} (j : Nat) : DV x dp (A * 2 ^ j) (k + j) ↔ DV x dp A k := by
  have p := Nat.pow_pos (n := j) (show 0 < 2 by decide)
  constructor
  · rintro ⟨c, n, e, v⟩
    refine ⟨c, n, e, Nat.eq_of_mul_eq_mul_right p ?_⟩
    rw [Nat.pow_add] at v
    calc _ = numOf x * 10 ^ n * (2 ^ k * 2 ^ j) := by simp only [Nat.mul_assoc]
      _ = _ := v
      _ = _ := by ac_rfl
  · rintro ⟨c, n, e, v⟩
    refine ⟨c, n, e, ?_⟩
    rw [Nat.pow_add]
    calc _ = numOf x * 10 ^ n * 2 ^ k * 2 ^ j := by simp only [Nat.mul_assoc]
      _ = _ := by rw [v]; ac_rfl

/-- The number that the first digits make, zeros behind them. -/
def pre (ds : List Nat) : Nat → Nat
  | 0 => 0
  | i + 1 => 10 * pre ds i + ds.getD i 0
theorem pre_take (ds : List Nat) : ∀ i, i ≤ ds.length → pre ds i = numOf (ds.take i)
  | 0, _ => by simp [pre, numOf]
  | i + 1, h => by
    rw [pre, pre_take ds i (by omega), List.take_succ_eq_append_getElem (by omega), numOf_snoc, List.getD_eq_getElem?_getD, List.getElem?_eq_getElem (by omega)]
    rfl
theorem pre_all (ds : List Nat) : pre ds ds.length = numOf ds := by rw [pre_take _ _ (Nat.le_refl _), List.take_length]
theorem pre_over (ds : List Nat) (j : Nat) : pre ds (ds.length + j) = numOf ds * 10 ^ j := by
  induction j with
  | zero => simp [pre_all]
  | succ j ih =>
    rw [show ds.length + (j + 1) = ds.length + j + 1 from rfl, pre, ih, List.getD_eq_getElem?_getD, List.getElem?_eq_none (by omega), Nat.pow_succ]
    simp only [Option.getD_none, Nat.add_zero]
    ac_rfl
theorem getD_ten {ds : List Nat} (h : Ten ds) (i : Nat) : ds.getD i 0 < 10 := by
  rw [List.getD_eq_getElem?_getD]
  cases e : ds[i]? with
  | none => simp
  | some d => exact h d (List.mem_of_getElem? e)
theorem pre_ge {ds : List Nat} (h : Nrm ds) : ∀ i, 10 ^ i ≤ pre ds (i + 1)
  | 0 => by
    rw [pre, pre]
    have := h.head
    have hne := h.ne
    cases ds with
    | nil => exact absurd rfl hne
    | cons d ds => simp at this ⊢; omega
  | i + 1 => by
    have := pre_ge h i
    rw [pre, Nat.pow_succ]; omega
theorem pre_le {ds : List Nat} (h : Ten ds) : ∀ i, pre ds i < 10 ^ i
  | 0 => by simp [pre]
  | i + 1 => by
    have := pre_le h i
    have := getD_ten h i
    rw [pre, Nat.pow_succ]; omega

/-- What cmp hands back. -/
def IsCmp (x : List Nat) (dpx : Int) (y : List Nat) (dpy r : Int) : Prop :=
  ((x = [] ∨ y = []) ∧ r = (x.length : Int) - y.length) ∨ (x ≠ [] ∧ y ≠ [] ∧ dpx ≠ dpy ∧ r = dpx - dpy) ∨
    (x ≠ [] ∧ y ≠ [] ∧ dpx = dpy ∧ ∃ i, (∀ j, j < i → x.getD j 0 = y.getD j 0) ∧ r = (x.getD i 0 : Int) - y.getD i 0 ∧ (x.getD i 0 ≠ y.getD i 0 ∨ (x.length ≤ i ∧ y.length ≤ i)))
theorem pre_same {x y : List Nat} : ∀ i, (∀ j, j < i → x.getD j 0 = y.getD j 0) → pre x i = pre y i
  | 0, _ => rfl
  | i + 1, h => by rw [pre, pre, pre_same i (fun j hj => h j (by omega)), h i (by omega)]
theorem pre_lt_on {x y : List Nat} (hx : Ten x) : ∀ (d i : Nat), pre x i < pre y i → pre x (i + d) < pre y (i + d)
  | 0, i, h => h
  | d + 1, i, h => by
    have := pre_lt_on hx d i h
    have := getD_ten hx (i + d)
    rw [show i + (d + 1) = i + d + 1 from rfl, pre, pre]; omega
theorem pre_val {x : List Nat} {n k A c M : Nat} (hM : x.length ≤ M) (h : numOf x * 10 ^ n * 2 ^ k = A * 10 ^ (x.length + c)) : pre x M * 10 ^ n * 2 ^ k = A * 10 ^ (M + c) := by
  obtain ⟨j, rfl⟩ : ∃ j, M = x.length + j := ⟨M - x.length, by omega⟩
  rw [pre_over]
  calc _ = (numOf x * 10 ^ n * 2 ^ k) * 10 ^ j := by ac_rfl
    _ = _ := by rw [h, Nat.mul_assoc, ← Nat.pow_add]; congr 2; omega
theorem lt_of_pow {a b c d e : Nat} (h : a * b < c * d) (hb : e * d ≤ e * b) (he : 0 < e) : a < c := by
  have hdb : d ≤ b := Nat.le_of_mul_le_mul_left hb he
  apply Classical.byContradiction
  intro hc
  have h1 : c * d ≤ a * b := Nat.mul_le_mul (by omega) hdb
  omega
/-- The greater number is found greater. -/
theorem cmp_gt {x y : List Nat} {dpx dpy r : Int} {A B k j : Nat} (hc : IsCmp x dpx y dpy r) (hx : DV x dpx A k) (nx : Nrm x) (hy : y = [] ∨ (Nrm y ∧ DV y dpy B j)) (hAB : B * 2 ^ k < A * 2 ^ j) : 0 < r := by
  have lx : 0 < x.length := List.length_pos_iff.2 nx.ne
  rcases hc with ⟨h, rfl⟩ | ⟨h1, h2, h3, rfl⟩ | ⟨h1, h2, h3, i, hi, rfl, hd⟩
  · rcases h with h | h
    · exact absurd h nx.ne
    · subst h; simp; omega
  · obtain ⟨ny, hy⟩ := hy.resolve_left h2
    obtain ⟨c, n, m, e1, e2, v1, v2⟩ := DV.two hx hy
    apply Classical.byContradiction
    intro hr
    have hnm : n + 1 ≤ m := by omega
    have ly : 0 < y.length := List.length_pos_iff.2 ny.ne
    -- A 10^c < 10^n 2^k
    have a1 : A * 10 ^ c < 10 ^ n * 2 ^ k := by
      have p := Nat.pow_pos (n := x.length) (show 0 < 10 by decide)
      apply Nat.lt_of_mul_lt_mul_right (a := 10 ^ x.length)
      calc A * 10 ^ c * 10 ^ x.length = A * 10 ^ (x.length + c) := by rw [Nat.pow_add, Nat.mul_assoc, Nat.mul_comm (10 ^ c)]
        _ = numOf x * (10 ^ n * 2 ^ k) := by rw [← v1, Nat.mul_assoc]
        _ < 10 ^ x.length * (10 ^ n * 2 ^ k) := Nat.mul_lt_mul_of_pos_right (numOf_lt nx.ten) (Nat.mul_pos (Nat.pow_pos (by decide)) (Nat.pow_pos (by decide)))
        _ = _ := Nat.mul_comm _ _
    have a2 : 10 ^ n * 2 ^ j ≤ B * 10 ^ c := by
      have p := Nat.pow_pos (n := y.length) (show 0 < 10 by decide)
      apply Nat.le_of_mul_le_mul_right (c := 10 ^ y.length) _ p
      calc 10 ^ n * 2 ^ j * 10 ^ y.length = 10 ^ (y.length - 1) * (10 ^ (n + 1) * 2 ^ j) := by
            rw [show 10 ^ y.length = 10 ^ (y.length - 1) * 10 from by rw [← Nat.pow_succ]; congr 1; omega, Nat.pow_succ]
            ac_rfl
        _ ≤ numOf y * (10 ^ m * 2 ^ j) := Nat.mul_le_mul (numOf_ge ny.head ny.ne) (Nat.mul_le_mul_right _ (Nat.pow_le_pow_right (by decide) hnm))
        _ = B * 10 ^ (y.length + c) := by rw [← v2, Nat.mul_assoc]
        _ = B * 10 ^ c * 10 ^ y.length := by rw [Nat.pow_add, Nat.mul_assoc, Nat.mul_comm (10 ^ c)]
    have p := Nat.pow_pos (n := c) (show 0 < 10 by decide)
    have : A * 2 ^ j < B * 2 ^ k := by
      apply Nat.lt_of_mul_lt_mul_right (a := 10 ^ c)
      calc A * 2 ^ j * 10 ^ c = A * 10 ^ c * 2 ^ j := by rw [Nat.mul_assoc, Nat.mul_comm (2 ^ j), ← Nat.mul_assoc]
        _ < 10 ^ n * 2 ^ k * 2 ^ j := Nat.mul_lt_mul_of_pos_right a1 (Nat.pow_pos (by decide))
        _ = 10 ^ n * 2 ^ j * 2 ^ k := by rw [Nat.mul_assoc, Nat.mul_comm (2 ^ k), ← Nat.mul_assoc]
        _ ≤ B * 10 ^ c * 2 ^ k := Nat.mul_le_mul_right _ a2
        _ = B * 2 ^ k * 10 ^ c := by rw [Nat.mul_assoc, Nat.mul_comm (10 ^ c), ← Nat.mul_assoc]
    omega
  · obtain ⟨ny, hy⟩ := hy.resolve_left h2
    subst h3
    obtain ⟨c, n, m, e1, e2, v1, v2⟩ := DV.two hx hy
    obtain rfl : n = m := by omega
    -- with one length
    obtain ⟨M, hM⟩ : ∃ M, M = x.length + y.length + i + 1 := ⟨_, rfl⟩
    have w1 := pre_val (M := M) (by omega) v1
    have w2 := pre_val (M := M) (by omega) v2
    have hlt : pre y M < pre x M := by
      apply Classical.byContradiction
      intro hn
      have hle : pre x M ≤ pre y M := by omega
      have p := Nat.pow_pos (n := M + c) (show 0 < 10 by decide)
      have : A * 2 ^ j ≤ B * 2 ^ k := by
        apply Nat.le_of_mul_le_mul_right (c := 10 ^ (M + c)) _ p
        calc A * 2 ^ j * 10 ^ (M + c) = A * 10 ^ (M + c) * 2 ^ j := by rw [Nat.mul_assoc, Nat.mul_comm (2 ^ j), ← Nat.mul_assoc]
          _ = pre x M * 10 ^ n * 2 ^ k * 2 ^ j := by rw [w1]
          _ ≤ pre y M * 10 ^ n * 2 ^ k * 2 ^ j := Nat.mul_le_mul_right _ (Nat.mul_le_mul_right _ (Nat.mul_le_mul_right _ hle))
          _ = pre y M * 10 ^ n * 2 ^ j * 2 ^ k := by rw [Nat.mul_assoc, Nat.mul_comm (2 ^ k), ← Nat.mul_assoc]
          _ = B * 10 ^ (M + c) * 2 ^ k := by rw [w2]
          _ = _ := by rw [Nat.mul_assoc, Nat.mul_comm (10 ^ _), ← Nat.mul_assoc]
      omega
    have hs := pre_same i hi
    rcases Nat.lt_trichotomy (x.getD i 0) (y.getD i 0) with g | g | g
    · exfalso
      have h1 : pre x (i + 1) < pre y (i + 1) := by rw [pre, pre, hs]; omega
      have := pre_lt_on nx.ten (M - (i + 1)) (i + 1) h1
      rw [show i + 1 + (M - (i + 1)) = M from by omega] at this
      omega
    · exfalso
      obtain ⟨g1, g2⟩ := hd.resolve_left (fun h => h g)
      have : ∀ t, pre x (i + t) = pre y (i + t) := fun t => by
        refine pre_same _ fun q hq => ?_
        by_cases hqi : q < i
        · exact hi q hqi
        · rw [List.getD_eq_getElem?_getD, List.getD_eq_getElem?_getD, List.getElem?_eq_none (by omega), List.getElem?_eq_none (by omega)]
      have := this (M - i)
      rw [show i + (M - i) = M from by omega] at this
      omega
    · omega

/-- Halving, when all digits are out: i places read, i0 of them for the first digit. -/
theorem half_out {ds out : List Nat} {dp : Int} {A k i i0 : Nat} (hv : DV ds dp A 0) (hl : ds.length ≤ i) (hi : out.length + i0 = i) (he : pre ds i = 10 * numOf out * 2 ^ k) : DV (trimL out) (dp - (i0 - 1)) A k := by
  apply DV.trim
  obtain ⟨c, n, e, v⟩ := hv
  refine ⟨c + i0, n + 1, by omega, ?_⟩
  have w := pre_val hl v
  rw [Nat.pow_zero, Nat.mul_one] at w
  calc numOf out * 10 ^ (n + 1) * 2 ^ k = (10 * numOf out * 2 ^ k) * 10 ^ n := by rw [Nat.pow_succ]; ac_rfl
    _ = A * 10 ^ (i + c) := by rw [← he, w]
    _ = _ := by congr 2; omega
/-- What is left over is nothing, k + 1 places behind the last digit. -/
theorem half_end {ds : List Nat} {k i : Nat} (hi : ds.length + k + 1 ≤ i) : pre ds i % (10 * 2 ^ k) = 0 := by
  obtain ⟨j, rfl⟩ : ∃ j, i = ds.length + (k + 1 + j) := ⟨i - ds.length - k - 1, by omega⟩
  rw [pre_over, Nat.pow_add, show (10 : Nat) ^ (k + 1) = 10 * 2 ^ k * 5 ^ k from by rw [Nat.pow_succ, show (10 : Nat) = 2 * 5 from rfl, Nat.mul_pow]; ac_rfl]
  rw [show numOf ds * (10 * 2 ^ k * 5 ^ k * 10 ^ j) = 10 * 2 ^ k * (numOf ds * 5 ^ k * 10 ^ j) from by ac_rfl, Nat.mul_mod_right]
/-- One digit more goes out. -/
theorem half_step {ds out : List Nat} {k i n : Nat} (h : pre ds i = 10 * numOf out * 2 ^ k + n) (hn : n < 10 * 2 ^ k) (ht : Ten ds) :
    n / 2 ^ k < 10 ∧ pre ds (i + 1) = 10 * numOf (out ++ [n / 2 ^ k]) * 2 ^ k + (n % 2 ^ k * 10 + ds.getD i 0) ∧ n % 2 ^ k * 10 + ds.getD i 0 < 10 * 2 ^ k := by
  have p := Nat.pow_pos (n := k) (show 0 < 2 by decide)
  have hd := getD_ten ht i
  have hm := Nat.mod_lt n p
  have hdm := Nat.div_add_mod n (2 ^ k)
  refine ⟨(Nat.div_lt_iff_lt_mul p).2 hn, ?_, by omega⟩
  rw [pre, h, numOf_snoc]
  generalize n / 2 ^ k = q at *
  generalize n % 2 ^ k = r at *
  generalize 2 ^ k = m at *
  generalize ds.getD i 0 = d at *
  generalize numOf out = O at *
  subst hdm
  rw [Nat.mul_add, Nat.mul_add, Nat.mul_add, Nat.add_mul]
  have e1 : 10 * (10 * O * m) = 10 * (10 * O) * m := by ac_rfl
  have e2 : 10 * (m * q) = 10 * q * m := by ac_rfl
  rw [e1, e2]
  omega

/-- The digits of half of an odd number. -/
theorem digs_half (h : Nat) (ho : h % 2 = 1) : digs (5 * h) = (if h / 2 = 0 then [] else digs (h / 2)) ++ [5] := by
  by_cases h0 : h / 2 = 0
  · have : h = 1 := by omega
    subst this
    rw [if_pos rfl, digs_small (by omega)]
    rfl
  · rw [if_neg h0, digs_big (by omega), show 5 * h / 10 = h / 2 from by omega, show 5 * h % 10 = 5 from by omega]
/-- The places before the point. -/
def front (h : Nat) : List Nat := if h / 2 = 0 then [] else digs (h / 2)
theorem front_num (h : Nat) : numOf (front h) = h / 2 := by
  unfold front
  split
  · simp [numOf]; omega
  · exact digs_num _
theorem front_ten (h : Nat) : Ten (front h) := by
  unfold front
  split
  · intro d hd; cases hd
  · exact digs_ten _
theorem front_head (h : Nat) : (front h).head? ≠ some 0 := by
  unfold front
  split
  · simp
  · exact digs_head _ (by omega)
theorem front_len {h : Nat} (hh : h < 9007199254740992) : (front h).length ≤ 16 := by
  unfold front
  split
  · simp
  · exact digs_len 15 _ (by omega)
theorem half_nrm (h : Nat) : Nrm (front h ++ [5]) := by
  refine ⟨fun d hd => ?_, by simp, ?_, by simp⟩
  · rcases List.mem_append.1 hd with hd | hd
    · exact front_ten h d hd
    · simp at hd; omega
  · rw [List.head?_append]
    cases e : (front h).head? with
    | none => simp
    | some x => have := front_head h; rw [e] at this; simpa using this
theorem half_dv (h : Nat) (ho : h % 2 = 1) : DV (front h ++ [5]) (front h).length h 1 := by
  refine ⟨0, (front h).length, by omega, ?_⟩
  rw [numOf_snoc, front_num, List.length_append, List.length_singleton, Nat.add_zero, Nat.pow_one, Nat.pow_succ]
  rw [show 10 * (h / 2) + 5 = h * 5 from by omega]
  rw [Nat.mul_assoc, Nat.mul_assoc]
  congr 1
  omega

/-- Digits before place n, the rest dropped. -/
theorem down_dv {ns : List Nat} {n N : Nat} (hN : numOf ns = N) (hn : n ≤ ns.length) : ∃ D, D ≤ N ∧ DV (ns.take n) ns.length D 0 := by
  refine ⟨numOf (ns.take n) * 10 ^ (ns.length - n), ?_, 0, ns.length, by omega, ?_⟩
  · rw [← hN]
    have := numOf_append (ns.take n) (ns.drop n)
    rw [List.take_append_drop, List.length_drop] at this
    omega
  · rw [Nat.pow_zero, Nat.mul_one, Nat.mul_assoc, ← Nat.pow_add, List.length_take, Nat.min_eq_left hn]
    congr 2; omega
theorem take_nrm {ns : List Nat} {n : Nat} (ht : Ten ns) (hh : ns.head? ≠ some 0) (hne : trimL (ns.take n) ≠ []) : Nrm (trimL (ns.take n)) := by
  have h1 : (ns.take n).head? ≠ some 0 := by
    cases ns with
    | nil => simp
    | cons d ds => cases n with
      | zero => simp
      | succ n => simpa using hh
  have h2 : Ten (ns.take n) := fun d hd => ht d (List.mem_of_mem_take hd)
  obtain ⟨k, _, hl⟩ := trimL_eq (ns.take n)
  exact ⟨trimL_ten h2, hne, trimL_head h1, hl⟩
/-- What up hands back. -/
def IsUp (ds : List Nat) (n : Nat) (dp : Int) (u : List Nat) (dpu : Int) : Prop :=
  (∃ m d, m < n ∧ ds[m]? = some d ∧ d < 9 ∧ u = ds.take m ++ [d + 1] ∧ dpu = dp) ∨ (u = [1] ∧ dpu = dp + 1)
theorem up_dv {ns u : List Nat} {n N : Nat} {dpu : Int} (hN : numOf ns = N) (ht : Ten ns) (hh : ns.head? ≠ some 0) (hn : n ≤ ns.length) (h : IsUp (ns ++ [5]) n ns.length u dpu) : Nrm u ∧ ∃ U, N + 1 ≤ U ∧ DV u dpu U 0 := by
  rcases h with ⟨m, d, hm, hd, h9, rfl, rfl⟩ | ⟨rfl, rfl⟩
  · rw [List.getElem?_append_left (by omega)] at hd
    have hml : m < ns.length := by omega
    have htk : (ns ++ [5]).take m = ns.take m := by rw [List.take_append_of_le_length (by omega)]
    rw [htk]
    have hlm : (ns.take m).length = m := by rw [List.length_take]; omega
    have hsn : ns.take (m + 1) = ns.take m ++ [d] := by rw [List.take_add_one, hd]; rfl
    constructor
    · refine ⟨fun x hx => ?_, by simp, ?_, by simp⟩
      · rcases List.mem_append.1 hx with hx | hx
        · exact ht x (List.mem_of_mem_take hx)
        · simp at hx; omega
      · rw [List.head?_append]
        cases m with
        | zero => simp
        | succ m =>
          cases ns with
          | nil => simp at hml
          | cons y ys => simpa using hh
    · refine ⟨(numOf (ns.take m ++ [d]) + 1) * 10 ^ (ns.length - (m + 1)), ?_, 0, ns.length, by omega, ?_⟩
      · have := numOf_append (ns.take (m + 1)) (ns.drop (m + 1))
        rw [List.take_append_drop, List.length_drop, hN] at this
        have hlt := numOf_lt (ds := ns.drop (m + 1)) (fun x hx => ht x (List.mem_of_mem_drop hx))
        rw [List.length_drop] at hlt
        rw [← hsn, Nat.add_mul]
        omega
      · rw [Nat.pow_zero, Nat.mul_one, numOf_snoc, numOf_snoc, List.length_append, hlm, List.length_singleton, Nat.mul_assoc, ← Nat.pow_add]
        rw [show ns.length - (m + 1) + (m + 1 + 0) = ns.length from by omega]
        rfl
  · refine ⟨⟨by intro x hx; simp at hx; omega, by simp, by simp, by simp⟩, 10 ^ ns.length, ?_, 0, ns.length + 1, by omega, ?_⟩
    · have := numOf_lt ht
      omega
    · simp [numOf, Nat.pow_succ, Nat.mul_comm]

/-- The gap about a half holds no whole number: below. -/
theorem low_gap {h j mant D : Nat} (ho : h % 2 = 1) (hj : 1 ≤ j) (hm : 2 * mant = h * 2 ^ j) (hD : D ≤ h / 2) : D * 2 ^ (j + 1) < 2 * mant - 1 := by
  have e : h * 2 ^ j = h / 2 * 2 ^ (j + 1) + 2 ^ j := by
    have : h = h / 2 * 2 + 1 := by omega
    rw [Nat.pow_succ, Nat.mul_comm (2 ^ j) 2, ← Nat.mul_assoc]
    conv => lhs; rw [this]
    rw [Nat.add_mul, Nat.one_mul]
  have p : 2 ^ 1 ≤ 2 ^ j := Nat.pow_le_pow_right (by decide) hj
  have := Nat.mul_le_mul_right (2 ^ (j + 1)) hD
  omega
theorem high_gap {h j mant U : Nat} (ho : h % 2 = 1) (hj : 1 ≤ j) (hm : 2 * mant = h * 2 ^ j) (hU : h / 2 + 1 ≤ U) : 2 * mant + 1 < U * 2 ^ (j + 1) := by
  have e : h * 2 ^ j = h / 2 * 2 ^ (j + 1) + 2 ^ j := by
    have : h = h / 2 * 2 + 1 := by omega
    rw [Nat.pow_succ, Nat.mul_comm (2 ^ j) 2, ← Nat.mul_assoc]
    conv => lhs; rw [this]
    rw [Nat.add_mul, Nat.one_mul]
  have p : 2 ^ 1 ≤ 2 ^ j := Nat.pow_le_pow_right (by decide) hj
  have p2 : 2 ^ (j + 1) = 2 * 2 ^ j := by rw [Nat.pow_succ, Nat.mul_comm]
  have := Nat.mul_le_mul_right (2 ^ (j + 1)) hU
  rw [Nat.add_mul, Nat.one_mul] at this
  omega

end Go.Proofs.YtpamlgdcnmcedaaGreatDoor.Dc
