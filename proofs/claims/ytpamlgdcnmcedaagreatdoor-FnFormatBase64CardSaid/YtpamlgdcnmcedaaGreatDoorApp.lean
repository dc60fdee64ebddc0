/-
  The encoder's block (its writer and its 64 bytes); a string appended to the bytes' empty slice; strconv.FormatInt and AppendInt in base ten.
-/
import Derived.Test.YtpamlgdcnmcedaaGreatDoorUint
import Derived.Lib.AppendStr
namespace Go.Proofs.YtpamlgdcnmcedaaGreatDoor
set_option linter.unusedVariables false
set_option linter.unusedSimpArgs false
open Go.RowKit
open Go.Lib (strCells strCells_length strCells_oneCell)

/-- The encoder at block g: its writer it, its 64 bytes cs. -/
def EncB (w : World) (g : Nat) (it : Value) (cs : List Value) : Prop := w.heap[g]? = some (.cells (it :: cs).toArray 76 (0, 0)) ∧ cs.length = 64
section
variable {w w' : World} {g : Nat} {it : Value} {cs : List Value}
theorem EncB.lt (h : EncB w g it cs) : g < w.heap.size := (Array.getElem?_eq_some_iff.1 h.1).1
theorem EncB.c0 (h : EncB w g it cs) : w.cell? ⟨g, 0, none⟩ = some it := by simp [World.cell?, h.1]
theorem EncB.cell (h : EncB w g it cs) (j : Nat) : w.cell? ⟨g, j + 1, none⟩ = cs[j]? := by simp [World.cell?, h.1]
theorem EncB.keep (h : EncB w g it cs) (hb : w'.heap[g]? = w.heap[g]?) : EncB w' g it cs := ⟨hb.trans h.1, h.2⟩
end

theorem run_append_enc {P : Program} (w : World) (t u ty e : TypeId) (i : TypeInfo) (ht : P.underlying t = some (.slice e)) (hu : P.underlying u = some .string) (hi : P.info? e = some i) (hs1 : i.size = 1)
    (g : Nat) (it : Value) (cs : List Value) (T : TypeId) (hg : w.heap[g]? = some (.cells (it :: cs).toArray T (0, 0))) (hl : cs.length = 64) (s : ByteArray) (hroom : s.size ≤ 64) :
    (Builtin.append_ #[t, u] ty #[.slice (some ⟨g, 1, none⟩) 0 64, .string s]).run P w = .ok (.slice (some ⟨g, 1, none⟩) s.size 64) (w.setRow g (it :: (strCells s ++ cs.drop s.size)).toArray) := by
  have hf := Go.Lib.run_firstCells_string (P := P) w 1 s
  have hst := run_storeCells_at P g 1 T (strCells s) 0 (it :: cs).toArray w hg (by rw [strCells_length]; simp; omega) (strCells_oneCell s)
  simp only [Nat.add_zero, strCells_length] at hst
  rw [show ((it :: cs).toArray.toList.take 1 ++ strCells s ++ (it :: cs).toArray.toList.drop (1 + s.size)) = it :: (strCells s ++ cs.drop s.size) from by simp [Nat.add_comm 1]] at hst
  have ha : (⟨g, 1, none⟩ : Addr).add 0 = ⟨g, 1, none⟩ := by simp [Addr.add]
  simp [Builtin.append_, run_underlying ht, run_underlying hu, sizeOf, typeInfo, hi, hs1, Builtin.lenOf, hroom, hf, ha, hst]

/-- A string goes into the encoder's bytes. -/
theorem wpList_append_enc {P : Program} {ops : Array Oper} {rest : List Oper} {o : Oper} {a : Act} {Q : Exit → Act → World → Prop} {w : World} (hgd : o.guard = none) (sl x : Operand) (t u : TypeId)
    (ho : o.op = .call { callee := .builtin .append, args := #[sl, x], argTypes := #[t, u] })
    (e : TypeId) (i : TypeInfo) (ht : P.underlying t = some (.slice e)) (hu : P.underlying u = some .string) (hi : P.info? e = some i) (hsize : i.size = 1)
    (g : Nat) (it : Value) (cs : List Value) (hs : a.eval sl = .slice (some ⟨g, 1, none⟩) 0 64) (hE : EncB w g it cs) (s : ByteArray) (hx : a.eval x = .string s) (hroom : s.size ≤ 64)
    (h : ∀ w', EncB w' g it (strCells s ++ cs.drop s.size) → w.grownBy w' (some g) → wpList P ops Q rest (a.put o.dst (.slice (some ⟨g, 1, none⟩) s.size 64)) w') : wpList P ops Q (o :: rest) a w := by
  refine wpList_plain hgd fun K hK => ?_
  have hr := run_append_enc (P := P) w t u o.type e i ht hu hi hsize g it cs _ hE.1 hE.2 s hroom
  unfold Oper.wp execOp
  simp only [ho, resolve, invoke, builtin, Sem.run_bind, Sem.run_pure, Result.andThen_ok, List.map_toArray, List.map_cons, List.map_nil, hs, hx, hr]
  refine hK _ _ (h _ ⟨setRow_heap w g _ _ _ _ hE.1, ?_⟩ ⟨rfl, rfl, rfl, by simp, fun k _ hk => setRow_other w g k _ (fun e => hk (by rw [e]))⟩)
  rw [List.length_append, strCells_length, List.length_drop, hE.2]
  omega

theorem wrap_u64 (x : Int) : IntKind.u64.wrap x = x % 18446744073709551616 := by
  have e1 : IntKind.u64.bits = 64 := rfl
  have e2 : IntKind.u64.signed = false := rfl
  unfold IntKind.wrap
  rw [e1, e2]
  simp only [Bool.false_and, Bool.false_eq_true, if_false]
  rfl
def intL (n : Int) : List UInt8 := if n < 0 then 45 :: digitsL n.natAbs else digitsL n.natAbs
theorem intL_length {n : Int} (h0 : -1000000000000000000 < n) (h1 : n < 1000000000000000000) : (intL n).length ≤ 19 := by
  unfold intL
  have := digitsL_length 17 n.natAbs (by omega)
  split <;> simp <;> omega

set_option maxHeartbeats 400000 in
theorem formatInt_any (n : Int) (w : World) (h0 : -1000000000000000000 < n) (h1 : n < 1000000000000000000) :
    Calls Tryz.prog 63 #[.int .i64 n, .int .i64 10] w fun e w' => e = .returned (.string ⟨(intL n).toArray⟩) ∧ Below w.heap.size w w' := by
  by_cases hn : n < 0
  · obtain ⟨k, rfl⟩ : ∃ k : Nat, n = -(k : Int) := ⟨n.natAbs, by omega⟩
    have hl : (digitsL k).length ≤ 18 := digitsL_length 17 k (by omega)
    have e : intL (-(k : Int)) = 45 :: digitsL k := by rw [intL, if_pos hn]; congr 2; omega
    rw [e]
    have CU := Sec.mk (fun W => uint_any k W (by omega))
    have e1 : IntKind.u64.wrap (-(k : Int)) = 18446744073709551616 - (k : Int) := by rw [wrap_u64]; omega
    have e2 : IntKind.u64.wrap (-(18446744073709551616 - (k : Int))) = (k : Int) := by rw [wrap_u64]; omega
    have d1 : decide (-(k : Int) < 0) = true := decide_eq_true hn
    have d2 : decide ((0 : Int) < (k : Int)) = true := decide_eq_true (by omega)
    have d3 : decide (0 < k) = true := decide_eq_true (by omega)
    have es : (ByteArray.mk #[45]).size + (ByteArray.mk (digitsL k).toArray).size ≤ 9223372036854775807 := by
      show 1 + (digitsL k).toArray.size ≤ _
      rw [List.size_toArray]; omega
    have es2 : 1 + (digitsL k).length ≤ 9223372036854775807 := by omega
    have EA := Sec.mk (digit_append 45 (digitsL k))
    clear h0 h1 hn hl e
    go_enter Tryz.func63, Tryz.ntmps63
    go_wp2_with (go_at_call 81; refine (CU.out _).mono ?_; intro e w1 hw1; obtain ⟨rfl, hb⟩ := hw1; have HB := Sec.mk hb; clear hb)
    go_ret
    exact ⟨by rw [← EA.out]; rfl, HB.out⟩
  · obtain ⟨k, rfl⟩ := Int.eq_ofNat_of_zero_le (Int.not_lt.1 hn)
    have e : intL (k : Int) = digitsL k := by rw [intL, if_neg hn]; rfl
    rw [e]
    have CU := Sec.mk (fun W => uint_any k W (by omega))
    have d1 : decide ((k : Int) < 0) = false := decide_eq_false hn
    have e1 : IntKind.u64.wrap (k : Int) = k := by rw [wrap_u64]; omega
    clear hn e
    go_enter Tryz.func63, Tryz.ntmps63
    go_wp2_with (go_at_call 81; refine (CU.out _).mono ?_; intro e w1 hw1; obtain ⟨rfl, hb⟩ := hw1; have HB := Sec.mk hb; clear hb)
    go_ret
    exact ⟨rfl, HB.out⟩

theorem infoB : (Tryz.prog.info? 5).map (fun i => (i.zero, i.size, i.bytes)) = some (some (.int .u8 0), 1, 1) := by kernel_rfl
/-- The encoder's bytes begin with the text; nothing else of what was there has turned. -/
def AppIs (w : World) (g : Nat) (it : Value) (s : ByteArray) (e : Ending) (w' : World) : Prop :=
  e = .returned (.slice (some ⟨g, 1, none⟩) s.size 64) ∧ (∃ cs, EncB w' g it (strCells s ++ cs)) ∧ w.grownBy w' (some g)

theorem grown_of_below {w w1 w2 : World} {g : Nat} (h : Below w.heap.size w w1) (k : w1.grownBy w2 (some g)) : w.grownBy w2 (some g) :=
  ⟨k.os.trans h.os, k.tape.trans h.tape, k.output.trans h.output, Nat.le_trans h.size k.size, fun b hb hne => (k.block b (Nat.lt_of_lt_of_le hb h.size) hne).trans (h.block b hb)⟩

set_option maxHeartbeats 400000 in
theorem appendInt_any (n : Int) (g : Nat) (it : Value) (cs : List Value) (w : World) (hE : EncB w g it cs) (h0 : -1000000000000000000 < n) (h1 : n < 1000000000000000000) :
    Calls Tryz.prog 44 #[.slice (some ⟨g, 1, none⟩) 0 64, .int .i64 n, .int .i64 10] w (AppIs w g it ⟨(intL n).toArray⟩) := by
  obtain ⟨i0, hi, hz0, hz1, hz2⟩ := info_parts infoB
  have CU := Sec.mk (fun W => formatInt_any n W h0 h1)
  have HE := Sec.mk hE
  have HL := Sec.mk (intL_length h0 h1)
  clear hE h0 h1
  generalize intL n = l at *
  have hsz : (ByteArray.mk l.toArray).size = l.length := by show l.toArray.size = _; rw [List.size_toArray]
  have HSZ := Sec.mk hsz
  clear hsz
  generalize ByteArray.mk l.toArray = s at *
  go_enter Tryz.func44, Tryz.ntmps44
  go_wp2_with (first | (go_at_call 63; refine (CU.out _).mono ?_; intro e w1 hw1; obtain ⟨rfl, hb⟩ := hw1; have HB := Sec.mk hb; clear hb) | (at_builtin; refine wpList_append_enc rfl _ _ _ _ rfl 5 i0 Tryz.underlying45 Tryz.underlying9 hi hz1 g it cs rfl (HE.out.keep (HB.out.block g HE.out.lt)) s rfl (by rw [HSZ.out]; have := HL.out; omega) ?_; intro w2 hE2 hg2; have HE2 := Sec.mk hE2; have HG2 := Sec.mk hg2; clear hE2 hg2))
  go_ret
  exact ⟨rfl, ⟨_, HE2.out⟩, grown_of_below HB.out HG2.out⟩

end Go.Proofs.YtpamlgdcnmcedaaGreatDoor
