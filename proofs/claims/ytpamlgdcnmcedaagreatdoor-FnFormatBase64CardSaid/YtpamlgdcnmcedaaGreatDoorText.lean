/-
  A decimal as text: half of an odd number.
-/
import Derived.Test.YtpamlgdcnmcedaaGreatDoorShort
namespace Go.Proofs.YtpamlgdcnmcedaaGreatDoor
set_option linter.unusedVariables false
set_option linter.unusedSimpArgs false
open Go.RowKit
open Dc

/-- A byte goes behind a row of bytes that is being made. -/
theorem wpList_append_g8 {ops : Array Oper} {rest : List Oper} {o : Oper} {a : Act} {Q : Exit → Act → World → Prop} {w1 wr : World} (hgd : o.guard = none) (s x : Operand)
    (ho : o.op = .call { callee := .builtin .append, args := #[s, x], argTypes := #[45, 45] })
    {A : Option Addr} {n c d : Nat} {z : Int} {out : List Nat} (hG : Grow8 w1 wr (.slice A n c) out) (hl : out.length = n) (hn : n ≤ 1000000) (hz : z = (d : Int))
    (hs : a.eval s = .slice A n c) (hx : a.eval x = .slice (some ⟨wr.heap.size, 0, none⟩) 1 1)
    (h : ∀ g cap w3, Grow8 w1 w3 (.slice (some ⟨g, 0, none⟩) (n + 1) cap) (out ++ [d]) → wpList Tryz.prog ops Q rest (a.put o.dst (.slice (some ⟨g, 0, none⟩) (n + 1) cap)) w3) :
    wpList Tryz.prog ops Q (o :: rest) a (wr.alloc (.cells #[.int .u8 z] 5)) := by
  subst hz
  obtain ⟨i0, hi0, hz0, hz1, hz2⟩ := info_parts infoB
  have hn1 : ∀ j u, [Value.int .u8 (d : Int)][j]? = some u → (wr.alloc (.cells #[.int .u8 (d : Int)] 5)).cell? ((⟨wr.heap.size, 0, none⟩ : Addr).add j) = some u := World.news_of_block (heap_alloc_new wr (.cells #[.int .u8 (d : Int)] 5))
  have hown := hG.row
  rw [hl] at hown
  have hws := hG.grown.size
  refine wpList_append_lies _ hgd s x 45 ho w1.heap.size 5 i0 (.int .u8 0) 1 1 Tryz.underlying45 hi0 hz0 hz1 hz2 rfl (by decide) (.slice A n c) n (out.map d8) hs (World.ownsRow.alloc hown _) ⟨wr.heap.size, 0, none⟩ 1 1 [.int .u8 (d : Int)] hx rfl hn1 one8 (by decide) (by unfold maxLen; omega) (by omega) (by simp; omega) (wr.heap.size + 1) (by simp) ?_
  intro g' cap w3 ho3 hg3 hat hlt
  exact h g' cap w3 (hG.step hl ho3 hg3)

/-- A row of bytes, as a string. -/
theorem Grow8.text {w1 wr : World} {A : Option Addr} {n c : Nat} {out : List Nat} (hG : Grow8 w1 wr (.slice A n c) out) (hl : out.length = n) (h0 : 0 < n) (hb : ∀ d ∈ out, d < 256) :
    (convert 45 9 (.slice A n c)).run Tryz.prog wr = .ok (.string ⟨(out.map UInt8.ofNat).toArray⟩) wr := by
  rcases hG.row.2 with ⟨e, h1⟩ | ⟨r, cap, cur, e, _⟩
  · omega
  · have e1 : A = some ⟨r, 0, none⟩ := by simp only [Value.slice.injEq] at e; exact e.1
    subst e1
    clear e
    have hc := hG.row.cells (g := r) rfl
    have hlen : (out.map UInt8.ofNat).length = n := by rw [List.length_map, hl]
    subst hlen
    refine run_convert_bytes_back wr _ _ 5 ⟨r, 0, none⟩ c _ Tryz.underlying45 Tryz.underlying5 Tryz.underlying9 fun j hj => ?_
    have hj' : j < out.length := by rw [List.length_map] at hj; exact hj
    have hlt := hb out[j] (List.getElem_mem hj')
    rw [hc j (d8 out[j]) (by rw [List.getElem?_map, List.getElem?_eq_getElem hj']; rfl)]
    simp only [d8, List.getElem_map]
    congr 2
    have : (UInt8.ofNat out[j]).toNat = out[j] := by simp [UInt8.toNat_ofNat]; omega
    omega

/-- The text's bytes. -/
def headOf (fr : List Nat) : List Nat := if fr = [] then [48] else fr.map (48 + ·)
def textOf (fr : List Nat) : List Nat := headOf fr ++ [46] ++ [53]
theorem headOf_facts {fr : List Nat} {F : Nat} (hF : fr.length = F) (h1 : F ≤ 100) (ht : Ten fr) : 1 ≤ (headOf fr).length ∧ (headOf fr).length ≤ 101 ∧ ∀ d ∈ headOf fr, d < 256 := by
  unfold headOf
  split
  · simp
  · rename_i hne
    have : 0 < fr.length := List.length_pos_iff.2 hne
    refine ⟨by rw [List.length_map]; omega, by rw [List.length_map]; omega, fun d hd => ?_⟩
    obtain ⟨x, hx, rfl⟩ := List.mem_map.1 hd
    have := ht x hx
    omega

set_option maxHeartbeats 1600000 in
set_option maxRecDepth 100000 in
theorem text_any (w : World) (lo g : Nat) (v : Value) (fr : List Nat) (F : Nat) (hF : fr.length = F) (hd : DecAt w lo g v (fr ++ [5]) (F : Int)) (ht : Ten fr) (hF1 : F ≤ 100) :
    Calls Tryz.prog 106 #[.pointer (some ⟨g, 0, none⟩), .int .i64 1] w fun e w' => e = .returned (.string ⟨((textOf fr).map UInt8.ofNat).toArray⟩) ∧ Below w.heap.size w w' := by
  have HD := Sec.mk hd
  have HF := Sec.mk hF
  have HT := Sec.mk ht
  have c1 := hd.c1
  clear hd hF ht
  go_enter Tryz.func106, Tryz.ntmps106
  go_wp2_with fail
  go_loopw [5, 6] (fun v5 v6 wr => ∃ i : Nat, v6 = .int .i64 (i : Int) ∧ i ≤ F ∧ Grow8 w wr v5 ((fr.take i).map (48 + ·))) (fun _ v6 _ => F - (intOf v6).toNat)
  case atStart => exact ⟨0, rfl, Nat.zero_le _, Grow8.start w⟩
  case round =>
    obtain ⟨i, rfl, hi, hgr⟩ := hrel
    obtain ⟨A, c, rfl⟩ := hgr.form
    have hlen : ((fr.take i).map (48 + ·)).length = i := by rw [List.length_map, List.length_take, HF.out]; omega
    rw [hlen] at hgr ⊢
    have hda := HD.out.keep hgr.grown.size (fun b _ hb2 => hgr.grown.block b hb2 (fun e => by cases e))
    clear c1
    have c1 := hda.c1
    have HG := Sec.mk hgr
    have HL := Sec.mk hlen
    have HDA := Sec.mk hda
    clear hgr hlen hda
    by_cases hin : i < F
    · obtain ⟨d, hd⟩ : ∃ d, fr[i]? = some d := ⟨_, List.getElem?_eq_getElem (by rw [HF.out]; exact hin)⟩
      have hd10 : d < 10 := HT.out d (List.mem_of_getElem? hd)
      have cD := digit_any wr lo g v (fr ++ [5]) (F : Int) i HDA.out (by rw [List.length_append, HF.out]; simp; omega) (by omega)
      have hgd : (fr ++ [5]).getD i 0 = d := by rw [List.getD_eq_getElem?_getD, List.getElem?_append_left (by rw [HF.out]; exact hin), hd]; rfl
      rw [hgd] at cD
      have CD := Sec.mk cD
      have HD2 := Sec.mk hd
      clear cD hgd hd
      go_wp2_with (first | (go_at_call 138; (with_reducible refine CD.out.mono ?_); rintro e w' ⟨rfl, rfl⟩) | (at_builtin; refine wpList_append_g8 (d := 48 + d) rfl _ _ rfl HG.out HL.out (by omega) (by omega) rfl rfl ?_; intro g' cap w3 hg3; have HG3 := Sec.mk hg3; clear hg3))
      have FIN := Sec.mk (show Grow8 w w3 (.slice (some ⟨g', 0, none⟩) (i + 1) cap) ((fr.take (i + 1)).map (48 + ·)) by
        rw [take_snoc HD2.out, List.map_append]; exact HG3.out)
      go_roundw
      case rel => exact ⟨i + 1, by go_num, by omega, FIN.out⟩
      case measure => simp [intOf]; omega
    · obtain rfl : i = F := by omega
      have et : fr.take i = fr := List.take_of_length_le (by rw [HF.out]; exact Nat.le_refl _)
      have hgr := HG.out
      rw [et] at hgr
      have HGE := Sec.mk hgr
      have hdA := HDA.out
      have HDB := Sec.mk hdA
      clear hgr et hdA
      go_upto_if 25 with fail
      go_cut [5] (fun v5 wx => Grow8 w wx v5 (headOf fr))
      case first =>
        by_cases h0 : i = 0
        · have e0 : fr = [] := List.eq_nil_of_length_eq_zero (by rw [HF.out]; exact h0)
          have d1 : ((i : Int) == 0) = true := by simp [h0]
          have HE := Sec.mk (And.intro e0 h0)
          have HG0 := Sec.mk (show Grow8 w wr (.slice A i c) [] by have := HGE.out; rw [e0] at this; exact this)
          have HL0 := Sec.mk (show ([] : List Nat).length = i by rw [h0]; rfl)
          clear e0 h0
          go_wp2_with (at_builtin; refine wpList_append_g8 (d := 48) rfl _ _ rfl HG0.out HL0.out (by omega) rfl rfl rfl ?_; intro g' cap w3 hg3; have HG3 := Sec.mk hg3; clear hg3)
          go_meet
          have h := HG3.out
          unfold headOf
          rw [if_pos HE.out.1]
          exact h
        · have e0 : fr ≠ [] := fun e => h0 (by rw [← HF.out, e]; rfl)
          have d1 : ((i : Int) == 0) = false := by simp; omega
          have d2 : (i == 0) = false := by simp; omega
          have HE := Sec.mk e0
          clear e0 h0
          go_wp2_with fail
          go_meet
          have h := HGE.out
          unfold headOf
          rw [if_neg HE.out]
          exact h
      case rest =>
        obtain ⟨hh1, hh2, hh3⟩ := headOf_facts HF.out hF1 HT.out
        obtain ⟨A1, c1', rfl⟩ := hcut.form
        obtain ⟨N, hN⟩ : ∃ N, (headOf fr).length = N := ⟨_, rfl⟩
        rw [hN] at hcut hh1 hh2 ⊢
        have HC := Sec.mk hcut
        have HN := Sec.mk (And.intro hN hh3)
        clear hcut hN hh3 c1 HDB
        go_wp2_with (at_builtin; refine wpList_append_g8 (d := 46) rfl _ _ rfl HC.out HN.out.1 (by omega) rfl rfl rfl ?_; intro g' cap w3 hg3; have HG3 := Sec.mk hg3; clear hg3)
        go_loopw [5, 7] (fun v5 v7 wr => (v7 = .int .i64 0 ∧ Grow8 w wr v5 (headOf fr ++ [46])) ∨ (v7 = .int .i64 1 ∧ Grow8 w wr v5 (textOf fr))) (fun _ v7 _ => (1 - intOf v7).toNat)
        case atStart => exact .inl ⟨rfl, HG3.out⟩
        case round =>
          rcases hrel with ⟨rfl, hgr⟩ | ⟨rfl, hgr⟩
          · obtain ⟨A2, c2, rfl⟩ := hgr.form
            have hlen : (headOf fr ++ [46]).length = N + 1 := by rw [List.length_append, HN.out.1]; rfl
            rw [hlen] at hgr ⊢
            have hda := HD.out.keep hgr.grown.size (fun b _ hb2 => hgr.grown.block b hb2 (fun e => by cases e))
            have c1 := hda.c1
            have cD := digit_any _ lo g v (fr ++ [5]) (i : Int) i hda (by rw [List.length_append, HF.out]; simp; omega) (by omega)
            have hgd : (fr ++ [5]).getD i 0 = 5 := by rw [List.getD_eq_getElem?_getD, List.getElem?_append_right (by rw [HF.out]; exact Nat.le_refl _), HF.out, Nat.sub_self]; rfl
            rw [hgd] at cD
            have CD := Sec.mk cD
            have HG2 := Sec.mk hgr
            have HL2 := Sec.mk hlen
            clear cD hgd hgr hlen hda
            go_wp2_with (first | (go_at_call 138; (with_reducible refine CD.out.mono ?_); rintro e w' ⟨rfl, rfl⟩) | (at_builtin; refine wpList_append_g8 (d := 53) rfl _ _ rfl HG2.out HL2.out (by omega) rfl rfl rfl ?_; intro g'' cap2 w5 hg5; have HG5 := Sec.mk hg5; clear hg5))
            go_roundw
            case rel => exact .inr ⟨by go_num, HG5.out⟩
            case measure => simp [intOf]
          · obtain ⟨A2, c2, rfl⟩ := hgr.form
            have hlen : (textOf fr).length = N + 2 := by unfold textOf; rw [List.length_append, List.length_append, HN.out.1]; rfl
            rw [hlen] at hgr ⊢
            have et := hgr.text hlen (by omega) (fun d hd => by
              unfold textOf at hd
              rcases List.mem_append.1 hd with hd | hd
              · rcases List.mem_append.1 hd with hd | hd
                · exact HN.out.2 d hd
                · simp at hd; omega
              · simp at hd; omega)
            have HG2 := Sec.mk hgr
            clear hgr hlen
            go_wp2_with fail
            go_ret
            have h := HG2.out.grown
            exact ⟨rfl, ⟨h.os, h.tape, h.output, h.size, fun b hb => h.block b hb (fun e => by cases e)⟩⟩

end Go.Proofs.YtpamlgdcnmcedaaGreatDoor
