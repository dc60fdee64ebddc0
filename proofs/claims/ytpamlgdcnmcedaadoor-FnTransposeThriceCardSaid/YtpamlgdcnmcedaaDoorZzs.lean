/-
  gojq.zzSplit: the pieces of a text (texts of at most 4096 bytes), for a separator that is not empty the ones of the plain law.
-/
import Derived.Test.YtpamlgdcnmcedaaDoorIdx
import Derived.Test.YtpamlgdcnmcedaaDoorShelfD
import Derived.Test.YtpamlgdcnmcedaaDoorLk
import Derived.Lib.RuneCount
import Derived.Lib.QuoteLoop
import Derived.Deep.AppendLies
import Derived.Deep.RegionHeld3
import Derived.OwnWalk
namespace Go.Proofs.YtpamlgdcnmcedaaDoor
set_option linter.unusedVariables false
set_option linter.unusedSimpArgs false
open Go.RowKit

/-- v is a slice of strings in a row of the call's own. -/
def SRow (w : World) (base : Nat) (v : Value) (l : List ByteArray) : Prop := w.ownsRow base 9 1 v l.length (l.map Value.string)
theorem infoS : (Tryd.prog.info? 9).map (fun i => (i.zero, i.size, i.bytes)) = some (some (.string ⟨#[]⟩), 1, 16) := by kernel_rfl
theorem SRow.read {w : World} {base : Nat} {v : Value} {l : List ByteArray} (h : SRow w base v l) : ∃ A c, v = .slice A l.length c := by
  rcases h.2 with ⟨e, hl⟩ | ⟨g, cap, cur, e, _⟩
  · rw [hl]; exact ⟨none, 0, e⟩
  · exact ⟨_, _, e⟩
theorem SRow.next {w : World} {base g cap : Nat} {l : List ByteArray} {k : ByteArray} (h : w.ownsRow base 9 1 (.slice (some ⟨g, 0, none⟩) (l.length + 1) cap) (l.length + 1) (l.map Value.string ++ [.string k])) :
    SRow w base (.slice (some ⟨g, 0, none⟩) (l.length + 1) cap) (l ++ [k]) := by
  unfold SRow
  rw [List.length_append, List.map_append]
  exact h
/-- What zzSplit gives. -/
def Pieces (s t : ByteArray) (w : World) (e : Ending) (w' : World) : Prop := ∃ v l, e = .returned v ∧ SRow w' w.heap.size v l ∧ Below w.heap.size w w' ∧ l.length ≤ 4097 ∧ (∀ k ∈ l, k.size ≤ 4096) ∧
  (t.data.toList ≠ [] → l.map (·.data.toList) = cuts t.data.toList [] s.data.toList)

theorem toList_ext (T : ByteArray) (a b : Nat) (h : b ≤ T.size) : (T.extract a b).data.toList = (T.data.toList.drop a).take (b - a) := by
  simp only [ByteArray.data_extract, Array.toList_extract, List.extract]

theorem oneS {T : ByteArray} : ∀ u ∈ [Value.string T], u.oneCell' = true := by
  intro u hu
  obtain rfl : u = .string T := by simpa using hu
  rfl
theorem wrap_i64 (x : Int) (h0 : -4294967296 ≤ x) (h1 : x ≤ 4294967296) : IntKind.i64.wrap x = x := by
  have e1 : IntKind.i64.bits = 64 := rfl
  have e2 : IntKind.i64.signed = true := rfl
  unfold IntKind.wrap
  rw [e1, e2]
  simp only [Bool.true_and, decide_eq_true_eq]
  split <;> omega
def strLen : Value → Nat
  | .string T => T.size
  | _ => 0

set_option maxHeartbeats 1600000 in
set_option maxRecDepth 100000 in
theorem zzSplit_some (s t : ByteArray) (w : World) (hs : s.size ≤ 4096) (ht : t.size ≤ 4096) (h0 : 0 < t.size) :
    Calls Tryd.prog 62 #[.string s, .string t] w (Pieces s t w) := by
  obtain ⟨i0, hi0, hz0, hz1, hz2⟩ := info_parts infoS
  have he : t.toList.isEmpty = false := by
    rw [Lib.toList_data]
    cases hd : t.data.toList with
    | nil =>
      have : t.data.toList.length = 0 := by rw [hd]; rfl
      rw [Array.length_toList] at this
      exact absurd h0 (by show ¬ 0 < t.data.size; omega)
    | cons _ _ => rfl
  have HS := Sec.mk (And.intro hs (And.intro ht h0))
  have cI : ∀ (T : ByteArray) (W : World), T.size ≤ 4096 → Calls Tryd.prog 71 #[.string T, .string t] W (IndexIs T t W) := fun T W hT => zzIndex_any T t W hT ht h0
  have CI := Sec.mk cI
  clear hs ht h0 cI
  go_enter Tryd.func62, Tryd.ntmps62
  go_wp2_with fail
  go_loopw [0, 5, 6, 7] (fun v0 v5 _ _ wr => v0 = .string s ∧ v5 = .slice none 0 0 ∧ wr = w) (fun _ _ _ _ _ => 0)
  case atStart => exact ⟨rfl, rfl, rfl⟩
  case round =>
    obtain ⟨rfl, rfl, e⟩ := hrel
    have e' := e.symm
    subst e'
    clear e
    go_wp2_with fail
    go_loopw [0, 5, 8] (fun v0 v5 _ wr => ∃ T l, v0 = .string T ∧ T.size + l.length ≤ 4096 ∧ Below w.heap.size w wr ∧ SRow wr w.heap.size v5 l ∧ (∀ k ∈ l, k.size ≤ 4096) ∧ cuts t.data.toList [] s.data.toList = l.map (·.data.toList) ++ cuts t.data.toList [] T.data.toList) (fun v0 _ _ _ => strLen v0)
    case atStart => exact ⟨s, [], rfl, by have := HS.out.1; simpa using this, Below.refl _ _, World.ownsRow_nil .., fun k hk => by simp at hk, rfl⟩
    case round =>
      obtain ⟨T, l, rfl, hsz, hb, hrow, hl, hcut⟩ := hrel
      obtain ⟨A, c, rfl⟩ := hrow.read
      have cI := CI.out T wr (by omega)
      have CT := Sec.mk cI
      have ROW := Sec.mk hrow
      have BL := Sec.mk hb
      have HL := Sec.mk (And.intro hl hcut)
      clear hrow hb hl hcut cI
      go_wp2_with fail
      refine CT.out.mono ?_
      intro e w1 hw1
      obtain ⟨rfl, hans⟩ := hw1
      rcases hans with ⟨rfl, hno⟩ | ⟨i, rfl, hfirst⟩
      · have hrow := ROW.out
        have hnw : ∀ j u, [Value.string T][j]? = some u → (w1.alloc (.cells #[.string T] 9)).cell? ((⟨w1.heap.size, 0, none⟩ : Addr).add j) = some u := World.news_of_block (heap_alloc_new w1 (.cells #[.string T] 9))
        have NW := Sec.mk hnw
        have NO := Sec.mk hno
        have RL := Sec.mk (fun k e => (hrow.lt k e).1)
        have hbs := BL.out.size
        clear hnw hno hrow
        go_wp2_with (at_builtin; refine wpList_append_lies _ rfl _ _ 24 rfl w.heap.size 9 i0 _ 1 16 Tryd.underlying24 hi0 hz0 hz1 hz2 rfl (by decide) (.slice A l.length c) l.length (l.map Value.string) rfl (World.ownsRow.alloc ROW.out _) ⟨w1.heap.size, 0, none⟩ 1 1 [.string T] rfl rfl NW.out oneS (by decide) (by unfold maxLen; omega) (by omega) (by simp; omega) (w1.heap.size + 1) (by simp) ?_; intro g' cap w3 ho3 hg3 hat hlt; have fb := ((BL.out.alloc BL.out.size (.cells #[.string T] 9)).grown hg3 (Nat.le_trans BL.out.size (by simp)) RL.out); have FB := Sec.mk fb; have HO3 := Sec.mk ho3; clear fb ho3 hg3 hat hlt)
        go_ret
        refine ⟨_, l ++ [T], rfl, SRow.next HO3.out, FB.out, by rw [List.length_append]; simp; omega, ?_, fun hne => ?_⟩
        · intro k hk
          rcases List.mem_append.1 hk with hk | hk
          · exact HL.out.1 k hk
          · obtain rfl : k = T := by simpa using hk
            omega
        · rw [HL.out.2, List.map_append, cuts_none _ _ _ NO.out]
          simp
      · have hrow := ROW.out
        have hi := hfirst.1
        rw [Array.length_toList, Array.length_toList] at hi
        have hi' : i + t.size ≤ T.size := hi
        have h0 := HS.out.2.2
        have hnw : ∀ j u, [Value.string (T.extract 0 i)][j]? = some u → (w1.alloc (.cells #[.string (T.extract 0 i)] 9)).cell? ((⟨w1.heap.size, 0, none⟩ : Addr).add j) = some u := World.news_of_block (heap_alloc_new w1 (.cells #[.string (T.extract 0 i)] 9))
        have NW := Sec.mk hnw
        have FA := Sec.mk hfirst
        have RL := Sec.mk (fun k e => (hrow.lt k e).1)
        have hbs := BL.out.size
        have d1 : decide ((i : Int) < 0) = false := decide_eq_false (by omega)
        clear hnw hrow hfirst
        go_upto_region 10 with fail
        have hw1 : IntKind.i64.wrap ((i : Int) + (t.size : Int)) = (i : Int) + (t.size : Int) := wrap_i64 _ (by omega) (by omega)
        have hw2 : (0 : Int) ≤ (i : Int) + (t.size : Int) := by omega
        have hw3 : (i : Int) + (t.size : Int) ≤ (T.size : Int) := by omega
        have hw6 : ((i : Int) + (t.size : Int)).toNat = i + t.size := by omega
        have hw4 : (0 : Int) ≤ (i : Int) := by omega
        have hw5 : (i : Int) ≤ (T.size : Int) := by omega
        go_region_held3 (fun _ => True) (trivial) (first | (refine step_append_lies _ (by rfl) _ _ _ (by rfl) w.heap.size 9 i0 _ 1 16 Tryd.underlying24 hi0 hz0 hz1 hz2 rfl (by decide) (.slice A l.length c) l.length (l.map Value.string) (by rfl) ((World.ownsRow.alloc ROW.out _).drew) ⟨w1.heap.size, 0, none⟩ 1 1 [.string (T.extract 0 i)] (by rfl) (by rfl) NW.out oneS (by decide) (by unfold maxLen; omega) (by omega) (by simp; omega) (w1.heap.size + 1) (by simp) ?_; intro g' cap w3 ho3 hg3 hat hlt))
        have fin : Below w.heap.size w w3 ∧ SRow w3 w.heap.size (.slice (some ⟨g', 0, none⟩) (l.length + 1) cap) (l ++ [T.extract 0 i]) ∧ (∀ k ∈ l ++ [T.extract 0 i], k.size ≤ 4096) ∧
            cuts t.data.toList [] s.data.toList = (l ++ [T.extract 0 i]).map (·.data.toList) ++ cuts t.data.toList [] (T.extract (i + t.size) T.size).data.toList := by
          refine ⟨((BL.out.drew.alloc BL.out.size (.cells #[.string (T.extract 0 i)] 9)).grown hg3 (Nat.le_trans BL.out.size (by simp)) RL.out), SRow.next ho3, fun k hk => ?_, ?_⟩
          · rcases List.mem_append.1 hk with hk | hk
            · exact HL.out.1 k hk
            · obtain rfl : k = T.extract 0 i := by simpa using hk
              rw [ByteArray.size_extract]
              omega
          · rw [HL.out.2, cuts_first _ _ _ i (by intro e; have : t.data.toList.length = 0 := by rw [e]; rfl
                                                 rw [Array.length_toList] at this; exact absurd h0 (by show ¬ 0 < t.data.size; omega)) FA.out, List.map_append, List.append_assoc]
            congr 1
            simp only [List.map_cons, List.map_nil, List.nil_append, List.singleton_append]
            rw [toList_ext _ _ _ (by omega), toList_ext _ _ _ (Nat.le_refl _), List.drop_zero, Nat.sub_zero]
            congr 1
            congr 1
            rw [List.take_of_length_le]
            · rw [Array.length_toList]; rfl
            · rw [List.length_drop, Array.length_toList]; exact Nat.le_refl _
        have FIN := Sec.mk fin
        have hsz2 : (T.extract (i + t.size) T.size).size = T.size - (i + t.size) := by rw [ByteArray.size_extract]; omega
        have HZ2 := Sec.mk hsz2
        clear fin ho3 hg3 hat hsz2
        go_wp2
        go_roundw
        case rel => exact ⟨_, _, rfl, by rw [HZ2.out, List.length_append, List.length_singleton]; omega, FIN.out.1, FIN.out.2.1, FIN.out.2.2.1, FIN.out.2.2.2⟩
        case measure => simp only [strLen]; rw [HZ2.out]; omega

theorem isEmpty_of (T : ByteArray) : T.toList.isEmpty = decide (T.size = 0) := by
  rw [Lib.toList_data]
  show T.data.toList.isEmpty = decide (T.data.size = 0)
  rw [Bool.eq_iff_iff, List.isEmpty_iff, decide_eq_true_eq, ← List.length_eq_zero_iff, Array.length_toList]
theorem rune_width (T : ByteArray) (h : 0 < T.size) : 1 ≤ (Lib.decodeGo T).2 ∧ (Lib.decodeGo T).2 ≤ T.size := by
  unfold Lib.decodeGo
  rw [if_neg (by omega)]
  exact ⟨Lib.decode_width_pos T 0 h, Lib.width_le T h⟩

set_option maxHeartbeats 1600000 in
set_option maxRecDepth 100000 in
theorem zzSplit_none (s : ByteArray) (w : World) (hs : s.size ≤ 4096) (hT : Tabs w) (h2 : 2 ≤ w.heap.size) :
    Calls Tryd.prog 62 #[.string s, .string ⟨#[]⟩] w (Pieces s ⟨#[]⟩ w) := by
  obtain ⟨i0, hi0, hz0, hz1, hz2⟩ := info_parts infoS
  have he : (ByteArray.mk #[]).toList.isEmpty = true := by rw [isEmpty_of]; rfl
  have HS := Sec.mk (And.intro hs (And.intro hT h2))
  clear hs hT h2
  go_enter Tryd.func62, Tryd.ntmps62
  go_wp2_with fail
  go_loopw [0, 5, 6, 7] (fun v0 v5 _ _ wr => ∃ T l, v0 = .string T ∧ T.size + l.length ≤ 4096 ∧ Below w.heap.size w wr ∧ SRow wr w.heap.size v5 l ∧ (∀ k ∈ l, k.size ≤ 4096)) (fun v0 _ _ _ _ => strLen v0)
  case atStart => exact ⟨s, [], rfl, by have := HS.out.1; simpa using this, Below.refl _ _, World.ownsRow_nil .., fun k hk => by simp at hk⟩
  case round =>
    obtain ⟨T, l, rfl, hsz, hb, hrow, hl⟩ := hrel
    obtain ⟨A, c, rfl⟩ := hrow.read
    have ROW := Sec.mk hrow
    have BL := Sec.mk hb
    have HL := Sec.mk hl
    by_cases h0 : T.size = 0
    · have hte : T.toList.isEmpty = true := by rw [isEmpty_of, decide_eq_true h0]
      clear hrow hb hl
      go_wp2
      go_ret
      exact ⟨_, l, rfl, ROW.out, BL.out, by omega, HL.out, fun hne => absurd rfl hne⟩
    · have hte : T.toList.isEmpty = false := by rw [isEmpty_of, decide_eq_false h0]
      have hwd := rune_width T (by omega)
      have cD := Tryd.utf8_DecodeRuneInString T wr (HS.out.2.1.same (Same.of_below hb) HS.out.2.2)
      obtain ⟨d, hd⟩ : ∃ d, (Lib.decodeGo T).2 = d := ⟨_, rfl⟩
      rw [hd] at cD hwd
      obtain ⟨hd1, hd2⟩ := hwd
      have CD := Sec.mk cD
      clear hrow hb hl cD hd
      go_wp2_with fail
      refine CD.out.mono ?_
      intro e w1 hw1
      obtain ⟨rfl, hb1⟩ := hw1
      have bl1 := below_then' BL.out hb1
      have row1 : SRow w1 w.heap.size (.slice A l.length c) l := World.ownsRow.kept ROW.out ⟨hb1.os, hb1.tape, hb1.output, hb1.size, fun k hk _ => hb1.block k hk⟩ (row := none) (by cases hx : (Value.slice A l.length c).ownBlock <;> simp)
      have B1 := Sec.mk bl1
      have ROW1 := Sec.mk row1
      have hnw : ∀ j u, [Value.string (T.extract 0 d)][j]? = some u → (w1.alloc (.cells #[.string (T.extract 0 d)] 9)).cell? ((⟨w1.heap.size, 0, none⟩ : Addr).add j) = some u := World.news_of_block (heap_alloc_new w1 (.cells #[.string (T.extract 0 d)] 9))
      have NW := Sec.mk hnw
      have RL := Sec.mk (fun k e => (World.ownsRow.lt row1 k e).1)
      have hbs := bl1.size
      clear hnw bl1 row1 hb1
      go_upto_region 4 with fail
      have hw2 : (0 : Int) ≤ (d : Int) := by omega
      have hw3 : (d : Int) ≤ (T.size : Int) := by omega
      go_region_held3 (fun _ => True) (trivial) (first | (refine step_append_lies _ (by rfl) _ _ _ (by rfl) w.heap.size 9 i0 _ 1 16 Tryd.underlying24 hi0 hz0 hz1 hz2 rfl (by decide) (.slice A l.length c) l.length (l.map Value.string) (by rfl) ((World.ownsRow.alloc ROW1.out _).drew) ⟨w1.heap.size, 0, none⟩ 1 1 [.string (T.extract 0 d)] (by rfl) (by rfl) NW.out oneS (by decide) (by unfold maxLen; omega) (by omega) (by simp; omega) (w1.heap.size + 1) (by simp) ?_; intro g' cap w3 ho3 hg3 hat hlt))
      have fin : Below w.heap.size w w3 ∧ SRow w3 w.heap.size (.slice (some ⟨g', 0, none⟩) (l.length + 1) cap) (l ++ [T.extract 0 d]) ∧ (∀ k ∈ l ++ [T.extract 0 d], k.size ≤ 4096) := by
        refine ⟨((B1.out.drew.alloc B1.out.size (.cells #[.string (T.extract 0 d)] 9)).grown hg3 (Nat.le_trans B1.out.size (by simp)) RL.out), SRow.next ho3, fun k hk => ?_⟩
        rcases List.mem_append.1 hk with hk | hk
        · exact HL.out k hk
        · obtain rfl : k = T.extract 0 d := by simpa using hk
          rw [ByteArray.size_extract]
          omega
      have FIN := Sec.mk fin
      have hsz2 : (T.extract d T.size).size = T.size - d := by rw [ByteArray.size_extract]; omega
      have HZ2 := Sec.mk hsz2
      clear fin ho3 hg3 hat hsz2
      go_wp2
      go_roundw
      case rel => exact ⟨_, _, rfl, by rw [HZ2.out, List.length_append, List.length_singleton]; omega, FIN.out.1, FIN.out.2.1, FIN.out.2.2⟩
      case measure => simp only [strLen]; rw [HZ2.out]; omega

theorem zzSplit_any (s t : ByteArray) (w : World) (hs : s.size ≤ 4096) (ht : t.size ≤ 4096) (hT : Tabs w) (h2 : 2 ≤ w.heap.size) :
    Calls Tryd.prog 62 #[.string s, .string t] w (Pieces s t w) := by
  by_cases h0 : 0 < t.size
  · exact zzSplit_some s t w hs ht h0
  · obtain rfl : t = ⟨#[]⟩ := by
      have h : t.data.size = 0 := Nat.le_zero.1 (Nat.not_lt.1 h0)
      obtain ⟨a⟩ := t
      have := Array.eq_empty_of_size_eq_zero h
      simp only at this
      rw [this]
    exact zzSplit_none s w hs hT h2

end Go.Proofs.YtpamlgdcnmcedaaDoor
