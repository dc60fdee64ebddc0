/-
  spec.quoted: the JSON text of a string without a byte 127.
-/
import Derived.Test.YtpamlgdcnmcedaaGreatDoorQuotE
import Derived.Test.YtpamlgdcnmcedaaGreatDoorDig
import Derived.Test.YtpamlgdcnmcedaaGreatDoorLk
import Derived.Deep.QuietTactic
import Derived.BigQuiet
import Derived.Deep.DeepCutAuto
import Derived.Deep.CutBlock
namespace Go.Proofs.YtpamlgdcnmcedaaGreatDoor
set_option linter.unusedVariables false
set_option linter.unusedSimpArgs false
open Go.RowKit

/-- spec.quoted's answer: where it says 0 it is the text. -/
def QdIs (s : ByteArray) (w : World) (e : Ending) (w' : World) : Prop := ∃ (o : ByteArray) (how : Int), e = .returned (.tuple #[.string o, .int .i64 how]) ∧ ((how = 0 → o.data.toList = quotE s.data.toList) ∧ how ≠ 1) ∧ o.size ≤ 6 * s.size + 2 ∧ Below w.heap.size w w'
/-- The text so far. -/
def QL (w : World) (s : ByteArray) (o : ByteArray) (i : Nat) (wr : World) : Prop := o.data.toList = 34 :: (s.data.toList.take i).flatMap escE ∧ Below w.heap.size w wr
theorem QL.size {w wr : World} {s o : ByteArray} {i : Nat} (h : QL w s o i wr) (hi : i ≤ s.size) : o.size ≤ 6 * i + 1 := by
  have h1 := congrArg List.length h.1
  rw [show o.data.toList.length = o.size from Array.length_toList, List.length_cons] at h1
  have h2 := escE_len (s.data.toList.take i)
  rw [List.length_take, show s.data.toList.length = s.size from Array.length_toList, Nat.min_eq_left hi] at h2
  omega
theorem QL.next {w wr : World} {s o : ByteArray} {i : Nat} {c : UInt8} (h : QL w s o i wr) (hc : s.data.toList[i]? = some c) (t : ByteArray) (ht : escE c = t.data.toList) : QL w s (o ++ t) (i + 1) wr := by
  refine ⟨?_, h.2⟩
  rw [escE_next hc, ht, ByteArray.data_append, Array.toList_append, h.1]
  rfl
theorem one_byte {s : ByteArray} {i : Nat} {c : UInt8} (h : s.data.toList[i]? = some c) : s.extract i (i + 1) = ⟨#[c]⟩ := by
  obtain ⟨hlt, e⟩ := List.getElem?_eq_some_iff.1 h
  rw [Lib.extract_eq, show i + 1 - i = 1 from by omega, List.drop_eq_getElem_cons hlt, e]
  rfl
theorem plain_one {c : UInt8} {k : Nat} (hk : c.toNat = k) (h2 : ¬ (k = 34 ∨ k = 92)) (h32 : ¬ k < 32) (h127 : ¬ k = 127) : escE c = (ByteArray.mk #[c]).data.toList := by
  show escE c = [c]
  by_cases h : 128 ≤ k
  · exact plain_big (by omega)
  · exact plain_mid (by omega) (by omega) (by omega) (by omega)
theorem QL.drawn {w wr : World} {s o : ByteArray} {i : Nat} (h : QL w s o i wr) (q : Nat) : QL w s o i (wr.drewN q) := ⟨h.1, h.2.os, h.2.tape, h.2.output, h.2.size, h.2.block⟩
theorem esc_low {c : UInt8} {k : Nat} (hk : c.toNat = k) (h32 : k < 32) (h7 : ¬ (k = 10 ∨ k = 13 ∨ k = 9 ∨ k = 8 ∨ k = 12)) : escE c = [92, 117, 48, 48, hexD (k / 16), hexD (k % 16)] := by
  have e : ∀ x : UInt8, k ≠ x.toNat → c ≠ x := fun x hx e => hx (by rw [← hk, e])
  unfold escE
  rw [if_neg (e _ (by show k ≠ 127; omega))]
  unfold escL
  rw [if_neg (fun h => by rcases h with h | h; exact e 34 (by show k ≠ 34; omega) h; exact e 92 (by show k ≠ 92; omega) h), if_neg (e _ (by show k ≠ 10; omega)), if_neg (e _ (by show k ≠ 9; omega)), if_neg (e _ (by show k ≠ 13; omega)),
    if_neg (e _ (by show k ≠ 8; omega)), if_neg (e _ (by show k ≠ 12; omega)), if_pos (UInt8.lt_iff_toNat_lt.2 (by rw [hk]; exact h32)), hk]
theorem wrap8 (x : Nat) (h : x < 256) : IntKind.u8.wrap (x : Int) = (x : Int) := by
  simp [IntKind.wrap, IntKind.bits, IntKind.signed]
  omega
theorem hex_one (a : Nat) (h : a < 16) : (ByteArray.mk #[48, 49, 50, 51, 52, 53, 54, 55, 56, 57, 97, 98, 99, 100, 101, 102]).extract a (a + 1) = ⟨#[hexD a]⟩ := by
  have hk : a = 0 ∨ a = 1 ∨ a = 2 ∨ a = 3 ∨ a = 4 ∨ a = 5 ∨ a = 6 ∨ a = 7 ∨ a = 8 ∨ a = 9 ∨ a = 10 ∨ a = 11 ∨ a = 12 ∨ a = 13 ∨ a = 14 ∨ a = 15 := by omega
  rcases hk with rfl | rfl | rfl | rfl | rfl | rfl | rfl | rfl | rfl | rfl | rfl | rfl | rfl | rfl | rfl | rfl <;> rfl

set_option maxHeartbeats 6400000 in
set_option maxRecDepth 100000 in
theorem quoted_any (s : ByteArray) (w : World) (hs : s.size ≤ 1000000) : Calls Tryz.prog 17 #[.string s] w (QdIs s w) := by
  obtain ⟨n, hn⟩ : ∃ n, s.size = n := ⟨_, rfl⟩
  rw [hn] at hs
  have HN := Sec.mk hn
  clear hn
  go_enter Tryz.func17, Tryz.ntmps17
  go_wp2_with fail
  go_loopw [4, 5, 6] (fun v4 v5 _ wr => ∃ (o : ByteArray) (i : Nat), v4 = .string o ∧ v5 = .int .i64 (i : Int) ∧ i ≤ n ∧ QL w s o i wr) (fun _ v5 _ _ => n - (intOf v5).toNat)
  case atStart => exact ⟨_, 0, rfl, rfl, Nat.zero_le _, by simp, Below.refl _ _⟩
  case round =>
    obtain ⟨o, i, rfl, rfl, hi, hl⟩ := hrel
    have hoz := hl.size (by rw [HN.out]; exact hi)
    have hsn := HN.out
    have HL := Sec.mk hl
    clear hl
    by_cases hin : i < n
    · obtain ⟨c, hc⟩ : ∃ c, s.data.toList[i]? = some c := ⟨_, List.getElem?_eq_getElem (by rw [show s.data.toList.length = s.size from Array.length_toList, hsn]; exact hin)⟩
      have hix : ∀ W : World, (Instr.index 9 (.string s) (.int .i64 (i : Int))).run Tryz.prog W = .ok (.int .u8 (c.toNat : Int)) W := fun W => by
        obtain ⟨hlt, e⟩ := List.getElem?_eq_some_iff.1 hc
        rw [Array.length_toList] at hlt
        have hlt' : i < s.size := hlt
        rw [run_index_string W 9 s .i64 (i : Int) Tryz.underlying9, dif_pos ⟨by omega, by omega⟩]
        rw [Array.getElem_toList] at e
        congr 4
      have HC := Sec.mk hc
      clear hc
      have hc256 : c.toNat < 256 := UInt8.toNat_lt c
      obtain ⟨k, hk⟩ : ∃ k, c.toNat = k := ⟨_, rfl⟩
      rw [hk] at hix hc256
      have HK := Sec.mk hk
      clear hk
      have z2 : o.size + 2 ≤ 9223372036854775807 := by omega
      by_cases k7 : k = 10 ∨ k = 13 ∨ k = 9 ∨ k = 8 ∨ k = 12
      · rcases k7 with rfl | rfl | rfl | rfl | rfl
        all_goals
          go_wp2_with fail
          go_roundw
          case rel => exact ⟨_, i + 1, rfl, by go_num, by omega, HL.out.next HC.out _ (by rw [show c = _ from UInt8.toNat_inj.1 (HK.out.trans (UInt8.toNat_ofNat_of_lt (by decide)).symm)]; rfl)⟩
          case measure => simp [intOf]; omega
      · by_cases k2 : k = 34 ∨ k = 92
        · rcases k2 with rfl | rfl
          · have e34 : Utf8.encode 34 = ⟨#[34]⟩ := by rfl
            go_wp2_with fail
            go_roundw
            case rel => exact ⟨_, i + 1, rfl, by go_num, by omega, HL.out.next HC.out _ (by rw [show c = _ from UInt8.toNat_inj.1 (HK.out.trans (UInt8.toNat_ofNat_of_lt (by decide)).symm)]; rfl)⟩
            case measure => simp [intOf]; omega
          · have e92 : Utf8.encode 92 = ⟨#[92]⟩ := by rfl
            go_wp2_with fail
            go_roundw
            case rel => exact ⟨_, i + 1, rfl, by go_num, by omega, HL.out.next HC.out _ (by rw [show c = _ from UInt8.toNat_inj.1 (HK.out.trans (UInt8.toNat_ofNat_of_lt (by decide)).symm)]; rfl)⟩
            case measure => simp [intOf]; omega
        · have e1 : ((k : Int) == 34) = false := by simp; omega
          have e2 : ((k : Int) == 92) = false := by simp; omega
          have e3 : ((k : Int) == 10) = false := by simp; omega
          have e4 : ((k : Int) == 9) = false := by simp; omega
          have e5 : ((k : Int) == 13) = false := by simp; omega
          have e6 : ((k : Int) == 8) = false := by simp; omega
          have e7 : ((k : Int) == 12) = false := by simp; omega
          have K7 := Sec.mk (And.intro k7 k2)
          clear k7 k2
          by_cases k32 : k < 32
          · have t1 : decide ((k : Int) < 32) = true := decide_eq_true (by omega)
            go_upto_region 20 with fail
            obtain ⟨a, ha⟩ : ∃ a, k / 16 = a := ⟨_, rfl⟩
            obtain ⟨b, hb⟩ : ∃ b, k % 16 = b := ⟨_, rfl⟩
            have ha16 : a < 2 := by omega
            have hb16 : b < 16 := by omega
            have d1 : (k : Int).tdiv 16 = (a : Int) := by rw [← ha]; exact Int.ofNat_tdiv k 16
            have d2 : (k : Int).tmod 16 = (b : Int) := by rw [← hb]; exact Int.ofNat_tmod k 16
            have f1 : (0 : Int) ≤ (a : Int) := by omega
            have f2 : (a : Int) ≤ (a : Int) + 1 := by omega
            have f3 : (a : Int) + 1 ≤ 16 := by omega
            have g1 : (0 : Int) ≤ (b : Int) := by omega
            have g2 : (b : Int) ≤ (b : Int) + 1 := by omega
            have g3 : (b : Int) + 1 ≤ 16 := by omega
            have m1 : IntKind.u8.wrap ((a : Int) + 1) = (a : Int) + 1 := wrap8 (a + 1) (by omega)
            have m2 : IntKind.u8.wrap ((b : Int) + 1) = (b : Int) + 1 := wrap8 (b + 1) (by omega)
            have x1 := hex_one a (by omega)
            have x2 := hex_one b (by omega)
            have z6 : o.size + 6 ≤ 9223372036854775807 := by omega
            have HAB := Sec.mk (And.intro ha hb)
            clear ha hb
            go_quiet (fail)
            have HQ := Sec.mk (HL.out.drawn nq)
            generalize World.drewN wr nq = wq at *
            go_wp2_with fail
            go_roundw
            case rel => exact ⟨_, i + 1, rfl, by go_num, by omega, HQ.out.next HC.out _ (by rw [esc_low HK.out k32 K7.out.1, HAB.out.1, HAB.out.2]; rfl)⟩
            case measure => simp [intOf]; omega
          · have t1 : decide ((k : Int) < 32) = false := decide_eq_false (by omega)
            by_cases k127 : k = 127
            · have t2 : ((k : Int) == 127) = true := by simp; omega
              clear k127
              go_wp2_with fail
              go_ret2
              exact ⟨_, 2, rfl, ⟨fun h => by simp at h, by decide⟩, Nat.zero_le _, HL.out.2⟩
            · have t2 : ((k : Int) == 127) = false := by simp; omega
              have K127 := Sec.mk k127
              clear k127
              have w1 : (0 : Int) ≤ (i : Int) := by omega
              have w2 : (i : Int) ≤ (i : Int) + 1 := by omega
              have w3 : (i : Int) + 1 ≤ (n : Int) := by omega
              have x1 : s.extract i (i + 1) = ⟨#[c]⟩ := one_byte HC.out
              go_wp2_with fail
              go_roundw
              case rel => exact ⟨_, i + 1, rfl, by go_num, by omega, HL.out.next HC.out _ (plain_one HK.out K7.out.2 k32 K127.out)⟩
              case measure => simp [intOf]; omega
    · obtain rfl : i = n := by omega
      have z2 : o.size + 1 ≤ 9223372036854775807 := by omega
      go_wp2_with fail
      go_ret2
      refine ⟨_, 0, rfl, ⟨fun _ => ?_, by decide⟩, ?_, HL.out.2⟩
      · rw [ByteArray.data_append, Array.toList_append, HL.out.1, List.take_of_length_le (by rw [show s.data.toList.length = s.size from Array.length_toList, hsn]; omega)]
        rfl
      · rw [ByteArray.size_append, hsn]
        show o.size + 1 ≤ _
        omega

end Go.Proofs.YtpamlgdcnmcedaaGreatDoor
