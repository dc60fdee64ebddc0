/-
  The text of a string, written.
-/
import Derived.Test.YtpamlgdcnmcedaaGreatDoorEncFS
import Derived.Test.YtpamlgdcnmcedaaGreatDoorQuotE
import Derived.Test.YtpamlgdcnmcedaaGreatDoorShelfD
import Derived.Test.YtpamlgdcnmcedaaGreatDoorLk
import Derived.Deep.DeepCutAuto
import Derived.Deep.CutBlock
import Derived.Deep.CutRange
namespace Go.Proofs.YtpamlgdcnmcedaaGreatDoor
set_option linter.unusedVariables false
set_option linter.unusedSimpArgs false
open Go.RowKit

theorem index_byte {P : Program} (t : TypeId) (ht : P.underlying t = some .string) (s : ByteArray) (i : Nat) (c : UInt8) (hc : s.data.toList[i]? = some c) (w : World) :
    (Instr.index t (.string s) (.int .i64 (i : Int))).run P w = .ok (.int .u8 (c.toNat : Int)) w := by
  obtain ⟨hlt, e⟩ := List.getElem?_eq_some_iff.1 hc
  rw [Array.length_toList] at hlt
  have hlt' : i < s.size := hlt
  rw [run_index_string w t s .i64 (i : Int) ht, dif_pos ⟨by omega, by omega⟩]
  rw [Array.getElem_toList] at e
  congr 4
/-- Whether a byte below 128 stands for itself. -/
def pl (k : Nat) : Bool := decide (32 ≤ k ∧ k ≤ 126 ∧ k ≠ 34 ∧ k ≠ 92)
def headL (l s : List UInt8) (a : Nat) : List UInt8 := l ++ (34 :: (s.take a).flatMap escE)
/-- The loop of encodeString: a is where the bytes begin that are not written yet, i the place. -/
structure EncL (w0 : World) (B b g : Nat) (l s : List UInt8) (wr : World) (a i : Nat) : Prop where
  st : St wr B b g (headL l s a)
  kp : Kp B b g w0 wr
  le : a ≤ i
  run : ∀ j c, a ≤ j → j < i → s[j]? = some c → PlainB c
  ok : Lib.validD (s.drop i) = true

theorem drop_one {s : List UInt8} {i : Nat} {c : UInt8} (h : s[i]? = some c) : s.drop i = c :: s.drop (i + 1) := by
  obtain ⟨hlt, e⟩ := List.getElem?_eq_some_iff.1 h
  rw [List.drop_eq_getElem_cons hlt, e]
/-- The bytes up to place i are written. -/
def Mid (w0 : World) (B b g : Nat) (l s : List UInt8) (i : Nat) (wx : World) : Prop := St wx B b g (headL l s i) ∧ Kp B b g w0 wx
theorem EncL.head {w0 wr : World} {B b g a i : Nat} {l s : List UInt8} (h : EncL w0 B b g l s wr a i) : headL l s i = headL l s a ++ (s.take i).drop a := by
  unfold headL
  rw [esc_run h.le h.run]
  simp
theorem extract_bytes (s : ByteArray) (a i : Nat) : (s.extract a i).data.toList = (s.data.toList.take i).drop a := by
  rw [Lib.extract_data]
  exact List.drop_take.symm
theorem headL_length (l s : List UInt8) (i : Nat) (hi : i ≤ s.length) : (headL l s i).length ≤ l.length + 1 + 6 * i := by
  unfold headL
  have := escE_len (s.take i)
  rw [List.length_take, Nat.min_eq_left hi] at this
  rw [List.length_append, List.length_cons]
  omega
theorem EncL.mid {w0 wr w2 : World} {B b g a i : Nat} {l s : List UInt8} {e : Ending} (h : EncL w0 B b g l s wr a i) (hw : EncPost wr B b g (headL l s a) ((s.take i).drop a) e w2) : Mid w0 B b g l s i w2 := by
  obtain ⟨_, h1, h2⟩ := hw
  exact ⟨by rw [h.head]; exact h1, h.kp.trans h2⟩
theorem EncL.drew {w0 wr : World} {B b g a i : Nat} {l s : List UInt8} (h : EncL w0 B b g l s wr a i) : EncL w0 B b g l s wr.drew a i :=
  ⟨h.st.below (Below.refl _ _).drew, h.kp.trans (Kp.of_below (Below.refl _ _).drew h.st.size), h.le, h.run, h.ok⟩
theorem mid_next {w0 w1 w2 : World} {B b g i : Nat} {l s t : List UInt8} {c : UInt8} {e : Ending} (h : Mid w0 B b g l s i w1) (hc : s[i]? = some c) (ht : escE c = t) (hw : EncPost w1 B b g (headL l s i) t e w2) : Mid w0 B b g l s (i + 1) w2 := by
  obtain ⟨_, h1, h2⟩ := hw
  refine ⟨?_, h.2.trans h2⟩
  have e1 : headL l s (i + 1) = headL l s i ++ t := by unfold headL; rw [escE_next hc, ht]; simp
  rw [e1]
  exact h1
theorem hex_at (k : Nat) (h : k < 16) (w : World) : (Instr.index 9 (.string ⟨#[48, 49, 50, 51, 52, 53, 54, 55, 56, 57, 97, 98, 99, 100, 101, 102]⟩) (.int .u8 (k : Int))).run Tryz.prog w = .ok (.int .u8 ((hexD k).toNat : Int)) w := by
  rw [run_index_string w 9 _ .u8 (k : Int) Tryz.underlying9, dif_pos ⟨by omega, by show (k : Int) < (16 : Int); omega⟩]
  congr 3
  have hk : k = 0 ∨ k = 1 ∨ k = 2 ∨ k = 3 ∨ k = 4 ∨ k = 5 ∨ k = 6 ∨ k = 7 ∨ k = 8 ∨ k = 9 ∨ k = 10 ∨ k = 11 ∨ k = 12 ∨ k = 13 ∨ k = 14 ∨ k = 15 := by omega
  rcases hk with rfl | rfl | rfl | rfl | rfl | rfl | rfl | rfl | rfl | rfl | rfl | rfl | rfl | rfl | rfl | rfl <;> rfl
theorem hex_hi (k : Nat) (h : k < 256) (w : World) : (Instr.index 9 (.string ⟨#[48, 49, 50, 51, 52, 53, 54, 55, 56, 57, 97, 98, 99, 100, 101, 102]⟩) (.int .u8 ((k : Int) / 16))).run Tryz.prog w = .ok (.int .u8 ((hexD (k / 16)).toNat : Int)) w := by
  have h1 := hex_at (k / 16) (by omega) w
  rw [show ((k / 16 : Nat) : Int) = (k : Int) / 16 from by omega] at h1
  exact h1
theorem hex_lo (k : Nat) (w : World) : (Instr.index 9 (.string ⟨#[48, 49, 50, 51, 52, 53, 54, 55, 56, 57, 97, 98, 99, 100, 101, 102]⟩) (.int .u8 ((k : Int) % 16))).run Tryz.prog w = .ok (.int .u8 ((hexD (k % 16)).toNat : Int)) w := by
  have h1 := hex_at (k % 16) (by omega) w
  rw [show ((k % 16 : Nat) : Int) = (k : Int) % 16 from by omega] at h1
  exact h1
theorem bits_15 (k : Nat) (h : k < 256) : bits .and .u8 (k : Int) 15 = (k : Int) % 16 := by
  have h1 : (BitVec.ofInt 8 (k : Int)).toNat = k := by
    rw [BitVec.ofInt_natCast, BitVec.toNat_ofNat]; exact Nat.mod_eq_of_lt (by omega)
  have h2 : (BitVec.ofInt 8 (15 : Int)).toNat = 15 := by decide
  show IntKind.u8.wrap ((BitVec.ofInt 8 (k : Int) &&& BitVec.ofInt 8 (15 : Int)).toNat : Int) = _
  have h3 : k &&& 15 = k % 16 := Nat.and_two_pow_sub_one_eq_mod k 4
  rw [BitVec.toNat_and, h1, h2, h3]
  have h4 : k % 16 < 16 := Nat.mod_lt _ (by omega)
  have h5 : IntKind.u8.wrap ((k % 16 : Nat) : Int) = ((k % 16 : Nat) : Int) := by
    generalize k % 16 = x at h4
    simp [IntKind.wrap, IntKind.bits, IntKind.signed]
    omega
  rw [h5]
  omega
theorem esc_hex {c : UInt8} {k : Nat} (hk : c.toNat = k) (h : k < 128) (hp : pl k = false) (h7 : ¬ (k = 34 ∨ k = 92 ∨ k = 8 ∨ k = 12 ∨ k = 10 ∨ k = 13 ∨ k = 9)) : escE c = [92, 117, 48, 48, hexD (k / 16), hexD (k % 16)] := by
  have hp' : ¬ (32 ≤ k ∧ k ≤ 126 ∧ k ≠ 34 ∧ k ≠ 92) := of_decide_eq_false hp
  have e : ∀ x : UInt8, k ≠ x.toNat → c ≠ x := fun x hx e => hx (by rw [← hk, e])
  unfold escE
  by_cases h127 : k = 127
  · rw [if_pos (UInt8.toNat_inj.1 (by rw [hk, h127]; rfl)), h127]
    rfl
  · have h32 : k < 32 := by omega
    rw [if_neg (e _ (by show k ≠ 127; omega))]
    unfold escL
    rw [if_neg (fun h => by rcases h with h | h; exact e 34 (by show k ≠ 34; omega) h; exact e 92 (by show k ≠ 92; omega) h), if_neg (e _ (by show k ≠ 10; omega)), if_neg (e _ (by show k ≠ 9; omega)), if_neg (e _ (by show k ≠ 13; omega)),
      if_neg (e _ (by show k ≠ 8; omega)), if_neg (e _ (by show k ≠ 12; omega)), if_pos (UInt8.lt_iff_toNat_lt.2 (by rw [hk]; exact h32)), hk]
theorem hexPost {w1 wz w4 : World} {B b g : Nat} {l : List UInt8} {x y : UInt8} {e : Ending} (hk : Kp B b g w1 wz) (h : EncPost wz B b g ((l ++ [92, 117, 48, 48]) ++ [x]) [y] e w4) : EncPost w1 B b g l [92, 117, 48, 48, x, y] e w4 := by
  have h1 : EncPost wz B b g (l ++ [92, 117, 48, 48, x]) [y] e w4 := by
    have e1 : l ++ [92, 117, 48, 48, x] = (l ++ [92, 117, 48, 48]) ++ [x] := by simp
    rw [e1]; exact h
  exact EncPost.then hk h1
theorem decodeGo_drop (s : ByteArray) (i : Nat) (h : i < s.size) : Lib.decodeGo (s.extract i s.size) = Lib.decodeL (s.data.toList.drop i) := by
  have hl : s.data.toList.length = s.size := Array.length_toList
  have hx : s.extract i s.size = ⟨(s.data.toList.drop i).toArray⟩ := by
    rw [Lib.extract_eq, List.take_of_length_le (by rw [List.length_drop, hl]; omega)]
  have hxs : (⟨(s.data.toList.drop i).toArray⟩ : ByteArray).size ≠ 0 := by
    rw [Lib.size_eq]
    simp only [List.length_drop, hl]
    omega
  rw [hx]
  unfold Lib.decodeGo Lib.decodeL
  rw [if_neg hxs]

set_option maxHeartbeats 16000000 in
set_option maxRecDepth 100000 in
theorem encS_any (s : ByteArray) (B b g : Nat) (l : List UInt8) (w : World) (hS : St w B b g l) (hT : Tabs w) (hB2 : 2 ≤ B) (hv : Lib.validD s.data.toList = true) (hz : l.length + 6 * s.size + 2 ≤ 1000000000) :
    Calls Tryz.prog 48 #[.pointer (some ⟨g, 0, none⟩), .string s] w (EncPost w B b g l (quotE s.data.toList)) := by
  obtain ⟨cs, hE⟩ := hS.enc
  have d0 := hE.c0
  unfold wVal at d0
  obtain ⟨n, hn⟩ : ∃ n, s.size = n := ⟨_, rfl⟩
  rw [hn] at hz
  have hnl : s.data.toList.length = n := by rw [Array.length_toList]; exact hn
  have CW := Sec.mk (st_byte 34 hS (by omega))
  have HN := Sec.mk (And.intro hn hnl)
  have HV := Sec.mk hv
  have HT := Sec.mk hT
  clear hS hE hv hT hn hnl
  go_enter Tryz.func48, Tryz.ntmps48
  go_wp2_with fail
  refine CW.out.mono ?_
  rintro e w1 ⟨⟨v, rfl⟩, hS1, hk1⟩
  have HL0 := Sec.mk (show EncL w B b g l s.data.toList w1 0 0 from ⟨hS1, hk1, Nat.le_refl _, fun j c _ h2 _ => by omega, HV.out⟩)
  clear hS1 hk1 d0
  go_wp2_with fail
  go_loopw [4, 5, 6, 7, 8] (fun v4 v5 _ _ _ wr => ∃ a i : Nat, v4 = .int .i64 (a : Int) ∧ v5 = .int .i64 (i : Int) ∧ i ≤ n ∧ EncL w B b g l s.data.toList wr a i) (fun _ v5 _ _ _ _ => n - (intOf v5).toNat)
  case atStart => exact ⟨0, 0, rfl, rfl, Nat.zero_le _, HL0.out⟩
  case round =>
    obtain ⟨a, i, rfl, rfl, hi, hl⟩ := hrel
    obtain ⟨cs1, hE1⟩ := hl.st.enc
    have d0 := hE1.c0
    unfold wVal at d0
    have hai := hl.le
    have hsn := HN.out.1
    have HL := Sec.mk hl
    clear hl hE1
    by_cases hin : i < n
    · obtain ⟨c, hc⟩ : ∃ c, s.data.toList[i]? = some c := ⟨_, List.getElem?_eq_getElem (by rw [HN.out.2]; exact hin)⟩
      have hix := fun W => index_byte (P := Tryz.prog) 9 Tryz.underlying9 s i c hc W
      have HC := Sec.mk hc
      clear hc
      have hc256 : c.toNat < 256 := UInt8.toNat_lt c
      obtain ⟨k, hk⟩ : ∃ k, c.toNat = k := ⟨_, rfl⟩
      rw [hk] at hix hc256
      have HK := Sec.mk hk
      clear hk
      by_cases h128 : k < 128
      · have t1 : decide ((k : Int) < 128) = true := decide_eq_true (by omega)
        go_upto_region 6 with fail
        go_cut [36] (fun v36 wx => v36 = .bool (pl k) ∧ wx = wr)
        case first =>
          as_aux_lemma =>
          --SLOW1
          by_cases k1 : 32 ≤ k
          · have e1 : decide ((32 : Int) ≤ (k : Int)) = true := decide_eq_true (by omega)
            have e1' : decide (32 ≤ k) = true := decide_eq_true k1
            by_cases k2 : k ≤ 126
            · have e2 : decide ((k : Int) ≤ 126) = true := decide_eq_true (by omega)
              by_cases k3 : k = 34
              · have HP := Sec.mk (show pl k = false by rw [k3]; rfl)
                have e3 : ((k : Int) != 34) = false := by simp [k3]
                clear k3
                go_wp2_with fail
                go_meet
                exact ⟨by rw [HP.out], rfl⟩
              · have e3 : ((k : Int) != 34) = true := by simp; omega
                by_cases k4 : k = 92
                · have HP := Sec.mk (show pl k = false by rw [k4]; rfl)
                  have e4 : ((k : Int) != 92) = false := by simp [k4]
                  clear k3 k4
                  go_wp2_with fail
                  go_meet
                  exact ⟨by rw [HP.out], rfl⟩
                · have HP := Sec.mk (show pl k = true from decide_eq_true ⟨k1, k2, k3, k4⟩)
                  have e4 : ((k : Int) != 92) = true := by simp; omega
                  clear k3 k4
                  go_wp2_with fail
                  go_meet
                  exact ⟨by rw [HP.out], rfl⟩
            · have e2 : decide ((k : Int) ≤ 126) = false := decide_eq_false (by omega)
              have HP := Sec.mk (show pl k = false from decide_eq_false (fun h => k2 h.2.1))
              clear k2
              go_wp2_with fail
              go_meet
              exact ⟨by rw [HP.out], rfl⟩
          · have e1 : decide ((32 : Int) ≤ (k : Int)) = false := decide_eq_false (by omega)
            have e1' : decide (32 ≤ k) = false := decide_eq_false k1
            have HP := Sec.mk (show pl k = false from decide_eq_false (fun h => k1 h.1))
            clear k1
            go_wp2_with fail
            go_meet
            exact ⟨by rw [HP.out], rfl⟩
          --ENDSLOW1
        case rest =>
          obtain ⟨rfl, rfl⟩ := hcut
          obtain ⟨pk, hpk⟩ : ∃ pk, pl k = pk := ⟨_, rfl⟩
          rw [hpk]
          have HPK := Sec.mk hpk
          clear hpk
          cases pk
          · as_aux_lemma =>
            --SLOW3
            have HOK := Sec.mk (show Lib.validD (s.data.toList.drop (i + 1)) = true by
              rw [← Lib.validD_cons c _ (by rw [HK.out]; exact h128), ← drop_one HC.out]
              exact HL.out.ok)
            go_upto_if 41 with fail
            go_cut [] (fun wx => Mid w B b g l s.data.toList i wx)
            case first =>
              as_aux_lemma =>
              --SLOW1
              obtain ⟨q, hq⟩ : ∃ q, decide (a < i) = q := ⟨_, rfl⟩
              rw [hq]
              have HQ := Sec.mk hq
              clear hq
              cases q
              · have hmid : Mid w B b g l s.data.toList i wc := by
                  have h := HL.out
                  have hlt := of_decide_eq_false HQ.out
                  have hai : a = i := by omega
                  subst hai
                  exact ⟨h.st, h.kp⟩
                have HM := Sec.mk hmid
                clear hmid
                go_wp2_with fail
                go_meet
                exact HM.out
              · have hlt := of_decide_eq_true HQ.out
                have s1 : (0 : Int) ≤ (a : Int) := by omega
                have s2 : (a : Int) ≤ (i : Int) := by omega
                have s3 : (i : Int) ≤ (s.size : Int) := by omega
                go_wp2_with fail
                refine wp_region_still_tail 10 (by kernel_rfl) (by kernel_rfl) ?_
                simp only [List.take_succ_cons, List.take_zero, List.drop_succ_cons, List.drop_zero]
                iterate 10 still_step
                refine wpStill_nil ?_
                change wpList _ _ _ _ _ wc.drew
                have hl2 := HL.out.drew
                generalize World.drew wc = wz at hl2 ⊢
                have CS := Sec.mk (st_string (s.extract a i) hl2.st (by
                  have h1 := headL_length l s.data.toList a (by rw [HN.out.2]; omega)
                  have h2 := extract_bytes s a i
                  rw [h2, List.length_drop, List.length_take, HN.out.2]
                  omega))
                have HL2 := Sec.mk hl2
                clear hl2 hlt s1 s2 s3 d0 HL
                go_wp2_with fail
                refine CS.out.mono ?_
                rintro e w2 hw2
                have HM := Sec.mk (HL2.out.mid (by rw [extract_bytes] at hw2; exact hw2))
                obtain ⟨⟨v, rfl⟩, _, _⟩ := hw2
                go_wp2_with fail
                go_meet
                exact HM.out
              --ENDSLOW1
            case rest =>
              have HM := Sec.mk hcut
              clear hcut HL d0
              obtain ⟨cs2, hE2⟩ := HM.out.1.enc
              have d0 := hE2.c0
              unfold wVal at d0
              clear hE2
              have CS := Sec.mk (fun (t : ByteArray) (ht : t.data.toList.length ≤ 6) => st_string t HM.out.1 (by
                have h1 := headL_length l s.data.toList i (by rw [HN.out.2]; omega)
                omega))
              go_upto_block 2 with fail
              go_cut [] (fun wx => Mid w B b g l s.data.toList (i + 1) wx)
              case first =>
                by_cases k7 : k = 34 ∨ k = 92 ∨ k = 8 ∨ k = 12 ∨ k = 10 ∨ k = 13 ∨ k = 9
                · as_aux_lemma =>
                  --SLOW1
                  rcases k7 with rfl | rfl | rfl | rfl | rfl | rfl | rfl
                  all_goals
                    go_wp2_with fail
                    refine (CS.out _ (by decide)).mono ?_
                    rintro e w2 hw2
                    have FM := Sec.mk (mid_next HM.out HC.out (t := _) (by rw [show c = _ from UInt8.toNat_inj.1 (HK.out.trans (UInt8.toNat_ofNat_of_lt (by decide)).symm)]; rfl) hw2)
                    obtain ⟨⟨v, rfl⟩, _, _⟩ := hw2
                    go_wp2_with fail
                    go_meet
                    exact FM.out
                  --ENDSLOW1
                · have e1 : ((k : Int) == 34) = false := by simp; omega
                  have e2 : ((k : Int) == 92) = false := by simp; omega
                  have e3 : ((k : Int) == 8) = false := by simp; omega
                  have e4 : ((k : Int) == 12) = false := by simp; omega
                  have e5 : ((k : Int) == 10) = false := by simp; omega
                  have e6 : ((k : Int) == 13) = false := by simp; omega
                  have e7 : ((k : Int) == 9) = false := by simp; omega
                  have K7 := Sec.mk k7
                  clear k7
                  go_wp2_with fail
                  refine (CS.out _ (by decide)).mono ?_
                  rintro e w2 hw2
                  obtain ⟨⟨v, rfl⟩, hs2, hk2⟩ := hw2
                  go_upto_region 12 with fail
                  have hx0 := hex_hi k (by omega)
                  have hS2 := Sec.mk hs2
                  have HK2 := Sec.mk hk2
                  clear d0 hk2
                  obtain ⟨cs3, hE3⟩ := hs2.enc
                  have d0 := hE3.c0
                  unfold wVal at d0
                  clear hE3 hs2 
                  have i0 : (0 : Int) ≤ (k : Int) / 16 := by omega
                  have i1 : (k : Int) / 16 < 16 := by omega
                  refine wp_region_still_tail 9 (by kernel_rfl) (by kernel_rfl) ?_
                  simp only [List.take_succ_cons, List.take_zero, List.drop_succ_cons, List.drop_zero]
                  iterate 9 still_step
                  refine wpStill_nil ?_
                  change wpList _ _ _ _ _ w2.drew
                  have hl2 := hS2.out.below (Below.refl _ _).drew
                  have hk2 := HK2.out.trans (Kp.of_below (Below.refl _ _).drew hS2.out.size)
                  generalize World.drew w2 = wz at hl2 hk2 ⊢
                  have CB := Sec.mk (st_byte (hexD (k / 16)) hl2 (by
                    have h1 := headL_length l s.data.toList i (by rw [HN.out.2]; omega)
                    rw [List.length_append]
                    simp only [List.length_cons, List.length_nil]
                    omega))
                  have HK3 := Sec.mk hk2
                  clear hl2 hk2 d0 hS2 HK2 hx0 i0 i1
                  go_wp2_with fail
                  refine CB.out.mono ?_
                  rintro e w3 ⟨⟨v3, rfl⟩, hs3, hk3⟩
                  have hk3' := HK3.out.trans hk3
                  obtain ⟨cs4, hE4⟩ := hs3.enc
                  have d0 := hE4.c0
                  unfold wVal at d0
                  have HS3 := Sec.mk hs3
                  have HK4 := Sec.mk hk3'
                  clear hE4 hs3 hk3 hk3' HK3
                  go_upto_region 13 with fail
                  have hb15 := bits_15 k hc256
                  have hx1 := hex_lo k
                  have i0 : (0 : Int) ≤ (k : Int) % 16 := by omega
                  have i1 : (k : Int) % 16 < 16 := by omega
                  refine wp_region_still_tail 9 (by kernel_rfl) (by kernel_rfl) ?_
                  simp only [List.take_succ_cons, List.take_zero, List.drop_succ_cons, List.drop_zero]
                  iterate 9 still_step
                  refine wpStill_nil ?_
                  change wpList _ _ _ _ _ w3.drew
                  have hl2 := HS3.out.below (Below.refl _ _).drew
                  have hk2 := HK4.out.trans (Kp.of_below (Below.refl _ _).drew HS3.out.size)
                  generalize World.drew w3 = wz2 at hl2 hk2 ⊢
                  have CB2 := Sec.mk (st_byte (hexD (k % 16)) hl2 (by
                    have h1 := headL_length l s.data.toList i (by rw [HN.out.2]; omega)
                    rw [List.length_append, List.length_append]
                    simp only [List.length_cons, List.length_nil]
                    omega))
                  have HK5 := Sec.mk hk2
                  clear hl2 hk2 d0 HS3 HK4 hx1 i0 i1 hb15
                  go_wp2_with fail
                  refine CB2.out.mono ?_
                  rintro e w4 hw4
                  have FM := Sec.mk (mid_next HM.out HC.out (esc_hex HK.out h128 HPK.out K7.out) (hexPost HK5.out hw4))
                  obtain ⟨⟨v4, rfl⟩, _, _⟩ := hw4
                  go_wp2_with fail
                  go_meet
                  exact FM.out
              case rest =>
                have HM2 := Sec.mk hcut
                clear hcut HM CS d0
                go_wp2_with fail
                go_roundw
                case rel => exact ⟨i + 1, i + 1, by go_num, by go_num, by omega, HM2.out.1, HM2.out.2, Nat.le_refl _, fun j c h1 h2 => by omega, HOK.out⟩
                case measure => simp [intOf]; omega
            --ENDSLOW3
          · as_aux_lemma =>
            --SLOW2
            have hnext : EncL w B b g l s.data.toList wc a (i + 1) := by
              have h := HL.out
              have hp := HPK.out
              unfold pl at hp
              obtain ⟨p1, p2, p3, p4⟩ := of_decide_eq_true hp
              refine ⟨h.st, h.kp, Nat.le_succ_of_le h.le, fun j c' h1 h2 h3 => ?_, ?_⟩
              · by_cases hji : j = i
                · subst hji
                  have e : c' = c := by have := HC.out; rw [h3] at this; exact Option.some.inj this
                  rw [e]
                  have hk := HK.out
                  exact plain_mid (by omega) (by omega) (by omega) (by omega)
                · exact h.run j c' h1 (by omega) h3
              · rw [← Lib.validD_cons c _ (by rw [HK.out]; exact h128), ← drop_one HC.out]
                exact h.ok
            have HNX := Sec.mk hnext
            clear hnext
            go_wp2_with fail
            go_roundw
            case rel => exact ⟨a, i + 1, rfl, by go_num, by omega, HNX.out⟩
            case measure => simp [intOf]; omega
            --ENDSLOW2
      · as_aux_lemma =>
        --SLOW4
        have t1 : decide ((k : Int) < 128) = false := decide_eq_false (by omega)
        have hx := decodeGo_drop s i (by rw [hsn]; exact hin)
        have hne : s.data.toList.drop i ≠ [] := by rw [drop_one HC.out]; simp
        have h0 : 128 ≤ ((s.data.toList.drop i).getD 0 0).toNat := by rw [drop_one HC.out]; show 128 ≤ c.toNat; rw [HK.out]; omega
        obtain ⟨m1, m2, m3, m4⟩ := lead_multi hne h0 HL.out.ok
        rw [List.length_drop, HN.out.2] at m2
        have cD := Tryz.utf8_DecodeRuneInString (s.extract i s.size) wr (HT.out.same (Same.of_below HL.out.kp.below) hB2)
        rw [hx] at cD
        rw [hsn] at cD
        clear hx hne h0
        generalize Lib.decodeL (s.data.toList.drop i) = p at m1 m2 m3 m4 cD
        obtain ⟨r, d⟩ := p
        simp only at m1 m2 m3 m4 cD
        have M3 := Sec.mk m3
        have M4 := Sec.mk m4
        have CD := Sec.mk cD
        have s1 : (0 : Int) ≤ (i : Int) := by omega
        have s2 : (i : Int) ≤ (s.size : Int) := by omega
        clear m3 m4 cD
        go_upto_region 30 with fail
        go_wp2_with fail
        refine CD.out.mono ?_
        intro e w1 hw1
        obtain ⟨rfl, hb1⟩ := hw1
        have hnext : EncL w B b g l s.data.toList w1 a (i + d) := by
          have h := HL.out
          refine ⟨h.st.below hb1, h.kp.trans (Kp.of_below hb1 h.st.size), Nat.le_trans h.le (Nat.le_add_right _ _), fun j c' h1 h2 h3 => ?_, by rw [← List.drop_drop]; exact M3.out⟩
          by_cases hji : j < i
          · exact h.run j c' h1 hji h3
          · exact plain_big (M4.out (j - i) c' (by omega) (by rw [List.getElem?_drop, show i + (j - i) = j from by omega]; exact h3))
        have HNX := Sec.mk hnext
        clear hnext hb1 d0 s1 s2
        have e2 : ((d : Int) == 1) = false := by simp; omega
        cases hq : ((r : Int) == 65533)
        all_goals
          go_wp2_with fail
          go_roundw
          case rel => exact ⟨a, i + d, rfl, by go_num, by omega, HNX.out⟩
          case measure => simp [intOf]; omega
        --ENDSLOW4
    · as_aux_lemma =>
      --SLOW5
      go_upto_if 173 with fail
      go_cut [] (fun wx => Mid w B b g l s.data.toList n wx)
      case first =>
        obtain ⟨q, hq⟩ : ∃ q, decide (a < n) = q := ⟨_, rfl⟩
        rw [hq]
        have HQ := Sec.mk hq
        clear hq
        obtain rfl : i = n := by omega
        cases q
        · have hmid : Mid w B b g l s.data.toList i wr := by
            have h := HL.out
            have hlt := of_decide_eq_false HQ.out
            have hai : a = i := by omega
            subst hai
            exact ⟨h.st, h.kp⟩
          have HM := Sec.mk hmid
          clear hmid
          go_wp2_with fail
          go_meet
          exact HM.out
        · have hlt := of_decide_eq_true HQ.out
          have s1 : (0 : Int) ≤ (a : Int) := by omega
          have s2 : (a : Int) ≤ (s.size : Int) := by omega
          go_wp2_with fail
          refine wp_region_still_tail 9 (by kernel_rfl) (by kernel_rfl) ?_
          simp only [List.take_succ_cons, List.take_zero, List.drop_succ_cons, List.drop_zero]
          iterate 9 still_step
          refine wpStill_nil ?_
          change wpList _ _ _ _ _ wr.drew
          have hl2 := HL.out.drew
          generalize World.drew wr = wz at hl2 ⊢
          have CS := Sec.mk (st_string (s.extract a i) hl2.st (by
            have h1 := headL_length l s.data.toList a (by rw [HN.out.2]; omega)
            have h2 := extract_bytes s a i
            rw [h2, List.length_drop, List.length_take, HN.out.2]
            omega))
          have HL2 := Sec.mk hl2
          clear hl2 hlt s1 s2 d0 HL
          go_wp2_with fail
          refine CS.out.mono ?_
          rintro e w2 hw2
          have HM := Sec.mk (HL2.out.mid (by rw [extract_bytes] at hw2; exact hw2))
          obtain ⟨⟨v, rfl⟩, _, _⟩ := hw2
          go_wp2_with fail
          go_meet
          exact HM.out
      case rest =>
        have HM := Sec.mk hcut
        obtain ⟨cs2, hE2⟩ := hcut.1.enc
        have d0 := hE2.c0
        unfold wVal at d0
        have CB := Sec.mk (st_byte 34 hcut.1 (by
          have h1 := headL_length l s.data.toList n (by rw [HN.out.2]; omega)
          omega))
        clear hcut hE2 HL
        go_wp2_with fail
        refine CB.out.mono ?_
        rintro e w2 ⟨⟨v, rfl⟩, h2, k2⟩
        have FIN := Sec.mk (show EncPost w B b g l (quotE s.data.toList) (.returned (.tuple #[])) w2 from ⟨⟨_, rfl⟩, by
          have e1 : headL l s.data.toList n ++ [34] = l ++ quotE s.data.toList := by
            unfold headL quotE
            rw [List.take_of_length_le (by rw [HN.out.2]; omega)]
            simp
          rw [← e1]; exact h2, HM.out.2.trans k2⟩)
        clear h2 k2
        go_wp2_with fail
        go_end0
        exact FIN.out
      --ENDSLOW5

end Go.Proofs.YtpamlgdcnmcedaaGreatDoor
