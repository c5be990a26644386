/-
  The contract of EncodeStringAsPercentEscapedDataURL. No condition but the two tables of unicode/utf8.
-/
import Derived.Test.YtocnfapldcjilaaDoorSml
import Derived.Test.YtocnfapldcjilaaDoorBld
import Derived.Deep.CutRange
import Derived.Deep.CutBlock
import Derived.Deep.DeepCutAuto
import Derived.IntWalk
namespace Go.Proofs.YtocnfapldcjilaaDoor
open Go.ChangeShapes Go.WideShapes Go.ChangeAt Go.RowKit
set_option linter.unusedVariables false

def HX : ByteArray := ⟨#[48, 49, 50, 51, 52, 53, 54, 55, 56, 57, 65, 66, 67, 68, 69, 70]⟩
/-- The answer. -/
def Url (m s : ByteArray) (w : World) (e : Ending) (w' : World) : Prop :=
  e = .returned (.tuple #[.string (if validB s then url m.data.toList s.data.toList else ByteArray.empty), .bool (validB s)]) ∧ Below w.heap.size w w'
theorem ret_sb {a b : ByteArray} {c : Bool} (h : a = b) : Ending.returned (.tuple #[.string a, .bool c]) = .returned (.tuple #[.string b, .bool c]) := by rw [h]
theorem byteCells_append (a b : List UInt8) : Lib.byteCells (a ++ b) = Lib.byteCells a ++ Lib.byteCells b := by simp [Lib.byteCells]
theorem byteCells_mid (s : ByteArray) (a b : Nat) : Lib.byteCells (mid s.data.toList a b) = Lib.strCells (s.extract a b) := by
  rw [Lib.strCells_eq, Lib.extract_data]; rfl
theorem hex_at : ∀ k : Fin 16, ((HX[k.val]'(by have := k.isLt; exact this)).toNat : Int) = ((hexd k.val).toNat : Int) := by decide
set_option maxRecDepth 100000 in
set_option maxHeartbeats 8000000 in
theorem enco5 (m s : ByteArray) (hm : m.size ≤ 524288) (hs : s.size ≤ 524288) (w : World) (hT : Lib.Utf8Tabs 0 1 w) :
    Calls Tryd.prog 5 #[.string m, .string s] w (Url m s w) := by
  have hV := VF.start s
  unfold Url
  generalize validB s = v at *
  have HV := Lib.hid hV
  have HT := Lib.hid hT
  have HL := Lib.hid (len_tl s)
  clear hV hT
  go_enter Tryd.func5, Tryd.ntmps5
  go_wp2_with fail
  have hB0 : Bld w.heap.size w.heap.size [] (w.alloc (.cells #[.pointer none, .slice none 0 0] 30)) := Lib.IsBuilderF.of (Lib.fresh_isBuilder 30 5 w)
  refine (bldStr w.heap.size w.heap.size [] _ _ hB0 (by show 0 + 5 ≤ _; omega) (by simp)).mono ?_
  rintro e w1 ⟨rfl, hB1, hb1, -⟩
  clear hB0
  have HB1 := Lib.hid hB1
  clear hB1
  go_wp2_with fail
  refine (bldStr w.heap.size w.heap.size _ m w1 HB1.out (by show 5 + _ ≤ _; omega) (by have := hb1.size; simp at this; omega)).mono ?_
  rintro e w2 ⟨rfl, hB2, hb2, -⟩
  have HB2 := Lib.hid hB2
  clear hB2
  go_wp2_with fail
  refine (bldByte w.heap.size w.heap.size _ 44 w2 HB2.out (by simp [Lib.strCells_length]; have : (ByteArray.mk #[100, 97, 116, 97, 58]).size = 5 := rfl; omega) (by have := hb1.size; have := hb2.size; simp at *; omega)).mono ?_
  rintro e w3 ⟨rfl, hB3, hb3, -⟩
  have HB3 := Lib.hid hB3
  clear hB3
  have hA : Bld w.heap.size w.heap.size (Lib.byteCells (head m.data.toList)) w3 := by
    have := HB3.out
    have e : [] ++ Lib.strCells (ByteArray.mk #[100, 97, 116, 97, 58]) ++ Lib.strCells m ++ [Value.int .u8 44] = Lib.byteCells (head m.data.toList) := by
      simp [Lib.byteCells, Lib.strCells, head]
    rwa [e] at this
  have hW : Below w.heap.size w w3 := (((Below.refl _ w).alloc (Nat.le_refl _) _).trans hb1).trans (hb2.trans hb3)
  have HA := Lib.hid hA
  have HW := Lib.hid hW
  clear hA hW hb1 hb2 hb3 HB1 HB2 HB3
  go_upto_block 0 with (fail)
  go_cut [11, 12] from 23 to 44 (fun s11 s12 wx => s11 = .int .i64 (tsAt s.data.toList s.size : Nat) ∧ wx = w3)
  case first =>
    go_wp2_with fail
    go_loop [11] (fun i => ∃ k : Nat, i = .int .i64 k ∧ k ≤ s.size ∧ tsAt s.data.toList s.size = tsAt s.data.toList k) (fun i => (iOf i).toNat)
    case atStart => exact ⟨s.size, rfl, Nat.le_refl _, rfl⟩
    case round =>
      obtain ⟨k, rfl, hk, hts⟩ := hrel
      have HTS := Lib.hid hts
      clear hts
      by_cases h0 : 0 < k
      · obtain ⟨n, rfl⟩ : ∃ n, k = n + 1 := ⟨k - 1, by omega⟩
        have e0 := B_at s n (by omega)
        have l0 := B_lt s n
        have hg := getD_B s n
        have hbl : blank (s.data.toList.getD n 0) = (decide (B s n ≤ 32) && decide (B s n ≠ 9) && decide (B s n ≠ 10) && decide (B s n ≠ 13)) := by unfold blank; rw [ne_nat, ne_nat, ne_nat, hg]; rfl
        have HY := fun h => Lib.hid (tsAt_yes (l := s.data.toList) (k := n) h)
        have HN := fun h => Lib.hid (tsAt_no (l := s.data.toList) (k := n) h)
        rw [hbl] at HY HN
        clear hg hbl
        generalize B s n = a at *
        by_cases hb : a ≤ 32 ∧ a ≠ 9 ∧ a ≠ 10 ∧ a ≠ 13
        · obtain ⟨b1, b2, b3, b4⟩ := hb
          have c1 : ((a : Int) == 9) = false := by simp; omega
          have c2 : ((a : Int) == 10) = false := by simp; omega
          have c3 : ((a : Int) == 13) = false := by simp; omega
          have HZ := HY (by simp [b1, b2, b3, b4])
          clear HY HN b2 b3 b4
          go_wp2_with fail
          go_round
          case rel => exact ⟨n, by go_num, by omega, HTS.out.trans HZ.out⟩
          case measure => simp [iOf]
        · have HZ := HN (by simp; omega)
          clear HY HN
          have HM : tsAt s.data.toList s.size = n + 1 := HTS.out.trans HZ.out
          have HM := Lib.hid HM
          clear HZ
          by_cases q1 : 32 < a
          · clear hb
            go_wp2_with fail
            go_meet
            exact ⟨by rw [HM.out]; go_num, rfl⟩
          · by_cases q2 : a = 9
            · subst q2
              clear hb
              go_wp2_with fail
              go_meet
              exact ⟨by rw [HM.out]; go_num, rfl⟩
            · by_cases q3 : a = 10
              · subst q3
                clear hb
                go_wp2_with fail
                go_meet
                exact ⟨by rw [HM.out]; go_num, rfl⟩
              · obtain rfl : a = 13 := by omega
                clear hb q1 q2 q3
                go_wp2_with fail
                go_meet
                exact ⟨by rw [HM.out]; go_num, rfl⟩
      · go_wp2_with fail
        go_meet
        exact ⟨by rw [HTS.out, show k = 0 by omega]; rfl, rfl⟩
  case rest =>
    obtain ⟨rfl, rfl⟩ := hcut
    go_wp2_with fail
    go_loopw [9, 10] (fun a b wr => ∃ i r : Nat, a = .int .i64 i ∧ b = .int .i64 r ∧ i ≤ s.size ∧ Run s.data.toList r i ∧ VF s i v ∧ Bld w.heap.size w.heap.size (Lib.byteCells (head m.data.toList ++ E s.data.toList r)) wr ∧ Below w.heap.size w wr) (fun a _ _ => s.size - (iOf a).toNat)
    case atStart => exact ⟨0, 0, rfl, rfl, Nat.zero_le _, Run.start _, HV.out, by show Bld _ _ (Lib.byteCells (head m.data.toList ++ [])) _; rw [List.append_nil]; exact HA.out, HW.out⟩
    case round =>
      obtain ⟨i, r, rfl, rfl, hi, hrun, hv, hbd, hbw⟩ := hrel
      have hri := hrun.1
      have HR := Lib.hid hrun
      have HVF := Lib.hid hv
      have HBD := Lib.hid hbd
      have HBW := Lib.hid hbw
      clear hrun hv hbd hbw
      by_cases hn : i < s.size
      · have hx := size_from s i (by omega)
        have hD := Tryd.utf8_DecodeRuneInString (s.extract i s.size) wr (Utf8Tabs_below HT.out HBW.out)
        have hdg : Lib.decodeGo (s.extract i s.size) = Utf8.decode s i := by
          unfold Lib.decodeGo; rw [if_neg (by omega), decode_from s i (by omega)]
        rw [hdg] at hD
        obtain ⟨⟨R, K⟩, hRK⟩ : ∃ d, Utf8.decode s i = d := ⟨_, rfl⟩
        rw [hRK] at hD
        have HD := Lib.hid hD
        have HRK := Lib.hid hRK
        clear hD hdg hRK hx
        by_cases hbad : R = 65533 ∧ K = 1
        · obtain ⟨rfl, rfl⟩ := hbad
          have hf := HVF.out.bad hn HRK.out
          subst hf
          go_wp2_with (go_at_call 10; (with_reducible refine HD.out.mono ?_); rintro _ w4 ⟨rfl, hb4⟩)
          go_ret2
          exact ⟨rfl, HBW.out.trans (hb4.mono HBW.out.size)⟩
        · have hlen := HL.out
          have hgi := getD_B s i
          have hti : ¬ ((decide (tsAt s.data.toList s.size ≤ i)) = true) ∨ (decide (tsAt s.data.toList s.size ≤ i)) = true := by cases decide (tsAt s.data.toList s.size ≤ i) <;> simp
          have hB4 := fun w4 (hb4 : Below wr.heap.size wr w4) => bldBelow HBD.out hb4
          -- the rune by its first byte
          have hrune : (B s i < 128 ∧ R = B s i ∧ K = 1) ∨ (128 ≤ R ∧ R ≤ 1114111 ∧ 2 ≤ K ∧ K ≤ s.size - i ∧ escB s.data.toList i = false ∧ Run s.data.toList r (i + K) ∧ i < tsAt s.data.toList s.size) := by
            have hd := HRK.out
            rw [decode_B] at hd
            by_cases hlow : B s i < 128
            · rw [decodeN_low hlow] at hd
              exact .inl ⟨hlow, (congrArg Prod.fst hd).symm, (congrArg Prod.snd hd).symm⟩
            · obtain ⟨p1, p2, p3, p4, p5, p6, p7, p8⟩ := decodeN_high (n := s.size - i) (b1 := B s (i + 1)) (b2 := B s (i + 2)) (b3 := B s (i + 3)) (by omega) (show 128 ≤ B s i by omega)
              have p9 := decodeN_one (n := s.size - i) (b1 := B s (i + 1)) (b2 := B s (i + 2)) (b3 := B s (i + 3)) (show 128 ≤ B s i by omega)
              rw [hd] at p1 p2 p3 p4 p5 p6 p7 p8 p9
              simp only at p1 p2 p3 p4 p5 p6 p7 p8 p9
              have hk2 : 2 ≤ K := by
                false_or_by_contra
                have : K = 1 := by omega
                exact hbad ⟨p9 this, this⟩
              have hesc : ∀ j, i ≤ j → j < i + K → escB s.data.toList j = false := by
                intro j a b
                refine esc_high (by rw [hlen]; omega) ?_
                rw [getD_B]
                rcases (show j = i ∨ j = i + 1 ∨ j = i + 2 ∨ j = i + 3 by omega) with q | q | q | q
                · subst q; omega
                · subst q; exact p4 (by omega)
                · subst q; exact p5 (by omega)
                · subst q; exact p6 (by omega)
              refine .inr ⟨p1, p8, hk2, p3, hesc i (by omega) (by omega), HR.out.more K (by rw [hlen]; omega) hesc, ?_⟩
              false_or_by_contra
              rename_i q
              have := tsAt_blank s.data.toList s.data.toList.length i (by rw [hlen]; omega) (by rw [hlen]; exact hn)
              have h2 : 128 ≤ (s.data.toList.getD i 0).toNat := by rw [hgi]; omega
              unfold blank at this
              rw [decide_eq_false (by omega)] at this
              cases this
          have HVN := Lib.hid (HVF.out.go hn HRK.out (show 1 ≤ K by rcases hrune with h | h <;> omega) hbad)
          clear hlen hgi hti
          rcases hrune with ⟨l0, hRa, rfl⟩ | ⟨h1, h2, h3, h4, h5, h6, h7⟩
          · have d1 : ((R : Int) == 65533) = false := by simp; omega
            have hR128 : R < 128 := by omega
            have HRA := Lib.hid hRa
            clear hbad hRa
            go_upto_region 18 with (first | (go_at_call 10; (with_reducible refine HD.out.mono ?_); rintro _ w4 ⟨rfl, hb4⟩) | fail)
            go_cut [103] from 61 to 103 (fun s103 wx => s103 = .bool (escB s.data.toList i) ∧ wx = w4)
            case first =>
              have hesc : escB s.data.toList i = (decide (R = 9) || decide (R = 10) || decide (R = 13) || decide (R = 35) || decide (tsAt s.data.toList s.size ≤ i) || (decide (R = 37) && decide (i + 2 < s.size) && hexB (s.data.toList.getD (i + 1) 0) && hexB (s.data.toList.getD (i + 2) 0))) := by
                have hg := getD_B s i
                have eqn : ∀ c : UInt8, (s.data.toList.getD i 0 == c) = decide (R = c.toNat) := fun c => by
                  rw [Bool.eq_iff_iff]; simp only [beq_iff_eq, decide_eq_true_eq, ← UInt8.toNat_inj]; rw [hg, ← HRA.out]
                unfold escB
                rw [eqn, eqn, eqn, eqn, eqn, HL.out]
                rfl
              have HESC := Lib.hid hesc
              clear hesc
              by_cases q1 : R = 9 ∨ R = 10 ∨ R = 13 ∨ R = 35
              · have HT1 : escB s.data.toList i = true := by rw [HESC.out]; rcases q1 with q | q | q | q <;> simp [q]
                have HT1 := Lib.hid HT1
                rcases q1 with rfl | rfl | rfl | rfl
                all_goals (go_wp2_with fail; go_meet; exact ⟨by rw [HT1.out], rfl⟩)
              · have c1 : ((R : Int) == 9) = false := by simp; omega
                have c2 : ((R : Int) == 10) = false := by simp; omega
                have c3 : ((R : Int) == 13) = false := by simp; omega
                have c4 : ((R : Int) == 35) = false := by simp; omega
                have hfour : (decide (R = 9) || decide (R = 10) || decide (R = 13) || decide (R = 35)) = false := by simp; omega
                have HE2 : escB s.data.toList i = (decide (tsAt s.data.toList s.size ≤ i) || (decide (R = 37) && decide (i + 2 < s.size) && hexB (s.data.toList.getD (i + 1) 0) && hexB (s.data.toList.getD (i + 2) 0))) := by rw [HESC.out, hfour]; simp
                have HE2 := Lib.hid HE2
                clear q1 hfour
                by_cases q2 : tsAt s.data.toList s.size ≤ i
                · have HT1 : escB s.data.toList i = true := by rw [HE2.out]; simp [q2]
                  have HT1 := Lib.hid HT1
                  go_wp2_with fail
                  go_meet
                  exact ⟨by rw [HT1.out], rfl⟩
                · by_cases q3 : R = 37
                  · by_cases q4 : i + 2 < s.size
                    · have hx1 : s.data.toList.getD (i + 1) 0 = s[i + 1]'(by omega) := by
                        rw [List.getD_eq_getElem?_getD, List.getElem?_eq_getElem (by rw [HL.out]; omega)]; rfl
                      have hx2 : s.data.toList.getD (i + 2) 0 = s[i + 2]'(by omega) := by
                        rw [List.getD_eq_getElem?_getD, List.getElem?_eq_getElem (by rw [HL.out]; omega)]; rfl
                      have HX1 := Lib.hid hx1
                      have HX2 := Lib.hid hx2
                      clear hx1 hx2
                      have HE3 : escB s.data.toList i = (hexB (s[i + 1]'(by omega)) && hexB (s[i + 2]'(by omega))) := by rw [HE2.out, HX1.out, HX2.out]; simp [q2, q3, q4]
                      have HE3 := Lib.hid HE3
                      have HC1 := fun W => Lib.hid (hex11 (s[i + 1]'(by omega)) W)
                      have HC2 := fun W => Lib.hid (hex11 (s[i + 2]'(by omega)) W)
                      obtain ⟨u, hu⟩ : ∃ u, hexB (s[i + 1]'(by omega)) = u := ⟨_, rfl⟩
                      obtain ⟨z, hz⟩ : ∃ z, hexB (s[i + 2]'(by omega)) = z := ⟨_, rfl⟩
                      rw [hu] at HE3
                      rw [hz] at HE3
                      simp only [hu] at HC1
                      simp only [hz] at HC2
                      clear hu hz
                      subst q3
                      cases u with
                      | true =>
                        go_wp2_with (go_at_call 11; first | ((with_reducible refine (HC1 _).out.mono ?_); rintro _ _ ⟨rfl, rfl⟩) | ((with_reducible refine (HC2 _).out.mono ?_); rintro _ _ ⟨rfl, rfl⟩))
                        all_goals (go_meet; exact ⟨by rw [HE3.out]; simp, rfl⟩)
                      | false =>
                        go_wp2_with (go_at_call 11; (with_reducible refine (HC1 _).out.mono ?_); rintro _ _ ⟨rfl, rfl⟩)
                        all_goals (go_meet; exact ⟨by rw [HE3.out]; simp, rfl⟩)
                    · have HT1 : escB s.data.toList i = false := by rw [HE2.out]; simp [q2, q4]
                      have HT1 := Lib.hid HT1
                      subst q3
                      go_wp2_with fail
                      go_meet
                      exact ⟨by rw [HT1.out], rfl⟩
                  · have HT1 : escB s.data.toList i = false := by rw [HE2.out]; simp [q2, q3]
                    have HT1 := Lib.hid HT1
                    have c5 : ((R : Int) == 37) = false := by simp; omega
                    go_wp2_with fail
                    go_meet
                    exact ⟨by rw [HT1.out], rfl⟩
            case rest =>
              obtain ⟨rfl, rfl⟩ := hcut
              cases hesc : escB s.data.toList i with
              | false =>
                have HRun := Lib.hid (HR.out.one (by rw [HL.out]; exact hn) hesc)
                clear hesc
                go_wp2_with fail
                go_roundw
                case rel => exact ⟨i + 1, r, by go_num, rfl, by omega, HRun.out, HVN.out, hB4 _ hb4, HBW.out.trans (hb4.mono HBW.out.size)⟩
                case measure => simp [iOf]; omega
              | true =>
                have hg := getD_B s i
                have HE := E_yes hesc
                have HE := Lib.hid HE
                have HG := Lib.hid hg
                clear hesc hg
                have HB4 := Lib.hid (hB4 _ hb4)
                have HW4 := Lib.hid (HBW.out.trans (hb4.mono HBW.out.size))
                have hEl := E_len s.data.toList r
                have hEi := E_len s.data.toList i
                have hwz := HW4.out.size
                go_upto_if 106 with (fail)
                go_cut [106, 107, 108, 109, 110, 111] from 106 to 111 (fun _ _ _ _ _ _ wx => Bld w.heap.size w.heap.size (Lib.byteCells (head m.data.toList ++ E s.data.toList i)) wx ∧ Below w.heap.size w wx)
                case first =>
                  by_cases hri2 : r < i
                  · go_wp2_with (go_at_call 8; (with_reducible refine (bldStr w.heap.size w.heap.size _ (s.extract r i) _ HB4.out (by rw [size_mid s r i (by omega) (by omega)]; simp [Lib.byteCells, head]; omega) (by omega)).mono ?_); rintro _ w5 ⟨rfl, hB5, hb5, -⟩)
                    go_meet
                    refine ⟨?_, HW4.out.trans hb5⟩
                    rw [HR.out.2, ← List.append_assoc, byteCells_append, byteCells_mid]
                    exact hB5
                  · go_wp2_with fail
                    go_meet
                    refine ⟨?_, HW4.out⟩
                    rw [show i = r by omega]
                    exact HB4.out
                case rest =>
                  obtain ⟨hB5, hb5⟩ := hcut
                  have hz5 := hb5.size
                  have HB5 := Lib.hid hB5
                  have HW5 := Lib.hid hb5
                  clear hB5 hb5
                  have a1 : bits .and .i32 (R : Int) 15 = ((R % 16 : Nat) : Int) := m_lo32 R 4 15 (by decide) (by omega) (by decide)
                  have hR16 : R % 16 < 16 := Nat.mod_lt _ (by omega)
                  have hR8 : R / 16 < 8 := by omega
                  obtain ⟨y1, hy1⟩ : ∃ y, y = R % 16 := ⟨_, rfl⟩
                  obtain ⟨y2, hy2⟩ : ∃ y, y = R / 16 := ⟨_, rfl⟩
                  rw [← hy1] at a1 hR16
                  rw [← hy2] at hR8
                  have HY1 := Lib.hid hy1
                  have HY2 := Lib.hid hy2
                  clear hy1 hy2
                  go_wp2_with fail
                  refine (bldByte w.heap.size w.heap.size _ 37 _ HB5.out (by simp [Lib.byteCells, head]; omega) (by omega)).mono ?_
                  rintro _ w6 ⟨rfl, hB6, hb6, -⟩
                  have HB6 := Lib.hid hB6
                  have hz6 := hb6.size
                  clear hB6
                  go_wp2_with fail
                  refine (bldByte w.heap.size w.heap.size _ _ _ HB6.out (by simp [Lib.byteCells, head]; omega) (by omega)).mono ?_
                  rintro _ w7 ⟨rfl, hB7, hb7, -⟩
                  have HB7 := Lib.hid hB7
                  have hz7 := hb7.size
                  clear hB7
                  go_wp2_with fail
                  refine (bldByte w.heap.size w.heap.size _ _ _ HB7.out (by simp [Lib.byteCells, head]; omega) (by omega)).mono ?_
                  rintro _ w8 ⟨rfl, hB8, hb8, -⟩
                  have HB8 := Lib.hid hB8
                  clear hB8
                  go_wp2_with fail
                  go_roundw
                  case rel =>
                    refine ⟨i + 1, i + 1, by go_num, by go_num, by omega, Run.same _ _, HVN.out, ?_, ((HW5.out.trans hb6).trans hb7).trans hb8⟩
                    have h8 := HB8.out
                    have x1 : ((HX[y1]'(by exact hR16)).toNat : Int) = ((hexd y1).toNat : Int) := hex_at ⟨y1, hR16⟩
                    have hR16' : R / 16 < 16 := by omega
                    have x2 : ((HX[R / 16]'(by exact hR16')).toNat : Int) = ((hexd (R / 16)).toNat : Int) := hex_at ⟨R / 16, hR16'⟩
                    have e : Lib.byteCells (head m.data.toList ++ (E s.data.toList i ++ [37] ++ [hexd y2] ++ [hexd y1])) = Lib.byteCells (head m.data.toList ++ E s.data.toList i) ++ [Value.int .u8 37] ++ [Value.int .u8 ((HX[R / 16]'(by exact hR16')).toNat : Int)] ++ [Value.int .u8 ((HX[y1]'(by exact hR16)).toNat : Int)] := by
                      rw [x1, x2, HY2.out]; simp [Lib.byteCells]
                    rw [HE.out, HG.out, ← HRA.out, ← HY2.out, ← HY1.out, e]
                    exact h8
                  case measure => simp [iOf]; omega
          · have HRun := Lib.hid h6
            clear h5 h6
            have c1 : ((R : Int) == 9) = false := by simp; omega
            have c2 : ((R : Int) == 10) = false := by simp; omega
            have c3 : ((R : Int) == 13) = false := by simp; omega
            have c4 : ((R : Int) == 35) = false := by simp; omega
            have c5 : ((R : Int) == 37) = false := by simp; omega
            have c6 : ((K : Int) == 1) = false := by simp; omega
            clear hbad
            go_wp2_with (go_at_call 10; (with_reducible refine HD.out.mono ?_); rintro _ w4 ⟨rfl, hb4⟩)
            all_goals
              go_roundw
              case rel => exact ⟨i + K, r, by go_num, rfl, by omega, HRun.out, HVN.out, hB4 _ hb4, HBW.out.trans (hb4.mono HBW.out.size)⟩
              case measure => simp [iOf]; omega
      · have hv := HVF.out.fin hn
        subst hv
        obtain rfl : i = s.size := by omega
        have hEl := E_len s.data.toList r
        have hEi := E_len s.data.toList s.size
        have hwz := HBW.out.size
        have hU : url m.data.toList s.data.toList = ⟨(head m.data.toList ++ E s.data.toList s.size).toArray⟩ := by unfold url; rw [HL.out]
        have HU := Lib.hid hU
        clear hU
        by_cases hr2 : r < s.size
        · go_wp2_with (first
            | (go_at_call 8; (with_reducible refine (bldStr w.heap.size w.heap.size _ (s.extract r s.size) _ HBD.out (by rw [size_from s r (by omega)]; simp [Lib.byteCells, head]; omega) (by omega)).mono ?_); rintro _ w5 ⟨rfl, hB5, hb5, -⟩; have hB6 : Bld w.heap.size w.heap.size (Lib.byteCells (head m.data.toList ++ E s.data.toList s.size)) w5 := (by rw [HR.out.2, ← List.append_assoc, byteCells_append, byteCells_mid]; exact hB5); have HB6 := Lib.hid hB6; have hz5 := hb5.size; clear hB5 hB6)
            | (go_at_call 12; (with_reducible refine (bldText w.heap.size w.heap.size (head m.data.toList ++ E s.data.toList s.size) _ HB6.out (by omega)).mono ?_); rintro _ w6 ⟨rfl, hb6⟩))
          go_ret2
          exact ⟨ret_sb HU.out.symm, (HBW.out.trans hb5).trans hb6⟩
        · obtain rfl : r = s.size := by omega
          go_wp2_with (go_at_call 12; (with_reducible refine (bldText w.heap.size w.heap.size (head m.data.toList ++ E s.data.toList s.size) _ HBD.out (by omega)).mono ?_); rintro _ w6 ⟨rfl, hb6⟩)
          go_ret2
          exact ⟨ret_sb HU.out.symm, HBW.out.trans hb6⟩
end Go.Proofs.YtocnfapldcjilaaDoor
