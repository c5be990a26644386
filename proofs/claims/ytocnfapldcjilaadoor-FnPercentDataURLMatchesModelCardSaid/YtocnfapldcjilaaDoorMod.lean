/-
  The contract of the model's text. No condition.
-/
import Derived.Test.YtocnfapldcjilaaDoorSml
import Derived.Test.YtocnfapldcjilaaDoorOg
import Derived.Laws.OwnMore
import Derived.Lib.SlBytesRow
import Derived.Lib.UnsafeStr
import Derived.Deep.CutRange
import Derived.Deep.CutBlock
import Derived.Deep.DeepCutAuto
import Derived.IntWalk
namespace Go.Proofs.YtocnfapldcjilaaDoor
open Go.ChangeShapes Go.WideShapes Go.ChangeAt Go.RowKit
set_option linter.unusedVariables false
def jOf : Value → Int | .int _ q => q | _ => 0
theorem info5 : (Tryd.prog.info? 5).map (fun i => (i.zero, i.size, i.bytes)) = some (some (Value.int .u8 0), 1, 1) := by kernel_rfl
theorem ret_str {a b : ByteArray} (h : a = b) : Ending.returned (.string a) = .returned (.string b) := by rw [h]
theorem oneAt (W : World) (v : Value) : ∀ j u, [v][j]? = some u → (W.alloc (.cells #[v] 5)).cell? ((⟨W.heap.size, 0, none⟩ : Addr).add j) = some u := by
  intro j u hj
  match j, hj with
  | 0, hj => simp at hj; subst hj; simp [Addr.add]
theorem threeAt (W : World) (x y z : UInt8) : ∀ j u, (Lib.byteCells [x, y, z])[j]? = some u → (W.alloc (.cells #[.int .u8 x.toNat, .int .u8 y.toNat, .int .u8 z.toNat] 5)).cell? ((⟨W.heap.size, 0, none⟩ : Addr).add j) = some u := by
  intro j u hj
  match j, hj with
  | 0, hj => simp [Lib.byteCells] at hj; subst hj; simp [Addr.add]
  | 1, hj => simp [Lib.byteCells] at hj; subst hj; simp [Addr.add]
  | 2, hj => simp [Lib.byteCells] at hj; subst hj; simp [Addr.add]
theorem add_ok (a b : ByteArray) (h : a.size + b.size ≤ 8000000) (W : World) : (Op.stringOp .add a b).run Tryd.prog W = .ok (.string (a ++ b)) W := run_string_add W a b (by omega) (by omega)
set_option maxRecDepth 100000 in
set_option maxHeartbeats 8000000 in
theorem model7 (m s : ByteArray) (hm : m.size ≤ 524288) (hs : s.size ≤ 524288) (w : World) :
    Calls Tryd.prog 7 #[.string m, .string s] w fun e w' => e = .returned (.string (url m.data.toList s.data.toList)) ∧ Below w.heap.size w w' := by
  have HL := Lib.hid (len_tl s)
  have q1 := fun W => add_ok ⟨#[100, 97, 116, 97, 58]⟩ m (by show 5 + _ ≤ _; omega) W
  have q2 := fun W => add_ok (⟨#[100, 97, 116, 97, 58]⟩ ++ m) ⟨#[44]⟩ (by rw [ByteArray.size_append]; show 5 + _ + 1 ≤ _; omega) W
  go_enter Tryd.func7, Tryd.ntmps7
  go_upto_block 0 with (fail)
  go_cut [6, 7] from 14 to 25 (fun s6 _ wx => s6 = .int .i64 (tsAt s.data.toList s.size : Nat) ∧ w = wx)
  case first =>
    go_wp2_with fail
    go_loop [6, 7] (fun a b => ∃ k : Nat, a = .int .i64 (tsAt s.data.toList k : Nat) ∧ b = .int .i64 k ∧ k ≤ s.size) (fun _ b => s.size - (jOf b).toNat)
    case atStart => exact ⟨0, rfl, rfl, Nat.zero_le _⟩
    case round =>
      obtain ⟨k, rfl, rfl, hk⟩ := hrel
      by_cases hn : k < s.size
      · obtain ⟨x, hx⟩ : ∃ x, s[k]'hn = x := ⟨_, rfl⟩
        have hg : s.data.toList.getD k 0 = x := by
          rw [List.getD_eq_getElem?_getD, List.getElem?_eq_getElem (by rw [HL.out]; exact hn), ← hx]; rfl
        have HB := fun W => Lib.hid (blank13 x W)
        cases hb : blank x with
        | true =>
          have HT := tsAt_yes (l := s.data.toList) (k := k) (by rw [hg]; exact hb)
          have HT := Lib.hid HT
          simp only [hb] at HB
          clear hb hg
          go_wp2_with (go_at_call 13; (with_reducible refine (HB _).out.mono ?_); rintro _ _ ⟨rfl, rfl⟩)
          go_round
          case rel => exact ⟨k + 1, by rw [HT.out], by go_num, by omega⟩
          case measure => simp [jOf]; omega
        | false =>
          have HT := tsAt_no (l := s.data.toList) (k := k) (by rw [hg]; exact hb)
          have HT := Lib.hid HT
          simp only [hb] at HB
          clear hb hg
          go_wp2_with (go_at_call 13; (with_reducible refine (HB _).out.mono ?_); rintro _ _ ⟨rfl, rfl⟩)
          go_round
          case rel => exact ⟨k + 1, by rw [HT.out]; go_num, by go_num, by omega⟩
          case measure => simp [jOf]; omega
      · go_wp2_with fail
        go_meet
        exact ⟨by rw [show s.size = k by omega], rfl⟩
  case rest =>
    obtain ⟨rfl, rfl⟩ := hcut
    obtain ⟨i0, hi, hz0, hz1, hz2⟩ := info_parts info5
    have HI := Lib.hid hi
    have HZ0 := Lib.hid hz0
    have HZ1 := Lib.hid hz1
    have HZ2 := Lib.hid hz2
    clear hi hz0 hz1 hz2
    obtain ⟨S, hS⟩ : ∃ S, S = ByteArray.mk #[100, 97, 116, 97, 58] ++ m ++ ⟨#[44]⟩ := ⟨_, rfl⟩
    rw [← hS] at q2
    have hSl : S.data.toList = head m.data.toList := by rw [hS]; simp [head]
    have hSs : S.size ≤ 524294 := by rw [hS, ByteArray.size_append, ByteArray.size_append]; show 5 + _ + 1 ≤ _; omega
    have hcv := Lib.run_convert_string_bytes (P := Tryd.prog) w 9 28 5 S Tryd.underlying9 Tryd.underlying28 Tryd.underlying5
    have hO := OwnB.ofText w 5 S (by omega)
    have hBw := bytesWorld_below w 5 S
    rw [hSl] at hO
    obtain ⟨w2, hw2⟩ : ∃ w2, w2 = Lib.bytesWorld w 5 S := ⟨_, rfl⟩
    rw [← hw2] at hcv hO hBw
    generalize Value.slice (some ⟨w.heap.size, 0, none⟩) S.size (grownCap w S.size 0 5) = v0 at hcv hO
    have HO := Lib.hid hO
    have HBW := Lib.hid hBw
    clear hw2 hSl hS hO hBw
    go_wp2_with fail
    go_loopw [8, 9] (fun v a wr => ∃ p : Nat, a = .int .i64 p ∧ p ≤ s.size ∧ OwnB w.heap.size 5 v (head m.data.toList ++ E s.data.toList p) wr ∧ Below w.heap.size w wr) (fun _ a _ => s.size - (jOf a).toNat)
    case atStart => exact ⟨0, rfl, Nat.zero_le _, by show OwnB _ _ _ (head m.data.toList ++ []) _; rw [List.append_nil]; exact HO.out, HBW.out⟩
    case round =>
      obtain ⟨p, rfl, hp, hown, hbw⟩ := hrel
      have HOW := Lib.hid hown
      have HBE := Lib.hid hbw
      have hwz := hbw.size
      have hEl := E_len s.data.toList p
      clear hown hbw
      by_cases hn : p < s.size
      · have e0 := B_at s p hn
        have l0 := B_lt s p
        have hg := getD_B s p
        have hesc : escB s.data.toList p = ((decide (B s p = 9) || decide (B s p = 10) || decide (B s p = 13) || decide (B s p = 35) || decide (tsAt s.data.toList s.size ≤ p)) || (decide (B s p = 37) && decide (p + 2 < s.size) && hexB (s.data.toList.getD (p + 1) 0) && hexB (s.data.toList.getD (p + 2) 0))) := by
          have eqn : ∀ c : UInt8, (s.data.toList.getD p 0 == c) = decide (B s p = c.toNat) := fun c => by
            rw [Bool.eq_iff_iff]; simp only [beq_iff_eq, decide_eq_true_eq, ← UInt8.toNat_inj]; rw [hg]
          unfold escB
          rw [eqn, eqn, eqn, eqn, eqn, HL.out]
          rfl
        have HYES := fun h => Lib.hid (E_yes (l := s.data.toList) (k := p) h)
        have HNO := fun h => Lib.hid (E_no (l := s.data.toList) (k := p) h)
        have HG := Lib.hid hg
        clear hg
        obtain ⟨x0, hx0⟩ : ∃ x, s[p]'hn = x := ⟨_, rfl⟩
        have hgx : s.data.toList.getD p 0 = x0 := by
          rw [List.getD_eq_getElem?_getD, List.getElem?_eq_getElem (by rw [HL.out]; exact hn), ← hx0]; rfl
        rw [hx0] at e0
        have HGX := Lib.hid hgx
        clear hgx
        obtain ⟨a, ha⟩ : ∃ a, B s p = a := ⟨_, rfl⟩
        rw [ha] at e0 l0 hesc
        have HAA := Lib.hid ha
        clear ha
        obtain ⟨eA, hA⟩ : ∃ b, b = (decide (a = 9) || decide (a = 10) || decide (a = 13) || decide (a = 35) || decide (tsAt s.data.toList s.size ≤ p)) := ⟨_, rfl⟩
        obtain ⟨eP, hP⟩ : ∃ b, b = (decide (a = 37) && decide (p + 2 < s.size) && hexB (s.data.toList.getD (p + 1) 0) && hexB (s.data.toList.getD (p + 2) 0)) := ⟨_, rfl⟩
        rw [← hA, ← hP] at hesc
        have HEA := Lib.hid hA
        have HEP := Lib.hid hP
        have HES := Lib.hid hesc
        clear hA hP hesc
        go_upto_region 13 with (fail)
        go_cut [11] from 38 to 56 (fun s11 wx => s11 = .bool eA ∧ wr = wx)
        case first =>
          by_cases q1 : a = 9 ∨ a = 10 ∨ a = 13 ∨ a = 35
          · have HT1 : eA = true := by rw [HEA.out]; rcases q1 with q | q | q | q <;> simp [q]
            have HT1 := Lib.hid HT1
            rcases q1 with rfl | rfl | rfl | rfl
            all_goals (go_wp2_with fail; go_meet; exact ⟨by rw [HT1.out], rfl⟩)
          · have c1 : ((a : Int) == 9) = false := by simp; omega
            have c2 : ((a : Int) == 10) = false := by simp; omega
            have c3 : ((a : Int) == 13) = false := by simp; omega
            have c4 : ((a : Int) == 35) = false := by simp; omega
            have hfour : (decide (a = 9) || decide (a = 10) || decide (a = 13) || decide (a = 35)) = false := by simp; omega
            by_cases q2 : tsAt s.data.toList s.size ≤ p
            · have HT1 : eA = true := by rw [HEA.out, hfour]; simp [q2]
              have HT1 := Lib.hid HT1
              clear hfour q1
              go_wp2_with fail
              go_meet
              exact ⟨by rw [HT1.out], rfl⟩
            · have HT1 : eA = false := by rw [HEA.out, hfour]; simp [q2]
              have HT1 := Lib.hid HT1
              clear hfour q1
              go_wp2_with fail
              go_meet
              exact ⟨by rw [HT1.out], rfl⟩
        case rest =>
          obtain ⟨rfl, rfl⟩ := hcut
          go_upto_region 14 with (fail)
          go_cut [78] from 57 to 78 (fun s78 wx => s78 = .bool eP ∧ wr = wx)
          case first =>
            by_cases q3 : a = 37
            · by_cases q4 : p + 2 < s.size
              · have hx1 : s.data.toList.getD (p + 1) 0 = s[p + 1]'(by omega) := by
                  rw [List.getD_eq_getElem?_getD, List.getElem?_eq_getElem (by rw [HL.out]; omega)]; rfl
                have hx2 : s.data.toList.getD (p + 2) 0 = s[p + 2]'(by omega) := by
                  rw [List.getD_eq_getElem?_getD, List.getElem?_eq_getElem (by rw [HL.out]; omega)]; rfl
                have hE3 : eP = (hexB (s[p + 1]'(by omega)) && hexB (s[p + 2]'(by omega))) := by rw [HEP.out, hx1, hx2]; simp [q3, q4]
                have HE3 := Lib.hid hE3
                have HC1 := fun W => Lib.hid (hex14 (s[p + 1]'(by omega)) W)
                have HC2 := fun W => Lib.hid (hex14 (s[p + 2]'(by omega)) W)
                obtain ⟨u, hu⟩ : ∃ u, hexB (s[p + 1]'(by omega)) = u := ⟨_, rfl⟩
                obtain ⟨z, hz⟩ : ∃ z, hexB (s[p + 2]'(by omega)) = z := ⟨_, rfl⟩
                rw [hu] at HE3
                rw [hz] at HE3
                simp only [hu] at HC1
                simp only [hz] at HC2
                clear hu hz hx1 hx2 hE3
                subst q3
                cases u with
                | true =>
                  go_wp2_with (go_at_call 14; first | ((with_reducible refine (HC1 _).out.mono ?_); rintro _ _ ⟨rfl, rfl⟩) | ((with_reducible refine (HC2 _).out.mono ?_); rintro _ _ ⟨rfl, rfl⟩))
                  all_goals (go_meet; exact ⟨by rw [HE3.out]; simp, rfl⟩)
                | false =>
                  go_wp2_with (go_at_call 14; (with_reducible refine (HC1 _).out.mono ?_); rintro _ _ ⟨rfl, rfl⟩)
                  all_goals (go_meet; exact ⟨by rw [HE3.out]; simp, rfl⟩)
              · have HT1 : eP = false := by rw [HEP.out]; simp [q4]
                have HT1 := Lib.hid HT1
                subst q3
                go_wp2_with fail
                go_meet
                exact ⟨by rw [HT1.out], rfl⟩
            · have HT1 : eP = false := by rw [HEP.out]; simp [q3]
              have HT1 := Lib.hid HT1
              have c5 : ((a : Int) == 37) = false := by simp; omega
              go_wp2_with fail
              go_meet
              exact ⟨by rw [HT1.out], rfl⟩
          case rest =>
            obtain ⟨rfl, rfl⟩ := hcut
            have yes : escB s.data.toList p = true → ∀ (K : Prop), ((Hid (E s.data.toList (p + 1) = E s.data.toList p ++ [37, hexd (a / 16), hexd (a % 16)])) → K) → K := fun h K k => k (Lib.hid (by
              have := (HYES h).out
              rw [HG.out, HAA.out] at this
              rw [this]; simp))
            obtain ⟨y1, hy1⟩ : ∃ y, y = a % 16 := ⟨_, rfl⟩
            obtain ⟨y2, hy2⟩ : ∃ y, y = a / 16 := ⟨_, rfl⟩
            have a1 : bits .and .u8 (a : Int) 15 = (y1 : Int) := by rw [hy1]; exact m_lo a 4 15 (by decide) l0 (by decide)
            have a2 : (a : Int) / 16 = (y2 : Int) := by omega
            have HD1 := fun W => Lib.hid (digit15 y2 (by omega) W)
            have HD2 := fun W => Lib.hid (digit15 y1 (by omega) W)
            rw [← hy1, ← hy2] at yes
            have b1 : y1 < 16 := by omega
            have b2 : y2 < 16 := by omega
            clear hy1 hy2
            have grow : eA = true ∨ eP = true → Hid (E s.data.toList (p + 1) = E s.data.toList p ++ [37, hexd y2, hexd y1]) := fun h => yes (by rw [HES.out]; rcases h with h | h <;> simp [h]) _ id
            have stay : eA = false → eP = false → Hid (E s.data.toList (p + 1) = E s.data.toList p ++ [x0]) := fun h h2 => Lib.hid (by
              rw [(HNO (by rw [HES.out, h, h2]; rfl)).out, HGX.out])
            clear yes HYES HNO
            cases eA with
            | true =>
              have HG2 := grow (.inl rfl)
              clear grow stay
              cases eP
              all_goals
                go_wp2_with (first
                  | (go_at_call 15; first | ((with_reducible refine (HD1 _).out.mono ?_); rintro _ _ ⟨rfl, rfl⟩) | ((with_reducible refine (HD2 _).out.mono ?_); rintro _ _ ⟨rfl, rfl⟩))
                  | (refine wpList_append_ownB rfl (.tmp 80) (.tmp 87) 28 rfl w.heap.size 5 i0 Tryd.underlying28 HI.out HZ0.out HZ1.out HZ2.out u8 (head m.data.toList ++ E s.data.toList p) rfl (HOW.out.alloc _) ⟨wr.heap.size, 0, none⟩ 3 3 [37, hexd y2, hexd y1] rfl rfl (threeAt wr _ _ _) (by simp [head]; omega) (by simp; omega) ?_; intro v2 w3 hown3 hg3; have HO3 := Lib.hid hown3; have HW3 := Lib.hid (below_grown (HBE.out.alloc (Nat.le_trans (Nat.le_refl _) hwz) _) (by simp; omega) (HOW.out.alloc _) hg3); clear hown3 hg3))
                go_roundw
                case rel => exact ⟨p + 1, by go_num, by omega, by rw [HG2.out, ← List.append_assoc]; exact HO3.out, HW3.out⟩
                case measure => simp [jOf]; omega
            | false =>
              cases eP with
              | true =>
                have HG2 := grow (.inr rfl)
                clear grow stay
                go_wp2_with (first
                  | (go_at_call 15; first | ((with_reducible refine (HD1 _).out.mono ?_); rintro _ _ ⟨rfl, rfl⟩) | ((with_reducible refine (HD2 _).out.mono ?_); rintro _ _ ⟨rfl, rfl⟩))
                  | (refine wpList_append_ownB rfl (.tmp 80) (.tmp 87) 28 rfl w.heap.size 5 i0 Tryd.underlying28 HI.out HZ0.out HZ1.out HZ2.out u8 (head m.data.toList ++ E s.data.toList p) rfl (HOW.out.alloc _) ⟨wr.heap.size, 0, none⟩ 3 3 [37, hexd y2, hexd y1] rfl rfl (threeAt wr _ _ _) (by simp [head]; omega) (by simp; omega) ?_; intro v2 w3 hown3 hg3; have HO3 := Lib.hid hown3; have HW3 := Lib.hid (below_grown (HBE.out.alloc (Nat.le_trans (Nat.le_refl _) hwz) _) (by simp; omega) (HOW.out.alloc _) hg3); clear hown3 hg3))
                go_roundw
                case rel => exact ⟨p + 1, by go_num, by omega, by rw [HG2.out, ← List.append_assoc]; exact HO3.out, HW3.out⟩
                case measure => simp [jOf]; omega
              | false =>
                have HG2 := stay rfl rfl
                clear grow stay
                have h0a : (x0.toNat : Int) = (a : Int) := by rw [e0]
                go_wp2_with (refine wpList_append_ownB rfl (.tmp 89) (.tmp 91) 28 rfl w.heap.size 5 i0 Tryd.underlying28 HI.out HZ0.out HZ1.out HZ2.out u8 (head m.data.toList ++ E s.data.toList p) rfl (HOW.out.alloc _) ⟨wr.heap.size, 0, none⟩ 1 1 [x0] rfl rfl (by rw [show Lib.byteCells [x0] = [Value.int .u8 (a : Int)] by simp [Lib.byteCells, e0]]; exact oneAt wr _) (by simp [head]; omega) (by simp; omega) ?_; intro v2 w3 hown3 hg3; have HO3 := Lib.hid hown3; have HW3 := Lib.hid (below_grown (HBE.out.alloc (Nat.le_trans (Nat.le_refl _) hwz) _) (by simp; omega) (HOW.out.alloc _) hg3); clear hown3 hg3)
                go_roundw
                case rel => exact ⟨p + 1, by go_num, by omega, by rw [HG2.out, ← List.append_assoc]; exact HO3.out, HW3.out⟩
                case measure => simp [jOf]; omega
      · obtain rfl : p = s.size := by omega
        have hcv2 := HOW.out.text Tryd.prog 28 9 Tryd.underlying28 Tryd.underlying5 Tryd.underlying9
        have hU : url m.data.toList s.data.toList = ⟨(head m.data.toList ++ E s.data.toList s.size).toArray⟩ := by unfold url; rw [HL.out]
        have HU := Lib.hid hU
        clear hU
        go_wp2_with fail
        go_ret
        exact ⟨ret_str HU.out.symm, HBE.out⟩
end Go.Proofs.YtocnfapldcjilaaDoor
