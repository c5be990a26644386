/-
  The law FnIsInsideNodeModulesMatchesSegmentModel's walk. No condition but the two tables of unicode/utf8.
-/
import Derived.Test.YtlgdojbojlbehaaDoorLast
import Derived.IntWalk
namespace Go.Proofs.YtlgdojbojlbehaaDoor.fnIsInsideNodeModulesMatchesSegmentModel
open Go.ChangeShapes Go.WideShapes Go.ChangeAt Go.RowKit
set_option linter.unusedVariables false

theorem bytes4 (a : ByteArray) (w : World) (ha : a.size ≤ maxLen) :
    Calls Tryd.prog 4 #[.string a] w fun e w' => ((e = .returned (.bool false)) ∨ (e = .returned (.bool true) ∧ a.size ≤ 1048576)) ∧ w = w' := by
  unfold maxLen at ha
  by_cases h1 : a.size ≤ 1048576
  · go_enter Tryd.func4, Tryd.ntmps4
    go_wp2
    go_ret
    exact ⟨.inr ⟨rfl, h1⟩, rfl⟩
  · go_enter Tryd.func4, Tryd.ntmps4
    go_wp2
    go_ret
    exact ⟨.inl rfl, rfl⟩
theorem ret_bool {a b : Bool} (h : a = b) : Ending.returned (.bool a) = .returned (.bool b) := by rw [h]
def strSize : Value → Nat
  | .string s => s.size
  | _ => 0
def nm : List UInt8 := [110, 111, 100, 101, 95, 109, 111, 100, 117, 108, 101, 115]
def Same (l t : List UInt8) : Prop := Has l ↔ Has t
def Ans (l : List UInt8) (w : World) (e : Ending) (w' : World) : Prop := e = .returned (.bool (hasB l)) ∧ Below w.heap.size w w'
theorem from_list (t : ByteArray) (a : Nat) : (t.extract a t.size).data.toList = t.data.toList.drop a := by
  rw [Lib.extract_to_end]
set_option maxHeartbeats 2000000 in
theorem inside5 (s : ByteArray) (hs : s.size ≤ 1048576) (w : World) (hT : Lib.Utf8Tabs 1 2 w) :
    Calls Tryd.prog 5 #[.string s] w (Ans s.data.toList w) := by
  have HT := Lib.hid hT
  clear hT
  go_enter Tryd.func5, Tryd.ntmps5
  go_wp2
  go_loopw [0] (fun v wr => ∃ t : ByteArray, v = .string t ∧ t.size ≤ s.size ∧ Same s.data.toList t.data.toList ∧ Below w.heap.size w wr) (fun v _ => strSize v)
  case atStart => exact ⟨s, rfl, Nat.le_refl _, Iff.rfl, Below.refl _ _⟩
  case round =>
    obtain ⟨t, rfl, ht, hsame, hb⟩ := hrel
    have HS := Lib.hid hsame
    have HB := Lib.hid hb
    have H7 := Lib.hid (last7 t (by omega) wr (Utf8Tabs_below HT.out hb))
    clear hsame hb
    go_wp2_with (go_at_call 7; (with_reducible refine H7.out.mono ?_); rintro _ w1 ⟨r, rfl, hr, hb1⟩; rcases hr with ⟨rfl, hcl⟩ | ⟨k, rfl, A, sp, b, hl, hk, hsp, hcl⟩)
    · go_ret
      exact ⟨ret_bool (hasB_false (fun h => clean_not hcl (HS.out.1 h))).symm, HB.out.trans (hb1.mono HB.out.size)⟩
    · have hkt : k < t.size := by
        have : t.data.toList.length = A.length + 1 + b.length := by rw [hl]; simp; omega
        rw [len_tl] at this; omega
      have hnk : ((k : Int) == -1) = false := by simp
      have hdir : (t.extract 0 k).data.toList = A := by rw [take_list, hl, ← hk]; simp
      have hbase : (t.extract (k + 1) t.size).data.toList = b := by rw [from_list, hl, ← hk]; simp
      have hsz := take_size t k (by omega)
      have hQ := has_cut (A := A) hsp hcl
      rw [← hl] at hQ
      have HQ := Lib.hid hQ
      clear hQ
      have hw1 : IntKind.i64.wrap ((k : Int) + 1) = (k : Int) + 1 := IntWalk.i64_in _ (by omega)
      have hn1 : ((k : Int) + 1).toNat = k + 1 := by omega
      have HD := Lib.hid hdir
      have HE := Lib.hid hbase
      clear hl hdir hbase hsz hcl hk
      go_wp2_with fail
      go_quiet (fail)
      clear hw1 hn1
      by_cases hq : b = NM
      · have hq' : ((t.extract (k + 1) t.size).toList == [110, 111, 100, 101, 95, 109, 111, 100, 117, 108, 101, 115]) = true := by rw [tl, HE.out, hq]; rfl
        have HA := Lib.hid (HQ.out.2 (.inl hq))
        clear hq
        go_wp2
        go_ret
        exact ⟨ret_bool (hasB_true (HS.out.2 HA.out)).symm, HB.out.trans ((below_drewN hb1 _).mono HB.out.size)⟩
      · have hq' : ((t.extract (k + 1) t.size).toList == [110, 111, 100, 101, 95, 109, 111, 100, 117, 108, 101, 115]) = false := by
          rw [tl, HE.out]; exact beq_eq_false_iff_ne.2 hq
        have HA := Lib.hid (show Has t.data.toList ↔ Has A from HQ.out.trans ⟨fun h => h.resolve_left hq, .inr⟩)
        clear hq
        go_wp2
        go_roundw
        case rel => exact ⟨_, rfl, by rw [take_size t k (by omega)]; omega, by unfold Same; rw [HD.out]; exact HS.out.trans HA.out, HB.out.trans ((below_drewN hb1 _).mono HB.out.size)⟩
        case measure => show (t.extract 0 k).size < t.size; rw [take_size t k (by omega)]; omega

/-! ### The model's loop -/
structure Inv (l : List UInt8) (st sg i : Nat) : Prop where
  le : st ≤ i
  top : i ≤ l.length + 1
  seg : sg ≤ i
  zero : sg = 0 ↔ st = 0
  clean : ∀ j (hj : j < l.length), st ≤ j → j < i → sep l[j] = false
  last : i = l.length + 1 → st = l.length + 1
  cut : ∀ (h : st - 1 < l.length), 0 < st → sep l[st - 1] = true
  done : 0 < st → ¬ Has (l.take (st - 1))
def piece (l : List UInt8) (st i : Nat) : List UInt8 := (l.drop st).take (i - st)
theorem piece_clean {l : List UInt8} {st sg i : Nat} (h : Inv l st sg i) : Clean (piece l st i) := by
  intro c hc
  unfold piece at hc
  obtain ⟨j, hj, rfl⟩ := List.mem_iff_getElem.1 hc
  rw [List.length_take, List.length_drop] at hj
  rw [List.getElem_take, List.getElem_drop]
  exact h.clean _ (by omega) (by omega) (by omega)
theorem take_split {l : List UInt8} {st i : Nat} (h0 : 0 < st) (h1 : st ≤ i) (h2 : i ≤ l.length) : l.take i = l.take (st - 1) ++ (l[st - 1]'(by omega)) :: piece l st i := by
  unfold piece
  have e1 : l.take i = l.take (st - 1) ++ (l.drop (st - 1)).take (i - (st - 1)) := by
    rw [← List.drop_take]
    have := List.take_append_drop (st - 1) (l.take i)
    rw [List.take_take, Nat.min_eq_left (by omega)] at this
    exact this.symm
  rw [e1]
  congr 1
  rw [List.drop_eq_getElem_cons (show st - 1 < l.length by omega), show st - 1 + 1 = st by omega, show i - (st - 1) = (i - st) + 1 by omega, List.take_succ_cons]
theorem Inv.found {l : List UInt8} {st sg i : Nat} (h : Inv l st sg i) (h0 : 0 < st) (h2 : i ≤ l.length) (hp : piece l st i = NM) (he : ∀ (q : i < l.length), sep l[i] = true) : Has l := by
  refine ⟨l.take (st - 1), l[st - 1]'(by have := h.le; omega), l.drop i, ?_, h.cut (by have := h.le; omega) h0, ?_⟩
  · have := take_split h0 h.le h2
    rw [hp] at this
    have e := List.take_append_drop i l
    rw [this] at e
    exact e.symm.trans (by simp)
  · intro t B' hB
    by_cases q : i < l.length
    · rw [List.drop_eq_getElem_cons q] at hB
      simp only [List.cons.injEq] at hB
      rw [← hB.1]; exact he q
    · rw [List.drop_eq_nil_of_le (by omega)] at hB; cases hB
theorem Inv.next {l : List UInt8} {st sg i : Nat} (h : Inv l st sg i) (h2 : i ≤ l.length) (hp : 0 < st → piece l st i ≠ NM) (he : ∀ (q : i < l.length), sep l[i] = true) : Inv l (i + 1) (sg + 1) (i + 1) := by
  refine ⟨Nat.le_refl _, by omega, by have := h.seg; omega, by omega, fun j hj a b => by omega, fun q => by omega, fun q _ => ?_, fun _ => ?_⟩
  · exact he q
  · rw [Nat.add_sub_cancel]
    by_cases h0 : 0 < st
    · rw [take_split h0 h.le h2, has_cut (h.cut (by have := h.le; omega) h0) (piece_clean h)]
      intro q
      rcases q with q | q
      · exact hp h0 q
      · exact h.done h0 q
    · refine clean_not ?_
      have := piece_clean h
      unfold piece at this
      rw [show st = 0 by omega] at this
      simpa using this
theorem Inv.skip {l : List UInt8} {st sg i : Nat} (h : Inv l st sg i) (h2 : i < l.length) (hn : sep l[i] = false) : Inv l st sg (i + 1) := by
  refine ⟨by have := h.le; omega, by omega, by have := h.seg; omega, h.zero, fun j hj a b => ?_, fun q => by omega, h.cut, h.done⟩
  by_cases e : j = i
  · subst e; exact hn
  · exact h.clean j hj a (by omega)
theorem Inv.start (l : List UInt8) : Inv l 0 0 0 := ⟨Nat.le_refl _, by omega, Nat.le_refl _, Iff.rfl, fun j _ _ h => by omega, fun h => by omega, fun _ h => by omega, fun h => by omega⟩
theorem Inv.fin {l : List UInt8} {st sg i : Nat} (h : Inv l st sg i) (h2 : ¬ i ≤ l.length) : ¬ Has l := by
  have e := h.last (by have := h.top; omega)
  have := h.done (by omega)
  rw [e, Nat.add_sub_cancel, List.take_length] at this
  exact this
theorem ext_piece (s : ByteArray) (st i : Nat) : (s.extract st i).toList = piece s.data.toList st i := by rw [tl, Lib.extract_data]; rfl
set_option maxHeartbeats 4000000 in
theorem model6 (s : ByteArray) (hs : s.size ≤ 1048576) (w : World) :
    Calls Tryd.prog 6 #[.string s] w fun e w' => e = .returned (.bool (hasB s.data.toList)) ∧ w = w' := by
  have HL := Lib.hid (len_tl s)
  go_enter Tryd.func6, Tryd.ntmps6
  go_wp2
  go_loop [3, 4, 5] (fun a b c => ∃ st sg i : Nat, a = .int .i64 st ∧ b = .int .i64 sg ∧ c = .int .i64 i ∧ Inv s.data.toList st sg i) (fun _ _ c => s.size + 1 - (Lib.intOf c).toNat)
  case atStart => exact ⟨0, 0, 0, rfl, rfl, rfl, Inv.start _⟩
  case round =>
    obtain ⟨st, sg, i, rfl, rfl, rfl, hI⟩ := hrel
    have hle := hI.le; have htop := hI.top; have hseg := hI.seg; have hz1 := hI.zero.1; have hz2 := hI.zero.2
    rw [HL.out] at htop
    have HI := Lib.hid hI
    by_cases hin : i ≤ s.size
    · have hk : (i = s.size ∧ (∀ (q : i < s.data.toList.length), sep s.data.toList[i] = true)) ∨ ∃ (hi : i < s.size) (x : UInt8), s[i]'hi = x ∧ s.data.toList[i]'(by rw [HL.out]; exact hi) = x := by
        by_cases e : i = s.size
        · exact .inl ⟨e, fun q => absurd q (by rw [HL.out]; omega)⟩
        · exact .inr ⟨by omega, _, rfl, rfl⟩
      have hin' : i ≤ s.data.toList.length := by rw [HL.out]; exact hin
      rcases hk with ⟨e, he⟩ | ⟨hi, x, hx, hxl⟩
      · -- the end
        subst e
        have HE := Lib.hid he
        clear he
        by_cases h0 : 0 < st
        · have hsg : (1 : Int) ≤ (sg : Int) := by omega
          cases hq : ((s.extract st s.size).toList == [110, 111, 100, 101, 95, 109, 111, 100, 117, 108, 101, 115]) with
          | true =>
            have HA := Lib.hid (HI.out.found h0 hin' (by rw [← ext_piece]; exact (beq_iff_eq.1 hq)) HE.out)
            clear hz1 hz2 hI
            go_wp2
            go_ret
            exact ⟨ret_bool (hasB_true HA.out).symm, rfl⟩
          | false =>
            have HA := Lib.hid (HI.out.next hin' (fun _ => by rw [← ext_piece]; exact (beq_eq_false_iff_ne.1 hq)) HE.out)
            clear hz1 hz2 hI
            go_wp2
            go_round
            case rel => exact ⟨s.size + 1, sg + 1, s.size + 1, by go_num, by go_num, by go_num, HA.out⟩
            case measure => simp [Lib.intOf]
        · have hsg : ¬ (1 : Int) ≤ (sg : Int) := by omega
          have HA := Lib.hid (HI.out.next hin' (fun q => absurd q h0) HE.out)
          clear hz1 hz2 hI
          go_wp2
          go_round
          case rel => exact ⟨s.size + 1, sg + 1, s.size + 1, by go_num, by go_num, by go_num, HA.out⟩
          case measure => simp [Lib.intOf]
      · have c1 : ((i : Int) == (s.size : Int)) = false := by simp; omega
        have HX := Lib.hid hxl
        clear hxl
        cases hs1 : ((x.toNat : Int) == 47) with
        | true =>
          have HE : ∀ (q : i < s.data.toList.length), sep s.data.toList[i] = true := fun q => by rw [HX.out]; unfold sep; have : x = 47 := UInt8.toNat_inj.1 (by have h9 : (47 : UInt8).toNat = 47 := rfl; have := eq_of_beq hs1; omega); rw [this]; rfl
          have HE := Lib.hid HE
          by_cases h0 : 0 < st
          · have hsg : (1 : Int) ≤ (sg : Int) := by omega
            cases hq : ((s.extract st i).toList == [110, 111, 100, 101, 95, 109, 111, 100, 117, 108, 101, 115]) with
            | true =>
              have HA := Lib.hid (HI.out.found h0 hin' (by rw [← ext_piece]; exact (beq_iff_eq.1 hq)) HE.out)
              clear hz1 hz2 hI
              go_wp2
              go_ret
              exact ⟨ret_bool (hasB_true HA.out).symm, rfl⟩
            | false =>
              have HA := Lib.hid (HI.out.next hin' (fun _ => by rw [← ext_piece]; exact (beq_eq_false_iff_ne.1 hq)) HE.out)
              clear hz1 hz2 hI
              go_wp2
              go_round
              case rel => exact ⟨i + 1, sg + 1, i + 1, by go_num, by go_num, by go_num, HA.out⟩
              case measure => simp [Lib.intOf]; omega
          · have hsg : ¬ (1 : Int) ≤ (sg : Int) := by omega
            have HA := Lib.hid (HI.out.next hin' (fun q => absurd q h0) HE.out)
            clear hz1 hz2 hI
            go_wp2
            go_round
            case rel => exact ⟨i + 1, sg + 1, i + 1, by go_num, by go_num, by go_num, HA.out⟩
            case measure => simp [Lib.intOf]; omega
        | false =>
          cases hs2 : ((x.toNat : Int) == 92) with
          | true =>
            have HE : ∀ (q : i < s.data.toList.length), sep s.data.toList[i] = true := fun q => by rw [HX.out]; unfold sep; have : x = 92 := UInt8.toNat_inj.1 (by have h9 : (92 : UInt8).toNat = 92 := rfl; have := eq_of_beq hs2; omega); rw [this]; rfl
            have HE := Lib.hid HE
            by_cases h0 : 0 < st
            · have hsg : (1 : Int) ≤ (sg : Int) := by omega
              cases hq : ((s.extract st i).toList == [110, 111, 100, 101, 95, 109, 111, 100, 117, 108, 101, 115]) with
              | true =>
                have HA := Lib.hid (HI.out.found h0 hin' (by rw [← ext_piece]; exact (beq_iff_eq.1 hq)) HE.out)
                clear hz1 hz2 hI
                go_wp2
                go_ret
                exact ⟨ret_bool (hasB_true HA.out).symm, rfl⟩
              | false =>
                have HA := Lib.hid (HI.out.next hin' (fun _ => by rw [← ext_piece]; exact (beq_eq_false_iff_ne.1 hq)) HE.out)
                clear hz1 hz2 hI
                go_wp2
                go_round
                case rel => exact ⟨i + 1, sg + 1, i + 1, by go_num, by go_num, by go_num, HA.out⟩
                case measure => simp [Lib.intOf]; omega
            · have hsg : ¬ (1 : Int) ≤ (sg : Int) := by omega
              have HA := Lib.hid (HI.out.next hin' (fun q => absurd q h0) HE.out)
              clear hz1 hz2 hI
              go_wp2
              go_round
              case rel => exact ⟨i + 1, sg + 1, i + 1, by go_num, by go_num, by go_num, HA.out⟩
              case measure => simp [Lib.intOf]; omega
          | false =>
            have HE : sep x = false := by
              unfold sep
              have a1 : x ≠ 47 := fun q => by rw [q] at hs1; simp at hs1
              have a2 : x ≠ 92 := fun q => by rw [q] at hs2; simp at hs2
              simp [a1, a2]
            have HA := Lib.hid (HI.out.skip (by rw [HL.out]; exact hi) (by rw [HX.out]; exact HE))
            clear hz1 hz2 hI HE
            go_wp2
            go_round
            case rel => exact ⟨st, sg, i + 1, rfl, rfl, by go_num, HA.out⟩
            case measure => simp [Lib.intOf]; omega
    · have HN := Lib.hid (hI.fin (by rw [HL.out]; exact hin))
      clear hI hz1 hz2
      go_wp2
      go_ret
      exact ⟨ret_bool (hasB_false HN.out).symm, rfl⟩

set_option maxHeartbeats 1000000 in
theorem walk (a0 : ByteArray) (w : World) (w0 : a0.size ≤ maxLen) (hT : Lib.Utf8Tabs 1 2 w) :
    Calls Tryd.prog 3 #[.string a0] w fun e w' => e = .returned (.bool true) ∧ Below w.heap.size w w' := by
  have HB := Lib.hid (bytes4 a0 w w0)
  have HT := Lib.hid hT
  clear hT
  unfold maxLen at w0
  by_cases h1 : a0.size ≤ 1048576
  · have H5 := Lib.hid (inside5 a0 h1 w HT.out)
    have H6 := fun W => Lib.hid (model6 a0 h1 W)
    unfold Ans at H5
    obtain ⟨R, hR⟩ : ∃ R, hasB a0.data.toList = R := ⟨_, rfl⟩
    rw [hR] at H5
    simp only [hR] at H6
    clear hR
    go_enter Tryd.func3, Tryd.ntmps3
    go_wp2_with (first
      | (go_at_call 4; (with_reducible refine HB.out.mono ?_); rintro _ _ ⟨rfl | ⟨rfl, hs0⟩, rfl⟩)
      | (go_at_call 5; (with_reducible refine H5.out.mono ?_); rintro _ w1 ⟨rfl, hb⟩)
      | (go_at_call 6; (with_reducible refine (H6 _).out.mono ?_); rintro _ _ ⟨rfl, rfl⟩))
    all_goals (go_ret; exact ⟨by first | rfl | simp, by first | exact Below.refl _ _ | exact hb⟩)
  · have HN : Calls Tryd.prog 4 #[.string a0] w fun e w' => e = .returned (.bool false) ∧ w = w' := HB.out.mono fun e w' ⟨he, hw⟩ => ⟨he.resolve_right (fun q => h1 q.2), hw⟩
    have HN := Lib.hid HN
    go_enter Tryd.func3, Tryd.ntmps3
    go_wp2_with (go_at_call 4; (with_reducible refine HN.out.mono ?_); rintro _ _ ⟨rfl, rfl⟩)
    all_goals (go_ret; exact ⟨by first | rfl | simp, Below.refl _ _⟩)
end Go.Proofs.YtlgdojbojlbehaaDoor.fnIsInsideNodeModulesMatchesSegmentModel
