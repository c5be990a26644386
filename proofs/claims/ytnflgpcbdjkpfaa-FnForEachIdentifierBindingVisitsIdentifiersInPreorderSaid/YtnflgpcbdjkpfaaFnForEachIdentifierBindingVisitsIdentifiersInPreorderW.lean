/-
  The walk of the law. No condition.
-/
import Derived.Test.YtnflgpcbdjkpfaaBuild3
import Derived.Test.YtnflgpcbdjkpfaaVisitO
import Derived.Test.YtnflgpcbdjkpfaaEnds
namespace Go.Proofs.Ytnflgpcbdjkpfaa.fnForEachIdentifierBindingVisitsIdentifiersInPreorder
open Go.ChangeShapes Go.WideShapes Go.ChangeAt Go.RowKit
set_option linter.unusedVariables false
set_option linter.unusedSimpArgs false

theorem te_le (code : Nat → Nat) (n : Nat) : ∀ f need i, i ≤ n → te code n f need i ≤ n
  | 0, _, i, h => h
  | f + 1, need, i, h => by
    unfold te
    split
    · exact te_le code n f _ _ (by omega)
    · exact h
theorem cbStart (w : World) (c : Array Value) : Cb w.heap.size (w.heap.size + 1) (w.heap.size + 1 + 1) [] (.slice none 0 0) (.slice none 0 0) (((w.alloc (.cells c 30)).alloc (.cells #[.slice none 0 0] 33)).alloc (.cells #[.slice none 0 0] 34)) where
  b1 := by
    have := (Bk.mk (w.alloc (.cells c 30)) 33 #[.slice none 0 0]).alloc (.cells #[.slice none 0 0] 34)
    rwa [addr1] at this
  b2 := by
    have := Bk.mk ((w.alloc (.cells c 30)).alloc (.cells #[.slice none 0 0] 33)) 34 #[.slice none 0 0]
    rwa [addr1, addr1] at this
  o1 := own_nil _ _ _ _
  o2 := own_nil _ _ _ _
  h1 := by omega
  h2 := by omega
theorem code_of {w : World} {a : Option Addr} {n cap : Nat} {zs : List Int} (h : IsInts .u8 w a n cap zs) : Code w a n (fun i => (zs.getD i 0).toNat) where
  at_ := fun h0 => by
    obtain ⟨b, off, e, hb, hc⟩ := h.at h0
    refine ⟨b, off, e, hb, fun i hi => ?_⟩
    obtain ⟨x, hx, _⟩ := nat_u8 (h.wf i hi)
    rw [hc i hi]
    simp only [hx]
    simp
  lt := fun i hi => by
    obtain ⟨x, hx, hl⟩ := nat_u8 (h.wf i hi)
    simp only [hx]
    simpa using hl
theorem ids_len_at (code : Nat → Nat) {i t : Nat} (h : i < t) (hc : code i % 4 = 1) : (idsIn code 0 t)[(idsIn code 0 i).length]? = some i ∧ (idsIn code 0 i).length < (idsIn code 0 t).length ∧ (idsIn code 0 (i + 1)).length = (idsIn code 0 i).length + 1 := by
  have e1 : idsIn code 0 (i + 1) = idsIn code 0 i ++ [i] := by rw [ids_app code (Nat.zero_le i) (Nat.le_succ i), ids_one, if_pos hc]
  have e2 : idsIn code 0 t = idsIn code 0 i ++ (i :: idsIn code (i + 1) t) := by rw [ids_app code (Nat.zero_le (i + 1)) h, e1]; simp
  refine ⟨by rw [e2]; simp, by rw [e2]; simp, by rw [e1]; simp⟩
theorem ids_len_no (code : Nat → Nat) {i : Nat} (hc : ¬ code i % 4 = 1) : (idsIn code 0 (i + 1)).length = (idsIn code 0 i).length := by
  rw [ids_app code (Nat.zero_le i) (Nat.le_succ i), ids_one, if_neg hc]; simp
theorem ids_le (code : Nat → Nat) (t : Nat) : (idsIn code 0 t).length ≤ t := by
  unfold idsIn
  refine Nat.le_trans (List.length_filter_le _ _) (by simp)

set_option maxRecDepth 100000 in
set_option maxHeartbeats 16000000 in
theorem walk (a0 : Option Addr) (len0 cap0 : Nat) (z0 : List Int) (w : World) (w0 : IsInts .u8 w a0 len0 cap0 z0) :
    Calls Try.prog 3 #[.slice a0 len0 cap0] w fun e w' => e = .returned (.bool true) ∧ Below w.heap.size w w' := by
  have hmx : len0 ≤ 9223372036854775807 := by
    obtain ⟨⟨_, h2, h3, _⟩, _⟩ := w0
    unfold maxLen at h3
    omega
  have HC0 := Lib.hid (code_of w0)
  clear w0
  generalize (fun i => (z0.getD i 0).toNat) = code at HC0
  by_cases hbig : len0 ≤ 65536
  case neg =>
    go_enter Try.func3, Try.ntmps3
    go_wp2_with (first | (go_at_call 5; (with_reducible refine (anyBytes a0 len0 cap0 w hmx).mono ?_); rintro _ _ ⟨b, rfl, rfl⟩; cases b))
    all_goals
      go_ret
      exact ⟨rfl, Below.refl _ _⟩
  by_cases hpos : 0 < len0
  case neg =>
    obtain rfl : len0 = 0 := by omega
    go_enter Try.func3, Try.ntmps3
    go_wp2_with (first | (go_at_call 5; (with_reducible refine (anyBytes a0 0 cap0 w hmx).mono ?_); rintro _ _ ⟨b, rfl, rfl⟩; cases b))
    all_goals
      go_ret
      exact ⟨rfl, Below.refl _ _⟩
  have hle : te code len0 len0 1 0 ≤ len0 := te_le code len0 _ _ _ (Nat.zero_le _)
  have HPR := Lib.hid (preorder (code := code) (n := len0) hpos)
  have HLN : Hid ((idsIn code 0 (te code len0 len0 1 0)).length ≤ 65536) := Nat.le_trans (ids_le _ _) (by omega)
  have HVS : Hid (∀ (w2 : World) (T : TypeId) (q : Value), Tr w2 (fun _ => True) ⟨T, q, 0⟩ (idsIn code 0 (te code len0 len0 1 0)) → Calls Try.prog 8 #[.agg #[.iface T q, .int .i32 0], .func (Fn.func 9) #[] #[.pointer (some ⟨w2.heap.size + 1, 0, none⟩), .pointer (some ⟨w2.heap.size + 1 + 1, 0, none⟩)]] (((w2.alloc (.cells #[.iface T q, .int .i32 0] 30)).alloc (.cells #[.slice none 0 0] 33)).alloc (.cells #[.slice none 0 0] 34)) fun e w4 => e = .returned (.tuple #[]) ∧ ∃ v1 v2, Cb w2.heap.size (w2.heap.size + 1) (w2.heap.size + 1 + 1) (idsIn code 0 (te code len0 len0 1 0)) v1 v2 w4 ∧ Below w2.heap.size w2 w4) := by
    show ∀ (w2 : World) (T : TypeId) (q : Value), _
    intro w2 T q htr
    have hb3 : Below w2.heap.size w2 (((w2.alloc (.cells #[.iface T q, .int .i32 0] 30)).alloc (.cells #[.slice none 0 0] 33)).alloc (.cells #[.slice none 0 0] 34)) := (((Below.refl _ w2).alloc (Nat.le_refl _) _).alloc (by simp) _).alloc (by simp; omega) _
    refine (visit (base := w2.heap.size) (bl := w2.heap.size + 1) (br := w2.heap.size + 1 + 1) htr _ [] _ _ (fun b hb => hb3.block b hb.lt) hb3.size (cbStart w2 _) (by have := HLN.out; simp; omega)).mono ?_
    rintro _ w4 ⟨rfl, v1, v2, hcb, hfr⟩
    exact ⟨rfl, v1, v2, hcb, hb3.trans (hfr.below hb3.size (by rintro k hk ⟨_, _, _, _, q⟩; omega))⟩
  have HBD : Hid (∀ w1 : World, Code w1 (some ⟨w.heap.size, 0, none⟩) len0 code → Calls Try.prog 7 #[.slice (some ⟨w.heap.size, 0, none⟩) len0 len0, .int .i64 0] w1 fun e w2 => ∃ (T : TypeId) (q : Value) (m : Nat), e = .returned (.tuple #[.agg #[.iface T q, .int .i32 0], .int .i64 (m : Int)]) ∧ Tr w2 (fun _ => True) ⟨T, q, 0⟩ (idsIn code 0 (te code len0 len0 1 0)) ∧ Below w1.heap.size w1 w2) := by
    show ∀ w1 : World, _
    intro w1 hc1
    refine (build code len0 (some ⟨w.heap.size, 0, none⟩) len0 hbig len0 0 w1 hc1 hpos (by omega)).mono ?_
    rintro _ w2 ⟨T, q, rfl, htr, hb2⟩
    exact ⟨T, q, _, rfl, by rw [← HPR.out]; exact htr.mono (fun _ _ _ => trivial), hb2⟩
  clear HPR
  generalize ht : te code len0 len0 1 0 = t at *
  have HT := Lib.hid ht
  clear ht
  go_enter Try.func3, Try.ntmps3
  go_wp2_with (first | (go_at_call 5; (with_reducible refine (anyBytes a0 len0 cap0 w hmx).mono ?_); rintro _ _ ⟨b, rfl, rfl⟩; cases b) | (go_at_call 6; (with_reducible refine (clone a0 len0 cap0 code w HC0.out hpos hbig).mono ?_); rintro _ w1 ⟨rfl, hcd, hb1⟩; have HC1 := Lib.hid hcd; have HB1 := Lib.hid hb1; clear hcd hb1) | (go_at_call 7; (with_reducible refine (HBD.out w1 HC1.out).mono ?_); rintro _ w2 ⟨T, q, m, rfl, htr, hb2⟩; have HTR := Lib.hid htr; have HB2 := Lib.hid hb2; have HC2 := Lib.hid (HC1.out.below hb2); clear htr hb2) | (go_at_call 8; (with_reducible refine (HVS.out w2 T q HTR.out).mono ?_); rintro _ w4 ⟨rfl, v1, v2, hcb, hb4⟩; have HCB := Lib.hid hcb; have HB4 := Lib.hid hb4; have HC4 := Lib.hid (HC2.out.below hb4); clear hcb hb4) | (go_at_call 10; (with_reducible refine (treeEnd (some ⟨w.heap.size, 0, none⟩) len0 len0 code w4 HC4.out hpos hbig).mono ?_); rintro _ _ ⟨rfl, rfl⟩; rw [HT.out]))
  · go_ret
    exact ⟨rfl, Below.refl _ _⟩
  have HBW : Hid (Below w.heap.size w w4) := (HB1.out.trans (HB2.out.mono HB1.out.size)).trans (HB4.out.mono (Nat.le_trans HB1.out.size HB2.out.size))
  have b1 := HCB.out.b1
  have b2 := HCB.out.b2
  have y1 : w4.cell? ⟨w2.heap.size + 1, 0, none⟩ = some v1 := b1.cell 0
  have y2 : w4.cell? ⟨w2.heap.size + 1 + 1, 0, none⟩ = some v2 := b2.cell 0
  obtain ⟨p1, c1, rfl⟩ := own_form HCB.out.o1
  obtain ⟨p2, c2, rfl⟩ := own_form HCB.out.o2
  have hln := HLN.out
  clear b1 b2 HBD HVS HTR HC2 HC1 HC0 HB1 HB2 HB4
  go_loopw [8, 9] (fun s8 s9 wr => ∃ i : Nat, i ≤ t ∧ s9 = .int .i64 i ∧ s8 = .int .i64 ((idsIn code 0 i).length : Nat) ∧ w4 = wr) (fun _ s9 _ => t - (intOf s9).toNat)
  case atStart => exact ⟨0, Nat.zero_le _, rfl, by rw [ids_nil]; rfl, rfl⟩
  case round =>
    obtain ⟨i, hi, rfl, rfl, rfl⟩ := hrel
    by_cases hit : i < t
    · obtain ⟨b, off, hbo, hblt, hcell⟩ := HC4.out.at_ hpos
      obtain ⟨rfl, rfl⟩ : w.heap.size = b ∧ 0 = off := by simpa using hbo
      have ci : w4.cell? ⟨w.heap.size, i, none⟩ = some (.int .u8 (code i : Int)) := by have := hcell i (by omega); simpa using this
      have hc256 := HC4.out.lt i (by omega)
      clear hcell hbo
      by_cases hid : code i % 4 = 1
      · obtain ⟨e1, e2, e3⟩ := ids_len_at code hit hid
        have hpp : 0 < (idsIn code 0 t).length := by omega
        obtain ⟨g1, c1', h1, _⟩ := HCB.out.o1.form (by simpa using hpp)
        obtain ⟨g2, c2', h2, _⟩ := HCB.out.o2.form (by simpa using hpp)
        obtain ⟨rfl, rfl⟩ : p1 = some ⟨g1, 0, none⟩ ∧ c1 = c1' := by simpa using h1
        obtain ⟨rfl, rfl⟩ : p2 = some ⟨g2, 0, none⟩ ∧ c2 = c2' := by simpa using h2
        have z1 := HCB.out.o1.cellAt (idsIn code 0 i).length (by omega)
        have z2 := HCB.out.o2.cellAt (idsIn code 0 i).length (by omega)
        rw [List.getElem?_map, e1] at z1 z2
        simp only [Option.map_some] at z1 z2
        have E3 := Lib.hid e3
        clear e1 e3 h1 h2
        generalize (idsIn code 0 i).length = k at *
        generalize code i = c at *
        have e4 : (c : Int) % 4 = 1 := by omega
        go_wp2
        exact ⟨⟨i + 1, by omega, by go_num, by rw [E3.out]; go_num, by first | rfl | trivial⟩, by simp [intOf]; omega⟩
      · have E3 := Lib.hid (ids_len_no code hid)
        have hne : ¬ (code i : Int) % 4 = 1 := by omega
        generalize hk : (idsIn code 0 i).length = k at *
        generalize code i = c at *
        go_wp2
        exact ⟨⟨i + 1, by omega, by go_num, by rw [E3.out], by first | rfl | trivial⟩, by simp [intOf]; omega⟩
    · obtain rfl : i = t := by omega
      go_wp2
      go_ret
      exact ⟨by simp, HBW.out⟩
end Go.Proofs.Ytnflgpcbdjkpfaa.fnForEachIdentifierBindingVisitsIdentifiersInPreorder
