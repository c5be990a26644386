/-
  What the law FnStringCompareUCS2Exact does, for every input. No condition.
-/
import Derived.Test.YtnhjmhomkmfopaaClones
import Derived.Deep.QuietTactic
import Derived.BigQuiet
import Derived.WalkSmall
namespace Go.Proofs.Ytnhjmhomkmfopaa.fnStringCompareUCS2Exact
open Go.ChangeShapes Go.WideShapes Go.ChangeAt Go.RowKit
set_option linter.unusedVariables false

/-- The first difference, else the difference of the lengths. -/
def cmp : List Int → List Int → Int
  | x :: xs, y :: ys => if x - y = 0 then cmp xs ys else x - y
  | xs, ys => (xs.length : Int) - ys.length

theorem cmp_step (a b : List Int) (i : Nat) (ha : i < a.length) (hb : i < b.length) :
    cmp (a.drop i) (b.drop i) = if a.getD i 0 - b.getD i 0 = 0 then cmp (a.drop (i + 1)) (b.drop (i + 1)) else a.getD i 0 - b.getD i 0 := by
  rw [List.drop_eq_getElem_cons ha, List.drop_eq_getElem_cons hb]
  simp [cmp, List.getD_eq_getElem?_getD, List.getElem?_eq_getElem ha, List.getElem?_eq_getElem hb]
theorem cmp_nil_r (xs : List Int) : cmp xs [] = (xs.length : Int) := by cases xs <;> simp [cmp]
theorem cmp_end (a b : List Int) (i : Nat) (h : i = a.length ∨ i = b.length) (ha : i ≤ a.length) (hb : i ≤ b.length) : cmp (a.drop i) (b.drop i) = (a.length : Int) - b.length := by
  rcases h with h | h
  · rw [List.drop_eq_nil_of_le (show a.length ≤ i by omega)]
    simp [cmp]; omega
  · rw [List.drop_eq_nil_of_le (show b.length ≤ i by omega)]
    rw [cmp_nil_r, List.length_drop]; omega

/-- One element of a slice of integers, in the walk's spelling. -/
theorem ints_cell {k : IntKind} {w : World} {a : Option Addr} {len cap : Nat} {zs : List Int} (h : IsInts k w a len cap zs) (h0 : 0 < len) :
    ∃ b off, a = some ⟨b, off, none⟩ ∧ b < w.heap.size ∧ ∀ i, i < len → w.cell? ⟨b, off + i, none⟩ = some (.int k (zs.getD i 0)) := by
  obtain ⟨⟨h1, _, _, _, h5⟩, _⟩ := h
  obtain ⟨b, off, e, hb, hc⟩ := h5 h0
  rw [List.length_map] at h1
  exact ⟨b, off, e, hb, fun i hi => by rw [hc i hi, getD_map_int _ _ _ (by omega)]⟩
theorem u16_bd {zs : List Int} (h : ∀ n ∈ zs, (Lit.int .u16 n).wf = true) (i : Nat) : 0 ≤ zs.getD i 0 ∧ zs.getD i 0 ≤ 65535 := by
  by_cases hi : i < zs.length
  · have := h (zs.getD i 0) (by simp [List.getD_eq_getElem?_getD, List.getElem?_eq_getElem hi])
    simpa [Lit.wf, IntKind.min, IntKind.max, IntKind.signed, IntKind.bits] using this
  · simp [List.getD_eq_getElem?_getD, List.getElem?_eq_none (Nat.le_of_not_lt hi)]

set_option maxRecDepth 100000 in
set_option maxHeartbeats 1000000 in
theorem c_cmp (a b : Option Addr) (la ca lb cb : Nat) (za zb : List Int) (w : World) (ha : IsInts .u16 w a la ca za) (hb : IsInts .u16 w b lb cb zb) (n : Nat)
    (hn : n = min la lb) (hla : la ≤ 4194304) (hlb : lb ≤ 4194304) :
    Calls Try.prog 25 #[.slice a la ca, .slice b lb cb] w fun e w' => e = .returned (.int .i64 (cmp za zb)) ∧ ∃ m, w' = w.drewN m := by
  have la' : za.length = la := by have := ha.1.1; rwa [List.length_map] at this
  have lb' : zb.length = lb := by have := hb.1.1; rwa [List.length_map] at this
  have H0 : cmp za zb = cmp (za.drop 0) (zb.drop 0) := rfl
  have HA := Lib.hid ha
  have HB := Lib.hid hb
  have HLA := Lib.hid la'
  have HLB := Lib.hid lb'
  have HN := Lib.hid hn
  have hn1 : n ≤ la := by omega
  have hn2 : n ≤ lb := by omega
  have HH0 := Lib.hid H0
  clear ha hb la' lb' hn H0
  by_cases hlt : la < lb
  · obtain rfl : n = la := by have := HN.out; omega
    go_enter Try.func25, Try.ntmps25
    go_wp2
    go_loopw [6] (fun i wr => ∃ k m : Nat, k ≤ n ∧ i = .int .i64 k ∧ wr = w.drewN m ∧ Hid (cmp za zb = cmp (za.drop k) (zb.drop k))) (fun i _ => n - (intOf i).toNat)
    case atStart => exact ⟨0, 0, Nat.zero_le _, rfl, rfl, HH0⟩
    case round =>
      obtain ⟨k, m, hk, rfl, rfl, hc⟩ := hrel
      by_cases hkn : k < n
      · obtain ⟨ba, oa, rfl, _, hca⟩ := ints_cell HA.out (by omega)
        obtain ⟨bb, ob, rfl, _, hcb⟩ := ints_cell HB.out (by omega)
        have ca1 := hca k (by omega)
        have cb1 := hcb k (by omega)
        have bx := u16_bd HA.out.2 k
        have byy := u16_bd HB.out.2 k
        have st := cmp_step za zb k (by rw [HLA.out]; omega) (by rw [HLB.out]; omega)
        generalize za.getD k 0 = x at ca1 bx st
        generalize zb.getD k 0 = y at cb1 byy st
        have STEP := Lib.hid st
        have i0 : (0 : Int) ≤ (k : Int) := by omega
        have i1 : (k : Int) < (n : Int) := by omega
        have i2 : (k : Int) < (lb : Int) := by omega
        clear hca hcb st
        by_cases hxy : x - y = 0
        · have t1 : (x - y != 0) = false := by simpa using hxy
          have NEXT : Hid (cmp za zb = cmp (za.drop (k + 1)) (zb.drop (k + 1))) := by
            have q := STEP.out
            rw [if_pos hxy] at q
            exact hc.out.trans q
          clear hxy hc STEP HA HB HLA HLB HH0 HN
          go_wp2
          go_quiet (fail)
          go_wp2
          refine ⟨⟨k + 1, _, by omega, by go_num, rfl, NEXT⟩, by simp [intOf]; omega⟩
        · have t1 : (x - y != 0) = true := by simpa using hxy
          have FIN : Hid (cmp za zb = x - y) := by
            have q := STEP.out
            rw [if_neg hxy] at q
            exact hc.out.trans q
          clear hxy hc STEP HA HB HLA HLB HH0 HN
          go_wp2
          go_quiet (fail)
          go_wp2
          go_ret
          exact ⟨by rw [FIN.out]; rfl, _, rfl⟩
      · obtain rfl : n = k := by omega
        have FIN : Hid (cmp za zb = (n : Int) - lb) := by
          have q := cmp_end za zb n (by have := HLA.out; have := HLB.out; omega) (by have := HLA.out; omega) (by have := HLB.out; omega)
          have q1 := HLA.out
          have q2 := HLB.out
          exact (hc.out.trans q).trans (by omega)
        clear hc HA HB HLA HLB HH0 HN
        go_wp2
        go_ret
        exact ⟨by rw [FIN.out]; rfl, _, rfl⟩
  · obtain rfl : n = lb := by have := HN.out; omega
    go_enter Try.func25, Try.ntmps25
    go_wp2
    go_loopw [6] (fun i wr => ∃ k m : Nat, k ≤ n ∧ i = .int .i64 k ∧ wr = w.drewN m ∧ Hid (cmp za zb = cmp (za.drop k) (zb.drop k))) (fun i _ => n - (intOf i).toNat)
    case atStart => exact ⟨0, 0, Nat.zero_le _, rfl, rfl, HH0⟩
    case round =>
      obtain ⟨k, m, hk, rfl, rfl, hc⟩ := hrel
      by_cases hkn : k < n
      · obtain ⟨ba, oa, rfl, _, hca⟩ := ints_cell HA.out (by omega)
        obtain ⟨bb, ob, rfl, _, hcb⟩ := ints_cell HB.out (by omega)
        have ca1 := hca k (by omega)
        have cb1 := hcb k (by omega)
        have bx := u16_bd HA.out.2 k
        have byy := u16_bd HB.out.2 k
        have st := cmp_step za zb k (by rw [HLA.out]; omega) (by rw [HLB.out]; omega)
        generalize za.getD k 0 = x at ca1 bx st
        generalize zb.getD k 0 = y at cb1 byy st
        have STEP := Lib.hid st
        have i0 : (0 : Int) ≤ (k : Int) := by omega
        have i1 : (k : Int) < (la : Int) := by omega
        have i2 : (k : Int) < (n : Int) := by omega
        clear hca hcb st
        by_cases hxy : x - y = 0
        · have t1 : (x - y != 0) = false := by simpa using hxy
          have NEXT : Hid (cmp za zb = cmp (za.drop (k + 1)) (zb.drop (k + 1))) := by
            have q := STEP.out
            rw [if_pos hxy] at q
            exact hc.out.trans q
          clear hxy hc STEP HA HB HLA HLB HH0 HN
          go_wp2
          go_quiet (fail)
          go_wp2
          refine ⟨⟨k + 1, _, by omega, by go_num, rfl, NEXT⟩, by simp [intOf]; omega⟩
        · have t1 : (x - y != 0) = true := by simpa using hxy
          have FIN : Hid (cmp za zb = x - y) := by
            have q := STEP.out
            rw [if_neg hxy] at q
            exact hc.out.trans q
          clear hxy hc STEP HA HB HLA HLB HH0 HN
          go_wp2
          go_quiet (fail)
          go_wp2
          go_ret
          exact ⟨by rw [FIN.out]; rfl, _, rfl⟩
      · obtain rfl : n = k := by omega
        have FIN : Hid (cmp za zb = (la : Int) - n) := by
          have q := cmp_end za zb n (by have := HLA.out; have := HLB.out; omega) (by have := HLA.out; omega) (by have := HLB.out; omega)
          have q1 := HLA.out
          have q2 := HLB.out
          exact (hc.out.trans q).trans (by omega)
        clear hc HA HB HLA HLB HH0 HN
        go_wp2
        go_ret
        exact ⟨by rw [FIN.out]; rfl, _, rfl⟩
theorem isInts_drewN {k : IntKind} {w : World} {a : Option Addr} {len cap : Nat} {zs : List Int} (h : IsInts k w a len cap zs) (m : Nat) : IsInts k (w.drewN m) a len cap zs :=
  ⟨h.1.below (below_drewN (Below.refl _ _) m), h.2⟩
theorem bytes_yes (a b : Option Addr) (la ca lb cb : Nat) (w : World) (h : la + lb ≤ 1048576) :
    Calls Try.prog 17 #[.slice a la ca, .slice b lb cb] w fun e w' => e = .returned (.bool true) ∧ w = w' := by
  go_enter Try.func17, Try.ntmps17
  go_wp2
  go_ret
  exact ⟨rfl, rfl⟩
theorem bytes_no (a b : Option Addr) (la ca lb cb : Nat) (w : World) (h : ¬ la + lb ≤ 1048576) (h1 : la ≤ 9223372036854775807) (h2 : lb ≤ 9223372036854775807) :
    Calls Try.prog 17 #[.slice a la ca, .slice b lb cb] w fun e w' => e = .returned (.bool false) ∧ w = w' := by
  go_enter Try.func17, Try.ntmps17
  go_wp2
  all_goals (go_ret; exact ⟨rfl, rfl⟩)
set_option maxRecDepth 100000 in
set_option maxHeartbeats 2000000 in
theorem main (a0 : Option Addr) (len0 cap0 : Nat) (z0 : List Int) (a1 : Option Addr) (len1 cap1 : Nat) (z1 : List Int) (w : World) (w0 : IsInts .u16 w a0 len0 cap0 z0) (w1 : IsInts .u16 w a1 len1 cap1 z1)
    (hs : len0 + len1 ≤ 1048576) (hl0 : len0 ≤ 262144) (hl1 : len1 ≤ 262144) (n : Nat) (hn : n = min len0 len1) :
    Calls Try.prog 5 #[.slice a0 len0 cap0, .slice a1 len1 cap1] w fun e w' => e = .returned (.bool true) ∧ Below w.heap.size w w' := by
  have W0 := Lib.hid w0
  have W1 := Lib.hid w1
  have hn0 : n ≤ len0 := by omega
  have hn1 : n ≤ len1 := by omega
  have HN := Lib.hid hn
  have HLA : Hid (z0.length = len0) := by have := w0.1.1; rwa [List.length_map] at this
  have HLB : Hid (z1.length = len1) := by have := w1.1.1; rwa [List.length_map] at this
  have END : Hid ((len0 : Int) - len1 = cmp (z0.drop n) (z1.drop n)) := by
    have q := cmp_end z0 z1 n (by have := HLA.out; have := HLB.out; omega) (by have := HLA.out; omega) (by have := HLB.out; omega)
    have q1 := HLA.out
    have q2 := HLB.out
    show _ = _
    omega
  clear w0 w1 hn
  go_enter Try.func5, Try.ntmps5
  go_wp2_with (go_at_call 17; refine (bytes_yes _ _ _ _ _ _ _ hs).mono ?_; rintro e w' ⟨rfl, rfl⟩)
  refine (cl18 a0 len0 cap0 z0 _ W0.out (by omega)).mono ?_
  rintro e w1 ⟨b0, c0, rfl, hA, _, hb1⟩
  have HA1 := Lib.hid hA
  have z1' := hb1.size
  clear hA
  go_wp2_with fail
  refine (cl18 a1 len1 cap1 z1 _ ⟨W1.out.1.below hb1, W1.out.2⟩ (by omega)).mono ?_
  rintro e w2 ⟨b1, c1, rfl, hB, _, hb2⟩
  have HA : Hid (IsInts .u16 w2 b0 len0 c0 z0) := ⟨HA1.out.1.below hb2, HA1.out.2⟩
  have HB := Lib.hid hB
  have hbel := (hb1.trans (hb2.mono z1'))
  clear hB HA1 W0 W1 hb1 hb2 z1'
  by_cases hlt : len1 < len0
  · obtain rfl : n = len1 := by have := HN.out; omega
    clear HN
    go_wp2
    go_loopw [6, 7] (fun v i wr => ∃ k m : Nat, k ≤ n ∧ i = .int .i64 ((k : Int) - 1) ∧ v = .int .i64 (cmp (z0.drop k) (z1.drop k)) ∧ wr = w2.drewN m) (fun _ i _ => (intOf i + 1).toNat)
    case atStart => exact ⟨n, 0, Nat.le_refl _, rfl, by rw [END.out], rfl⟩
    case round =>
      obtain ⟨k, m, hk, rfl, rfl, rfl⟩ := hrel
      cases k with
      | zero =>
        simp only [List.drop_zero]
        go_wp2_with (first | (go_at_call 19; go_in) | (go_at_call 25; refine (c_cmp _ _ _ _ _ _ z0 z1 _ (isInts_drewN HA.out _) (isInts_drewN HB.out _) _ rfl (by omega) (by omega)).mono ?_; rintro e w' ⟨rfl, m2, rfl⟩))
        go_ret
        exact ⟨by simp, below_drewN hbel _⟩
      | succ j =>
        have e : ((j + 1 : Nat) : Int) - 1 = (j : Int) := by omega
        simp only [e]
        obtain ⟨ba, oa, rfl, _, hca⟩ := ints_cell HA.out (by omega)
        obtain ⟨bb, ob, rfl, _, hcb⟩ := ints_cell HB.out (by omega)
        have ca1 := hca j (by omega)
        have cb1 := hcb j (by omega)
        have bx := u16_bd HA.out.2 j
        have byy := u16_bd HB.out.2 j
        have st := cmp_step z0 z1 j (by rw [HLA.out]; omega) (by rw [HLB.out]; omega)
        generalize z0.getD j 0 = x at ca1 bx st
        generalize z1.getD j 0 = y at cb1 byy st
        have STEP := Lib.hid st
        have i0 : (0 : Int) ≤ (j : Int) := by omega
        have i1 : (j : Int) < (len0 : Int) := by omega
        have i2 : (j : Int) < (n : Int) := by omega
        clear hca hcb st e
        by_cases hxy : x = y
        · have t1 : (x != y) = false := by simpa using hxy
          have NEXT : Hid (cmp (z0.drop (j + 1)) (z1.drop (j + 1)) = cmp (z0.drop j) (z1.drop j)) := by
            have q := STEP.out
            rw [if_pos (by omega)] at q
            exact q.symm
          clear hxy STEP END
          generalize cmp (z0.drop (j + 1)) (z1.drop (j + 1)) = old at *
          go_wp2
          go_quiet (fail)
          go_wp2
          exact ⟨⟨j, _, by omega, rfl, by rw [NEXT.out], rfl⟩, by simp [intOf]⟩
        · have t1 : (x != y) = true := by simpa using hxy
          have NEXT : Hid (x - y = cmp (z0.drop j) (z1.drop j)) := by
            have q := STEP.out
            rw [if_neg (by omega)] at q
            exact q.symm
          clear hxy STEP END
          generalize cmp (z0.drop (j + 1)) (z1.drop (j + 1)) = old at *
          go_wp2
          go_quiet (fail)
          go_wp2
          go_quiet (fail)
          go_wp2
          exact ⟨⟨j, _, by omega, rfl, by rw [NEXT.out], rfl⟩, by simp [intOf]⟩
  · obtain rfl : n = len0 := by have := HN.out; omega
    clear HN
    go_wp2
    go_loopw [6, 7] (fun v i wr => ∃ k m : Nat, k ≤ n ∧ i = .int .i64 ((k : Int) - 1) ∧ v = .int .i64 (cmp (z0.drop k) (z1.drop k)) ∧ wr = w2.drewN m) (fun _ i _ => (intOf i + 1).toNat)
    case atStart => exact ⟨n, 0, Nat.le_refl _, rfl, by rw [END.out], rfl⟩
    case round =>
      obtain ⟨k, m, hk, rfl, rfl, rfl⟩ := hrel
      cases k with
      | zero =>
        simp only [List.drop_zero]
        go_wp2_with (first | (go_at_call 19; go_in) | (go_at_call 25; refine (c_cmp _ _ _ _ _ _ z0 z1 _ (isInts_drewN HA.out _) (isInts_drewN HB.out _) _ rfl (by omega) (by omega)).mono ?_; rintro e w' ⟨rfl, m2, rfl⟩))
        go_ret
        exact ⟨by simp, below_drewN hbel _⟩
      | succ j =>
        have e : ((j + 1 : Nat) : Int) - 1 = (j : Int) := by omega
        simp only [e]
        obtain ⟨ba, oa, rfl, _, hca⟩ := ints_cell HA.out (by omega)
        obtain ⟨bb, ob, rfl, _, hcb⟩ := ints_cell HB.out (by omega)
        have ca1 := hca j (by omega)
        have cb1 := hcb j (by omega)
        have bx := u16_bd HA.out.2 j
        have byy := u16_bd HB.out.2 j
        have st := cmp_step z0 z1 j (by rw [HLA.out]; omega) (by rw [HLB.out]; omega)
        generalize z0.getD j 0 = x at ca1 bx st
        generalize z1.getD j 0 = y at cb1 byy st
        have STEP := Lib.hid st
        have i0 : (0 : Int) ≤ (j : Int) := by omega
        have i1 : (j : Int) < (n : Int) := by omega
        have i2 : (j : Int) < (len1 : Int) := by omega
        clear hca hcb st e
        by_cases hxy : x = y
        · have t1 : (x != y) = false := by simpa using hxy
          have NEXT : Hid (cmp (z0.drop (j + 1)) (z1.drop (j + 1)) = cmp (z0.drop j) (z1.drop j)) := by
            have q := STEP.out
            rw [if_pos (by omega)] at q
            exact q.symm
          clear hxy STEP END
          generalize cmp (z0.drop (j + 1)) (z1.drop (j + 1)) = old at *
          go_wp2
          go_quiet (fail)
          go_wp2
          exact ⟨⟨j, _, by omega, rfl, by rw [NEXT.out], rfl⟩, by simp [intOf]⟩
        · have t1 : (x != y) = true := by simpa using hxy
          have NEXT : Hid (x - y = cmp (z0.drop j) (z1.drop j)) := by
            have q := STEP.out
            rw [if_neg (by omega)] at q
            exact q.symm
          clear hxy STEP END
          generalize cmp (z0.drop (j + 1)) (z1.drop (j + 1)) = old at *
          go_wp2
          go_quiet (fail)
          go_wp2
          go_quiet (fail)
          go_wp2
          exact ⟨⟨j, _, by omega, rfl, by rw [NEXT.out], rfl⟩, by simp [intOf]⟩
theorem walk (a0 : Option Addr) (len0 cap0 : Nat) (z0 : List Int) (a1 : Option Addr) (len1 cap1 : Nat) (z1 : List Int) (w : World) (w0 : IsInts .u16 w a0 len0 cap0 z0) (w1 : IsInts .u16 w a1 len1 cap1 z1) :
    Calls Try.prog 5 #[.slice a0 len0 cap0, .slice a1 len1 cap1] w fun e w' => e = .returned (.bool true) ∧ Below w.heap.size w w' := by
  have m0 : len0 ≤ 9223372036854775807 := by have := w0.1.2.1; have := w0.1.2.2.1; unfold maxLen at this; omega
  have m1 : len1 ≤ 9223372036854775807 := by have := w1.1.2.1; have := w1.1.2.2.1; unfold maxLen at this; omega
  by_cases hs : len0 + len1 ≤ 1048576
  · by_cases hl : len0 ≤ 262144 ∧ len1 ≤ 262144
    · exact main a0 len0 cap0 z0 a1 len1 cap1 z1 w w0 w1 hs hl.1 hl.2 _ rfl
    · clear w0 w1
      go_enter Try.func5, Try.ntmps5
      go_wp2_with (go_at_call 17; refine (bytes_yes _ _ _ _ _ _ _ hs).mono ?_; rintro e w' ⟨rfl, rfl⟩)
      all_goals (go_ret; exact ⟨rfl, Below.refl _ _⟩)
  · clear w0 w1
    go_enter Try.func5, Try.ntmps5
    go_wp2_with (go_at_call 17; refine (bytes_no _ _ _ _ _ _ _ hs m0 m1).mono ?_; rintro e w' ⟨rfl, rfl⟩)
    go_ret
    exact ⟨rfl, Below.refl _ _⟩
end Go.Proofs.Ytnhjmhomkmfopaa.fnStringCompareUCS2Exact
