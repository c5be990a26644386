import Derived.Test.YtocnfapldcjilaaGa
import Derived.Test.YtocnfapldcjilaaGb
namespace Go.Proofs.Ytocnfapldcjilaa.fnParseGlobPatternInvertsToString
open Go.ChangeShapes Go.WideShapes Go.ChangeAt Go.RowKit
set_option linter.unusedVariables false

theorem strsOf {H : Prop} (h : Hid H) : H := h.out
theorem wv_int {zs : List ByteArray} {cs : List Int} {n k : Nat} (g : Good zs cs n k) (h : k + 1 < n) : Wd cs k = ((wv cs n k : Nat) : Int) := by
  unfold wv; rw [if_pos h]
  rcases g.wild h with q | q <;> rw [q] <;> rfl
theorem wv_last {cs : List Int} {n k : Nat} (h : ¬ k + 1 < n) : wv cs n k = 0 := by unfold wv; rw [if_neg h]
theorem pl_getD {zs : List ByteArray} {cs : List Int} {n i : Nat} (h : i < n) : (pl zs cs n n).getD (i * 2) (.bool false) = .string (Pf zs i) ∧ (pl zs cs n n).getD (i * 2 + 1) (.bool false) = .int .u8 (wv cs n i) := by
  obtain ⟨h1, h2⟩ := pl_at zs cs n n i h
  rw [List.getD_eq_getElem?_getD, List.getD_eq_getElem?_getD, h1, h2]
  exact ⟨rfl, rfl⟩
theorem ptOf {w wr : World} {zs : List ByteArray} {cs : List Int} {n : Nat} (h : Cl w wr (n * 2) (n * 2) (pl zs cs n n)) : Pt wr w.heap.size zs cs n :=
  ⟨h.size, fun i hi => ⟨by rw [h.done (i * 2) (by omega), (pl_getD hi).1], by rw [h.done (i * 2 + 1) (by omega), (pl_getD hi).2]⟩⟩
set_option maxRecDepth 100000 in
set_option maxHeartbeats 8000000 in
theorem walk (a0 : Option Addr) (len0 cap0 : Nat) (z0 : List ByteArray) (a1 : Option Addr) (len1 cap1 : Nat) (z1 : List Int) (w : World) (w0 : IsStrs w a0 len0 cap0 z0) (w1 : IsInts .u8 w a1 len1 cap1 z1) :
    Calls Try.prog 3 #[.slice a0 len0 cap0, .slice a1 len1 cap1] w fun e w' => e = .returned (.bool true) ∧ Below w.heap.size w w' := by
  obtain ⟨i0, hi, hz0, hz1, hz2⟩ := info_parts info32
  have hl0 : len0 ≤ 9223372036854775807 := by have := w0.1.2.1; have := w0.1.2.2.1; unfold maxLen at this; omega
  have hl1 : len1 ≤ 9223372036854775807 := by have := w1.1.2.1; have := w1.1.2.2.1; unfold maxLen at this; omega
  have W0 := Lib.hid w0
  have W1 := Lib.hid w1
  clear w0 w1
  go_enter Try.func3, Try.ntmps3
  go_wp2_with fail
  refine (zz5 _ _ _ _ _ _ z0 _ W0.out hl0 hl1).mono ?_
  rintro e wx ⟨⟨v, rfl⟩, hwx⟩
  obtain rfl := hwx.symm
  cases v with
  | false => go_wp2_with fail
             go_ret
             exact ⟨rfl, Below.refl _ _⟩
  | true =>
    by_cases q0 : len0 ≤ 65536
    · by_cases q1 : len1 ≤ 65536
      · go_wp2_with fail
        refine (bytes6 _ _ _ _ _ _ z0 _ W0.out q0 q1).mono ?_
        rintro e wx ⟨⟨nb, rfl, hnb⟩, hwx⟩
        obtain rfl := hwx.symm
        obtain ⟨hb1, hb2⟩ := hnb
        by_cases q2 : nb ≤ 1048576
        · have hsum := hb2 q2
          clear hb2
          go_wp2_with fail
          refine (cl7 _ _ _ z0 _ W0.out (by omega)).mono ?_
          rintro e w2 ⟨a', cap', rfl, hs2, -, hB2⟩
          have w1' := W1.out.1.below (Below.mono hB2 (Nat.le_refl _))
          have W1' : Hid (IsInts .u8 w2 a1 len1 cap1 z1) := ⟨w1', W1.out.2⟩
          have HS2 := Lib.hid hs2
          have HB2 := Lib.hid hB2
          clear w1' hs2 hB2 W0 W1
          go_wp2_with fail
          refine (cl8 _ _ _ z1 _ W1'.out (by omega)).mono ?_
          rintro e w3 ⟨a1', cap1', rfl, hs3, -, hB3⟩
          have HS3 := Lib.hid hs3
          have HS2' : Hid (IsStrs w3 a' len0 cap' z0) := HS2.out.below hB3
          have HB3 : Hid (Below w.heap.size w w3) := HB2.out.trans (hB3.mono HB2.out.size)
          clear hs3 hB3 HS2 HB2 W1'
          go_wp2_with fail
          refine (min9 _ _ _ _ _ _ _ (by omega) (by omega)).mono ?_
          rintro e wx ⟨rfl, hwx⟩
          obtain rfl := hwx.symm
          have hn0 : (if len1 < len0 then len1 else len0) ≤ len0 := by split <;> omega
          have hn1 : (if len1 < len0 then len1 else len0) ≤ len1 := by split <;> omega
          generalize (if len1 < len0 then len1 else len0) = n at *
          go_wp2_with fail
          refine (well10 _ _ _ _ _ _ n z0 z1 _ HS2'.out HS3.out hn0 hn1 (by omega)).mono ?_
          rintro e wx ⟨⟨v, rfl, hv⟩, hwx⟩
          obtain rfl := hwx.symm
          cases v with
          | false =>
            clear hv
            go_wp2_with fail
            go_ret
            exact ⟨rfl, HB3.out⟩
          | true =>
            have HW := Lib.hid (hv rfl)
            have hpos := HW.out.1
            have hsz : sz z0 n ≤ 1048576 := Nat.le_trans (sz_mono z0 n len0 hn0) hsum
            have hmk : ∀ u : World, (Instr.makeSlice 29 (.int .i64 (n : Int)) (.int .i64 (n : Int))).run Try.prog u =
                .ok (.slice (some ⟨u.heap.size, 0, none⟩) n n) (u.alloc (.cells (madeCells (Value.agg #[.string ByteArray.empty, .int .u8 0]).cells (n * 2)) 32)) := fun u => by
              have q := run_make (P := Try.prog) u 29 32 i0 (.agg #[.string ByteArray.empty, .int .u8 0]) Try.underlying29 hi hz0 .i64 .i64 (n : Int) (n : Int) (by omega) (Int.le_refl _) (by rw [hz2]; omega) (by omega)
              simpa [hz1] using q
            have HCl := Lib.hid (Cl.start w3 (n * 2) (.agg #[.string ByteArray.empty, .int .u8 0]) 32 (pl z0 z1 n n))
            obtain ⟨b, off, rfl, hb, hcS⟩ := HS2'.out.at (by omega)
            obtain ⟨b2, off2, rfl, hb2, hcW⟩ := HS3.out.at (by omega)
            have HCS := Lib.hid hcS
            have HCW := Lib.hid hcW
            clear hv hi hz0 hz1 hz2 hcS hcW HS2' HS3
            go_wp2_with fail
            go_loopw [7] (fun i wr' => ∃ (k : Nat) (wr : World), wr = wr' ∧ i = .int .i64 k ∧ k ≤ n ∧ Hid (Cl w3 wr (n * 2) (k * 2) (pl z0 z1 n n))) (fun i _ => n - (intOf i).toNat)
            case atStart => exact ⟨0, _, rfl, rfl, Nat.zero_le _, by rw [Nat.zero_mul]; exact HCl.out⟩
            case round =>
              clear HCl hmk
              obtain ⟨k, wr, rfl, rfl, hk, HC⟩ := hrel
              by_cases hlt : k < n
              · have hcS : wr.cell? ⟨b, off + k, none⟩ = some (.string (Pf z0 k)) := by rw [HC.out.below.cell (p := ⟨b, off + k, none⟩) hb]; exact HCS.out k (by omega)
                obtain ⟨u0, hu0⟩ := HC.out.some (k * 2) (by omega)
                obtain ⟨u1, hu1⟩ := HC.out.some (k * 2 + 1) (by omega)
                have hf0 := HC.out.free (k * 2)
                have hf1 := HC.out.free (k * 2 + 1)
                have HSt : Hid (Cl w3 ((wr.setCell ⟨w3.heap.size, k * 2, none⟩ (.string (Pf z0 k))).setCell ⟨w3.heap.size, k * 2 + 1, none⟩ (.int .u8 (wv z1 n k))) (n * 2) ((k + 1) * 2) (pl z0 z1 n n)) := by
                  have s1 := HC.out.step (by omega) _ (pl_getD hlt).1.symm
                  have s2 := s1.step (by omega) _ (pl_getD hlt).2.symm
                  rw [show (k + 1) * 2 = k * 2 + 1 + 1 by omega]
                  exact s2
                by_cases hk1 : k + 1 < n
                · have hcW : wr.cell? ⟨b2, off2 + k, none⟩ = some (.int .u8 (wv z1 n k)) := by
                    rw [HC.out.below.cell (p := ⟨b2, off2 + k, none⟩) hb2, ← wv_int (HW.out.2 k hlt) hk1]; exact HCW.out k (by omega)
                  generalize Pf z0 k = x at *
                  generalize wv z1 n k = v at *
                  clear HC
                  go_wp2_with fail
                  exact ⟨⟨k + 1, _, rfl, by go_num, by omega, HSt⟩, by simp [intOf]; omega⟩
                · have hwl := wv_last (cs := z1) hk1
                  rw [hwl] at HSt
                  generalize Pf z0 k = x at *
                  clear HC hwl
                  go_wp2_with fail
                  exact ⟨⟨k + 1, _, rfl, by go_num, by omega, HSt⟩, by simp [intOf]; omega⟩
              · obtain rfl : k = n := by omega
                have HP := Lib.hid (ptOf HC.out)
                have HBr : Hid (Below w.heap.size w wr) := HB3.out.trans (HC.out.below.mono HB3.out.size)
                have hlt3 := HC.out.size
                clear HC hlt
                go_wp2_with fail
                refine (str12 _ _ z0 z1 k HW.out (by omega) hsz _ HP.out).mono ?_
                rintro e w4 ⟨rfl, hB4⟩
                have HP4 := Lib.hid (HP.out.below hB4 hlt3)
                have HB4 : Hid (Below w.heap.size w w4) := HBr.out.trans (hB4.mono HBr.out.size)
                have hlt4 : w3.heap.size < w4.heap.size := by have := hB4.size; omega
                clear hB4 HP HBr hlt3
                have hfl := fw_len HW.out.2 k (Nat.le_refl _)
                go_wp2_with fail
                refine (parse11 z0 z1 k _ HW.out (by rw [tx_all]) (by omega) (by rw [← len_tl]; show (fw z0 z1 k k).length ≤ _; omega) _).mono ?_
                rintro e w5 ⟨v, rfl, hown, hB5⟩
                have HP5 := Lib.hid (HP4.out.below hB5 hlt4)
                have HB5 : Hid (Below w.heap.size w w5) := HB4.out.trans (hB5.mono HB4.out.size)
                have hg := hown.2
                rcases hg with ⟨_, h0⟩ | ⟨g, cap, cur, rfl, hbase, hhe, _⟩
                · omega
                · have hgl : g < w5.heap.size := (Array.getElem?_eq_some_iff.1 hhe).1
                  have HPg := Lib.hid (Pt.own hown hgl)
                  clear hown hB5 hhe HP4 HB4 hfl
                  go_wp2_with fail
                  refine (equal13 _ _ _ _ z0 z1 k HW.out (by omega) _ HPg.out HP5.out).mono ?_
                  rintro e w6 ⟨rfl, hB6⟩
                  have HB6 : Hid (Below w.heap.size w w6) := HB5.out.trans (hB6.mono HB5.out.size)
                  clear hB6
                  go_wp2_with fail
                  go_ret
                  exact ⟨rfl, HB6.out⟩
        · go_wp2_with fail
          go_ret
          exact ⟨rfl, Below.refl _ _⟩
      · go_wp2_with fail
        go_ret
        exact ⟨rfl, Below.refl _ _⟩
    · go_wp2_with fail
      go_ret
      exact ⟨rfl, Below.refl _ _⟩
end Go.Proofs.Ytocnfapldcjilaa.fnParseGlobPatternInvertsToString
