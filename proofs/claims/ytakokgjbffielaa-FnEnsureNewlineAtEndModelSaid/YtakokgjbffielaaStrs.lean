/-
  Contracts of the small functions over slices of strings. No condition.
-/
import Derived.Test.YtakokgjbffielaaOwn
import Derived.Test.YtakokgjbffielaaProg
import Derived.WalkSmall
namespace Go.Proofs.Ytakokgjbffielaa
open Go.ChangeShapes Go.WideShapes Go.ChangeAt Go.RowKit
set_option linter.unusedVariables false

theorem IsStrs.at {w : World} {a : Option Addr} {len cap : Nat} {zs : List ByteArray} (h : IsStrs w a len cap zs) (h0 : 0 < len) :
    ∃ b off, a = some ⟨b, off, none⟩ ∧ b < w.heap.size ∧ ∀ i, i < len → w.cell? ⟨b, off + i, none⟩ = some (.string (zs.getD i ByteArray.empty)) := by
  obtain ⟨⟨h1, _, _, _, h5⟩, _⟩ := h
  obtain ⟨b, off, e, hb, hc⟩ := h5 h0
  rw [List.length_map] at h1
  exact ⟨b, off, e, hb, fun i hi => by rw [hc i hi, getD_map_str _ _ (by omega)]⟩
theorem IsStrs.small {w : World} {a : Option Addr} {len cap : Nat} {zs : List ByteArray} (h : IsStrs w a len cap zs) (i : Nat) : (zs.getD i ByteArray.empty).size ≤ 9223372036854775807 := by
  obtain ⟨_, hw⟩ := h
  by_cases hi : i < zs.length
  · have := hw _ (show zs.getD i ByteArray.empty ∈ zs by rw [List.getD_eq_getElem?_getD, List.getElem?_eq_getElem hi]; simp)
    simpa [maxLen] using this
  · rw [List.getD_eq_getElem?_getD, List.getElem?_eq_none (Nat.le_of_not_lt hi)]; simp
theorem IsStrs.below {w w' : World} {a : Option Addr} {len cap : Nat} {zs : List ByteArray} (h : IsStrs w a len cap zs) (hb : Below w.heap.size w w') : IsStrs w' a len cap zs := ⟨h.1.below hb, h.2⟩
theorem IsStrs.len {w : World} {a : Option Addr} {len cap : Nat} {zs : List ByteArray} (h : IsStrs w a len cap zs) : zs.length = len := by have := h.1.1; rwa [List.length_map] at this
theorem str_beq (a b : ByteArray) : (a.toList == b.toList) = decide (a = b) := by
  have e : ∀ x : ByteArray, x.toList = x.data.toList := fun x => by rw [ByteArray.toList_eq]
  by_cases h : a = b
  · subst h; simp
  · rw [decide_eq_false h, e, e]
    have : ¬ a.data.toList = b.data.toList := fun q => h (ByteArray.ext (Array.toList_inj.1 q))
    simpa using this
set_option maxHeartbeats 1000000 in
theorem strBytes (a : Option Addr) (len cap : Nat) (zs : List ByteArray) (w : World) (h : IsStrs w a len cap zs) (hl : len ≤ 1048576) :
    Calls Try.prog 23 #[.slice a len cap] w fun e w' => (∃ n : Nat, e = .returned (.int .i64 n) ∧ n ≤ 1048577) ∧ w' = w := by
  have HH := Lib.hid h
  clear h
  go_enter Try.func23, Try.ntmps23
  go_wp2
  go_loopw [3, 4] (fun t i wr => w = wr ∧ ∃ k n : Nat, k ≤ len ∧ i = .int .i64 k ∧ t = .int .i64 n ∧ n ≤ 1048576) (fun _ i _ => len - (intOf i).toNat)
  case atStart => exact ⟨by trivial, 0, 0, Nat.zero_le _, rfl, rfl, by omega⟩
  case round =>
    obtain ⟨rfl, k, n, hk, rfl, rfl, hn⟩ := hrel
    by_cases hlt : k < len
    · obtain ⟨b, off, rfl, hb, hcell⟩ := HH.out.at (by omega)
      have hcur := hcell k hlt
      have hsm := HH.out.small k
      generalize zs.getD k ByteArray.empty = x at *
      clear hcell
      by_cases hx : x.size ≤ 1048576
      · by_cases hx2 : n + (16 + x.size) ≤ 1048576
        · go_wp2
          refine ⟨⟨by trivial, k + 1, n + (16 + x.size), by omega, by go_num, by go_num, hx2⟩, by simp [intOf]; omega⟩
        · go_wp2
          go_ret
          exact ⟨⟨1048577, rfl, by omega⟩, rfl⟩
      · go_wp2
        go_ret
        exact ⟨⟨1048577, rfl, by omega⟩, rfl⟩
    · have : k = len := by omega
      subst this
      go_wp2
      go_ret
      exact ⟨⟨n, rfl, by omega⟩, rfl⟩
set_option maxHeartbeats 1000000 in
theorem arraysEq (a b : Option Addr) (la ca lb cb : Nat) (za zb : List ByteArray) (w : World) (ha : IsStrs w a la ca za) (hb : IsStrs w b lb cb zb) (hla : la ≤ 4194304) (hlb : lb ≤ 4194304) :
    Calls Try.prog 25 #[.slice a la ca, .slice b lb cb] w fun e w' => e = .returned (.bool (decide (za = zb))) ∧ w' = w := by
  have l1 := ha.len
  have l2 := hb.len
  have HA := Lib.hid ha
  have HB := Lib.hid hb
  clear ha hb
  by_cases hl : la = lb
  · subst hl
    go_enter Try.func25, Try.ntmps25
    go_wp2
    go_loopw [14] (fun i wr => w = wr ∧ ∃ k : Nat, k ≤ la ∧ i = .int .i64 k ∧ ∀ j, j < k → za.getD j ByteArray.empty = zb.getD j ByteArray.empty) (fun i _ => la - (intOf i).toNat)
    case atStart => exact ⟨by trivial, 0, Nat.zero_le _, rfl, by omega⟩
    case round =>
      obtain ⟨rfl, k, hk, rfl, hsame⟩ := hrel
      have HS := Lib.hid hsame
      clear hsame
      by_cases hlt : k < la
      · obtain ⟨b1, o1, rfl, hb1, hc1⟩ := HA.out.at (by omega)
        obtain ⟨b2, o2, rfl, hb2, hc2⟩ := HB.out.at (by omega)
        have hx := hc1 k hlt
        have hy := hc2 k hlt
        clear hc1 hc2
        by_cases he : za.getD k ByteArray.empty = zb.getD k ByteArray.empty
        · have HE : Hid (∀ j, j < k + 1 → za.getD j ByteArray.empty = zb.getD j ByteArray.empty) := fun j hj => by
            by_cases e : j = k
            · subst e; exact he
            · exact HS.out j (by omega)
          rw [← he] at hy
          generalize za.getD k ByteArray.empty = x at *
          clear he HS
          go_wp2
          exact ⟨⟨by trivial, k + 1, by omega, by go_num, HE.out⟩, by simp [intOf]; omega⟩
        · have hq := str_beq (za.getD k ByteArray.empty) (zb.getD k ByteArray.empty)
          rw [decide_eq_false he] at hq
          have HE := Lib.hid (show ¬ za = zb from fun q => he (by rw [q]))
          clear he HS
          generalize za.getD k ByteArray.empty = x at *
          generalize zb.getD k ByteArray.empty = y at *
          go_wp2
          go_ret
          refine ⟨?_, rfl⟩
          rw [decide_eq_false HE.out]
          rfl
      · have : k = la := by omega
        subst this
        go_wp2
        go_ret
        refine ⟨?_, rfl⟩
        rw [decide_eq_true (List.ext_getElem (by omega) fun i h1 h2 => by
          have := HS.out i (by omega)
          simpa [List.getD_eq_getElem?_getD, List.getElem?_eq_getElem h1, List.getElem?_eq_getElem h2] using this)]
        rfl
  · go_enter Try.func25, Try.ntmps25
    go_wp2
    go_ret
    refine ⟨?_, rfl⟩
    rw [decide_eq_false (fun q => hl (by rw [← l1, ← l2, q]))]
    rfl
/-- A copy of a slice, with no room behind it. -/
def CopiedX (Q : World → Option Addr → Nat → Nat → Prop) (a : Option Addr) (len : Nat) (w : World) (e : Ending) (w' : World) : Prop :=
  ∃ a', e = .returned (.slice a' len len) ∧ Q w' a' len len ∧ (a = none ↔ a' = none) ∧ Below w.heap.size w w'
theorem cloneStrs_info : (Try.prog.info? 9).map (fun i => (i.zero, i.size, i.bytes)) = some (some (Value.string ByteArray.empty), 1, 16) := by kernel_rfl
set_option maxRecDepth 100000 in
set_option maxHeartbeats 1000000 in
theorem cloneStrs (a : Option Addr) (len cap : Nat) (zs : List ByteArray) (w : World) (h : IsStrs w a len cap zs) (hl : len ≤ 4194304) :
    Calls Try.prog 24 #[.slice a len cap] w (CopiedX (fun w' a' l c => IsStrs w' a' l c zs) a len w) := by
  obtain ⟨i0, hi, hz0, hz1, hz2⟩ := info_parts cloneStrs_info
  have hnil := fun (W : World) (p : Option Addr) (n c n' c' : Nat) => Lib.run_eql_slice_nil (P := Try.prog) W 22 9 p n c n' c' Try.underlying22
  obtain ⟨⟨h1, h2, hm, h4, h5⟩, hw⟩ := h
  rw [List.length_map] at h1
  cases a with
  | none =>
    obtain rfl : cap = 0 := h4 rfl
    obtain rfl : len = 0 := by omega
    obtain rfl : zs = [] := by simpa using h1
    clear h1 h2 hm h4 h5 hw
    go_enter Try.func24, Try.ntmps24
    go_wp2
    go_ret
    exact ⟨none, rfl, ⟨⟨rfl, Nat.le_refl _, Nat.zero_le _, fun _ => rfl, fun h => absurd h (by omega)⟩, by simp⟩, Iff.rfl, Below.refl _ _⟩
  | some x =>
    have hmk : ∀ u : World, (Instr.makeSlice 22 (.int .i64 (len : Int)) (.int .i64 (len : Int))).run Try.prog u =
        .ok (.slice (some ⟨u.heap.size, 0, none⟩) len len) (u.alloc (.cells (madeCells (Value.string ByteArray.empty).cells len) 9)) := fun u => by
      have q := run_make (P := Try.prog) u 22 9 i0 (Value.string ByteArray.empty) Try.underlying22 hi hz0 .i64 .i64 (len : Int) (len : Int) (by omega) (Int.le_refl _) (by rw [hz2]; omega) (by omega)
      simpa [hz1] using q
    have S0 := Cl.start w len (Value.string ByteArray.empty) 9 (zs.map Value.string)
    have HS := Lib.hid h5
    have HM := Lib.hid hm
    have HL := Lib.hid h1
    have HW := Lib.hid hw
    clear h1 h4 h5 hm hi hz0 hz1 hz2 hw
    go_enter Try.func24, Try.ntmps24
    go_wp2
    go_loopw [4] (fun i wr => ∃ k : Nat, k ≤ len ∧ i = .int .i64 k ∧ Cl w wr len k (zs.map Value.string)) (fun i _ => len - (intOf i).toNat)
    case atStart => exact ⟨0, Nat.zero_le _, rfl, S0⟩
    case round =>
      clear S0 hmk hnil
      obtain ⟨k, hk, rfl, hc⟩ := hrel
      by_cases hlt : k < len
      · obtain ⟨b, off, e, hb, hcell⟩ := HS.out (by omega)
        cases e
        have hv := hcell k hlt
        rw [getD_map_str _ _ (by rw [HL.out]; exact hlt)] at hv
        have hcur : wr.cell? ⟨b, off + k, none⟩ = some (.string (zs.getD k ByteArray.empty)) := by rw [hc.below.cell (p := ⟨b, off + k, none⟩) hb]; exact hv
        obtain ⟨u, hu⟩ := hc.some k hlt
        have hf := hc.free k
        have hst := hc.step hlt (.string (zs.getD k ByteArray.empty)) (by rw [getD_map_str _ _ (by rw [HL.out]; exact hlt)])
        have HST := Lib.hid hst
        clear hst hcell hv hc HS
        go_wp2
        refine ⟨⟨k + 1, by omega, by go_num, ?_⟩, by simp [intOf]; omega⟩
        have q := HST.out
        rw [List.getD_eq_getElem?_getD] at q
        exact q
      · have : k = len := by omega
        subst this
        go_wp2
        go_ret
        have hs := hc.isSlice (by rw [List.length_map]; exact HL.out) (by have := HM.out; omega)
        exact ⟨_, rfl, ⟨hs, HW.out⟩, by simp, hc.below⟩
end Go.Proofs.Ytakokgjbffielaa
