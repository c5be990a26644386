/-
  Contracts of the small functions over slices of strings. No condition.
-/
import Derived.Test.YtakokgjbffielaaFmtOwn
import Derived.Test.YtakokgjbffielaaFmtProg
import Derived.WalkSmall
namespace Go.Proofs.YtakokgjbffielaaFmt
open Go.ChangeShapes Go.WideShapes Go.ChangeAt Go.RowKit
set_option linter.unusedVariables false

def intOf : Value → Int
  | .int _ i => i
  | _ => 0
theorem IsStrs.at {w : World} {a : Option Addr} {len cap : Nat} {zs : List ByteArray} (h : IsStrs w a len cap zs) (h0 : 0 < len) :
    ∃ b off, a = some ⟨b, off, none⟩ ∧ b < w.heap.size ∧ ∀ i, i < len → w.cell? ⟨b, off + i, none⟩ = some (.string (zs.getD i ByteArray.empty)) := by
  obtain ⟨⟨h1, _, _, _, h5⟩, _⟩ := h
  obtain ⟨b, off, e, hb, hc⟩ := h5 h0
  rw [List.length_map] at h1
  exact ⟨b, off, e, hb, fun i hi => by rw [hc i hi, getD_map_str _ _ (by omega)]⟩
theorem IsStrs.small {w : World} {a : Option Addr} {len cap : Nat} {zs : List ByteArray} (h : IsStrs w a len cap zs) (i : Nat) : (zs.getD i ByteArray.empty).size ≤ 9223372036854775807 := by
  obtain ⟨_, hw⟩ := h
  by_cases hi : i < zs.length
  · have := hw _ (show zs.getD i ByteArray.empty ∈ zs by rw [List.getD_eq_getElem?_getD, List.getElem?_eq_getElem hi]; simp)
    simpa [maxLen] using this
  · rw [List.getD_eq_getElem?_getD, List.getElem?_eq_none (Nat.le_of_not_lt hi)]; simp
theorem IsStrs.below {w w' : World} {a : Option Addr} {len cap : Nat} {zs : List ByteArray} (h : IsStrs w a len cap zs) (hb : Below w.heap.size w w') : IsStrs w' a len cap zs := ⟨h.1.below hb, h.2⟩
theorem IsStrs.len {w : World} {a : Option Addr} {len cap : Nat} {zs : List ByteArray} (h : IsStrs w a len cap zs) : zs.length = len := by have := h.1.1; rwa [List.length_map] at this
theorem str_beq (a b : ByteArray) : (a.toList == b.toList) = decide (a = b) := by
  have e : ∀ x : ByteArray, x.toList = x.data.toList := fun x => by rw [ByteArray.toList_eq]
  by_cases h : a = b
  · subst h; simp
  · rw [decide_eq_false h, e, e]
    have : ¬ a.data.toList = b.data.toList := fun q => h (ByteArray.ext (Array.toList_inj.1 q))
    simpa using this
set_option maxHeartbeats 1000000 in
theorem strBytes (a : Option Addr) (len cap : Nat) (zs : List ByteArray) (w : World) (h : IsStrs w a len cap zs) (hl : len ≤ 1048576) :
    Calls Tryf.prog 5 #[.slice a len cap] w fun e w' => (∃ n : Nat, e = .returned (.int .i64 n) ∧ n ≤ 1048577) ∧ w = w' := by
  have HH := Lib.hid h
  clear h
  go_enter Tryf.func5, Tryf.ntmps5
  go_wp2
  go_loopw [3, 4] (fun t i wr => w = wr ∧ ∃ k n : Nat, k ≤ len ∧ i = .int .i64 k ∧ t = .int .i64 n ∧ n ≤ 1048576) (fun _ i _ => len - (intOf i).toNat)
  case atStart => exact ⟨by trivial, 0, 0, Nat.zero_le _, rfl, rfl, by omega⟩
  case round =>
    obtain ⟨rfl, k, n, hk, rfl, rfl, hn⟩ := hrel
    by_cases hlt : k < len
    · obtain ⟨b, off, rfl, hb, hcell⟩ := HH.out.at (by omega)
      have hcur := hcell k hlt
      have hsm := HH.out.small k
      generalize zs.getD k ByteArray.empty = x at *
      clear hcell
      by_cases hx : x.size ≤ 1048576
      · by_cases hx2 : n + (16 + x.size) ≤ 1048576
        · go_wp2
          refine ⟨⟨by trivial, k + 1, n + (16 + x.size), by omega, by go_num, by go_num, hx2⟩, by simp [intOf]; omega⟩
        · go_wp2
          go_ret
          exact ⟨⟨1048577, rfl, by omega⟩, rfl⟩
      · go_wp2
        go_ret
        exact ⟨⟨1048577, rfl, by omega⟩, rfl⟩
    · have : k = len := by omega
      subst this
      go_wp2
      go_ret
      exact ⟨⟨n, rfl, by omega⟩, rfl⟩
theorem info_parts {P : Program} {T : TypeId} {z : Value} {s b : Nat} (h : (P.info? T).map (fun i => (i.zero, i.size, i.bytes)) = some (some z, s, b)) : ∃ i, P.info? T = some i ∧ i.zero = some z ∧ i.size = s ∧ i.bytes = b := by
  obtain ⟨i, hi, e⟩ := Option.map_eq_some_iff.1 h
  simp at e
  exact ⟨i, hi, e.1, e.2.1, e.2.2⟩
/-- A copy of a slice, with no room behind it. -/
def CopiedX (Q : World → Option Addr → Nat → Nat → Prop) (a : Option Addr) (len : Nat) (w : World) (e : Ending) (w' : World) : Prop :=
  ∃ a', e = .returned (.slice a' len len) ∧ Q w' a' len len ∧ (a = none ↔ a' = none) ∧ Below w.heap.size w w'
theorem cloneStrs_info : (Tryf.prog.info? 9).map (fun i => (i.zero, i.size, i.bytes)) = some (some (Value.string ByteArray.empty), 1, 16) := by kernel_rfl
set_option maxRecDepth 100000 in
set_option maxHeartbeats 1000000 in
theorem cloneStrs (a : Option Addr) (len cap : Nat) (zs : List ByteArray) (w : World) (h : IsStrs w a len cap zs) (hl : len ≤ 4194304) :
    Calls Tryf.prog 6 #[.slice a len cap] w (CopiedX (fun w' a' l c => IsStrs w' a' l c zs) a len w) := by
  obtain ⟨i0, hi, hz0, hz1, hz2⟩ := info_parts cloneStrs_info
  have hnil := fun (W : World) (p : Option Addr) (n c n' c' : Nat) => Lib.run_eql_slice_nil (P := Tryf.prog) W 22 9 p n c n' c' Tryf.underlying22
  obtain ⟨⟨h1, h2, hm, h4, h5⟩, hw⟩ := h
  rw [List.length_map] at h1
  cases a with
  | none =>
    obtain rfl : cap = 0 := h4 rfl
    obtain rfl : len = 0 := by omega
    obtain rfl : zs = [] := by simpa using h1
    clear h1 h2 hm h4 h5 hw
    go_enter Tryf.func6, Tryf.ntmps6
    go_wp2
    go_ret
    exact ⟨none, rfl, ⟨⟨rfl, Nat.le_refl _, Nat.zero_le _, fun _ => rfl, fun h => absurd h (by omega)⟩, by simp⟩, Iff.rfl, Below.refl _ _⟩
  | some x =>
    have hmk : ∀ u : World, (Instr.makeSlice 22 (.int .i64 (len : Int)) (.int .i64 (len : Int))).run Tryf.prog u =
        .ok (.slice (some ⟨u.heap.size, 0, none⟩) len len) (u.alloc (.cells (madeCells (Value.string ByteArray.empty).cells len) 9)) := fun u => by
      have q := run_make (P := Tryf.prog) u 22 9 i0 (Value.string ByteArray.empty) Tryf.underlying22 hi hz0 .i64 .i64 (len : Int) (len : Int) (by omega) (Int.le_refl _) (by rw [hz2]; omega) (by omega)
      simpa [hz1] using q
    have S0 := Cl.start w len (Value.string ByteArray.empty) 9 (zs.map Value.string)
    have HS := Lib.hid h5
    have HM := Lib.hid hm
    have HL := Lib.hid h1
    have HW := Lib.hid hw
    clear h1 h4 h5 hm hi hz0 hz1 hz2 hw
    go_enter Tryf.func6, Tryf.ntmps6
    go_wp2
    go_loopw [4] (fun i wr => ∃ k : Nat, k ≤ len ∧ i = .int .i64 k ∧ Cl w wr len k (zs.map Value.string)) (fun i _ => len - (intOf i).toNat)
    case atStart => exact ⟨0, Nat.zero_le _, rfl, S0⟩
    case round =>
      clear S0 hmk hnil
      obtain ⟨k, hk, rfl, hc⟩ := hrel
      by_cases hlt : k < len
      · obtain ⟨b, off, e, hb, hcell⟩ := HS.out (by omega)
        cases e
        have hv := hcell k hlt
        rw [getD_map_str _ _ (by rw [HL.out]; exact hlt)] at hv
        have hcur : wr.cell? ⟨b, off + k, none⟩ = some (.string (zs.getD k ByteArray.empty)) := by rw [hc.below.cell (p := ⟨b, off + k, none⟩) hb]; exact hv
        obtain ⟨u, hu⟩ := hc.some k hlt
        have hf := hc.free k
        have hst := hc.step hlt (.string (zs.getD k ByteArray.empty)) (by rw [getD_map_str _ _ (by rw [HL.out]; exact hlt)])
        have HST := Lib.hid hst
        clear hst hcell hv hc HS
        go_wp2
        refine ⟨⟨k + 1, by omega, by go_num, ?_⟩, by simp [intOf]; omega⟩
        have q := HST.out
        rw [List.getD_eq_getElem?_getD] at q
        exact q
      · have : k = len := by omega
        subst this
        go_wp2
        go_ret
        have hs := hc.isSlice (by rw [List.length_map]; exact HL.out) (by have := HM.out; omega)
        exact ⟨_, rfl, ⟨hs, HW.out⟩, by simp, hc.below⟩
theorem step_all {p : Nat → Prop} {k : Nat} (h : ∀ j, j < k → p j) (hk : p k) : ∀ j, j < k + 1 → p j := fun j hj => by
  by_cases e : j = k
  · rw [e]; exact hk
  · exact h j (by omega)
set_option maxRecDepth 100000 in
set_option maxHeartbeats 2000000 in
theorem bytes4 (a0 : Option Addr) (len0 cap0 : Nat) (z0 : List ByteArray) (a1 : Option Addr) (len1 cap1 : Nat) (z1 : List ByteArray) (w : World) (w0 : IsStrs w a0 len0 cap0 z0) (w1 : IsStrs w a1 len1 cap1 z1) :
    Calls Tryf.prog 4 #[.slice a0 len0 cap0, .slice a1 len1 cap1] w fun e w' => (e = .returned (.bool false) ∧ w = w') ∨ (e = .returned (.bool true) ∧ w = w' ∧ len0 ≤ 1048576 ∧ len1 ≤ 1048576 ∧ (∀ j, j < len0 → (z0.getD j ByteArray.empty).size ≤ 1048576) ∧ (∀ j, j < len1 → (z1.getD j ByteArray.empty).size ≤ 1048576)) := by
  have m0 : len0 ≤ 9223372036854775807 := by have := w0.1.2.1; have := w0.1.2.2.1; unfold maxLen at this; omega
  have m1 : len1 ≤ 9223372036854775807 := by have := w1.1.2.1; have := w1.1.2.2.1; unfold maxLen at this; omega
  have W0 := Lib.hid w0
  have W1 := Lib.hid w1
  clear w0 w1
  by_cases h0 : len0 ≤ 1048576
  · go_enter Tryf.func4, Tryf.ntmps4
    go_wp2
    go_loopw [5, 6] (fun t i wr => w = wr ∧ ∃ k n : Nat, k ≤ len0 ∧ i = .int .i64 k ∧ t = .int .i64 n ∧ n ≤ 1048576 ∧ Hid (∀ j, j < k → (z0.getD j ByteArray.empty).size ≤ 1048576)) (fun _ i _ => len0 - (intOf i).toNat)
    case atStart => exact ⟨by trivial, 0, len0, Nat.zero_le _, rfl, rfl, by omega, fun j hj => absurd hj (by omega)⟩
    case round =>
      obtain ⟨rfl, k, n, hk, rfl, rfl, hn, HA0⟩ := hrel
      by_cases hlt : k < len0
      · obtain ⟨b, off, rfl, hb, hcell⟩ := W0.out.at (by omega)
        have hcur := hcell k hlt
        have hsm := W0.out.small k
        obtain ⟨x, hxx⟩ : ∃ x, x = z0.getD k ByteArray.empty := ⟨_, rfl⟩
        rw [← hxx] at hcur hsm
        have HXX := Lib.hid hxx
        clear hxx
        clear hcell
        by_cases hx : x.size ≤ 1048576
        · by_cases hx2 : n + x.size ≤ 1048576
          · go_wp2
            exact ⟨⟨by trivial, k + 1, n + x.size, by omega, by go_num, by go_num, hx2, step_all HA0.out (by rw [← HXX.out]; exact hx)⟩, by simp [intOf]; omega⟩
          · go_wp2
            go_ret
            exact .inl ⟨rfl, rfl⟩
        · go_wp2
          go_ret
          exact .inl ⟨rfl, rfl⟩
      · have : k = len0 := by omega
        subst this
        by_cases h1 : len1 ≤ 1048576
        · by_cases h2 : n + len1 ≤ 1048576
          · go_wp2
            go_loopw [5, 7] (fun t i wr => w = wr ∧ ∃ k n : Nat, k ≤ len1 ∧ i = .int .i64 k ∧ t = .int .i64 n ∧ n ≤ 1048576 ∧ Hid (∀ j, j < k → (z1.getD j ByteArray.empty).size ≤ 1048576)) (fun _ i _ => len1 - (intOf i).toNat)
            case atStart => exact ⟨by trivial, 0, n + len1, Nat.zero_le _, rfl, by go_num, by omega, fun j hj => absurd hj (by omega)⟩
            case round =>
              obtain ⟨rfl, j, m, hj, rfl, rfl, hm, HA1⟩ := hrel
              by_cases hlt2 : j < len1
              · obtain ⟨b, off, rfl, hb, hcell⟩ := W1.out.at (by omega)
                have hcur := hcell j hlt2
                have hsm := W1.out.small j
                obtain ⟨x, hxx⟩ : ∃ x, x = z1.getD j ByteArray.empty := ⟨_, rfl⟩
                rw [← hxx] at hcur hsm
                have HXX := Lib.hid hxx
                clear hxx
                clear hcell
                by_cases hx : x.size ≤ 1048576
                · by_cases hx2 : m + x.size ≤ 1048576
                  · go_wp2
                    exact ⟨⟨by trivial, j + 1, m + x.size, by omega, by go_num, by go_num, hx2, step_all HA1.out (by rw [← HXX.out]; exact hx)⟩, by simp [intOf]; omega⟩
                  · go_wp2
                    go_ret
                    exact .inl ⟨rfl, rfl⟩
                · go_wp2
                  go_ret
                  exact .inl ⟨rfl, rfl⟩
              · have : j = len1 := by omega
                subst this
                go_wp2
                go_ret
                exact .inr ⟨rfl, rfl, h0, h1, HA0.out, HA1.out⟩
          · go_wp2
            go_ret
            exact .inl ⟨rfl, rfl⟩
        · go_wp2
          go_ret
          exact .inl ⟨rfl, rfl⟩
  · go_enter Tryf.func4, Tryf.ntmps4
    go_wp2
    go_ret
    exact .inl ⟨rfl, rfl⟩
end Go.Proofs.YtakokgjbffielaaFmt
