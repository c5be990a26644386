/-
  The three cloning functions of this seat. No condition.
-/
import Derived.Test.YtnhjmhomkmfopaaCl
import Derived.Test.YtnhjmhomkmfopaaProg
namespace Go.Proofs.Ytnhjmhomkmfopaa
open Go.ChangeShapes Go.WideShapes Go.ChangeAt Go.RowKit
set_option linter.unusedVariables false

theorem cl8_info : (Try.prog.info? 5).map (fun i => (i.zero, i.size, i.bytes)) = some (some (Value.int .u8 0), 1, 1) := by kernel_rfl
set_option maxRecDepth 100000 in
set_option maxHeartbeats 1000000 in
theorem cl8 (a : Option Addr) (len cap : Nat) (zs : List Int) (w : World) (h : IsInts .u8 w a len cap zs) (hl : len ≤ 4194304) :
    Calls Try.prog 8 #[.slice a len cap] w (Copied (fun w' a' l c => IsInts .u8 w' a' l c zs) a len w) := by
  obtain ⟨i0, hi, hz0, hz1, hz2⟩ := info_parts cl8_info
  have hnil := fun (W : World) (p : Option Addr) (n c n' c' : Nat) => Lib.run_eql_slice_nil (P := Try.prog) W 22 5 p n c n' c' Try.underlying22
  obtain ⟨⟨h1, h2, hm, h4, h5⟩, hw⟩ := h
  rw [List.length_map] at h1
  cases a with
  | none =>
    obtain rfl : cap = 0 := h4 rfl
    obtain rfl : len = 0 := by omega
    obtain rfl : zs = [] := by simpa using h1
    clear h1 h2 hm h4 h5 hw
    go_enter Try.func8, Try.ntmps8
    go_wp2
    go_ret
    exact ⟨none, 0, rfl, ⟨⟨rfl, Nat.le_refl _, Nat.zero_le _, fun _ => rfl, fun h => absurd h (by omega)⟩, by simp⟩, Iff.rfl, Below.refl _ _⟩
  | some x =>
    have hmk : ∀ u : World, (Instr.makeSlice 22 (.int .i64 (len : Int)) (.int .i64 (len : Int))).run Try.prog u =
        .ok (.slice (some ⟨u.heap.size, 0, none⟩) len len) (u.alloc (.cells (madeCells (Value.int .u8 0).cells len) 5)) := fun u => by
      have q := run_make (P := Try.prog) u 22 5 i0 (Value.int .u8 0) Try.underlying22 hi hz0 .i64 .i64 (len : Int) (len : Int) (by omega) (Int.le_refl _) (by rw [hz2]; omega) (by omega)
      simpa [hz1] using q
    have S0 := Cl.start w len (Value.int .u8 0) 5 (zs.map (Value.int .u8))
    have HS := Lib.hid h5
    have HM := Lib.hid hm
    have HL := Lib.hid h1
    have HW := Lib.hid hw
    clear h1 h4 h5 hm hi hz0 hz1 hz2 hw
    go_enter Try.func8, Try.ntmps8
    go_wp2
    go_loopw [4] (fun i wr => ∃ k : Nat, k ≤ len ∧ i = .int .i64 k ∧ Cl w wr len k (zs.map (Value.int .u8))) (fun i _ => len - (intOf i).toNat)
    case atStart => exact ⟨0, Nat.zero_le _, rfl, S0⟩
    case round =>
      clear S0 hmk hnil
      obtain ⟨k, hk, rfl, hc⟩ := hrel
      by_cases hlt : k < len
      · obtain ⟨b, off, e, hb, hcell⟩ := HS.out (by omega)
        cases e
        have hv := hcell k hlt
        rw [getD_map_int _ _ _ (by rw [HL.out]; exact hlt)] at hv
        have hcur : wr.cell? ⟨b, off + k, none⟩ = some (.int .u8 (zs.getD k 0)) := by rw [hc.below.cell (p := ⟨b, off + k, none⟩) hb]; exact hv
        obtain ⟨u, hu⟩ := hc.some k hlt
        have hf := hc.free k
        have hst := hc.step hlt (.int .u8 (zs.getD k 0)) (by rw [getD_map_int _ _ _ (by rw [HL.out]; exact hlt)])
        have HST := Lib.hid hst
        clear hst hcell hv hc HS
        go_wp2
        refine ⟨⟨k + 1, by omega, by go_num, ?_⟩, by simp [intOf]; omega⟩
        have q := HST.out
        rw [List.getD_eq_getElem?_getD] at q
        exact q
      · have : k = len := by omega
        subst this
        go_wp2
        go_ret
        have hs := hc.isSlice (by rw [List.length_map]; exact HL.out) (by have := HM.out; omega)
        exact ⟨_, _, rfl, ⟨hs, HW.out⟩, by simp, hc.below⟩
theorem cl9_info : (Try.prog.info? 44).map (fun i => (i.zero, i.size, i.bytes)) = some (some (Value.int .u16 0), 1, 2) := by kernel_rfl
set_option maxRecDepth 100000 in
set_option maxHeartbeats 1000000 in
theorem cl9 (a : Option Addr) (len cap : Nat) (zs : List Int) (w : World) (h : IsInts .u16 w a len cap zs) (hl : len ≤ 4194304) :
    Calls Try.prog 9 #[.slice a len cap] w (Copied (fun w' a' l c => IsInts .u16 w' a' l c zs) a len w) := by
  obtain ⟨i0, hi, hz0, hz1, hz2⟩ := info_parts cl9_info
  have hnil := fun (W : World) (p : Option Addr) (n c n' c' : Nat) => Lib.run_eql_slice_nil (P := Try.prog) W 24 44 p n c n' c' Try.underlying24
  obtain ⟨⟨h1, h2, hm, h4, h5⟩, hw⟩ := h
  rw [List.length_map] at h1
  cases a with
  | none =>
    obtain rfl : cap = 0 := h4 rfl
    obtain rfl : len = 0 := by omega
    obtain rfl : zs = [] := by simpa using h1
    clear h1 h2 hm h4 h5 hw
    go_enter Try.func9, Try.ntmps9
    go_wp2
    go_ret
    exact ⟨none, 0, rfl, ⟨⟨rfl, Nat.le_refl _, Nat.zero_le _, fun _ => rfl, fun h => absurd h (by omega)⟩, by simp⟩, Iff.rfl, Below.refl _ _⟩
  | some x =>
    have hmk : ∀ u : World, (Instr.makeSlice 24 (.int .i64 (len : Int)) (.int .i64 (len : Int))).run Try.prog u =
        .ok (.slice (some ⟨u.heap.size, 0, none⟩) len len) (u.alloc (.cells (madeCells (Value.int .u16 0).cells len) 44)) := fun u => by
      have q := run_make (P := Try.prog) u 24 44 i0 (Value.int .u16 0) Try.underlying24 hi hz0 .i64 .i64 (len : Int) (len : Int) (by omega) (Int.le_refl _) (by rw [hz2]; omega) (by omega)
      simpa [hz1] using q
    have S0 := Cl.start w len (Value.int .u16 0) 44 (zs.map (Value.int .u16))
    have HS := Lib.hid h5
    have HM := Lib.hid hm
    have HL := Lib.hid h1
    have HW := Lib.hid hw
    clear h1 h4 h5 hm hi hz0 hz1 hz2 hw
    go_enter Try.func9, Try.ntmps9
    go_wp2
    go_loopw [4] (fun i wr => ∃ k : Nat, k ≤ len ∧ i = .int .i64 k ∧ Cl w wr len k (zs.map (Value.int .u16))) (fun i _ => len - (intOf i).toNat)
    case atStart => exact ⟨0, Nat.zero_le _, rfl, S0⟩
    case round =>
      clear S0 hmk hnil
      obtain ⟨k, hk, rfl, hc⟩ := hrel
      by_cases hlt : k < len
      · obtain ⟨b, off, e, hb, hcell⟩ := HS.out (by omega)
        cases e
        have hv := hcell k hlt
        rw [getD_map_int _ _ _ (by rw [HL.out]; exact hlt)] at hv
        have hcur : wr.cell? ⟨b, off + k, none⟩ = some (.int .u16 (zs.getD k 0)) := by rw [hc.below.cell (p := ⟨b, off + k, none⟩) hb]; exact hv
        obtain ⟨u, hu⟩ := hc.some k hlt
        have hf := hc.free k
        have hst := hc.step hlt (.int .u16 (zs.getD k 0)) (by rw [getD_map_int _ _ _ (by rw [HL.out]; exact hlt)])
        have HST := Lib.hid hst
        clear hst hcell hv hc HS
        go_wp2
        refine ⟨⟨k + 1, by omega, by go_num, ?_⟩, by simp [intOf]; omega⟩
        have q := HST.out
        rw [List.getD_eq_getElem?_getD] at q
        exact q
      · have : k = len := by omega
        subst this
        go_wp2
        go_ret
        have hs := hc.isSlice (by rw [List.length_map]; exact HL.out) (by have := HM.out; omega)
        exact ⟨_, _, rfl, ⟨hs, HW.out⟩, by simp, hc.below⟩
theorem cl18_info : (Try.prog.info? 44).map (fun i => (i.zero, i.size, i.bytes)) = some (some (Value.int .u16 0), 1, 2) := by kernel_rfl
set_option maxRecDepth 100000 in
set_option maxHeartbeats 1000000 in
theorem cl18 (a : Option Addr) (len cap : Nat) (zs : List Int) (w : World) (h : IsInts .u16 w a len cap zs) (hl : len ≤ 4194304) :
    Calls Try.prog 18 #[.slice a len cap] w (Copied (fun w' a' l c => IsInts .u16 w' a' l c zs) a len w) := by
  obtain ⟨i0, hi, hz0, hz1, hz2⟩ := info_parts cl18_info
  have hnil := fun (W : World) (p : Option Addr) (n c n' c' : Nat) => Lib.run_eql_slice_nil (P := Try.prog) W 24 44 p n c n' c' Try.underlying24
  obtain ⟨⟨h1, h2, hm, h4, h5⟩, hw⟩ := h
  rw [List.length_map] at h1
  cases a with
  | none =>
    obtain rfl : cap = 0 := h4 rfl
    obtain rfl : len = 0 := by omega
    obtain rfl : zs = [] := by simpa using h1
    clear h1 h2 hm h4 h5 hw
    go_enter Try.func18, Try.ntmps18
    go_wp2
    go_ret
    exact ⟨none, 0, rfl, ⟨⟨rfl, Nat.le_refl _, Nat.zero_le _, fun _ => rfl, fun h => absurd h (by omega)⟩, by simp⟩, Iff.rfl, Below.refl _ _⟩
  | some x =>
    have hmk : ∀ u : World, (Instr.makeSlice 24 (.int .i64 (len : Int)) (.int .i64 (len : Int))).run Try.prog u =
        .ok (.slice (some ⟨u.heap.size, 0, none⟩) len len) (u.alloc (.cells (madeCells (Value.int .u16 0).cells len) 44)) := fun u => by
      have q := run_make (P := Try.prog) u 24 44 i0 (Value.int .u16 0) Try.underlying24 hi hz0 .i64 .i64 (len : Int) (len : Int) (by omega) (Int.le_refl _) (by rw [hz2]; omega) (by omega)
      simpa [hz1] using q
    have S0 := Cl.start w len (Value.int .u16 0) 44 (zs.map (Value.int .u16))
    have HS := Lib.hid h5
    have HM := Lib.hid hm
    have HL := Lib.hid h1
    have HW := Lib.hid hw
    clear h1 h4 h5 hm hi hz0 hz1 hz2 hw
    go_enter Try.func18, Try.ntmps18
    go_wp2
    go_loopw [4] (fun i wr => ∃ k : Nat, k ≤ len ∧ i = .int .i64 k ∧ Cl w wr len k (zs.map (Value.int .u16))) (fun i _ => len - (intOf i).toNat)
    case atStart => exact ⟨0, Nat.zero_le _, rfl, S0⟩
    case round =>
      clear S0 hmk hnil
      obtain ⟨k, hk, rfl, hc⟩ := hrel
      by_cases hlt : k < len
      · obtain ⟨b, off, e, hb, hcell⟩ := HS.out (by omega)
        cases e
        have hv := hcell k hlt
        rw [getD_map_int _ _ _ (by rw [HL.out]; exact hlt)] at hv
        have hcur : wr.cell? ⟨b, off + k, none⟩ = some (.int .u16 (zs.getD k 0)) := by rw [hc.below.cell (p := ⟨b, off + k, none⟩) hb]; exact hv
        obtain ⟨u, hu⟩ := hc.some k hlt
        have hf := hc.free k
        have hst := hc.step hlt (.int .u16 (zs.getD k 0)) (by rw [getD_map_int _ _ _ (by rw [HL.out]; exact hlt)])
        have HST := Lib.hid hst
        clear hst hcell hv hc HS
        go_wp2
        refine ⟨⟨k + 1, by omega, by go_num, ?_⟩, by simp [intOf]; omega⟩
        have q := HST.out
        rw [List.getD_eq_getElem?_getD] at q
        exact q
      · have : k = len := by omega
        subst this
        go_wp2
        go_ret
        have hs := hc.isSlice (by rw [List.length_map]; exact HL.out) (by have := HM.out; omega)
        exact ⟨_, _, rfl, ⟨hs, HW.out⟩, by simp, hc.below⟩
end Go.Proofs.Ytnhjmhomkmfopaa
