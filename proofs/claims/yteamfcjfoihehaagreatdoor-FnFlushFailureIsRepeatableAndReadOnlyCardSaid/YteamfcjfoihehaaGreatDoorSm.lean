/-
  Contracts of the small functions: bounds, clones, notes. No condition.
-/
import Derived.Test.YteamfcjfoihehaaGreatDoorNt
import Derived.Deep.OwnRows
import Derived.Deep.QuietTactic
import Derived.BigQuiet
namespace Go.Proofs.YteamfcjfoihehaaGreatDoor
open Go.ChangeShapes Go.WideShapes Go.ChangeAt Go.RowKit
set_option linter.unusedVariables false

def tot (zs : List ByteArray) : Nat := (zs.map ByteArray.size).sum
theorem tot_succ (zs : List ByteArray) (k : Nat) (h : k < zs.length) : tot (zs.take (k + 1)) = tot (zs.take k) + (zs.getD k ByteArray.empty).size := by
  unfold tot
  rw [List.take_succ_eq_append_getElem h, List.getD_eq_getElem?_getD, List.getElem?_eq_getElem h, List.map_append, List.sum_append]
  simp
theorem tot_take_le (zs : List ByteArray) (k : Nat) : tot (zs.take k) ≤ tot zs := by
  have : tot zs = tot (zs.take k) + tot (zs.drop k) := by unfold tot; rw [← List.sum_append, ← List.map_append, List.take_append_drop]
  omega
theorem piece_le (zs : List ByteArray) (k : Nat) (h : k < zs.length) : (zs.getD k ByteArray.empty).size ≤ tot zs := by
  have h1 := tot_succ zs k h
  have h2 := tot_take_le zs (k + 1)
  omega
theorem cloneStrs_info : (Tryz.prog.info? 9).map (fun i => (i.zero, i.size, i.bytes)) = some (some (Value.string ByteArray.empty), 1, 16) := by kernel_rfl
set_option maxRecDepth 100000 in
set_option maxHeartbeats 1000000 in
theorem cloneStrs (a : Option Addr) (len cap : Nat) (zs : List ByteArray) (w : World) (h : IsStrs w a len cap zs) (hl : len ≤ 4194304) :
    Calls Tryz.prog 6 #[.slice a len cap] w (Copied (fun w' a' l c => IsStrs w' a' l c zs) a len w) := by
  obtain ⟨i0, hi, hz0, hz1, hz2⟩ := info_parts cloneStrs_info
  have hnil := fun (W : World) (p : Option Addr) (n c n' c' : Nat) => Lib.run_eql_slice_nil (P := Tryz.prog) W 22 9 p n c n' c' Tryz.underlying22
  obtain ⟨⟨h1, h2, hm, h4, h5⟩, hw⟩ := h
  rw [List.length_map] at h1
  cases a with
  | none =>
    obtain rfl : cap = 0 := h4 rfl
    obtain rfl : len = 0 := by omega
    obtain rfl : zs = [] := by simpa using h1
    clear h1 h2 hm h4 h5 hw
    go_enter Tryz.func6, Tryz.ntmps6
    go_wp2
    go_ret
    exact ⟨none, 0, rfl, ⟨⟨rfl, Nat.le_refl _, Nat.zero_le _, fun _ => rfl, fun h => absurd h (by omega)⟩, by simp⟩, Iff.rfl, Below.refl _ _⟩
  | some x =>
    have hmk : ∀ u : World, (Instr.makeSlice 22 (.int .i64 (len : Int)) (.int .i64 (len : Int))).run Tryz.prog u =
        .ok (.slice (some ⟨u.heap.size, 0, none⟩) len len) (u.alloc (.cells (madeCells (Value.string ByteArray.empty).cells len) 9)) := fun u => by
      have q := run_make (P := Tryz.prog) u 22 9 i0 (Value.string ByteArray.empty) Tryz.underlying22 hi hz0 .i64 .i64 (len : Int) (len : Int) (by omega) (Int.le_refl _) (by rw [hz2]; omega) (by omega)
      simpa [hz1] using q
    have S0 := Cl.start w len (Value.string ByteArray.empty) 9 (zs.map Value.string)
    have HS := Lib.hid h5
    have HM := Lib.hid hm
    have HL := Lib.hid h1
    have HW := Lib.hid hw
    clear h1 h4 h5 hm hi hz0 hz1 hz2 hw
    go_enter Tryz.func6, Tryz.ntmps6
    go_wp2
    go_loopw [4] (fun i wr => ∃ k : Nat, k ≤ len ∧ i = .int .i64 k ∧ Cl w wr len k (zs.map Value.string)) (fun i _ => len - (intOf i).toNat)
    case atStart => exact ⟨0, Nat.zero_le _, rfl, S0⟩
    case round =>
      clear S0 hmk hnil
      obtain ⟨k, hk, rfl, hc⟩ := hrel
      by_cases hlt : k < len
      · obtain ⟨b, off, e, hb, hcell⟩ := HS.out (by omega)
        cases e
        have hv := hcell k hlt
        rw [getD_map_str _ _ (by rw [HL.out]; exact hlt)] at hv
        have hcur : wr.cell? ⟨b, off + k, none⟩ = some (.string (zs.getD k ByteArray.empty)) := by rw [hc.below.cell (p := ⟨b, off + k, none⟩) hb]; exact hv
        obtain ⟨u, hu⟩ := hc.some k hlt
        have hf := hc.free k
        have hst := hc.step hlt (.string (zs.getD k ByteArray.empty)) (by rw [getD_map_str _ _ (by rw [HL.out]; exact hlt)])
        have HST := Lib.hid hst
        clear hst hcell hv hc HS
        go_wp2
        refine ⟨⟨k + 1, by omega, by go_num, ?_⟩, by simp [intOf]; omega⟩
        have q := HST.out
        rw [List.getD_eq_getElem?_getD] at q
        exact q
      · have : k = len := by omega
        subst this
        go_wp2
        go_ret
        have hs := hc.isSlice (by rw [List.length_map]; exact HL.out) (by have := HM.out; omega)
        exact ⟨_, _, rfl, ⟨hs, HW.out⟩, by simp, hc.below⟩

def Byt (z0 : List ByteArray) (len0 tx : Nat) (w : World) (e : Ending) (w' : World) : Prop := (e = .returned (.bool false) ∧ w = w') ∨ (e = .returned (.bool true) ∧ w = w' ∧ len0 ≤ 1048576 ∧ tot z0 + tx ≤ 1048576)
set_option maxRecDepth 100000 in
set_option maxHeartbeats 2000000 in
theorem bytes (d : Int) (a0 : Option Addr) (len0 cap0 : Nat) (z0 : List ByteArray) (tx : ByteArray) (w : World) (w0 : IsStrs w a0 len0 cap0 z0) (htx : tx.size ≤ 9223372036854775807) :
    Calls Tryz.prog 4 #[.string tx, .slice a0 len0 cap0, .int .i64 d] w (Byt z0 len0 tx.size w) := by
  have m0 : len0 ≤ 9223372036854775807 := by have := w0.1.2.1; have := w0.1.2.2.1; unfold maxLen at this; omega
  have hzl := Lib.hid w0.len
  have W0 := Lib.hid w0
  clear w0
  by_cases h1 : tx.size ≤ 1048576
  · by_cases h0 : len0 ≤ 1048576
    · by_cases h2 : tx.size + len0 ≤ 1048576
      · go_enter Tryz.func4, Tryz.ntmps4
        go_wp2
        go_loopw [7, 8] (fun t i wr => w = wr ∧ ∃ k n : Nat, k ≤ len0 ∧ i = .int .i64 k ∧ t = .int .i64 n ∧ n ≤ 1048576 ∧ tot (z0.take k) + tx.size ≤ n) (fun _ i _ => len0 - (intOf i).toNat)
        case atStart => exact ⟨by trivial, 0, tx.size + len0, Nat.zero_le _, rfl, by go_num, by omega, by simp [tot]⟩
        case round =>
          obtain ⟨rfl, k, n, hk, rfl, rfl, hn, hc⟩ := hrel
          by_cases hlt : k < len0
          · obtain ⟨b, off, rfl, hb, hcell⟩ := W0.out.at (by omega)
            have hcur := hcell k hlt
            have hsm := W0.out.small k
            have hq := tot_succ z0 k (by rw [hzl.out]; exact hlt)
            generalize z0.getD k ByteArray.empty = x at *
            have HQ := Lib.hid hq
            clear hcell hq
            by_cases hx : x.size ≤ 1048576
            · by_cases hx2 : n + x.size ≤ 1048576
              · go_wp2
                exact ⟨⟨by trivial, k + 1, n + x.size, by omega, by go_num, by go_num, hx2, by rw [HQ.out]; omega⟩, by simp [intOf]; omega⟩
              · go_wp2
                go_ret
                exact .inl ⟨rfl, rfl⟩
            · go_wp2
              go_ret
              exact .inl ⟨rfl, rfl⟩
          · have HC : Hid (tot z0 + tx.size ≤ n) := by
              show _ ≤ _
              rwa [List.take_of_length_le (by rw [hzl.out]; omega)] at hc
            clear hc
            go_wp2
            go_ret
            exact .inr ⟨rfl, rfl, h0, by have := HC.out; omega⟩
      · go_enter Tryz.func4, Tryz.ntmps4
        go_wp2
        go_ret
        exact .inl ⟨rfl, rfl⟩
    · go_enter Tryz.func4, Tryz.ntmps4
      go_wp2
      go_ret
      exact .inl ⟨rfl, rfl⟩
  · go_enter Tryz.func4, Tryz.ntmps4
    go_wp2
    go_ret
    exact .inl ⟨rfl, rfl⟩
def AnyI (w : World) (e : Ending) (w' : World) : Prop := ∃ n : Nat, e = .returned (.int .i64 n) ∧ w = w' ∧ n ≤ 16777216
set_option maxRecDepth 100000 in
set_option maxHeartbeats 2000000 in
theorem texts (a0 : Option Addr) (len0 cap0 : Nat) (z0 : List ByteArray) (w : World) (w0 : IsStrs w a0 len0 cap0 z0) (h0 : len0 ≤ 4096) (ht : tot z0 ≤ 1048576) :
    Calls Tryz.prog 5 #[.slice a0 len0 cap0] w (AnyI w) := by
  have hzl := Lib.hid w0.len
  have W0 := Lib.hid w0
  clear w0
  go_enter Tryz.func5, Tryz.ntmps5
  go_wp2
  go_loopw [3, 4] (fun t i wr => w = wr ∧ ∃ k n : Nat, k ≤ len0 ∧ i = .int .i64 k ∧ t = .int .i64 n ∧ n = 8 * len0 + tot (z0.take k)) (fun _ i _ => len0 - (intOf i).toNat)
  case atStart => exact ⟨by trivial, 0, 8 * len0, Nat.zero_le _, rfl, by go_num, by simp [tot]⟩
  case round =>
    obtain ⟨rfl, k, n, hk, rfl, rfl, hn⟩ := hrel
    have hn2 : n ≤ 2097152 := by have := tot_take_le z0 k; omega
    have HN := Lib.hid hn
    clear hn
    by_cases hlt : k < len0
    · obtain ⟨b, off, rfl, hb, hcell⟩ := W0.out.at (by omega)
      have hcur := hcell k hlt
      have hq := tot_succ z0 k (by rw [hzl.out]; exact hlt)
      have hp := piece_le z0 k (by rw [hzl.out]; exact hlt)
      generalize z0.getD k ByteArray.empty = x at *
      have HQ := Lib.hid hq
      clear hcell hq
      go_wp2
      exact ⟨⟨by trivial, k + 1, n + x.size, by omega, by go_num, by go_num, by rw [HQ.out, HN.out]; omega⟩, by simp [intOf]; omega⟩
    · go_wp2
      go_ret
      exact ⟨n, rfl, rfl, by omega⟩
theorem quietB (w : World) (n : Nat) : Below w.heap.size w (w.drewN n) := ⟨rfl, rfl, rfl, Nat.le_refl _, fun _ _ => rfl⟩
theorem newDb (w : World) (what : ByteArray) : Db w.heap.size w.heap.size what ⟨#[]⟩ [] (.slice none 0 0) (w.alloc (.cells #[.string what, .string ⟨#[]⟩, .slice none 0 0] 52)) where
  blk := Bk.mk w 52 _
  own := own_nil _ _ _ _
  hb := Nat.le_refl _
set_option maxRecDepth 100000 in
theorem newLogs (w : World) (what : ByteArray) : Calls Tryz.prog 7 #[.string what] w fun e w' => e = .returned (.pointer (some ⟨w.heap.size, 0, none⟩)) ∧ w' = w.alloc (.cells #[.string what, .string ⟨#[]⟩, .slice none 0 0] 52) := by
  go_enter Tryz.func7, Tryz.ntmps7
  go_wp2
  go_ret
  exact ⟨rfl, rfl⟩
set_option maxRecDepth 100000 in
theorem notesOf {base Bd : Nat} {what ind : ByteArray} {ns : List ByteArray} {v : Value} {w : World} (h : Db base Bd what ind ns v w) : Calls Tryz.prog 14 #[.pointer (some ⟨Bd, 0, none⟩)] w fun e w' => e = .returned v ∧ w = w' := by
  have c : w.cell? ⟨Bd, 2, none⟩ = some v := h.blk.cell 2
  obtain ⟨p, cap, rfl⟩ := own_form h.own
  clear h
  go_enter Tryz.func14, Tryz.ntmps14
  go_wp2
  go_ret
  exact ⟨rfl, rfl⟩
set_option maxRecDepth 100000 in
theorem indOf {base Bd : Nat} {what ind : ByteArray} {ns : List ByteArray} {v : Value} {w : World} (h : Db base Bd what ind ns v w) : Calls Tryz.prog 15 #[.pointer (some ⟨Bd, 0, none⟩)] w fun e w' => e = .returned (.string ind) ∧ w = w' := by
  have c : w.cell? ⟨Bd, 1, none⟩ = some (.string ind) := h.blk.cell 1
  clear h
  go_enter Tryz.func15, Tryz.ntmps15
  go_wp2
  go_ret
  exact ⟨rfl, rfl⟩
end Go.Proofs.YteamfcjfoihehaaGreatDoor
