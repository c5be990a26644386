/-
  What the law FnAddNoteAppendsOneAndKeepsEarlier does, for every input. No condition.
-/
import Derived.Test.YteamfcjfoihehaaNote
import Derived.Deep.OwnRows
import Derived.Deep.QuietTactic
import Derived.BigQuiet
namespace Go.Proofs.Yteamfcjfoihehaa.fnAddNoteAppendsOneAndKeepsEarlier
open Go.ChangeShapes Go.WideShapes Go.ChangeAt Go.RowKit
set_option linter.unusedVariables false

def tot (zs : List ByteArray) : Nat := (zs.map ByteArray.size).sum
theorem tot_succ (zs : List ByteArray) (k : Nat) (h : k < zs.length) : tot (zs.take (k + 1)) = tot (zs.take k) + (zs.getD k ByteArray.empty).size := by
  unfold tot
  rw [List.take_succ_eq_append_getElem h, List.getD_eq_getElem?_getD, List.getElem?_eq_getElem h, List.map_append, List.sum_append]
  simp
theorem tot_take_le (zs : List ByteArray) (k : Nat) : tot (zs.take k) ≤ tot zs := by
  have : tot zs = tot (zs.take k) + tot (zs.drop k) := by unfold tot; rw [← List.sum_append, ← List.map_append, List.take_append_drop]
  omega
theorem piece_le (zs : List ByteArray) (k : Nat) (h : k < zs.length) : (zs.getD k ByteArray.empty).size ≤ tot zs := by
  have h1 := tot_succ zs k h
  have h2 := tot_take_le zs (k + 1)
  omega
theorem cloneStrs_info : (Try.prog.info? 9).map (fun i => (i.zero, i.size, i.bytes)) = some (some (Value.string ByteArray.empty), 1, 16) := by kernel_rfl
set_option maxRecDepth 100000 in
set_option maxHeartbeats 1000000 in
theorem cloneStrs (a : Option Addr) (len cap : Nat) (zs : List ByteArray) (w : World) (h : IsStrs w a len cap zs) (hl : len ≤ 4194304) :
    Calls Try.prog 6 #[.slice a len cap] w (Copied (fun w' a' l c => IsStrs w' a' l c zs) a len w) := by
  obtain ⟨i0, hi, hz0, hz1, hz2⟩ := info_parts cloneStrs_info
  have hnil := fun (W : World) (p : Option Addr) (n c n' c' : Nat) => Lib.run_eql_slice_nil (P := Try.prog) W 22 9 p n c n' c' Try.underlying22
  obtain ⟨⟨h1, h2, hm, h4, h5⟩, hw⟩ := h
  rw [List.length_map] at h1
  cases a with
  | none =>
    obtain rfl : cap = 0 := h4 rfl
    obtain rfl : len = 0 := by omega
    obtain rfl : zs = [] := by simpa using h1
    clear h1 h2 hm h4 h5 hw
    go_enter Try.func6, Try.ntmps6
    go_wp2
    go_ret
    exact ⟨none, 0, rfl, ⟨⟨rfl, Nat.le_refl _, Nat.zero_le _, fun _ => rfl, fun h => absurd h (by omega)⟩, by simp⟩, Iff.rfl, Below.refl _ _⟩
  | some x =>
    have hmk : ∀ u : World, (Instr.makeSlice 22 (.int .i64 (len : Int)) (.int .i64 (len : Int))).run Try.prog u =
        .ok (.slice (some ⟨u.heap.size, 0, none⟩) len len) (u.alloc (.cells (madeCells (Value.string ByteArray.empty).cells len) 9)) := fun u => by
      have q := run_make (P := Try.prog) u 22 9 i0 (Value.string ByteArray.empty) Try.underlying22 hi hz0 .i64 .i64 (len : Int) (len : Int) (by omega) (Int.le_refl _) (by rw [hz2]; omega) (by omega)
      simpa [hz1] using q
    have S0 := Cl.start w len (Value.string ByteArray.empty) 9 (zs.map Value.string)
    have HS := Lib.hid h5
    have HM := Lib.hid hm
    have HL := Lib.hid h1
    have HW := Lib.hid hw
    clear h1 h4 h5 hm hi hz0 hz1 hz2 hw
    go_enter Try.func6, Try.ntmps6
    go_wp2
    go_loopw [4] (fun i wr => ∃ k : Nat, k ≤ len ∧ i = .int .i64 k ∧ Cl w wr len k (zs.map Value.string)) (fun i _ => len - (intOf i).toNat)
    case atStart => exact ⟨0, Nat.zero_le _, rfl, S0⟩
    case round =>
      clear S0 hmk hnil
      obtain ⟨k, hk, rfl, hc⟩ := hrel
      by_cases hlt : k < len
      · obtain ⟨b, off, e, hb, hcell⟩ := HS.out (by omega)
        cases e
        have hv := hcell k hlt
        rw [getD_map_str _ _ (by rw [HL.out]; exact hlt)] at hv
        have hcur : wr.cell? ⟨b, off + k, none⟩ = some (.string (zs.getD k ByteArray.empty)) := by rw [hc.below.cell (p := ⟨b, off + k, none⟩) hb]; exact hv
        obtain ⟨u, hu⟩ := hc.some k hlt
        have hf := hc.free k
        have hst := hc.step hlt (.string (zs.getD k ByteArray.empty)) (by rw [getD_map_str _ _ (by rw [HL.out]; exact hlt)])
        have HST := Lib.hid hst
        clear hst hcell hv hc HS
        go_wp2
        refine ⟨⟨k + 1, by omega, by go_num, ?_⟩, by simp [intOf]; omega⟩
        have q := HST.out
        rw [List.getD_eq_getElem?_getD] at q
        exact q
      · have : k = len := by omega
        subst this
        go_wp2
        go_ret
        have hs := hc.isSlice (by rw [List.length_map]; exact HL.out) (by have := HM.out; omega)
        exact ⟨_, _, rfl, ⟨hs, HW.out⟩, by simp, hc.below⟩

def Byt (z0 : List ByteArray) (len0 tx : Nat) (w : World) (e : Ending) (w' : World) : Prop := (e = .returned (.bool false) ∧ w = w') ∨ (e = .returned (.bool true) ∧ w = w' ∧ len0 ≤ 1048576 ∧ tot z0 + tx ≤ 1048576)
set_option maxRecDepth 100000 in
set_option maxHeartbeats 2000000 in
theorem bytes (d : Int) (a0 : Option Addr) (len0 cap0 : Nat) (z0 : List ByteArray) (tx : ByteArray) (w : World) (w0 : IsStrs w a0 len0 cap0 z0) (htx : tx.size ≤ 9223372036854775807) :
    Calls Try.prog 4 #[.int .i64 d, .slice a0 len0 cap0, .string tx] w (Byt z0 len0 tx.size w) := by
  have m0 : len0 ≤ 9223372036854775807 := by have := w0.1.2.1; have := w0.1.2.2.1; unfold maxLen at this; omega
  have hzl := Lib.hid w0.len
  have W0 := Lib.hid w0
  clear w0
  by_cases h0 : len0 ≤ 1048576
  · go_enter Try.func4, Try.ntmps4
    go_wp2
    go_loopw [7, 8] (fun t i wr => w = wr ∧ ∃ k n : Nat, k ≤ len0 ∧ i = .int .i64 k ∧ t = .int .i64 n ∧ n ≤ 1048576 ∧ tot (z0.take k) ≤ n) (fun _ i _ => len0 - (intOf i).toNat)
    case atStart => exact ⟨by trivial, 0, len0, Nat.zero_le _, rfl, rfl, by omega, by simp [tot]⟩
    case round =>
      obtain ⟨rfl, k, n, hk, rfl, rfl, hn, hc⟩ := hrel
      by_cases hlt : k < len0
      · obtain ⟨b, off, rfl, hb, hcell⟩ := W0.out.at (by omega)
        have hcur := hcell k hlt
        have hsm := W0.out.small k
        have hq := tot_succ z0 k (by rw [hzl.out]; exact hlt)
        generalize z0.getD k ByteArray.empty = x at *
        have HQ := Lib.hid hq
        clear hcell hq
        by_cases hx : x.size ≤ 1048576
        · by_cases hx2 : n + x.size ≤ 1048576
          · go_wp2
            exact ⟨⟨by trivial, k + 1, n + x.size, by omega, by go_num, by go_num, hx2, by rw [HQ.out]; omega⟩, by simp [intOf]; omega⟩
          · go_wp2
            go_ret
            exact .inl ⟨rfl, rfl⟩
        · go_wp2
          go_ret
          exact .inl ⟨rfl, rfl⟩
      · have HC : Hid (tot z0 ≤ n) := by
          show _ ≤ _
          rwa [List.take_of_length_le (by rw [hzl.out]; omega)] at hc
        clear hc
        by_cases h1 : tx.size ≤ 1048576
        · by_cases h2 : n + tx.size ≤ 1048576
          · go_wp2
            go_ret
            exact .inr ⟨rfl, rfl, h0, by have := HC.out; omega⟩
          · go_wp2
            go_ret
            exact .inl ⟨rfl, rfl⟩
        · go_wp2
          go_ret
          exact .inl ⟨rfl, rfl⟩
  · go_enter Try.func4, Try.ntmps4
    go_wp2
    go_ret
    exact .inl ⟨rfl, rfl⟩
def AnyI (w : World) (e : Ending) (w' : World) : Prop := ∃ n : Nat, e = .returned (.int .i64 n) ∧ w = w' ∧ n ≤ 16777216
set_option maxRecDepth 100000 in
set_option maxHeartbeats 2000000 in
theorem texts (a0 : Option Addr) (len0 cap0 : Nat) (z0 : List ByteArray) (w : World) (w0 : IsStrs w a0 len0 cap0 z0) (h0 : len0 ≤ 4096) (ht : tot z0 ≤ 1048576) :
    Calls Try.prog 5 #[.slice a0 len0 cap0] w (AnyI w) := by
  have hzl := Lib.hid w0.len
  have W0 := Lib.hid w0
  clear w0
  go_enter Try.func5, Try.ntmps5
  go_wp2
  go_loopw [3, 4] (fun t i wr => w = wr ∧ ∃ k n : Nat, k ≤ len0 ∧ i = .int .i64 k ∧ t = .int .i64 n ∧ n = 8 * len0 + tot (z0.take k)) (fun _ i _ => len0 - (intOf i).toNat)
  case atStart => exact ⟨by trivial, 0, 8 * len0, Nat.zero_le _, rfl, by go_num, by simp [tot]⟩
  case round =>
    obtain ⟨rfl, k, n, hk, rfl, rfl, hn⟩ := hrel
    have hn2 : n ≤ 2097152 := by have := tot_take_le z0 k; omega
    have HN := Lib.hid hn
    clear hn
    by_cases hlt : k < len0
    · obtain ⟨b, off, rfl, hb, hcell⟩ := W0.out.at (by omega)
      have hcur := hcell k hlt
      have hq := tot_succ z0 k (by rw [hzl.out]; exact hlt)
      have hp := piece_le z0 k (by rw [hzl.out]; exact hlt)
      generalize z0.getD k ByteArray.empty = x at *
      have HQ := Lib.hid hq
      clear hcell hq
      go_wp2
      exact ⟨⟨by trivial, k + 1, n + x.size, by omega, by go_num, by go_num, by rw [HQ.out, HN.out]; omega⟩, by simp [intOf]; omega⟩
    · go_wp2
      go_ret
      exact ⟨n, rfl, rfl, by omega⟩
/-! ### The walk -/
theorem prod_le (d l : Nat) (h1 : d ≤ 4096) (h2 : l ≤ 4096) : 2 * d * (l + 1) ≤ 33562624 := by
  have := Nat.mul_le_mul (Nat.mul_le_mul (Nat.le_refl 2) h1) (Nat.add_le_add_right h2 1)
  omega
theorem quietB (w : World) (n : Nat) : Below w.heap.size w (w.drewN n) := ⟨rfl, rfl, rfl, Nat.le_refl _, fun _ _ => rfl⟩
theorem newDb (w : World) (what : ByteArray) : Db w.heap.size w.heap.size what (sp 0) [] (.slice none 0 0) (w.alloc (.cells #[.string what, .string ⟨#[]⟩, .slice none 0 0] 37)) where
  blk := Bk.mk w 37 _
  own := own_nil _ _ _ _
  hb := Nat.le_refl _
set_option maxRecDepth 100000 in
theorem newLogs (w : World) (what : ByteArray) : Calls Try.prog 7 #[.string what] w fun e w' => e = .returned (.pointer (some ⟨w.heap.size, 0, none⟩)) ∧ w' = w.alloc (.cells #[.string what, .string ⟨#[]⟩, .slice none 0 0] 37) := by
  go_enter Try.func7, Try.ntmps7
  go_wp2
  go_ret
  exact ⟨rfl, rfl⟩
set_option maxRecDepth 100000 in
theorem notesOf {base Bd : Nat} {what ind : ByteArray} {ns : List ByteArray} {v : Value} {w : World} (h : Db base Bd what ind ns v w) : Calls Try.prog 10 #[.pointer (some ⟨Bd, 0, none⟩)] w fun e w' => e = .returned v ∧ w = w' := by
  have c : w.cell? ⟨Bd, 2, none⟩ = some v := h.blk.cell 2
  obtain ⟨p, cap, rfl⟩ := own_form h.own
  clear h
  go_enter Try.func10, Try.ntmps10
  go_wp2
  go_ret
  exact ⟨rfl, rfl⟩
set_option maxRecDepth 100000 in
theorem indOf {base Bd : Nat} {what ind : ByteArray} {ns : List ByteArray} {v : Value} {w : World} (h : Db base Bd what ind ns v w) : Calls Try.prog 11 #[.pointer (some ⟨Bd, 0, none⟩)] w fun e w' => e = .returned (.string ind) ∧ w = w' := by
  have c : w.cell? ⟨Bd, 1, none⟩ = some (.string ind) := h.blk.cell 1
  clear h
  go_enter Try.func11, Try.ntmps11
  go_wp2
  go_ret
  exact ⟨rfl, rfl⟩
set_option maxRecDepth 100000 in
set_option maxHeartbeats 8000000 in
theorem walk (a0 : Int) (a1 : Option Addr) (len1 cap1 : Nat) (z1 : List ByteArray) (a2 : ByteArray) (w : World) (w0 : (Lit.int .i64 a0).wf = true) (w1 : IsStrs w a1 len1 cap1 z1) (w2 : a2.size ≤ maxLen) :
    Calls Try.prog 3 #[.int .i64 a0, .slice a1 len1 cap1, .string a2] w fun e w' => e = .returned (.bool true) ∧ Below w.heap.size w w' := by
  unfold maxLen at w2
  have m0 : len1 ≤ 9223372036854775807 := by have := w1.1.2.1; have := w1.1.2.2.1; unfold maxLen at this; omega
  by_cases hl : len1 ≤ 4096
  · by_cases ht : a2.size ≤ 1048576
    · by_cases hd : 0 ≤ a0 ∧ a0 ≤ 4096
      · obtain ⟨d, rfl⟩ : ∃ d : Nat, a0 = d := ⟨a0.toNat, by omega⟩
        have hd1 : d ≤ 4096 := by omega
        clear hd w0
        obtain ⟨P, hP⟩ : ∃ P : Nat, 2 * d * (len1 + 1) = P := ⟨_, rfl⟩
        have hP1 : P ≤ 33562624 := by rw [← hP]; exact prod_le d len1 hd1 hl
        have hP2 : (2 * (d : Int)) * ((len1 : Int) + 1) = (P : Int) := by rw [← hP]; simp
        clear hP
        by_cases hP3 : P ≤ 4194304
        · go_enter Try.func3, Try.ntmps3
          go_wp2_with (first
            | (go_at_call 4; (with_reducible refine (bytes _ a1 len1 cap1 z1 a2 w w1 w2).mono ?_); rintro _ _ (⟨rfl, rfl⟩ | ⟨rfl, rfl, _, htot⟩))
            | (go_at_call 5; (with_reducible refine (texts a1 len1 cap1 z1 w w1 hl (by omega)).mono ?_); rintro _ _ ⟨n, rfl, rfl, hn⟩)
            | (go_at_call 6; (with_reducible refine (cloneStrs a1 len1 cap1 z1 w w1 (by omega)).mono ?_); rintro _ wa ⟨a3, cap3, rfl, hS3, _, hba⟩; have HDB := Lib.hid (newDb wa ⟨#[97, 100, 100]⟩))
            | (go_at_call 7; (with_reducible refine (newLogs wa ⟨#[97, 100, 100]⟩).mono ?_); rintro _ _ ⟨rfl, rfl⟩))
          all_goals first
            | (go_ret; exact ⟨rfl, Below.refl _ _⟩)
            | skip
          have HS3 := Lib.hid hS3
          have HBA := Lib.hid hba
          have hzl := Lib.hid hS3.len
          have W1 := Lib.hid w1
          clear hS3 hba w1
          have hsz0 : wa.heap.size < (wa.alloc (.cells #[.string ⟨#[97, 100, 100]⟩, .string ⟨#[]⟩, .slice none 0 0] 37)).heap.size := by simp
          have HB0 : Hid (Below wa.heap.size wa (wa.alloc (.cells #[.string ⟨#[97, 100, 100]⟩, .string ⟨#[]⟩, .slice none 0 0] 37))) := (Below.refl _ _).alloc (Nat.le_refl _) _
          go_loopw [8] (fun i wr => ∃ k : Nat, k ≤ d ∧ i = .int .i64 k ∧ Db wa.heap.size wa.heap.size ⟨#[97, 100, 100]⟩ (sp k) [] (.slice none 0 0) wr ∧ Below wa.heap.size wa wr) (fun i _ => d - (intOf i).toNat)
          case atStart => exact ⟨0, Nat.zero_le _, rfl, HDB.out, HB0.out⟩
          case round =>
            clear HDB HB0 hsz0
            obtain ⟨k, hk, rfl, hdb, hbr⟩ := hrel
            by_cases hlt : k < d
            · have HD := Lib.hid hdb
              have HBR := Lib.hid hbr
              clear hdb hbr
              go_wp2_with (first | (go_at_call 8; (with_reducible refine (increase HD.out (by omega)).mono ?_); rintro _ wx ⟨rfl, hD, hB⟩))
              exact ⟨⟨k + 1, by omega, by go_num, hD, HBR.out.trans hB⟩, by simp [intOf]; omega⟩
            · obtain rfl : d = k := by omega
              have HD := Lib.hid hdb
              have HBR := Lib.hid hbr
              clear hdb hbr
              have hsp := sp_size d
              have HSP := Lib.hid hsp
              have hsp2 : (sp d).size ≤ 8192 := by omega
              clear hsp
              obtain ⟨wo, rfl⟩ : ∃ wo : World, wo = wr := ⟨_, rfl⟩
              go_wp2
              go_loopw [9] (fun i wr => ∃ (k : Nat) (v : Value), k ≤ len1 ∧ i = .int .i64 k ∧ Db wa.heap.size wa.heap.size ⟨#[97, 100, 100]⟩ (sp d) ((z1.take k).map (sp d ++ ·)) v wr ∧ Below wa.heap.size wa wr) (fun i _ => len1 - (intOf i).toNat)
              case atStart => exact ⟨0, _, Nat.zero_le _, rfl, HD.out, HBR.out⟩
              case round =>
                clear HD HBR
                obtain ⟨k, v, hk, rfl, hdb, hbr⟩ := hrel
                by_cases hlt2 : k < len1
                · obtain ⟨b, off, rfl, hb, hcell⟩ := HS3.out.at (by omega)
                  have hcur : wr.cell? ⟨b, off + k, none⟩ = some (.string (z1.getD k ByteArray.empty)) := (hbr.cell (p := ⟨b, off + k, none⟩) hb).trans (hcell k hlt2)
                  have hpl := piece_le z1 k (by rw [hzl.out]; exact hlt2)
                  have HTK : Hid ((z1.take (k + 1)).map (sp d ++ ·) = (z1.take k).map (sp d ++ ·) ++ [sp d ++ z1.getD k ByteArray.empty]) := by
                    show _ = _
                    have hkz : k < z1.length := by rw [hzl.out]; exact hlt2
                    rw [List.take_succ_eq_append_getElem hkz, List.map_append, List.getD_eq_getElem?_getD, List.getElem?_eq_getElem hkz]
                    rfl
                  have hnl : ((z1.take k).map (sp d ++ ·)).length ≤ 65536 := by simp; omega
                  generalize z1.getD k ByteArray.empty = x at *
                  have HD := Lib.hid hdb
                  have HBR := Lib.hid hbr
                  clear hdb hbr hcell
                  go_wp2_with (first | (go_at_call 9; (with_reducible refine (addNoteZ HD.out x hnl (by omega) (by omega)).mono ?_); rintro _ wx ⟨rfl, v', hD, hB, _⟩))
                  exact ⟨⟨k + 1, v', by omega, by go_num, by rw [HTK.out]; exact hD, HBR.out.trans hB⟩, by simp [intOf]; omega⟩
                · obtain rfl : len1 = k := by omega
                  rw [List.take_of_length_le (by rw [hzl.out]; omega)] at hdb
                  have hnl : (z1.map (sp d ++ ·)).length = len1 := by rw [List.length_map, hzl.out]
                  have HNL := Lib.hid hnl
                  generalize hNS : z1.map (sp d ++ ·) = ns at *
                  have HNS := Lib.hid hNS
                  obtain ⟨p, cap, hv⟩ := own_form hdb.own
                  rw [hnl] at hv
                  subst hv
                  have HD := Lib.hid hdb
                  have HBR := Lib.hid hbr
                  have hmk := fun W : World => run_make_row' (P := Try.prog) 22 9 (.string ByteArray.empty) 16 Try.underlying22 cloneStrs_info rfl .i64 .i64 len1 (by omega) (by omega) W
                  have HNR := Lib.hid (Nr.start 9 wr len1 (.string ByteArray.empty) (fun j => .string (ns.getD j ByteArray.empty)))
                  clear hdb hbr hnl hNS HS3
                  obtain ⟨wb, rfl⟩ : ∃ wb : World, wb = wr := ⟨_, rfl⟩
                  go_wp2_with (first | (go_at_call 10; (with_reducible refine (notesOf HD.out).mono ?_); rintro _ _ ⟨rfl, rfl⟩))
                  go_loopw [12] (fun i wr => ∃ k : Nat, k ≤ len1 ∧ i = .int .i64 k ∧ Nr 9 wb wr len1 k (fun j => .string (ns.getD j ByteArray.empty))) (fun i _ => len1 - (intOf i).toNat)
                  case atStart => exact ⟨0, Nat.zero_le _, rfl, HNR.out⟩
                  case round =>
                    clear HNR hmk
                    obtain ⟨k, hk, rfl, hnr⟩ := hrel
                    by_cases hlt3 : k < len1
                    · obtain ⟨g, cap', e, hg, _, _, hc2, _⟩ := HD.out.at k (by rw [HNL.out]; exact hlt3)
                      cases e
                      have hcur : wr.cell? ⟨g, k * 4 + 2, none⟩ = some (.string (ns.getD k ByteArray.empty)) := by
                        rw [hnr.below.cell (p := ⟨g, k * 4 + 2, none⟩) hg, hc2, List.getD_eq_getElem?_getD, List.getElem?_eq_getElem (by rw [HNL.out]; exact hlt3)]; rfl
                      obtain ⟨u, hu⟩ := hnr.cell k hlt3
                      have hf := hnr.free k
                      have HST := Lib.hid (hnr.step hlt3)
                      generalize ns.getD k ByteArray.empty = x at *
                      clear hnr hc2
                      go_wp2
                      exact ⟨⟨k + 1, by omega, by go_num, HST.out⟩, by simp [intOf]; omega⟩
                    · obtain rfl : len1 = k := by omega
                      have HD3 := Lib.hid (HD.out.below hnr.below)
                      obtain ⟨cs, hcs1, hcs2, hcs3⟩ := hnr.blk
                      have HCS1 := Lib.hid hcs1
                      have HCS3 := Lib.hid hcs3
                      have HBR3 := Lib.hid (HBR.out.trans (hnr.below.mono HBR.out.size))
                      have hnl2 : ns.length ≤ 65536 := by rw [HNL.out]; omega
                      have hadd := fun W : World => run_string_add (P := Try.prog) W (sp d) a2 (by omega) (by omega)
                      clear hcs1 hcs2 hcs3 hnr HBR
                      obtain ⟨wc, rfl⟩ : ∃ wc : World, wc = wr := ⟨_, rfl⟩
                      go_wp2_with (first
                        | (go_at_call 11; (with_reducible refine (indOf HD3.out).mono ?_); rintro _ _ ⟨rfl, rfl⟩)
                        | (go_at_call 9; (with_reducible refine (addNoteZ HD3.out a2 hnl2 (by omega) ht).mono ?_); rintro _ wx ⟨rfl, v4, hD4, hB4, hF4⟩; have HD4 := Lib.hid hD4; have HB4 := Lib.hid (HBR3.out.trans hB4); have HSN : Hid (∀ j, j < len1 → wx.cell? ⟨wb.heap.size, j, none⟩ = some (.string (ns.getD j ByteArray.empty))) := (fun j hj => ((HCS1.out.fr hF4 (by rintro (q | q); exact ne_of_types HCS1.out HD3.out.blk (by decide) q; exact own_ne HD3.out.own HCS1.out (by decide) q)).cell j).trans (HCS3.out j hj)); obtain ⟨g4, cap4, hv4, _, hg4⟩ := hD4.own.form (by simp); rw [List.length_append, HNL.out] at hv4; subst hv4; clear hD4 hB4 hF4)
                        | (go_at_call 10; (with_reducible refine (notesOf HD4.out).mono ?_); rintro _ _ ⟨rfl, rfl⟩))
                      have hnlen : (ns ++ [sp d ++ a2]).length = len1 + 1 := by rw [List.length_append, HNL.out]; rfl
                      have HNLEN := Lib.hid hnlen
                      clear hnlen
                      have HW0 : Hid (∃ m, wx = wx.drewN m) := ⟨0, rfl⟩
                      go_loopw [15] (fun i wr => Hid (∃ m, wr = wx.drewN m) ∧ ∃ k : Nat, k ≤ len1 ∧ i = .int .i64 k) (fun i _ => len1 - (intOf i).toNat)
                      case atStart => exact ⟨HW0, 0, Nat.zero_le _, rfl⟩
                      case round =>
                        clear HW0
                        obtain ⟨hwr, k, hk, rfl⟩ := hrel
                        obtain ⟨m, hm⟩ := hwr.out
                        subst hm
                        clear hwr
                        by_cases hlt4 : k < len1
                        · obtain ⟨g', cap', e, _, _, _, hc2, hc3⟩ := HD4.out.at k (by rw [HNLEN.out]; omega)
                          obtain rfl : g4 = g' := by simpa [Value.ownBlock] using congrArg Value.ownBlock e
                          clear e
                          have hx : (ns ++ [sp d ++ a2])[k]'(by rw [HNLEN.out]; omega) = ns.getD k ByteArray.empty := by
                            rw [List.getElem_append_left (by rw [HNL.out]; exact hlt4), List.getD_eq_getElem?_getD, List.getElem?_eq_getElem (by rw [HNL.out]; exact hlt4)]; rfl
                          rw [hx] at hc2
                          have hs2 := HSN.out k hlt4
                          generalize ns.getD k ByteArray.empty = x at *
                          clear hx
                          have i0 : (0 : Int) ≤ (k : Int) := Int.natCast_nonneg _
                          have i1 : (k : Int) < (len1 : Int) := by omega
                          have i2 : (k : Int) < (len1 : Int) + 1 := by omega
                          go_wp2
                          go_quiet (fail)
                          go_wp2
                          exact ⟨⟨⟨_, rfl⟩, k + 1, by omega, by go_num⟩, by simp [intOf]; omega⟩
                        · obtain rfl : len1 = k := by omega
                          obtain ⟨g', cap', e, _, hc0, hc1, hc2, hc3⟩ := HD4.out.at len1 (by rw [HNLEN.out]; omega)
                          obtain rfl : g4 = g' := by simpa [Value.ownBlock] using congrArg Value.ownBlock e
                          clear e
                          have hx : (ns ++ [sp d ++ a2])[len1]'(by rw [HNLEN.out]; omega) = sp d ++ a2 := by
                            rw [List.getElem_append_right (by rw [HNL.out]; exact Nat.le_refl _)]; simp [HNL.out]
                          rw [hx] at hc2
                          have hsz : (sp d ++ a2).size = 2 * d + a2.size := by rw [ByteArray.size_append, HSP.out]
                          have d0 : (wx.drewN m).cell? ⟨g4, len1 * 4, none⟩ = some .nilIface := hc0
                          have d1 : (wx.drewN m).cell? ⟨g4, len1 * 4 + 1, none⟩ = some (.pointer none) := hc1
                          have d2 : (wx.drewN m).cell? ⟨g4, len1 * 4 + 2, none⟩ = some (.string (sp d ++ a2)) := hc2
                          have d3 : (wx.drewN m).cell? ⟨g4, len1 * 4 + 3, none⟩ = some (.bool true) := hc3
                          have HDY := Lib.hid (HD4.out.below (quietB wx m))
                          have HB5 := Lib.hid (HB4.out.trans ((quietB wx m).mono HB4.out.size))
                          clear hc0 hc1 hc2 hc3 hx HD4 HSN
                          generalize wx.drewN m = wy at *
                          have HDD : Hid (Db wa.heap.size wa.heap.size ⟨#[97, 100, 100]⟩ (sp d) (ns ++ [sp d ++ a2]) (.slice (some ⟨g4, 0, none⟩) (len1 + 1) cap4) (wy.alloc (.cells #[.nilIface, .pointer none, .string (sp d ++ a2), .bool true] 34))) := HDY.out.below ((Below.refl _ _).alloc (Nat.le_refl _) _)
                          have HB6 : Hid (Below wa.heap.size wa (wy.alloc (.cells #[.nilIface, .pointer none, .string (sp d ++ a2), .bool true] 34))) := HB5.out.alloc HB5.out.size _
                          have hsn := fun (W : World) (a : Addr) (m : Mode) => run_store Try.prog W a .nilIface m rfl
                          generalize hY : sp d ++ a2 = y at *
                          clear hY
                          go_wp2_with (first | (go_at_call 11; (with_reducible refine (indOf HDD.out).mono ?_); rintro _ _ ⟨rfl, rfl⟩))
                          go_ret
                          exact ⟨rfl, HBA.out.trans (HB6.out.mono HBA.out.size)⟩
        · go_enter Try.func3, Try.ntmps3
          go_wp2_with (first
            | (go_at_call 4; (with_reducible refine (bytes _ a1 len1 cap1 z1 a2 w w1 w2).mono ?_); rintro _ _ (⟨rfl, rfl⟩ | ⟨rfl, rfl, _, htot⟩))
            | (go_at_call 5; (with_reducible refine (texts a1 len1 cap1 z1 w w1 hl (by omega)).mono ?_); rintro _ _ ⟨n, rfl, rfl, hn⟩))
          all_goals (go_ret; exact ⟨rfl, Below.refl _ _⟩)
      · have hd2 : a0 < 0 ∨ (0 ≤ a0 ∧ 4096 < a0) := by omega
        rcases hd2 with hd2 | ⟨hd2, hd3⟩
        all_goals
          clear hd
          go_enter Try.func3, Try.ntmps3
          go_wp2_with (first
            | (go_at_call 4; (with_reducible refine (bytes _ a1 len1 cap1 z1 a2 w w1 w2).mono ?_); rintro _ _ (⟨rfl, rfl⟩ | ⟨rfl, rfl, _, htot⟩))
            | (go_at_call 5; (with_reducible refine (texts a1 len1 cap1 z1 w w1 hl (by omega)).mono ?_); rintro _ _ ⟨n, rfl, rfl, hn⟩))
          all_goals (go_ret; exact ⟨rfl, Below.refl _ _⟩)
    · go_enter Try.func3, Try.ntmps3
      go_wp2_with (first
        | (go_at_call 4; (with_reducible refine (bytes _ a1 len1 cap1 z1 a2 w w1 w2).mono ?_); rintro _ _ (⟨rfl, rfl⟩ | ⟨rfl, rfl, _, htot⟩)))
      all_goals (go_ret; exact ⟨rfl, Below.refl _ _⟩)
  · go_enter Try.func3, Try.ntmps3
    go_wp2_with (first
      | (go_at_call 4; (with_reducible refine (bytes _ a1 len1 cap1 z1 a2 w w1 w2).mono ?_); rintro _ _ (⟨rfl, rfl⟩ | ⟨rfl, rfl, _, htot⟩)))
    all_goals (go_ret; exact ⟨rfl, Below.refl _ _⟩)
end Go.Proofs.Yteamfcjfoihehaa.fnAddNoteAppendsOneAndKeepsEarlier
