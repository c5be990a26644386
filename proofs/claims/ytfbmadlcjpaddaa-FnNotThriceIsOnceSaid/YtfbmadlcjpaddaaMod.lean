/-
  The leaves of FnNotThriceIsOnce and the law's model. No condition.
-/
import Derived.Test.YtfbmadlcjpaddaaNotDef
import Derived.Test.YtfbmadlcjpaddaaCl
namespace Go.Proofs.Ytfbmadlcjpaddaa
open Go.ChangeShapes Go.WideShapes Go.ChangeAt Go.RowKit
set_option linter.unusedVariables false
set_option linter.unusedSimpArgs false
def Md (x y : Bool) (w : World) (e : Ending) (w' : World) : Prop := e = .returned (.tuple #[.bool x, .bool y]) ∧ w = w'
set_option maxRecDepth 100000 in
set_option maxHeartbeats 2000000 in
theorem md0 (a0 : Int) (a1 : Bool) (a2 : Nat) (p : Option Addr) (n c : Nat) (s : ByteArray) (w : World) (h0 : 0 ≤ a0) (h : a0 % 11 = 0) : Calls Try.prog 29 #[.int .u8 a0, .bool a1, .float .f64 a2, .slice p n c, .string s] w (Md true true w) := by
  go_enter Try.func29, Try.ntmps29
  go_wp2
  go_ret2
  exact ⟨rfl, rfl⟩
set_option maxRecDepth 100000 in
set_option maxHeartbeats 2000000 in
theorem md1 (a0 : Int) (a1 : Bool) (a2 : Nat) (p : Option Addr) (n c : Nat) (s : ByteArray) (w : World) (h0 : 0 ≤ a0) (h : a0 % 11 = 1) : Calls Try.prog 29 #[.int .u8 a0, .bool a1, .float .f64 a2, .slice p n c, .string s] w (Md true true w) := by
  go_enter Try.func29, Try.ntmps29
  go_wp2
  go_ret2
  exact ⟨rfl, rfl⟩
set_option maxRecDepth 100000 in
set_option maxHeartbeats 2000000 in
theorem md2 (a0 : Int) (a1 : Bool) (a2 : Nat) (p : Option Addr) (n c : Nat) (s : ByteArray) (w : World) (h0 : 0 ≤ a0) (h : a0 % 11 = 2) : Calls Try.prog 29 #[.int .u8 a0, .bool a1, .float .f64 a2, .slice p n c, .string s] w (Md (!a1) true w) := by
  go_enter Try.func29, Try.ntmps29
  go_wp2
  go_ret2
  exact ⟨rfl, rfl⟩
set_option maxRecDepth 100000 in
set_option maxHeartbeats 2000000 in
theorem md3a (a0 : Int) (a1 : Bool) (a2 : Nat) (p : Option Addr) (n c : Nat) (s : ByteArray) (w : World) (h0 : 0 ≤ a0) (h : a0 % 11 = 3) (h1 : (FloatKind.f64.format.order a2 0 == some .lt) = false) (h2 : (FloatKind.f64.format.order a2 0 == some .gt) = false) : Calls Try.prog 29 #[.int .u8 a0, .bool a1, .float .f64 a2, .slice p n c, .string s] w (Md true true w) := by
  go_enter Try.func29, Try.ntmps29
  go_wp2
  go_ret2
  exact ⟨rfl, rfl⟩
set_option maxRecDepth 100000 in
set_option maxHeartbeats 2000000 in
theorem md3b (a0 : Int) (a1 : Bool) (a2 : Nat) (p : Option Addr) (n c : Nat) (s : ByteArray) (w : World) (h0 : 0 ≤ a0) (h : a0 % 11 = 3) (h1 : (FloatKind.f64.format.order a2 0 == some .lt) = true) : Calls Try.prog 29 #[.int .u8 a0, .bool a1, .float .f64 a2, .slice p n c, .string s] w (Md false true w) := by
  go_enter Try.func29, Try.ntmps29
  go_wp2
  go_ret2
  exact ⟨rfl, rfl⟩
set_option maxRecDepth 100000 in
set_option maxHeartbeats 2000000 in
theorem md3c (a0 : Int) (a1 : Bool) (a2 : Nat) (p : Option Addr) (n c : Nat) (s : ByteArray) (w : World) (h0 : 0 ≤ a0) (h : a0 % 11 = 3) (h1 : (FloatKind.f64.format.order a2 0 == some .lt) = false) (h2 : (FloatKind.f64.format.order a2 0 == some .gt) = true) : Calls Try.prog 29 #[.int .u8 a0, .bool a1, .float .f64 a2, .slice p n c, .string s] w (Md false true w) := by
  go_enter Try.func29, Try.ntmps29
  go_wp2
  go_ret2
  exact ⟨rfl, rfl⟩
set_option maxRecDepth 100000 in
set_option maxHeartbeats 2000000 in
theorem md4 (a0 : Int) (a1 : Bool) (a2 : Nat) (p : Option Addr) (n c : Nat) (s : ByteArray) (w : World) (h0 : 0 ≤ a0) (h : a0 % 11 = 4) : Calls Try.prog 29 #[.int .u8 a0, .bool a1, .float .f64 a2, .slice p n c, .string s] w (Md ((n : Int) == 0) true w) := by
  go_enter Try.func29, Try.ntmps29
  go_wp2
  go_ret2
  exact ⟨rfl, rfl⟩
set_option maxRecDepth 100000 in
set_option maxHeartbeats 2000000 in
theorem md5e (a0 : Int) (a1 : Bool) (a2 : Nat) (p : Option Addr) (n c : Nat) (s : ByteArray) (w : World) (h0 : 0 ≤ a0) (h : a0 % 11 = 5) (hq : (s.toList == [48]) = true) : Calls Try.prog 29 #[.int .u8 a0, .bool a1, .float .f64 a2, .slice p n c, .string s] w (Md true true w) := by
  go_enter Try.func29, Try.ntmps29
  go_wp2
  go_ret2
  exact ⟨rfl, rfl⟩
set_option maxRecDepth 100000 in
set_option maxHeartbeats 2000000 in
theorem md5s (a0 : Int) (a1 : Bool) (a2 : Nat) (p : Option Addr) (n c : Nat) (s : ByteArray) (w : World) (h0 : 0 ≤ a0) (h : a0 % 11 = 5) (hq : (s.toList == [48]) = false) (h2 : s.size < 2) : Calls Try.prog 29 #[.int .u8 a0, .bool a1, .float .f64 a2, .slice p n c, .string s] w (Md false true w) := by
  go_enter Try.func29, Try.ntmps29
  go_wp2
  go_ret2
  exact ⟨rfl, rfl⟩
set_option maxRecDepth 100000 in
set_option maxHeartbeats 2000000 in
theorem md5r (a0 : Int) (a1 : Bool) (a2 : Nat) (p : Option Addr) (n c : Nat) (s : ByteArray) (w : World) (h0 : 0 ≤ a0) (h : a0 % 11 = 5) (hq : (s.toList == [48]) = false) (hz : 0 < s.size) (h2 : 2 ≤ s.size) (hc : (s[0]'hz).toNat = 48) : Calls Try.prog 29 #[.int .u8 a0, .bool a1, .float .f64 a2, .slice p n c, .string s] w (Md false false w) := by
  go_enter Try.func29, Try.ntmps29
  go_wp2
  go_ret2
  exact ⟨rfl, rfl⟩
set_option maxRecDepth 100000 in
set_option maxHeartbeats 2000000 in
theorem md5d (a0 : Int) (a1 : Bool) (a2 : Nat) (p : Option Addr) (n c : Nat) (s : ByteArray) (w : World) (h0 : 0 ≤ a0) (h : a0 % 11 = 5) (hq : (s.toList == [48]) = false) (hz : 0 < s.size) (h2 : 2 ≤ s.size) (cc : Nat) (hc : (s[0]'hz).toNat = cc) (hn : ((cc : Int) == 48) = false) : Calls Try.prog 29 #[.int .u8 a0, .bool a1, .float .f64 a2, .slice p n c, .string s] w (Md false true w) := by
  go_enter Try.func29, Try.ntmps29
  go_wp2
  go_ret2
  exact ⟨rfl, rfl⟩
set_option maxRecDepth 100000 in
set_option maxHeartbeats 2000000 in
theorem md6 (a0 : Int) (a1 : Bool) (a2 : Nat) (p : Option Addr) (n c : Nat) (s : ByteArray) (w : World) (h0 : 0 ≤ a0) (h : a0 % 11 = 6) : Calls Try.prog 29 #[.int .u8 a0, .bool a1, .float .f64 a2, .slice p n c, .string s] w (Md false true w) := by
  go_enter Try.func29, Try.ntmps29
  go_wp2
  go_ret2
  exact ⟨rfl, rfl⟩
set_option maxRecDepth 100000 in
set_option maxHeartbeats 2000000 in
theorem md7 (a0 : Int) (a1 : Bool) (a2 : Nat) (p : Option Addr) (n c : Nat) (s : ByteArray) (w : World) (h0 : 0 ≤ a0) (h : a0 % 11 = 7) : Calls Try.prog 29 #[.int .u8 a0, .bool a1, .float .f64 a2, .slice p n c, .string s] w (Md false true w) := by
  go_enter Try.func29, Try.ntmps29
  go_wp2
  go_ret2
  exact ⟨rfl, rfl⟩
set_option maxRecDepth 100000 in
set_option maxHeartbeats 2000000 in
theorem md8 (a0 : Int) (a1 : Bool) (a2 : Nat) (p : Option Addr) (n c : Nat) (s : ByteArray) (w : World) (h0 : 0 ≤ a0) (h : a0 % 11 = 8) : Calls Try.prog 29 #[.int .u8 a0, .bool a1, .float .f64 a2, .slice p n c, .string s] w (Md false true w) := by
  go_enter Try.func29, Try.ntmps29
  go_wp2
  go_ret2
  exact ⟨rfl, rfl⟩
set_option maxRecDepth 100000 in
set_option maxHeartbeats 2000000 in
theorem md9 (a0 : Int) (a1 : Bool) (a2 : Nat) (p : Option Addr) (n c : Nat) (s : ByteArray) (w : World) (h0 : 0 ≤ a0) (h : a0 % 11 = 9) : Calls Try.prog 29 #[.int .u8 a0, .bool a1, .float .f64 a2, .slice p n c, .string s] w (Md false false w) := by
  go_enter Try.func29, Try.ntmps29
  go_wp2
  go_ret2
  exact ⟨rfl, rfl⟩
set_option maxRecDepth 100000 in
set_option maxHeartbeats 2000000 in
theorem md10 (a0 : Int) (a1 : Bool) (a2 : Nat) (p : Option Addr) (n c : Nat) (s : ByteArray) (w : World) (h0 : 0 ≤ a0) (h : a0 % 11 = 10) : Calls Try.prog 29 #[.int .u8 a0, .bool a1, .float .f64 a2, .slice p n c, .string s] w (Md false false w) := by
  go_enter Try.func29, Try.ntmps29
  go_wp2
  go_ret2
  exact ⟨rfl, rfl⟩
theorem cl26_info : (Try.prog.info? 83).map (fun i => (i.zero, i.size, i.bytes)) = some (some (Value.int .u16 0), 1, 2) := by kernel_rfl
set_option maxRecDepth 100000 in
set_option maxHeartbeats 1000000 in
theorem cl26 (a : Option Addr) (len cap : Nat) (zs : List Int) (w : World) (h : IsInts .u16 w a len cap zs) (hl : len ≤ 4194304) :
    Calls Try.prog 26 #[.slice a len cap] w (Copied (fun w' a' l c => IsInts .u16 w' a' l c zs) a len w) := by
  obtain ⟨i0, hi, hz0, hz1, hz2⟩ := info_parts cl26_info
  have hnil := fun (W : World) (p : Option Addr) (n c n' c' : Nat) => Lib.run_eql_slice_nil (P := Try.prog) W 54 83 p n c n' c' Try.underlying54
  obtain ⟨⟨h1, h2, hm, h4, h5⟩, hw⟩ := h
  rw [List.length_map] at h1
  cases a with
  | none =>
    obtain rfl : cap = 0 := h4 rfl
    obtain rfl : len = 0 := by omega
    obtain rfl : zs = [] := by simpa using h1
    clear h1 h2 hm h4 h5 hw
    go_enter Try.func26, Try.ntmps26
    go_wp2
    go_ret
    exact ⟨none, 0, rfl, ⟨⟨rfl, Nat.le_refl _, Nat.zero_le _, fun _ => rfl, fun h => absurd h (by omega)⟩, by simp⟩, Iff.rfl, Below.refl _ _⟩
  | some x =>
    have hmk : ∀ u : World, (Instr.makeSlice 54 (.int .i64 (len : Int)) (.int .i64 (len : Int))).run Try.prog u =
        .ok (.slice (some ⟨u.heap.size, 0, none⟩) len len) (u.alloc (.cells (madeCells (Value.int .u16 0).cells len) 83)) := fun u => by
      have q := run_make (P := Try.prog) u 54 83 i0 (Value.int .u16 0) Try.underlying54 hi hz0 .i64 .i64 (len : Int) (len : Int) (by omega) (Int.le_refl _) (by rw [hz2]; omega) (by omega)
      simpa [hz1] using q
    have S0 := Cl.start w len (Value.int .u16 0) 83 (zs.map (Value.int .u16))
    have HS := Lib.hid h5
    have HM := Lib.hid hm
    have HL := Lib.hid h1
    have HW := Lib.hid hw
    clear h1 h4 h5 hm hi hz0 hz1 hz2 hw
    go_enter Try.func26, Try.ntmps26
    go_wp2
    go_loopw [4] (fun i wr => ∃ k : Nat, k ≤ len ∧ i = .int .i64 k ∧ Cl w wr len k (zs.map (Value.int .u16))) (fun i _ => len - (intOf i).toNat)
    case atStart => exact ⟨0, Nat.zero_le _, rfl, S0⟩
    case round =>
      clear S0 hmk hnil
      obtain ⟨k, hk, rfl, hc⟩ := hrel
      by_cases hlt : k < len
      · obtain ⟨b, off, e, hb, hcell⟩ := HS.out (by omega)
        cases e
        have hv := hcell k hlt
        rw [getD_map_int _ _ _ (by rw [HL.out]; exact hlt)] at hv
        have hcur : wr.cell? ⟨b, off + k, none⟩ = some (.int .u16 (zs.getD k 0)) := by rw [hc.below.cell (p := ⟨b, off + k, none⟩) hb]; exact hv
        obtain ⟨u, hu⟩ := hc.some k hlt
        have hf := hc.free k
        have hst := hc.step hlt (.int .u16 (zs.getD k 0)) (by rw [getD_map_int _ _ _ (by rw [HL.out]; exact hlt)])
        have HST := Lib.hid hst
        clear hst hcell hv hc HS
        go_wp2
        refine ⟨⟨k + 1, by omega, by go_num, ?_⟩, by simp [intOf]; omega⟩
        have q := HST.out
        rw [List.getD_eq_getElem?_getD] at q
        exact q
      · have : k = len := by omega
        subst this
        go_wp2
        go_ret
        have hs := hc.isSlice (by rw [List.length_map]; exact HL.out) (by have := HM.out; omega)
        exact ⟨_, _, rfl, ⟨hs, HW.out⟩, by simp, hc.below⟩
end Go.Proofs.Ytfbmadlcjpaddaa
