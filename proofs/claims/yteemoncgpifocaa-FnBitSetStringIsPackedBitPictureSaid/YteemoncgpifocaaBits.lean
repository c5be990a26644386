/-
  Contracts of BitSet's methods, over the bytes of its one slice. No condition.
-/
import Derived.Test.YteemoncgpifocaaOwn
import Derived.Test.YteemoncgpifocaaProg
import Derived.WalkSmall
import Derived.Lib.SlBytesRow
namespace Go.Proofs.Yteemoncgpifocaa
open Go.ChangeShapes Go.WideShapes Go.ChangeAt Go.RowKit
set_option linter.unusedVariables false

theorem and7 (k : Nat) (h : k < 18446744073709551616) : bits .and .u64 (k : Int) 7 = ((k % 8 : Nat) : Int) := by
  have := u64_and_nat k 7 h (by omega)
  rw [show ((7 : Nat) : Int) = 7 from rfl] at this
  rw [this, nat_mask3]
theorem pow_lt8 {j : Nat} (h : j < 8) : 2 ^ j < 256 := by
  have : j = 0 ∨ j = 1 ∨ j = 2 ∨ j = 3 ∨ j = 4 ∨ j = 5 ∨ j = 6 ∨ j = 7 := by omega
  rcases this with rfl | rfl | rfl | rfl | rfl | rfl | rfl | rfl <;> decide
theorem shl8 {j : Nat} (h : j < 8) : (2 : Int) ^ min j 8 % 256 = ((2 ^ j : Nat) : Int) := by
  have : j = 0 ∨ j = 1 ∨ j = 2 ∨ j = 3 ∨ j = 4 ∨ j = 5 ∨ j = 6 ∨ j = 7 := by omega
  rcases this with rfl | rfl | rfl | rfl | rfl | rfl | rfl | rfl <;> decide
theorem or_lt {x j : Nat} (hx : x < 256) (h : j < 8) : x ||| 2 ^ j < 256 := Nat.or_lt_two_pow (n := 8) hx (pow_lt8 h)
theorem and_test (x j : Nat) : (x &&& 2 ^ j != 0) = x.testBit j := by
  rw [nat_bit]
  have hp := Nat.two_pow_pos j
  rw [Nat.testBit_eq_decide_div_mod_eq]
  have := Nat.mod_two_eq_zero_or_one (x / 2 ^ j)
  rcases this with h | h
  · simp [h]
  · simp [h]

set_option maxHeartbeats 400000 in
theorem setBit (b len x k : Nat) (w : World) (hk : k < 65536) (hlen : k / 8 < len) (hl : len ≤ 8192) (hx : x < 256) (hc : w.cell? ⟨b, k / 8, none⟩ = some (.int .u8 x)) (hf : w.frozen? ⟨b, k / 8, none⟩ = false) (hb : b < w.heap.size) :
    Calls Try.prog 9 #[.agg #[.slice (some ⟨b, 0, none⟩) len len], .int .u64 k] w fun e w' => e = .returned (.tuple #[]) ∧
      w' = (w.setCell ⟨b, k / 8, none⟩ (.int .u8 ((x ||| 2 ^ (k % 8) : Nat) : Int))).alloc (.cells #[.slice (some ⟨b, 0, none⟩) len len] 28) := by
  have h1 := and7 k (by omega)
  have h2 : bits .or .u8 (x : Int) ((2 : Int) ^ min (k % 8) 8 % 256) = ((x ||| 2 ^ (k % 8) : Nat) : Int) := by
    rw [shl8 (by omega)]; exact u8_or_nat x (2 ^ (k % 8)) hx (pow_lt8 (by omega))
  generalize k % 8 = j at *
  generalize x ||| 2 ^ j = y at *
  go_enter Try.func9, Try.ntmps9
  go_wp2
  go_end0
  exact ⟨rfl, rfl⟩
set_option maxHeartbeats 400000 in
theorem hasBit (b len x k : Nat) (w : World) (hk : k < 65536) (hlen : k / 8 < len) (hl : len ≤ 8192) (hx : x < 256) (hc : w.cell? ⟨b, k / 8, none⟩ = some (.int .u8 x)) (hb : b < w.heap.size) :
    Calls Try.prog 10 #[.agg #[.slice (some ⟨b, 0, none⟩) len len], .int .u64 k] w fun e w' => e = .returned (.bool (x.testBit (k % 8))) ∧ w' = w.alloc (.cells #[.slice (some ⟨b, 0, none⟩) len len] 28) := by
  have h1 := and7 k (by omega)
  have h2 : (bits .and .u8 (x : Int) ((2 : Int) ^ min (k % 8) 8 % 256) != 0) = x.testBit (k % 8) := by
    rw [shl8 (by omega), u8_and_nat x (2 ^ (k % 8)) hx (pow_lt8 (by omega)), ← and_test]
    generalize x &&& 2 ^ (k % 8) = y
    rw [Bool.eq_iff_iff]; simp
  generalize k % 8 = j at *
  generalize x.testBit j = t at *
  go_enter Try.func10, Try.ntmps10
  go_wp2
  go_ret
  exact ⟨rfl, rfl⟩

/-- Eight bits of S, from 8q on, as one byte. -/
def pkn (f : Nat → Bool) : Nat → Nat
  | 0 => 0
  | n + 1 => pkn f n ||| (if f n then 2 ^ n else 0)
theorem pkn_bit (f : Nat → Bool) (n j : Nat) : (pkn f n).testBit j = (decide (j < n) && f j) := by
  induction n with
  | zero => simp [pkn]
  | succ n ih =>
    simp only [pkn, Nat.testBit_or, ih]
    by_cases h : f n = true
    · simp only [h, if_true, Nat.testBit_two_pow]
      by_cases e : n = j
      · subst e; simp [h]
      · by_cases l : j < n
        · simp [l, e, show j < n + 1 by omega]
        · simp [l, e, show ¬ j < n + 1 by omega]
    · simp only [h, if_false, Nat.zero_testBit, Bool.or_false, Bool.false_eq_true]
      by_cases e : n = j
      · subst e; simp [h]
      · by_cases l : j < n
        · simp [l, show j < n + 1 by omega]
        · simp [l, show ¬ j < n + 1 by omega]
theorem pkn_lt (f : Nat → Bool) (n : Nat) : pkn f n < 2 ^ n := by
  apply Nat.lt_pow_two_of_testBit
  intro i hi
  rw [pkn_bit]; simp; omega
def pk (S : Nat → Bool) (q : Nat) : Nat := pkn (fun j => S (8 * q + j)) 8
theorem pk_lt (S : Nat → Bool) (q : Nat) : pk S q < 256 := pkn_lt _ 8
theorem pk_bit (S : Nat → Bool) (q j : Nat) : (pk S q).testBit j = (decide (j < 8) && S (8 * q + j)) := pkn_bit _ 8 j
def upd (S : Nat → Bool) (k : Nat) : Nat → Bool := fun p => S p || decide (p = k)
theorem pk_upd_at (S : Nat → Bool) (k : Nat) : pk (upd S k) (k / 8) = pk S (k / 8) ||| 2 ^ (k % 8) := by
  apply Nat.eq_of_testBit_eq
  intro j
  rw [Nat.testBit_or, pk_bit, pk_bit, Nat.testBit_two_pow, upd]
  by_cases h : j < 8
  · have : decide (8 * (k / 8) + j = k) = decide (k % 8 = j) := by congr 1; apply propext; omega
    simp [h, this]
  · simp [h]; omega
theorem pk_upd_off (S : Nat → Bool) (k q : Nat) (h : q ≠ k / 8) : pk (upd S k) q = pk S q := by
  apply Nat.eq_of_testBit_eq
  intro j
  rw [pk_bit, pk_bit, upd]
  by_cases hj : j < 8
  · have : ¬ (8 * q + j = k) := by omega
    simp [this]
  · simp [hj]
theorem pk_none (q : Nat) : pk (fun _ => false) q = 0 := by
  apply Nat.eq_of_testBit_eq
  intro j
  rw [pk_bit]; simp
def str (len : Nat) (S : Nat → Bool) : ByteArray := ⟨(Array.range len).map fun q => UInt8.ofNat (pk S q)⟩
theorem str_size (len : Nat) (S : Nat → Bool) : (str len S).size = len := by simp [str, ByteArray.size]
theorem str_at (len : Nat) (S : Nat → Bool) (i : Nat) (h : i < (str len S).size) : ((str len S)[i].toNat : Int) = (pk S i : Int) := by
  have := pk_lt S i
  have h2 : (str len S)[i] = UInt8.ofNat (pk S i) := by
    show (str len S).data[i]'_ = _
    simp [str]
  rw [h2]; simp; omega
theorem str_congr {len : Nat} {S T : Nat → Bool} (h : ∀ p, p < 8 * len → S p = T p) : str len S = str len T := by
  apply ByteArray.ext
  simp only [str]
  apply Array.ext
  · simp
  · intro i h1 h2
    simp at h1
    simp
    congr 1
    apply Nat.eq_of_testBit_eq
    intro j
    rw [pk_bit, pk_bit]
    by_cases hj : j < 8
    · simp [hj]; exact h _ (by omega)
    · simp [hj]
theorem str_ne {len : Nat} {S T : Nat → Bool} (p : Nat) (hp : p < 8 * len) (h : S p ≠ T p) : str len S ≠ str len T := by
  intro e
  have hl : p / 8 < len := by omega
  have h1 := str_at len S (p / 8) (by rw [str_size]; exact hl)
  have h2 := str_at len T (p / 8) (by rw [str_size]; exact hl)
  have h3 : pk S (p / 8) = pk T (p / 8) := by
    have : (pk S (p / 8) : Int) = pk T (p / 8) := by rw [← h1, ← h2]; simp only [e]
    omega
  have h4 := pk_bit S (p / 8) (p % 8)
  have h5 := pk_bit T (p / 8) (p % 8)
  have e8 : 8 * (p / 8) + p % 8 = p := by omega
  have l8 : p % 8 < 8 := by omega
  rw [e8] at h4 h5
  simp only [l8, decide_true, Bool.true_and] at h4 h5
  rw [h3, h5] at h4
  exact h h4.symm

theorem str_beq (a b : ByteArray) : (a.toList == b.toList) = decide (a = b) := by
  have e : ∀ x : ByteArray, x.toList = x.data.toList := fun x => by rw [ByteArray.toList_eq]
  by_cases h : a = b
  · subst h; simp
  · rw [decide_eq_false h, e, e]
    have : ¬ a.data.toList = b.data.toList := fun q => h (ByteArray.ext (Array.toList_inj.1 q))
    simpa using this
/-- Block B holds the bits S in 'len' bytes. -/
def Packed (w : World) (B len : Nat) (S : Nat → Bool) : Prop := Own w B len (fun q => .int .u8 (pk S q))
theorem Packed.bytes {w : World} {B len : Nat} {S : Nat → Bool} (h : Packed w B len S) : Lib.Bytes w B 0 (str len S) := fun i hi => by
  rw [str_at, Nat.zero_add]; exact h.cell i (by rw [str_size] at hi; exact hi)
theorem Packed.set {w : World} {B len : Nat} {S : Nat → Bool} (h : Packed w B len S) (k : Nat) (hk : k / 8 < len) : Packed (w.setCell ⟨B, k / 8, none⟩ (.int .u8 ((pk S (k / 8) ||| 2 ^ (k % 8) : Nat) : Int))) B len (upd S k) :=
  Own.set h _ hk _ _ (by rw [pk_upd_at]) (fun j hj e => by rw [pk_upd_off _ _ _ e])
theorem Packed.conv {w : World} {B len : Nat} {S : Nat → Bool} (h : Packed w B len S) (c : Nat) : (convert 26 9 (.slice (some ⟨B, 0, none⟩) len c)).run Try.prog w = .ok (.string (str len S)) w := by
  have := Lib.run_convert_whole (P := Try.prog) w 26 5 9 Try.underlying26 Try.underlying5 Try.underlying9 B 0 (str len S) h.bytes c
  rw [str_size] at this
  exact this

theorem setBitP (B len k : Nat) (S : Nat → Bool) (w : World) (h : Packed w B len S) (hk : k < 65536) (hlen : k / 8 < len) (hl : len ≤ 8192) :
    Calls Try.prog 9 #[.agg #[.slice (some ⟨B, 0, none⟩) len len], .int .u64 k] w fun e w' => e = .returned (.tuple #[]) ∧
      Keeps B w w' ∧ Packed w' B len (upd S k) := by
  refine (setBit B len _ k w hk hlen hl (pk_lt S (k / 8)) (h.cell _ hlen) (h.free _) h.size).mono ?_
  rintro e w' ⟨he, rfl⟩
  exact ⟨he, Keeps.setAlloc _ _ _ _ _, Own.alloc (h.set k hlen) _⟩
theorem hasBitP (B len k : Nat) (S : Nat → Bool) (w : World) (h : Packed w B len S) (hk : k < 65536) (hlen : k / 8 < len) (hl : len ≤ 8192) :
    Calls Try.prog 10 #[.agg #[.slice (some ⟨B, 0, none⟩) len len], .int .u64 k] w fun e w' => e = .returned (.bool (S k)) ∧ w' = w.alloc (.cells #[.slice (some ⟨B, 0, none⟩) len len] 28) := by
  have e1 : (pk S (k / 8)).testBit (k % 8) = S k := by
    rw [pk_bit, show 8 * (k / 8) + k % 8 = k by omega, decide_eq_true (show k % 8 < 8 by omega), Bool.true_and]
  rw [← e1]
  exact hasBit B len _ k w hk hlen hl (pk_lt S (k / 8)) (h.cell _ hlen) h.size
set_option maxHeartbeats 400000 in
theorem string (B len : Nat) (S : Nat → Bool) (w : World) (h : Packed w B len S) :
    Calls Try.prog 16 #[.agg #[.slice (some ⟨B, 0, none⟩) len len]] w fun e w' => e = .returned (.string (str len S)) ∧ w' = w.alloc (.cells #[.slice (some ⟨B, 0, none⟩) len len] 28) := by
  have hc := Packed.conv (Own.alloc h (.cells #[.slice (some ⟨B, 0, none⟩) len len] 28)) len
  go_enter Try.func16, Try.ntmps16
  go_wp2
  go_ret
  exact ⟨rfl, rfl⟩
set_option maxHeartbeats 400000 in
theorem bytesEqual (B C len : Nat) (S T : Nat → Bool) (w : World) (h : Packed w B len S) (k : Packed w C len T) :
    Calls Try.prog 18 #[.slice (some ⟨B, 0, none⟩) len len, .slice (some ⟨C, 0, none⟩) len len] w fun e w' => e = .returned (.bool (decide (str len S = str len T))) ∧ w' = w := by
  have hc := h.conv len
  have kc := k.conv len
  go_enter Try.func18, Try.ntmps18
  go_wp2
  go_ret
  refine ⟨?_, rfl⟩
  rw [← str_beq]
  rfl
set_option maxHeartbeats 400000 in
theorem equals (B C len : Nat) (S T : Nat → Bool) (w : World) (h : Packed w B len S) (k : Packed w C len T) :
    Calls Try.prog 12 #[.agg #[.slice (some ⟨B, 0, none⟩) len len], .agg #[.slice (some ⟨C, 0, none⟩) len len]] w fun e w' => e = .returned (.bool (decide (str len S = str len T))) ∧ w' = (w.alloc (.cells #[.slice (some ⟨B, 0, none⟩) len len] 28)).alloc (.cells #[.slice (some ⟨C, 0, none⟩) len len] 28) := by
  have h' : Packed _ B len S := Own.alloc (Own.alloc h (.cells #[.slice (some ⟨B, 0, none⟩) len len] 28)) (.cells #[.slice (some ⟨C, 0, none⟩) len len] 28)
  have k' : Packed _ C len T := Own.alloc (Own.alloc k (.cells #[.slice (some ⟨B, 0, none⟩) len len] 28)) (.cells #[.slice (some ⟨C, 0, none⟩) len len] 28)
  go_enter Try.func12, Try.ntmps12
  go_wp2_with (first | (go_at_call 18; (with_reducible refine (bytesEqual B C len S T _ h' k').mono ?_); rintro _ _ ⟨rfl, rfl⟩) | go_in)
  go_ret
  exact ⟨rfl, rfl⟩
theorem info5 : (Try.prog.info? 5).map (fun i => (i.zero, i.size, i.bytes)) = some (some (Value.int .u8 0), 1, 1) := by kernel_rfl
theorem info4 : (Try.prog.info? 4).map (fun i => (i.zero, i.size, i.bytes)) = some (some (Value.bool false), 1, 1) := by kernel_rfl
theorem mk26 (k : IntKind) (len : Nat) (h : len ≤ 1000000) (u : World) : (Instr.makeSlice 26 (.int k (len : Int)) (.int k (len : Int))).run Try.prog u =
        .ok (.slice (some ⟨u.heap.size, 0, none⟩) len len) (u.alloc (.cells (madeCells #[.int .u8 0] len) 5)) := by
  obtain ⟨i0, hi, hz0, hz1, hz2⟩ := info_parts info5
  have q := run_make (P := Try.prog) u 26 5 i0 (.int .u8 0) Try.underlying26 hi hz0 k k (len : Int) (len : Int) (by omega) (Int.le_refl _) (by rw [hz2]; omega) (by omega)
  simpa [hz1, Value.cells] using q
theorem mk30 (k : IntKind) (len : Nat) (h : len ≤ 1000000) (u : World) : (Instr.makeSlice 30 (.int k (len : Int)) (.int k (len : Int))).run Try.prog u =
        .ok (.slice (some ⟨u.heap.size, 0, none⟩) len len) (u.alloc (.cells (madeCells #[.bool false] len) 4)) := by
  obtain ⟨i0, hi, hz0, hz1, hz2⟩ := info_parts info4
  have q := run_make (P := Try.prog) u 30 4 i0 (.bool false) Try.underlying30 hi hz0 k k (len : Int) (len : Int) (by omega) (Int.le_refl _) (by rw [hz2]; omega) (by omega)
  simpa [hz1, Value.cells] using q
set_option maxHeartbeats 400000 in
theorem newBitSet (n : Nat) (w : World) (hn : n ≤ 65536) :
    Calls Try.prog 8 #[.int .u64 n] w fun e w' => ∃ B, e = .returned (.agg #[.slice (some ⟨B, 0, none⟩) ((n + 7) / 8) ((n + 7) / 8)]) ∧ Packed w' B ((n + 7) / 8) (fun _ => false) ∧ Below w.heap.size w w' ∧ w.heap.size ≤ B := by
  have hmk := mk26 .u64 ((n + 7) / 8) (by omega)
  have hd : ((n : Int) + 7) / 8 = (((n + 7) / 8 : Nat) : Int) := by omega
  have hle : (n + 7) / 8 ≤ 8192 := by omega
  generalize (n + 7) / 8 = len at *
  go_enter Try.func8, Try.ntmps8
  go_wp2
  refine bodyPost_ret (by simp [results, Try.results8, go_sem]) rfl ⟨w.heap.size + 1, rfl, ?_, by go_grown, by omega⟩
  have O := Own.made (w.alloc (.cells #[.slice (some ⟨w.heap.size + 1, 0, none⟩) len len] 28)) len (.int .u8 0) 5
  rw [show (w.alloc (.cells #[.slice (some ⟨w.heap.size + 1, 0, none⟩) len len] 28)).heap.size = w.heap.size + 1 by simp] at O
  exact Own.congr O fun j _ => by rw [pk_none]; rfl
theorem cloneUints_info : (Try.prog.info? 22).map (fun i => (i.zero, i.size, i.bytes)) = some (some (Value.int .u64 0), 1, 8) := by kernel_rfl
set_option maxRecDepth 100000 in
set_option maxHeartbeats 1000000 in
theorem cloneUints (a : Option Addr) (len cap : Nat) (zs : List Int) (w : World) (h : IsInts .u64 w a len cap zs) (hl : len ≤ 4194304) :
    Calls Try.prog 7 #[.slice a len cap] w (Copied (fun w' a' l c => IsInts .u64 w' a' l c zs) a len w) := by
  obtain ⟨i0, hi, hz0, hz1, hz2⟩ := info_parts cloneUints_info
  have hnil := fun (W : World) (p : Option Addr) (n c n' c' : Nat) => Lib.run_eql_slice_nil (P := Try.prog) W 23 22 p n c n' c' Try.underlying23
  obtain ⟨⟨h1, h2, hm, h4, h5⟩, hw⟩ := h
  rw [List.length_map] at h1
  cases a with
  | none =>
    obtain rfl : cap = 0 := h4 rfl
    obtain rfl : len = 0 := by omega
    obtain rfl : zs = [] := by simpa using h1
    clear h1 h2 hm h4 h5 hw
    go_enter Try.func7, Try.ntmps7
    go_wp2
    go_ret
    exact ⟨none, 0, rfl, ⟨⟨rfl, Nat.le_refl _, Nat.zero_le _, fun _ => rfl, fun h => absurd h (by omega)⟩, by simp⟩, Iff.rfl, Below.refl _ _⟩
  | some x =>
    have hmk : ∀ u : World, (Instr.makeSlice 23 (.int .i64 (len : Int)) (.int .i64 (len : Int))).run Try.prog u =
        .ok (.slice (some ⟨u.heap.size, 0, none⟩) len len) (u.alloc (.cells (madeCells (Value.int .u64 0).cells len) 22)) := fun u => by
      have q := run_make (P := Try.prog) u 23 22 i0 (Value.int .u64 0) Try.underlying23 hi hz0 .i64 .i64 (len : Int) (len : Int) (by omega) (Int.le_refl _) (by rw [hz2]; omega) (by omega)
      simpa [hz1] using q
    have S0 := Cl.start w len (Value.int .u64 0) 22 (zs.map (Value.int .u64))
    have HS := Lib.hid h5
    have HM := Lib.hid hm
    have HL := Lib.hid h1
    have HW := Lib.hid hw
    clear h1 h4 h5 hm hi hz0 hz1 hz2 hw
    go_enter Try.func7, Try.ntmps7
    go_wp2
    go_loopw [4] (fun i wr => ∃ k : Nat, k ≤ len ∧ i = .int .i64 k ∧ Cl w wr len k (zs.map (Value.int .u64))) (fun i _ => len - (intOf i).toNat)
    case atStart => exact ⟨0, Nat.zero_le _, rfl, S0⟩
    case round =>
      clear S0 hmk hnil
      obtain ⟨k, hk, rfl, hc⟩ := hrel
      by_cases hlt : k < len
      · obtain ⟨b, off, e, hb, hcell⟩ := HS.out (by omega)
        cases e
        have hv := hcell k hlt
        rw [getD_map_int _ _ _ (by rw [HL.out]; exact hlt)] at hv
        have hcur : wr.cell? ⟨b, off + k, none⟩ = some (.int .u64 (zs.getD k 0)) := by rw [hc.below.cell (p := ⟨b, off + k, none⟩) hb]; exact hv
        obtain ⟨u, hu⟩ := hc.some k hlt
        have hf := hc.free k
        have hst := hc.step hlt (.int .u64 (zs.getD k 0)) (by rw [getD_map_int _ _ _ (by rw [HL.out]; exact hlt)])
        have HST := Lib.hid hst
        clear hst hcell hv hc HS
        go_wp2
        refine ⟨⟨k + 1, by omega, by go_num, ?_⟩, by simp [intOf]; omega⟩
        have q := HST.out
        rw [List.getD_eq_getElem?_getD] at q
        exact q
      · have : k = len := by omega
        subst this
        go_wp2
        go_ret
        have hs := hc.isSlice (by rw [List.length_map]; exact HL.out) (by have := HM.out; omega)
        exact ⟨_, _, rfl, ⟨hs, HW.out⟩, by simp, hc.below⟩
theorem copyU32_info : (Try.prog.info? 35).map (fun i => (i.zero, i.size, i.bytes)) = some (some (Value.int .u32 0), 1, 4) := by kernel_rfl
set_option maxRecDepth 100000 in
set_option maxHeartbeats 1000000 in
theorem copyU32 (a : Option Addr) (len cap : Nat) (zs : List Int) (w : World) (h : IsInts .u32 w a len cap zs) (hl : len ≤ 4194304) :
    Calls Try.prog 14 #[.slice a len cap] w (Copied (fun w' a' l c => IsInts .u32 w' a' l c zs) a len w) := by
  obtain ⟨i0, hi, hz0, hz1, hz2⟩ := info_parts copyU32_info
  have hnil := fun (W : World) (p : Option Addr) (n c n' c' : Nat) => Lib.run_eql_slice_nil (P := Try.prog) W 36 35 p n c n' c' Try.underlying36
  obtain ⟨⟨h1, h2, hm, h4, h5⟩, hw⟩ := h
  rw [List.length_map] at h1
  cases a with
  | none =>
    obtain rfl : cap = 0 := h4 rfl
    obtain rfl : len = 0 := by omega
    obtain rfl : zs = [] := by simpa using h1
    clear h1 h2 hm h4 h5 hw
    go_enter Try.func14, Try.ntmps14
    go_wp2
    go_ret
    exact ⟨none, 0, rfl, ⟨⟨rfl, Nat.le_refl _, Nat.zero_le _, fun _ => rfl, fun h => absurd h (by omega)⟩, by simp⟩, Iff.rfl, Below.refl _ _⟩
  | some x =>
    have hmk : ∀ u : World, (Instr.makeSlice 36 (.int .i64 (len : Int)) (.int .i64 (len : Int))).run Try.prog u =
        .ok (.slice (some ⟨u.heap.size, 0, none⟩) len len) (u.alloc (.cells (madeCells (Value.int .u32 0).cells len) 35)) := fun u => by
      have q := run_make (P := Try.prog) u 36 35 i0 (Value.int .u32 0) Try.underlying36 hi hz0 .i64 .i64 (len : Int) (len : Int) (by omega) (Int.le_refl _) (by rw [hz2]; omega) (by omega)
      simpa [hz1] using q
    have S0 := Cl.start w len (Value.int .u32 0) 35 (zs.map (Value.int .u32))
    have HS := Lib.hid h5
    have HM := Lib.hid hm
    have HL := Lib.hid h1
    have HW := Lib.hid hw
    clear h1 h4 h5 hm hi hz0 hz1 hz2 hw
    go_enter Try.func14, Try.ntmps14
    go_wp2
    go_loopw [4] (fun i wr => ∃ k : Nat, k ≤ len ∧ i = .int .i64 k ∧ Cl w wr len k (zs.map (Value.int .u32))) (fun i _ => len - (intOf i).toNat)
    case atStart => exact ⟨0, Nat.zero_le _, rfl, S0⟩
    case round =>
      clear S0 hmk hnil
      obtain ⟨k, hk, rfl, hc⟩ := hrel
      by_cases hlt : k < len
      · obtain ⟨b, off, e, hb, hcell⟩ := HS.out (by omega)
        cases e
        have hv := hcell k hlt
        rw [getD_map_int _ _ _ (by rw [HL.out]; exact hlt)] at hv
        have hcur : wr.cell? ⟨b, off + k, none⟩ = some (.int .u32 (zs.getD k 0)) := by rw [hc.below.cell (p := ⟨b, off + k, none⟩) hb]; exact hv
        obtain ⟨u, hu⟩ := hc.some k hlt
        have hf := hc.free k
        have hst := hc.step hlt (.int .u32 (zs.getD k 0)) (by rw [getD_map_int _ _ _ (by rw [HL.out]; exact hlt)])
        have HST := Lib.hid hst
        clear hst hcell hv hc HS
        go_wp2
        refine ⟨⟨k + 1, by omega, by go_num, ?_⟩, by simp [intOf]; omega⟩
        have q := HST.out
        rw [List.getD_eq_getElem?_getD] at q
        exact q
      · have : k = len := by omega
        subst this
        go_wp2
        go_ret
        have hs := hc.isSlice (by rw [List.length_map]; exact HL.out) (by have := HM.out; omega)
        exact ⟨_, _, rfl, ⟨hs, HW.out⟩, by simp, hc.below⟩
end Go.Proofs.Yteemoncgpifocaa
