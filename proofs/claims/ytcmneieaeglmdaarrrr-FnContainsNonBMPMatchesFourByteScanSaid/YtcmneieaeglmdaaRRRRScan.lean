/-
  Where a text holds a code point past the basic plane: by runes and by bytes. No condition.
-/
import Derived.Test.YtcmneieaeglmdaaRRRROwn
import Derived.Test.YtcmneieaeglmdaaRRRRProg
import Derived.WalkSmall
import Derived.Laws.RangeAny
import Derived.Lib.OthersKept
namespace Go.Proofs.YtcmneieaeglmdaaRRRR
open Go.ChangeShapes Go.WideShapes Go.ChangeAt Go.RowKit
set_option linter.unusedVariables false

/-- The byte at a place. -/
def B (s : ByteArray) (k : Nat) : Nat := (s.get! k).toNat
theorem B_lt (s : ByteArray) (k : Nat) : B s k < 256 := (s.get! k).toNat_lt
theorem B_at (s : ByteArray) (k : Nat) (h : k < s.size) : (s[k]'h).toNat = B s k := by
  unfold B
  have e : s.get! k = s[k]'h := by
    simp [ByteArray.get!, getElem!_pos, h]
    rfl
  rw [e]
/-- A well-formed sequence of four bytes begins here. -/
def four (s : ByteArray) (i : Nat) : Bool :=
  decide (i + 3 < s.size) && ((decide (B s i = 240) && decide (144 ≤ B s (i + 1)) && decide (B s (i + 1) ≤ 191)) ||
    (decide (241 ≤ B s i) && decide (B s i ≤ 243) && decide (128 ≤ B s (i + 1)) && decide (B s (i + 1) ≤ 191)) ||
    (decide (B s i = 244) && decide (128 ≤ B s (i + 1)) && decide (B s (i + 1) ≤ 143))) &&
  decide (B s (i + 2) / 64 = 2) && decide (B s (i + 3) / 64 = 2)
theorem dec_eq (s : ByteArray) (i : Nat) : Utf8.decode s i =
    (if B s i < 0x80 then (B s i, 1)
     else if B s i / 32 == 6 && (decide (i + 1 < s.size) && B s (i + 1) / 64 == 2) then
       if B s i % 32 * 64 + B s (i + 1) % 64 ≥ 0x80 then (B s i % 32 * 64 + B s (i + 1) % 64, 2) else (Utf8.runeError, 1)
     else if B s i / 16 == 14 && (decide (i + 1 < s.size) && B s (i + 1) / 64 == 2) && (decide (i + 2 < s.size) && B s (i + 2) / 64 == 2) then
       if B s i % 16 * 4096 + B s (i + 1) % 64 * 64 + B s (i + 2) % 64 ≥ 0x800 && Utf8.valid ((B s i % 16 * 4096 + B s (i + 1) % 64 * 64 + B s (i + 2) % 64 : Nat) : Int) then (B s i % 16 * 4096 + B s (i + 1) % 64 * 64 + B s (i + 2) % 64, 3) else (Utf8.runeError, 1)
     else if B s i / 8 == 30 && (decide (i + 1 < s.size) && B s (i + 1) / 64 == 2) && (decide (i + 2 < s.size) && B s (i + 2) / 64 == 2) && (decide (i + 3 < s.size) && B s (i + 3) / 64 == 2) then
       if B s i % 8 * 262144 + B s (i + 1) % 64 * 4096 + B s (i + 2) % 64 * 64 + B s (i + 3) % 64 ≥ 0x10000 && Utf8.valid ((B s i % 8 * 262144 + B s (i + 1) % 64 * 4096 + B s (i + 2) % 64 * 64 + B s (i + 3) % 64 : Nat) : Int) then (B s i % 8 * 262144 + B s (i + 1) % 64 * 4096 + B s (i + 2) % 64 * 64 + B s (i + 3) % 64, 4) else (Utf8.runeError, 1)
     else (Utf8.runeError, 1)) := rfl
theorem valid_iff (n : Nat) : Utf8.valid (n : Int) = true ↔ n < 55296 ∨ (57344 ≤ n ∧ n ≤ 1114111) := by
  unfold Utf8.valid
  simp only [Bool.and_eq_true, Bool.or_eq_true, decide_eq_true_eq]
  omega
theorem big_iff (s : ByteArray) (i : Nat) : (65535 < (Utf8.decode s i).1) ↔ four s i = true := by
  rw [dec_eq]
  have h0 := B_lt s i
  have h1 := B_lt s (i + 1)
  have h2 := B_lt s (i + 2)
  have h3 := B_lt s (i + 3)
  unfold four
  generalize B s i = a at *
  generalize B s (i + 1) = b at *
  generalize B s (i + 2) = c at *
  generalize B s (i + 3) = d at *
  rw [show Utf8.runeError = 65533 from rfl]
  simp only [Bool.and_eq_true, Bool.or_eq_true, decide_eq_true_eq, beq_iff_eq, valid_iff]
  by_cases c0 : a < 128
  · rw [if_pos c0]; dsimp only; omega
  rw [if_neg c0]
  by_cases c1 : a / 32 = 6 ∧ i + 1 < s.size ∧ b / 64 = 2
  · rw [if_pos c1]
    split <;> dsimp only <;> omega
  rw [if_neg c1]
  by_cases c2 : (a / 16 = 14 ∧ i + 1 < s.size ∧ b / 64 = 2) ∧ i + 2 < s.size ∧ c / 64 = 2
  · rw [if_pos c2]
    split <;> dsimp only <;> omega
  rw [if_neg c2]
  by_cases c3 : ((a / 8 = 30 ∧ i + 1 < s.size ∧ b / 64 = 2) ∧ i + 2 < s.size ∧ c / 64 = 2) ∧ i + 3 < s.size ∧ d / 64 = 2
  · rw [if_pos c3]
    split <;> dsimp only <;> omega
  rw [if_neg c3]
  dsimp only; omega
theorem step_le (s : ByteArray) (pos i : Nat) (h : pos < i) (hf : four s i = true) : pos + (Utf8.decode s pos).2 ≤ i := by
  have h4 : 240 ≤ B s i := by
    unfold four at hf
    simp only [Bool.and_eq_true, Bool.or_eq_true, decide_eq_true_eq] at hf
    omega
  have c1 : i = pos + 1 → ¬ B s (pos + 1) / 64 = 2 := by rintro rfl; omega
  have c2 : i = pos + 2 → ¬ B s (pos + 2) / 64 = 2 := by rintro rfl; omega
  have c3 : i = pos + 3 → ¬ B s (pos + 3) / 64 = 2 := by rintro rfl; have := B_lt s (pos + 3); omega
  rw [dec_eq]
  simp only [Bool.and_eq_true, decide_eq_true_eq, beq_iff_eq, valid_iff]
  generalize B s pos = a at *
  generalize B s (pos + 1) = b at *
  generalize B s (pos + 2) = c at *
  generalize B s (pos + 3) = d at *
  split
  · dsimp only; omega
  split
  · split <;> dsimp only <;> omega
  split
  · split <;> dsimp only <;> omega
  split
  · split <;> dsimp only <;> omega
  dsimp only; omega
def big (s : ByteArray) : Nat → Nat → Bool
  | 0, _ => false
  | b + 1, pos => if pos < s.size then decide (65535 < (Utf8.decode s pos).1) || big s b (pos + (Utf8.decode s pos).2) else false
theorem width_pos (s : ByteArray) (pos : Nat) (h : pos < s.size) : 1 ≤ (Utf8.decode s pos).2 := by
  by_cases ha : (s[pos]'h).toNat < 128
  · rw [decode_ascii s pos h ha]
    exact Nat.le_refl _
  · exact (decode_high s pos h (by omega)).2
theorem big_of (s : ByteArray) : ∀ (b pos i : Nat), s.size ≤ pos + b → pos ≤ i → i < s.size → four s i = true → big s b pos = true
  | 0, pos, i, h, h1, h2, hf => by omega
  | b + 1, pos, i, h, h1, h2, hf => by
    unfold big
    rw [if_pos (by omega)]
    by_cases e : pos = i
    · subst e
      rw [decide_eq_true ((big_iff s pos).2 hf)]; rfl
    · have hw := width_pos s pos (by omega)
      rw [big_of s b _ i (by omega) (step_le s pos i (by omega) hf) h2 hf, Bool.or_true]
theorem of_big (s : ByteArray) : ∀ (b pos : Nat), big s b pos = true → ∃ i, i < s.size ∧ four s i = true
  | 0, pos, h => by cases h
  | b + 1, pos, h => by
    unfold big at h
    split at h
    · rename_i hp
      rw [Bool.or_eq_true, decide_eq_true_eq] at h
      rcases h with h | h
      · exact ⟨pos, hp, (big_iff s pos).1 h⟩
      · exact of_big s b _ h
    · cases h
theorem big_end (s : ByteArray) (b pos : Nat) (h : ¬ pos < s.size) : big s b pos = false := by
  cases b with
  | zero => rfl
  | succ b => unfold big; rw [if_neg h]
set_option maxRecDepth 100000 in
set_option maxHeartbeats 1000000 in
theorem nonBMP (s : ByteArray) (hs : s.size ≤ 4194304) (w : World) :
    Calls Try.prog 6 #[.string s] w fun e w' => e = .returned (.bool (big s s.size 0)) ∧ Below w.heap.size w w' := by
  go_enter Try.func6, Try.ntmps6
  go_wp2
  go_loopw [4] (fun _ w' => ∃ (pos b : Nat), w' = w.iter s pos ∧ big s b pos = big s s.size 0 ∧ s.size ≤ pos + b) (fun _ w' => s.size - w'.iterPos w.heap.size)
  case atStart => exact ⟨0, s.size, rfl, rfl, by omega⟩
  case round =>
    obtain ⟨pos, b, rfl, hc, hb⟩ := hrel
    have HC := Lib.hid hc
    clear hc
    have hbel : Below w.heap.size w (w.iter s pos) := (Below.refl _ w).alloc (Nat.le_refl _) _
    have hbel2 : Below w.heap.size w (w.iter s (pos + (Utf8.decode s pos).2)) := (Below.refl _ w).alloc (Nat.le_refl _) _
    by_cases hp : pos < s.size
    · have hnx : ∀ ty, (Instr.next (.pointer (some ⟨w.heap.size, 0, none⟩)) true ty).run Try.prog (w.iter s pos) = _ := fun ty => run_next_any w s pos ty hp
      have hwd := width_pos s pos hp
      have HU : Hid (∃ b', b = b' + 1 ∧ (decide (65535 < (Utf8.decode s pos).1) || big s b' (pos + (Utf8.decode s pos).2)) = big s s.size 0) := by
        cases b with
        | zero => omega
        | succ b' => exact ⟨b', rfl, by rw [← HC.out]; conv => rhs; unfold big; rw [if_pos hp]⟩
      generalize (Utf8.decode s pos).2 = wd at *
      generalize (Utf8.decode s pos).1 = c at *
      obtain ⟨b', rfl, hu⟩ := HU.out
      by_cases hbig : 65535 < c
      · rw [decide_eq_true hbig, Bool.true_or] at hu
        have HU2 := Lib.hid hu
        clear hu HU HC
        go_wp2
        go_ret
        exact ⟨by rw [← HU2.out]; rfl, hbel2⟩
      · rw [decide_eq_false hbig, Bool.false_or] at hu
        have HU2 := Lib.hid hu
        clear hu HU HC
        go_wp2
        exact ⟨⟨pos + wd, b', rfl, HU2.out, by omega⟩, by simp; omega⟩
    · have hnx : ∀ ty, (Instr.next (.pointer (some ⟨w.heap.size, 0, none⟩)) true ty).run Try.prog (w.iter s pos) = _ := fun ty => run_next_end w s pos ty hp
      have HE := Lib.hid (HC.out.symm.trans (big_end s b pos hp))
      clear HC
      go_wp2
      go_ret
      exact ⟨by rw [HE.out]; rfl, hbel⟩
end Go.Proofs.YtcmneieaeglmdaaRRRR
