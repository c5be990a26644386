/-
  The contract of bigText. No condition.
-/
import Derived.Test.YtnhjmhomkmfopaaBig
import Derived.Test.YtnhjmhomkmfopaaProg
import Derived.WalkSmall
import Derived.Lib.SlBytesRow
import Derived.Lib.Strings
namespace Go.Proofs.Ytnhjmhomkmfopaa
open Go.ChangeShapes Go.WideShapes Go.ChangeAt Go.RowKit Big
set_option linter.unusedVariables false

def hexs : ByteArray := ⟨#[48, 49, 50, 51, 52, 53, 54, 55, 56, 57, 97, 98, 99, 100, 101, 102]⟩
theorem hex_at : ∀ d : Nat, (h : d < 16) → (hexs[d]'h).toNat = ch d := by decide
theorem ch_lt {d : Nat} (h : d < 16) : ch d < 256 := by unfold ch; split <;> omega
/-- The buffer behind k rounds. -/
structure Bf (w wr : World) (b v k : Nat) (xs : Nat → Nat) : Prop where
  own : Own wr w.heap.size 64 (fun q => .int .u8 ((xs q : Nat) : Int))
  small : ∀ q, xs q < 256
  done : ∀ j, j < k → xs (63 - j) = ch (v / b ^ j % b)
  below : Below w.heap.size w wr
theorem Bf.step {w wr : World} {b v k : Nat} {xs : Nat → Nat} (h : Bf w wr b v k xs) (hk : k < 64) (hb : 2 ≤ b) (hb2 : b ≤ 16) :
    Bf w (wr.setCell ⟨w.heap.size, 63 - k, none⟩ (.int .u8 (ch (v / b ^ k % b) : Nat))) b v (k + 1) (fun q => if q = 63 - k then ch (v / b ^ k % b) else xs q) where
  own := h.own.set (63 - k) (by omega) _ _ (by simp) (fun j hj e => by simp [e])
  small := fun q => by
    split
    · exact ch_lt (by have := Nat.mod_lt (v / b ^ k) (show b > 0 by omega); omega)
    · exact h.small q
  done := fun j hj => by
    by_cases e : j = k
    · subst e; rw [if_pos rfl]
    · rw [if_neg (by omega)]; exact h.done j (by omega)
  below := h.below.setCell (p := ⟨w.heap.size, 63 - k, none⟩) (Nat.le_refl _) _
def arr (xs : Nat → Nat) : ByteArray := ⟨(Array.range 64).map fun q => UInt8.ofNat (xs q)⟩
theorem arr_bytes {w : World} {B : Nat} {xs : Nat → Nat} (h : Own w B 64 (fun q => .int .u8 ((xs q : Nat) : Int))) (hx : ∀ q, xs q < 256) : Lib.Bytes w B 0 (arr xs) := fun i hi => by
  have hi' : i < 64 := by simpa [arr, ByteArray.size] using hi
  have h2 : (arr xs)[i] = UInt8.ofNat (xs i) := by
    show (arr xs).data[i]'_ = _
    simp [arr]
  have := hx i
  rw [Nat.zero_add, h.cell i hi', h2]
  congr 2
  simp; omega
/-- The bytes of a text. -/
def nats (s : ByteArray) : List Nat := s.data.toList.map UInt8.toNat
theorem nats_app (a b : ByteArray) : nats (a ++ b) = nats a ++ nats b := by simp [nats]
theorem nats_win {w wr : World} {b v k : Nat} {xs : Nat → Nat} (h : Bf w wr b v k xs) (hk : k ≤ 64) : nats ((arr xs).extract (64 - k) ((64 - k) + k)) = chs b v k := by
  unfold nats
  rw [Lib.extract_data]
  refine List.ext_getElem? fun q => ?_
  by_cases hq : q < k
  · rw [chs_get b v k q hq, List.getElem?_map, List.getElem?_take_of_lt (by omega), List.getElem?_drop]
    have e1 : (arr xs).data.toList[64 - k + q]? = some (UInt8.ofNat (xs (64 - k + q))) := by
      unfold arr
      rw [Array.getElem?_toList, Array.getElem?_map, Array.getElem?_range]
      rw [if_pos (by omega)]; rfl
    rw [e1]
    have e2 := h.done (k - 1 - q) (by omega)
    rw [show 63 - (k - 1 - q) = 64 - k + q by omega] at e2
    have := h.small (64 - k + q)
    simp only [Option.map_some]
    rw [← e2]
    congr 1
    simp; omega
  · rw [List.getElem?_eq_none (by rw [List.length_map, List.length_take]; omega), List.getElem?_eq_none (by rw [chs_len]; omega)]
theorem info68 : (Try.prog.info? 68).map (fun i => (i.size, i.bytes)) = some (64, 64) := by kernel_rfl
theorem lit64 (w : World) (v : Nat) (b : Nat) : Bf w (w.alloc (.cells #[.int .u8 0, .int .u8 0, .int .u8 0, .int .u8 0, .int .u8 0, .int .u8 0, .int .u8 0, .int .u8 0, .int .u8 0, .int .u8 0, .int .u8 0, .int .u8 0, .int .u8 0, .int .u8 0, .int .u8 0, .int .u8 0, .int .u8 0, .int .u8 0, .int .u8 0, .int .u8 0, .int .u8 0, .int .u8 0, .int .u8 0, .int .u8 0, .int .u8 0, .int .u8 0, .int .u8 0, .int .u8 0, .int .u8 0, .int .u8 0, .int .u8 0, .int .u8 0, .int .u8 0, .int .u8 0, .int .u8 0, .int .u8 0, .int .u8 0, .int .u8 0, .int .u8 0, .int .u8 0, .int .u8 0, .int .u8 0, .int .u8 0, .int .u8 0, .int .u8 0, .int .u8 0, .int .u8 0, .int .u8 0, .int .u8 0, .int .u8 0, .int .u8 0, .int .u8 0, .int .u8 0, .int .u8 0, .int .u8 0, .int .u8 0, .int .u8 0, .int .u8 0, .int .u8 0, .int .u8 0, .int .u8 0, .int .u8 0, .int .u8 0, .int .u8 0] 68)) b v 0 (fun _ => 0) := by
  have h := Own.made w 64 (.int .u8 0) 68
  rw [show madeCells #[Value.int .u8 0] 64 = _ from Array.toList_inj.1 (toList_madeCells_one (.int .u8 0) 64)] at h
  exact ⟨h, fun _ => by omega, fun j hj => absurd hj (by omega), (Below.refl _ _).alloc (Nat.le_refl _) _⟩
theorem slice64 (W : World) (B j : Nat) (hj : j ≤ 63) : (Instr.sliceAt 68 (.pointer (some ⟨B, 0, none⟩)) (some (.int .i64 (j : Int))) none none).run Try.prog W = .ok (.slice (some ⟨B, j, none⟩) (64 - j) (64 - j)) W := by
  have hal : Try.prog.arrayLen 68 = 64 := by kernel_rfl
  have hel : Try.prog.elem 68 = 5 := by kernel_rfl
  have hsz : (sizeOf 5).run Try.prog W = .ok 1 W := by kernel_rfl
  rw [run_sliceAt_array_l W 68 ⟨B, 0, none⟩ (by kernel_rfl) .i64 (j : Int) (by omega) (by rw [hal]; omega), hel, hsz, hal]
  simp only [Result.andThen_ok, slicedAt, Int.toNat_natCast, Nat.mul_one]
  rw [if_neg (by omega), Addr.add_lit, Nat.zero_add]
theorem pow_lt_of {b k v : Nat} (hb : 2 ≤ b) (hv : v < 18446744073709551616) (h : v / b ^ k ≠ 0) : k < 64 := by
  have hp : 0 < b ^ k := Nat.pow_pos (by omega)
  have h1 : b ^ k ≤ v := by
    false_or_by_contra
    exact h (Nat.div_eq_of_lt (by omega))
  have h2 : 2 ^ k ≤ b ^ k := Nat.pow_le_pow_left hb k
  false_or_by_contra
  have h3 : 2 ^ 64 ≤ 2 ^ k := Nat.pow_le_pow_right (by omega) (by omega)
  omega
theorem nats_len (s : ByteArray) : (nats s).length = s.size := by unfold nats; rw [List.length_map]; rfl
theorem addPre (P : Array UInt8) (hP : P.size ≤ 2) (E : ByteArray) (b v n : Nat) (q : nats E = chs b v n) (hn : n ≤ 64) (W : World) : (Op.stringOp .add ⟨P⟩ E).run Try.prog W = .ok (.string (⟨P⟩ ++ E)) W := by
  have h1 := congrArg List.length q
  rw [chs_len, nats_len] at h1
  exact run_string_add W _ _ (by show (P.size : Int) ≤ _; omega) (by omega)
def Gave (f v : Nat) (w : World) (e : Ending) (w' : World) : Prop := ∃ T, e = .returned (.string T) ∧ Txt f v (nats T) ∧ Below w.heap.size w w' ∧ T.size ≤ 100
set_option maxRecDepth 100000 in
set_option maxHeartbeats 4000000 in
theorem text0 (v : Nat) (f : Nat) (hv : v < 18446744073709551616) (hf : f < 256) (hm : f % 4 = 0) (w : World) :
    Calls Try.prog 20 #[.int .u64 (v : Int), .int .u8 (f : Int)] w (Gave f v w) := by
  have HB : Hid (base f = 10) := by show _ = _; unfold base; simp [hm]
  have HP : Hid (pre f = []) := by show _ = _; unfold pre; simp [hm]
  have f1 : ((f : Int) % 4 == 1) = false := by rw [beq_eq_false_iff_ne]; omega
  have f2 : ((f : Int) % 4 == 2) = false := by rw [beq_eq_false_iff_ne]; omega
  have f3 : ((f : Int) % 4 == 3) = false := by rw [beq_eq_false_iff_ne]; omega
  have HL := Lib.hid (lit64 w v 10)
  clear hm
  go_enter Try.func20, Try.ntmps20
  go_wp2
  go_loopw [0, 8] (fun x i wr => ∃ (j u : Nat) (xs : Nat → Nat), j ≤ 63 ∧ u = v / 10 ^ (63 - j) ∧ x = .int .u64 (u : Int) ∧ i = .int .i64 ((j : Int) + 1) ∧ Bf w wr 10 v (63 - j) xs ∧ (∀ m, 1 ≤ m → m ≤ 63 - j → v / 10 ^ m ≠ 0)) (fun _ i _ => (intOf i).toNat)
  case atStart => exact ⟨63, v, _, Nat.le_refl _, by simp, rfl, rfl, HL.out, fun m h1 h2 => absurd h2 (by omega)⟩
  case round =>
    clear HL
    obtain ⟨j, u, xs, hj, hu, rfl, rfl, hbf, hlow⟩ := hrel
    have hst := hbf.step (by omega) (by omega) (by omega)
    rw [← hu, show 63 - (63 - j) = j by omega] at hst
    have hc := hbf.own.cell j (by omega)
    have hfz := hbf.own.free j
    have hub : u < 18446744073709551616 := by rw [hu]; exact Nat.lt_of_le_of_lt (Nat.div_le_self _ _) hv
    have hd : u % 10 < 16 := by omega
    have hix : ((⟨#[48, 49, 50, 51, 52, 53, 54, 55, 56, 57, 97, 98, 99, 100, 101, 102]⟩ : ByteArray)[u % 10]'hd).toNat = ch (u % 10) := hex_at (u % 10) hd
    have HU := Lib.hid hu
    have HLOW := Lib.hid hlow
    have HST := Lib.hid hst
    have hnx : u / 10 = v / 10 ^ (63 - j + 1) := by rw [hu, Nat.pow_succ, ← Nat.div_div_eq_div_mul]
    have HNX := Lib.hid hnx
    clear hu hlow hst hnx hbf
    by_cases hend : u / 10 = 0
    · have hz : (((u / 10 : Nat) : Int) == 0) = true := by rw [hend]; rfl
      have hz2 : ((u : Int) / 10 == 0) = true := by rw [beq_iff_eq]; omega
      have hcv := Lib.run_convert_window (P := Try.prog) _ 22 5 9 Try.underlying22 Try.underlying5 Try.underlying9 w.heap.size 0 _ (arr_bytes HST.out.own HST.out.small) j (64 - j) (64 - j) (by simp [arr, ByteArray.size]; omega)
      rw [Nat.zero_add] at hcv
      have hsl := fun W : World => slice64 W w.heap.size j hj
      have HLN : Hid (Len 10 v (63 - j + 1)) := ⟨by omega, by rw [← HNX.out]; exact hend, fun m h1 h2 => HLOW.out m h1 (by omega)⟩
      have hnw := nats_win HST.out (by omega)
      rw [show 64 - (63 - j + 1) = j by omega, show j + (63 - j + 1) = j + (64 - j) by omega] at hnw
      have HNW := Lib.hid hnw
      have HBW := Lib.hid HST.out.below
      have hadd2 := fun W => addPre #[] (by decide) _ _ _ _ hnw (by omega) W
      clear hnw HST
      go_wp2
      go_ret
      exact ⟨_, rfl, ⟨63 - j + 1, by rw [HB.out]; exact HLN.out, by rw [nats_app, HNW.out, HP.out, HB.out]; rfl⟩, HBW.out, by
        have h1 := congrArg List.length HNW.out
        rw [chs_len, nats_len] at h1
        rw [ByteArray.size_append, h1]
        show 0 + (63 - j + 1) ≤ 100
        omega⟩
    · have hz : (((u / 10 : Nat) : Int) == 0) = false := by rw [beq_eq_false_iff_ne]; omega
      have hz2 : ((u : Int) / 10 == 0) = false := by rw [beq_eq_false_iff_ne]; omega
      have hj0 : 63 - j + 1 < 64 := pow_lt_of (b := 10) (by omega) hv (by rw [← HNX.out]; exact hend)
      go_wp2
      refine ⟨⟨j - 1, u / 10, fun q => if q = j then ch (u % 10) else xs q, by omega, ?_, by simp, by congr 1; omega, ?_, ?_⟩, by simp [intOf]⟩
      · rw [HNX.out, show 63 - (j - 1) = 63 - j + 1 by omega]
      · rw [show 63 - (j - 1) = 63 - j + 1 by omega]; exact HST.out
      · intro m h1 h2
        by_cases e : m = 63 - j + 1
        · rw [e, ← HNX.out]; exact hend
        · exact HLOW.out m h1 (by omega)
set_option maxRecDepth 100000 in
set_option maxHeartbeats 4000000 in
theorem text1 (v : Nat) (f : Nat) (hv : v < 18446744073709551616) (hf : f < 256) (hm : f % 4 = 1) (w : World) :
    Calls Try.prog 20 #[.int .u64 (v : Int), .int .u8 (f : Int)] w (Gave f v w) := by
  have HB : Hid (base f = 16) := by show _ = _; unfold base; simp [hm]
  have HP : Hid (pre f = [48, 120]) := by show _ = _; unfold pre; simp [hm]
  have f1 : ((f : Int) % 4 == 1) = true := by rw [beq_iff_eq]; omega
  have f2 : ((f : Int) % 4 == 2) = false := by rw [beq_eq_false_iff_ne]; omega
  have f3 : ((f : Int) % 4 == 3) = false := by rw [beq_eq_false_iff_ne]; omega
  have HL := Lib.hid (lit64 w v 16)
  clear hm
  go_enter Try.func20, Try.ntmps20
  go_wp2
  go_loopw [0, 8] (fun x i wr => ∃ (j u : Nat) (xs : Nat → Nat), j ≤ 63 ∧ u = v / 16 ^ (63 - j) ∧ x = .int .u64 (u : Int) ∧ i = .int .i64 ((j : Int) + 1) ∧ Bf w wr 16 v (63 - j) xs ∧ (∀ m, 1 ≤ m → m ≤ 63 - j → v / 16 ^ m ≠ 0)) (fun _ i _ => (intOf i).toNat)
  case atStart => exact ⟨63, v, _, Nat.le_refl _, by simp, rfl, rfl, HL.out, fun m h1 h2 => absurd h2 (by omega)⟩
  case round =>
    clear HL
    obtain ⟨j, u, xs, hj, hu, rfl, rfl, hbf, hlow⟩ := hrel
    have hst := hbf.step (by omega) (by omega) (by omega)
    rw [← hu, show 63 - (63 - j) = j by omega] at hst
    have hc := hbf.own.cell j (by omega)
    have hfz := hbf.own.free j
    have hub : u < 18446744073709551616 := by rw [hu]; exact Nat.lt_of_le_of_lt (Nat.div_le_self _ _) hv
    have hd : u % 16 < 16 := by omega
    have hix : ((⟨#[48, 49, 50, 51, 52, 53, 54, 55, 56, 57, 97, 98, 99, 100, 101, 102]⟩ : ByteArray)[u % 16]'hd).toNat = ch (u % 16) := hex_at (u % 16) hd
    have HU := Lib.hid hu
    have HLOW := Lib.hid hlow
    have HST := Lib.hid hst
    have hnx : u / 16 = v / 16 ^ (63 - j + 1) := by rw [hu, Nat.pow_succ, ← Nat.div_div_eq_div_mul]
    have HNX := Lib.hid hnx
    clear hu hlow hst hnx hbf
    by_cases hend : u / 16 = 0
    · have hz : (((u / 16 : Nat) : Int) == 0) = true := by rw [hend]; rfl
      have hz2 : ((u : Int) / 16 == 0) = true := by rw [beq_iff_eq]; omega
      have hcv := Lib.run_convert_window (P := Try.prog) _ 22 5 9 Try.underlying22 Try.underlying5 Try.underlying9 w.heap.size 0 _ (arr_bytes HST.out.own HST.out.small) j (64 - j) (64 - j) (by simp [arr, ByteArray.size]; omega)
      rw [Nat.zero_add] at hcv
      have hsl := fun W : World => slice64 W w.heap.size j hj
      have HLN : Hid (Len 16 v (63 - j + 1)) := ⟨by omega, by rw [← HNX.out]; exact hend, fun m h1 h2 => HLOW.out m h1 (by omega)⟩
      have hnw := nats_win HST.out (by omega)
      rw [show 64 - (63 - j + 1) = j by omega, show j + (63 - j + 1) = j + (64 - j) by omega] at hnw
      have HNW := Lib.hid hnw
      have HBW := Lib.hid HST.out.below
      have hadd2 := fun W => addPre #[48, 120] (by decide) _ _ _ _ hnw (by omega) W
      clear hnw HST
      go_wp2
      go_ret
      exact ⟨_, rfl, ⟨63 - j + 1, by rw [HB.out]; exact HLN.out, by rw [nats_app, HNW.out, HP.out, HB.out]; rfl⟩, HBW.out, by
        have h1 := congrArg List.length HNW.out
        rw [chs_len, nats_len] at h1
        rw [ByteArray.size_append, h1]
        show 2 + (63 - j + 1) ≤ 100
        omega⟩
    · have hz : (((u / 16 : Nat) : Int) == 0) = false := by rw [beq_eq_false_iff_ne]; omega
      have hz2 : ((u : Int) / 16 == 0) = false := by rw [beq_eq_false_iff_ne]; omega
      have hj0 : 63 - j + 1 < 64 := pow_lt_of (b := 16) (by omega) hv (by rw [← HNX.out]; exact hend)
      go_wp2
      refine ⟨⟨j - 1, u / 16, fun q => if q = j then ch (u % 16) else xs q, by omega, ?_, by simp, by congr 1; omega, ?_, ?_⟩, by simp [intOf]⟩
      · rw [HNX.out, show 63 - (j - 1) = 63 - j + 1 by omega]
      · rw [show 63 - (j - 1) = 63 - j + 1 by omega]; exact HST.out
      · intro m h1 h2
        by_cases e : m = 63 - j + 1
        · rw [e, ← HNX.out]; exact hend
        · exact HLOW.out m h1 (by omega)
set_option maxRecDepth 100000 in
set_option maxHeartbeats 4000000 in
theorem text2 (v : Nat) (f : Nat) (hv : v < 18446744073709551616) (hf : f < 256) (hm : f % 4 = 2) (w : World) :
    Calls Try.prog 20 #[.int .u64 (v : Int), .int .u8 (f : Int)] w (Gave f v w) := by
  have HB : Hid (base f = 2) := by show _ = _; unfold base; simp [hm]
  have HP : Hid (pre f = [48, 98]) := by show _ = _; unfold pre; simp [hm]
  have f1 : ((f : Int) % 4 == 1) = false := by rw [beq_eq_false_iff_ne]; omega
  have f2 : ((f : Int) % 4 == 2) = true := by rw [beq_iff_eq]; omega
  have f3 : ((f : Int) % 4 == 3) = false := by rw [beq_eq_false_iff_ne]; omega
  have HL := Lib.hid (lit64 w v 2)
  clear hm
  go_enter Try.func20, Try.ntmps20
  go_wp2
  go_loopw [0, 8] (fun x i wr => ∃ (j u : Nat) (xs : Nat → Nat), j ≤ 63 ∧ u = v / 2 ^ (63 - j) ∧ x = .int .u64 (u : Int) ∧ i = .int .i64 ((j : Int) + 1) ∧ Bf w wr 2 v (63 - j) xs ∧ (∀ m, 1 ≤ m → m ≤ 63 - j → v / 2 ^ m ≠ 0)) (fun _ i _ => (intOf i).toNat)
  case atStart => exact ⟨63, v, _, Nat.le_refl _, by simp, rfl, rfl, HL.out, fun m h1 h2 => absurd h2 (by omega)⟩
  case round =>
    clear HL
    obtain ⟨j, u, xs, hj, hu, rfl, rfl, hbf, hlow⟩ := hrel
    have hst := hbf.step (by omega) (by omega) (by omega)
    rw [← hu, show 63 - (63 - j) = j by omega] at hst
    have hc := hbf.own.cell j (by omega)
    have hfz := hbf.own.free j
    have hub : u < 18446744073709551616 := by rw [hu]; exact Nat.lt_of_le_of_lt (Nat.div_le_self _ _) hv
    have hd : u % 2 < 16 := by omega
    have hix : ((⟨#[48, 49, 50, 51, 52, 53, 54, 55, 56, 57, 97, 98, 99, 100, 101, 102]⟩ : ByteArray)[u % 2]'hd).toNat = ch (u % 2) := hex_at (u % 2) hd
    have HU := Lib.hid hu
    have HLOW := Lib.hid hlow
    have HST := Lib.hid hst
    have hnx : u / 2 = v / 2 ^ (63 - j + 1) := by rw [hu, Nat.pow_succ, ← Nat.div_div_eq_div_mul]
    have HNX := Lib.hid hnx
    clear hu hlow hst hnx hbf
    by_cases hend : u / 2 = 0
    · have hz : (((u / 2 : Nat) : Int) == 0) = true := by rw [hend]; rfl
      have hz2 : ((u : Int) / 2 == 0) = true := by rw [beq_iff_eq]; omega
      have hcv := Lib.run_convert_window (P := Try.prog) _ 22 5 9 Try.underlying22 Try.underlying5 Try.underlying9 w.heap.size 0 _ (arr_bytes HST.out.own HST.out.small) j (64 - j) (64 - j) (by simp [arr, ByteArray.size]; omega)
      rw [Nat.zero_add] at hcv
      have hsl := fun W : World => slice64 W w.heap.size j hj
      have HLN : Hid (Len 2 v (63 - j + 1)) := ⟨by omega, by rw [← HNX.out]; exact hend, fun m h1 h2 => HLOW.out m h1 (by omega)⟩
      have hnw := nats_win HST.out (by omega)
      rw [show 64 - (63 - j + 1) = j by omega, show j + (63 - j + 1) = j + (64 - j) by omega] at hnw
      have HNW := Lib.hid hnw
      have HBW := Lib.hid HST.out.below
      have hadd2 := fun W => addPre #[48, 98] (by decide) _ _ _ _ hnw (by omega) W
      clear hnw HST
      go_wp2
      go_ret
      exact ⟨_, rfl, ⟨63 - j + 1, by rw [HB.out]; exact HLN.out, by rw [nats_app, HNW.out, HP.out, HB.out]; rfl⟩, HBW.out, by
        have h1 := congrArg List.length HNW.out
        rw [chs_len, nats_len] at h1
        rw [ByteArray.size_append, h1]
        show 2 + (63 - j + 1) ≤ 100
        omega⟩
    · have hz : (((u / 2 : Nat) : Int) == 0) = false := by rw [beq_eq_false_iff_ne]; omega
      have hz2 : ((u : Int) / 2 == 0) = false := by rw [beq_eq_false_iff_ne]; omega
      have hj0 : 63 - j + 1 < 64 := pow_lt_of (b := 2) (by omega) hv (by rw [← HNX.out]; exact hend)
      go_wp2
      refine ⟨⟨j - 1, u / 2, fun q => if q = j then ch (u % 2) else xs q, by omega, ?_, by simp, by congr 1; omega, ?_, ?_⟩, by simp [intOf]⟩
      · rw [HNX.out, show 63 - (j - 1) = 63 - j + 1 by omega]
      · rw [show 63 - (j - 1) = 63 - j + 1 by omega]; exact HST.out
      · intro m h1 h2
        by_cases e : m = 63 - j + 1
        · rw [e, ← HNX.out]; exact hend
        · exact HLOW.out m h1 (by omega)
set_option maxRecDepth 100000 in
set_option maxHeartbeats 4000000 in
theorem text3 (v : Nat) (f : Nat) (hv : v < 18446744073709551616) (hf : f < 256) (hm : f % 4 = 3) (w : World) :
    Calls Try.prog 20 #[.int .u64 (v : Int), .int .u8 (f : Int)] w (Gave f v w) := by
  have HB : Hid (base f = 8) := by show _ = _; unfold base; simp [hm]
  have HP : Hid (pre f = [48, 111]) := by show _ = _; unfold pre; simp [hm]
  have f1 : ((f : Int) % 4 == 1) = false := by rw [beq_eq_false_iff_ne]; omega
  have f2 : ((f : Int) % 4 == 2) = false := by rw [beq_eq_false_iff_ne]; omega
  have f3 : ((f : Int) % 4 == 3) = true := by rw [beq_iff_eq]; omega
  have HL := Lib.hid (lit64 w v 8)
  clear hm
  go_enter Try.func20, Try.ntmps20
  go_wp2
  go_loopw [0, 8] (fun x i wr => ∃ (j u : Nat) (xs : Nat → Nat), j ≤ 63 ∧ u = v / 8 ^ (63 - j) ∧ x = .int .u64 (u : Int) ∧ i = .int .i64 ((j : Int) + 1) ∧ Bf w wr 8 v (63 - j) xs ∧ (∀ m, 1 ≤ m → m ≤ 63 - j → v / 8 ^ m ≠ 0)) (fun _ i _ => (intOf i).toNat)
  case atStart => exact ⟨63, v, _, Nat.le_refl _, by simp, rfl, rfl, HL.out, fun m h1 h2 => absurd h2 (by omega)⟩
  case round =>
    clear HL
    obtain ⟨j, u, xs, hj, hu, rfl, rfl, hbf, hlow⟩ := hrel
    have hst := hbf.step (by omega) (by omega) (by omega)
    rw [← hu, show 63 - (63 - j) = j by omega] at hst
    have hc := hbf.own.cell j (by omega)
    have hfz := hbf.own.free j
    have hub : u < 18446744073709551616 := by rw [hu]; exact Nat.lt_of_le_of_lt (Nat.div_le_self _ _) hv
    have hd : u % 8 < 16 := by omega
    have hix : ((⟨#[48, 49, 50, 51, 52, 53, 54, 55, 56, 57, 97, 98, 99, 100, 101, 102]⟩ : ByteArray)[u % 8]'hd).toNat = ch (u % 8) := hex_at (u % 8) hd
    have HU := Lib.hid hu
    have HLOW := Lib.hid hlow
    have HST := Lib.hid hst
    have hnx : u / 8 = v / 8 ^ (63 - j + 1) := by rw [hu, Nat.pow_succ, ← Nat.div_div_eq_div_mul]
    have HNX := Lib.hid hnx
    clear hu hlow hst hnx hbf
    by_cases hend : u / 8 = 0
    · have hz : (((u / 8 : Nat) : Int) == 0) = true := by rw [hend]; rfl
      have hz2 : ((u : Int) / 8 == 0) = true := by rw [beq_iff_eq]; omega
      have hcv := Lib.run_convert_window (P := Try.prog) _ 22 5 9 Try.underlying22 Try.underlying5 Try.underlying9 w.heap.size 0 _ (arr_bytes HST.out.own HST.out.small) j (64 - j) (64 - j) (by simp [arr, ByteArray.size]; omega)
      rw [Nat.zero_add] at hcv
      have hsl := fun W : World => slice64 W w.heap.size j hj
      have HLN : Hid (Len 8 v (63 - j + 1)) := ⟨by omega, by rw [← HNX.out]; exact hend, fun m h1 h2 => HLOW.out m h1 (by omega)⟩
      have hnw := nats_win HST.out (by omega)
      rw [show 64 - (63 - j + 1) = j by omega, show j + (63 - j + 1) = j + (64 - j) by omega] at hnw
      have HNW := Lib.hid hnw
      have HBW := Lib.hid HST.out.below
      have hadd2 := fun W => addPre #[48, 111] (by decide) _ _ _ _ hnw (by omega) W
      clear hnw HST
      go_wp2
      go_ret
      exact ⟨_, rfl, ⟨63 - j + 1, by rw [HB.out]; exact HLN.out, by rw [nats_app, HNW.out, HP.out, HB.out]; rfl⟩, HBW.out, by
        have h1 := congrArg List.length HNW.out
        rw [chs_len, nats_len] at h1
        rw [ByteArray.size_append, h1]
        show 2 + (63 - j + 1) ≤ 100
        omega⟩
    · have hz : (((u / 8 : Nat) : Int) == 0) = false := by rw [beq_eq_false_iff_ne]; omega
      have hz2 : ((u : Int) / 8 == 0) = false := by rw [beq_eq_false_iff_ne]; omega
      have hj0 : 63 - j + 1 < 64 := pow_lt_of (b := 8) (by omega) hv (by rw [← HNX.out]; exact hend)
      go_wp2
      refine ⟨⟨j - 1, u / 8, fun q => if q = j then ch (u % 8) else xs q, by omega, ?_, by simp, by congr 1; omega, ?_, ?_⟩, by simp [intOf]⟩
      · rw [HNX.out, show 63 - (j - 1) = 63 - j + 1 by omega]
      · rw [show 63 - (j - 1) = 63 - j + 1 by omega]; exact HST.out
      · intro m h1 h2
        by_cases e : m = 63 - j + 1
        · rw [e, ← HNX.out]; exact hend
        · exact HLOW.out m h1 (by omega)
theorem text (v : Nat) (f : Nat) (hv : v < 18446744073709551616) (hf : f < 256) (w : World) :
    Calls Try.prog 20 #[.int .u64 (v : Int), .int .u8 (f : Int)] w (Gave f v w) := by
  rcases (by omega : f % 4 = 0 ∨ f % 4 = 1 ∨ f % 4 = 2 ∨ f % 4 = 3) with h | h | h | h
  · exact text0 v f hv hf h w
  · exact text1 v f hv hf h w
  · exact text2 v f hv hf h w
  · exact text3 v f hv hf h w
end Go.Proofs.Ytnhjmhomkmfopaa
