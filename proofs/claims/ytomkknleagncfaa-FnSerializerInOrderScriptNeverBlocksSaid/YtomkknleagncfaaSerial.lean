/-
  helpers.Serializer in one goroutine. No condition.
-/
import Derived.Test.YtomkknleagncfaaSync
namespace Go.Proofs.Ytomkknleagncfaa
open Go.ChangeShapes Go.WideShapes Go.ChangeAt Go.RowKit
set_option linter.unusedVariables false

def flagVal (f : Nat → Int) (j : Nat) : Value := if j % 2 = 1 then .int .u32 0 else .int .u64 (f (j / 2))
/-- The flags' row. -/
def Fl (w : World) (B n : Nat) (f : Nat → Int) : Prop := Own w B (n * 2) (flagVal f)
theorem Fl.c0 {w : World} {B n : Nat} {f : Nat → Int} (h : Fl w B n f) (k : Nat) (hk : k < n) : w.cell? ⟨B, k * 2, none⟩ = some (.int .u64 (f k)) := by
  rw [Own.cell h (k * 2) (by omega), flagVal, if_neg (by omega), Nat.mul_div_cancel _ (by omega)]
theorem Fl.c1 {w : World} {B n : Nat} {f : Nat → Int} (h : Fl w B n f) (k : Nat) (hk : k < n) : w.cell? ⟨B, k * 2 + 1, none⟩ = some (.int .u32 0) := by
  rw [Own.cell h (k * 2 + 1) (by omega), flagVal, if_pos (by omega)]
theorem Fl.fz {w : World} {B n : Nat} {f : Nat → Int} (h : Fl w B n f) (j : Nat) : w.frozen? ⟨B, j, none⟩ = false := Own.free h j
theorem Fl.set {w : World} {B n : Nat} {f : Nat → Int} (h : Fl w B n f) (k : Nat) (hk : k < n) (x : Int) (g : Nat → Int) (hg : g k = x) (ho : ∀ j, j < n → j ≠ k → g j = f j) : Fl (w.setCell ⟨B, k * 2, none⟩ (.int .u64 x)) B n g := by
  refine Own.set h (k * 2) (by omega) _ _ ?_ ?_
  · rw [flagVal, if_neg (by omega), Nat.mul_div_cancel _ (by omega), hg]
  · intro j hj hne
    unfold flagVal
    by_cases e : j % 2 = 1
    · rw [if_pos e, if_pos e]
    · rw [if_neg e, if_neg e, ho (j / 2) (by omega) (by omega)]
theorem Fl.made (w : World) (n : Nat) (E : TypeId) : Fl (w.alloc (.cells (madeCells #[.int .u64 0, .int .u32 0] (n * 2)) E)) w.heap.size n (fun _ => 0) where
  size := by simp
  free := fun j => by simp [go_sem]
  cell := fun j hj => by
    rw [World.cell?_alloc_new]
    rw [Array.getElem?_eq_getElem (by rw [size_madeCells]; exact hj)]
    simp only [madeCells, Array.getElem_map, Array.getElem_range, flagVal]
    rcases Nat.mod_two_eq_zero_or_one j with e | e <;> simp [e]
theorem mk32 (n : Nat) (hn : n ≤ 65536) (w : World) : (Instr.makeSlice 32 (.int .i64 n) (.int .i64 n)).run Try.prog w = .ok (.slice (some ⟨w.heap.size, 0, none⟩) n n) (w.alloc (.cells (madeCells #[.int .u64 0, .int .u32 0] (n * 2)) 54)) := by
  have h : (Try.prog.info? 54).map (fun i => (i.bytes, i.size, i.zero.map Value.cells)) = some (16, 2, some #[.int .u64 0, .int .u32 0]) := by kernel_rfl
  obtain ⟨i, hi, hb⟩ := Option.map_eq_some_iff.1 h
  simp only [Prod.mk.injEq] at hb
  obtain ⟨hb1, hb2, hb3⟩ := hb
  obtain ⟨z, hz, hzc⟩ := Option.map_eq_some_iff.1 hb3
  have := run_make (P := Try.prog) w 32 54 i z (by kernel_rfl) hi hz .i64 .i64 n n (by omega) (by omega) (by rw [hb1]; omega) (by omega)
  rw [hzc, hb2] at this
  simpa using this
theorem done21 (b off : Nat) (x1 : Value) (w : World) (c0 : w.cell? ⟨b, off, none⟩ = some (.int .u64 4294967296)) (c1 : w.cell? ⟨b, off + 1, none⟩ = some x1) (hz : w.frozen? ⟨b, off, none⟩ = false) :
    Calls Try.prog 21 #[.pointer (some ⟨b, off, none⟩)] w fun e w' => e = .returned (.tuple #[]) ∧ w' = w.setCell ⟨b, off, none⟩ (.int .u64 0) := by
  go_enter Try.func21, Try.ntmps21
  go_wp2_with (first | (go_at_call 19; (with_reducible refine (addNeg19 b off x1 w c0 c1 hz).mono ?_); rintro _ _ ⟨rfl, rfl⟩))
  go_end0
  exact ⟨rfl, rfl⟩
theorem enter15 (p B n i : Nat) (f : Nat → Int) (w : World) (hp : w.cell? ⟨p, 0, none⟩ = some (.slice (some ⟨B, 0, none⟩) n n)) (h : Fl w B n f) (hn : n ≤ 65536) (hi : i ≤ n) (hf : ∀ j, j + 1 = i → f j = 0) :
    Calls Try.prog 15 #[.pointer (some ⟨p, 0, none⟩), .int .i64 i] w fun e w' => e = .returned (.tuple #[]) ∧ w = w' := by
  cases i with
  | zero =>
    go_enter Try.func15, Try.ntmps15
    go_wp2
    go_end0
    exact ⟨rfl, rfl⟩
  | succ k =>
    have c0 := h.c0 k (by omega)
    have c1 := h.c1 k (by omega)
    rw [hf k rfl] at c0
    have hw := wait20 B (k * 2) _ w c0 c1
    clear hf c0 c1 h
    have e1 : ((k + 1 : Nat) : Int) = (k : Int) + 1 := by omega
    rw [e1]
    go_enter Try.func15, Try.ntmps15
    go_wp2_with (first | (go_at_call 20; (with_reducible refine hw.mono ?_); rintro _ _ ⟨rfl, rfl⟩))
    all_goals first | (go_end0; exact ⟨rfl, rfl⟩) | trace_state
    all_goals sorry
theorem leave16 (p B n i : Nat) (f : Nat → Int) (w : World) (hp : w.cell? ⟨p, 0, none⟩ = some (.slice (some ⟨B, 0, none⟩) n n)) (h : Fl w B n f) (hn : n ≤ 65536) (hi : i < n) (hf : f i = 4294967296) :
    Calls Try.prog 16 #[.pointer (some ⟨p, 0, none⟩), .int .i64 i] w fun e w' => e = .returned (.tuple #[]) ∧ w' = w.setCell ⟨B, i * 2, none⟩ (.int .u64 0) := by
  have c0 := h.c0 i hi
  have c1 := h.c1 i hi
  rw [hf] at c0
  have hw := done21 B (i * 2) _ w c0 c1 (h.fz _)
  clear hf c0 c1 h
  go_enter Try.func16, Try.ntmps16
  go_wp2_with (first | (go_at_call 21; (with_reducible refine hw.mono ?_); rintro _ _ ⟨rfl, rfl⟩))
  all_goals first | (go_end0; exact ⟨rfl, rfl⟩) | trace_state
  all_goals sorry
theorem len17 (p B n : Nat) (w : World) (hp : w.cell? ⟨p, 0, none⟩ = some (.slice (some ⟨B, 0, none⟩) n n)) :
    Calls Try.prog 17 #[.pointer (some ⟨p, 0, none⟩)] w fun e w' => e = .returned (.int .i64 n) ∧ w = w' := by
  go_enter Try.func17, Try.ntmps17
  go_wp2
  go_ret
  exact ⟨rfl, rfl⟩
def upTo (i : Nat) (a b : Int) (j : Nat) : Int := if j < i then a else b
set_option maxHeartbeats 1000000 in
theorem make14 (n : Nat) (hn : n ≤ 65536) (w : World) :
    Calls Try.prog 14 #[.int .i64 n] w fun e w' => e = .returned (.agg #[.slice (some ⟨w.heap.size + 1, 0, none⟩) n n]) ∧ Fl w' (w.heap.size + 1) n (fun _ => 4294967296) ∧ Below w.heap.size w w' := by
  have hm := mk32 n hn
  go_enter Try.func14, Try.ntmps14
  go_wp2
  have hst : Fl ((w.alloc (Obj.cells #[Value.slice none 0 0] 34)).alloc (Obj.cells (madeCells #[Value.int IntKind.u64 0, Value.int IntKind.u32 0] (n * 2)) 54)) (w.heap.size + 1) n (fun _ => 0) := by
    have := Fl.made (w.alloc (Obj.cells #[Value.slice none 0 0] 34)) n 54
    rwa [show (w.alloc (Obj.cells #[Value.slice none 0 0] 34)).heap.size = w.heap.size + 1 by simp] at this
  have HST := Lib.hid hst
  clear hst hm
  go_loopw [4] (fun s4 wr => ∃ i : Nat, i ≤ n ∧ s4 = .int .i64 i ∧ Fl wr (w.heap.size + 1) n (upTo i 4294967296 0) ∧ Below w.heap.size w wr ∧ wr.cell? ⟨w.heap.size, 0, none⟩ = some (.slice none 0 0) ∧ wr.frozen? ⟨w.heap.size, 0, none⟩ = false) (fun s4 _ => n - (intOf s4).toNat)
  case atStart =>
    refine ⟨0, by omega, rfl, HST.out.congr (fun j hj => ?_), by go_grown, by simp [go_sem], by simp [go_sem]⟩
    simp [flagVal, upTo]
  case round =>
    obtain ⟨i, hi, rfl, hfl, hb, hc, hz⟩ := hrel
    by_cases hin : i < n
    · have c0 := hfl.c0 i hin
      have c1 := hfl.c1 i hin
      have e0 : upTo i 4294967296 0 i = 0 := by simp [upTo]
      rw [e0] at c0
      have hw := addPos19 (w.heap.size + 1) (i * 2) _ wr c0 c1 (hfl.fz _)
      have HB := Lib.hid hb
      have HC := Lib.hid hc
      have HZ := Lib.hid hz
      have HF := Lib.hid (hfl.set i hin 4294967296 (upTo (i + 1) 4294967296 0) (by simp [upTo]) (fun j hj hne => by simp only [upTo]; split <;> split <;> first | rfl | omega))
      clear c0 c1 e0 hfl hb hc hz
      go_wp2_with (first | (go_at_call 19; (with_reducible refine hw.mono ?_); rintro _ _ ⟨rfl, rfl⟩))
      refine ⟨⟨i + 1, by omega, by go_num, HF.out, HB.out.setCell (by simp) _, ?_, ?_⟩, by simp [intOf]; omega⟩
      · rw [World.cell?_setCell_other _ _ _ _ (by simp)]; exact HC.out
      · simpa using HZ.out
    · obtain rfl : i = n := by omega
      have HB := Lib.hid hb
      have HF := Lib.hid hfl
      clear hb hfl
      go_wp2
      refine bodyPost_ret (v := .agg #[.slice (some ⟨w.heap.size + 1, 0, none⟩) i i]) (by simp [results, Try.results14, go_sem, World.cell?_setCell_same _ _ _ hc]; try rfl) rfl ⟨rfl, ?_, ?_⟩
      · refine Own.congr (Own.other HF.out _ (by simp) _) (fun j hj => ?_)
        unfold flagVal
        split
        · rfl
        · rw [upTo, if_pos (by omega)]
      · exact HB.out.setCell (by simp) _
end Go.Proofs.Ytomkknleagncfaa
