/-
  What the law FnBitSetMatchesBoolModel does, for every input. No condition.
-/
import Derived.Test.YteemoncgpifocaaBits
import Derived.Deep.RegionHeld3
namespace Go.Proofs.Yteemoncgpifocaa.fnBitSetMatchesBoolModel
open Go.ChangeShapes Go.WideShapes Go.ChangeAt Go.RowKit
set_option linter.unusedVariables false

structure Inv (wa wr : World) (B V M len : Nat) (S : Nat → Bool) : Prop where
  p : Packed wr B len S
  v : Own wr V 1 (fun _ => .slice (some ⟨B, 0, none⟩) len len)
  m : Own wr M (len * 8) (fun p => .bool (S p))
  b : Below wa.heap.size wa wr
theorem Inv.drew {wa wr : World} {B V M len : Nat} {S : Nat → Bool} (h : Inv wa wr B V M len S) : Inv wa wr.drew B V M len S := ⟨Own.drew h.p, h.v.drew, h.m.drew, h.b.drew⟩
theorem Inv.alloc {wa wr : World} {B V M len : Nat} {S : Nat → Bool} (h : Inv wa wr B V M len S) (o : Obj) : Inv wa (wr.alloc o) B V M len S := ⟨Own.alloc h.p o, h.v.alloc o, h.m.alloc o, h.b.alloc h.b.size o⟩
theorem held {wa wr : World} {B V M len : Nat} {S : Nat → Bool} (j : Nat) (hj : j < len * 8) (h : Inv wa wr B V M len S) : wr.cell? ⟨V, 0, none⟩ = some (.slice (some ⟨B, 0, none⟩) len len) ∧ wr.cell? ⟨M, j, none⟩ = some (.bool (S j)) ∧ Inv wa wr B V M len S := ⟨h.v.cell 0 (by omega), h.m.cell j hj, h⟩
theorem heldI {wa wr : World} {B V M len : Nat} {S : Nat → Bool} {j : Nat} (h : wr.cell? ⟨V, 0, none⟩ = some (.slice (some ⟨B, 0, none⟩) len len) ∧ wr.cell? ⟨M, j, none⟩ = some (.bool (S j)) ∧ Inv wa wr B V M len S) : Inv wa wr B V M len S := h.2.2
theorem heldP {wa wr : World} {B V M len : Nat} {S : Nat → Bool} {j : Nat} (h : wr.cell? ⟨V, 0, none⟩ = some (.slice (some ⟨B, 0, none⟩) len len) ∧ wr.cell? ⟨M, j, none⟩ = some (.bool (S j)) ∧ Inv wa wr B V M len S) : Packed wr B len S := h.2.2.p
set_option maxRecDepth 100000 in
set_option maxHeartbeats 2000000 in
theorem main (n : Nat) (a1 : Option Addr) (len1 cap1 : Nat) (z1 : List Int) (w : World) (w1 : IsInts .u64 w a1 len1 cap1 z1) (hn : n ≤ 65536) (hl : len1 ≤ 131072) :
    Calls Try.prog 3 #[.int .u64 n, .slice a1 len1 cap1] w fun e w' => e = .returned (.bool true) ∧ Below w.heap.size w w' := by
  have hnew := fun u => newBitSet n u hn
  have hd : ((n : Int) + 7) / 8 = (((n + 7) / 8 : Nat) : Int) := by omega
  have hle : (n + 7) / 8 ≤ 8192 := by omega
  have hcov : n ≤ 8 * ((n + 7) / 8) := by omega
  have hmk : ∀ u : World, (Instr.makeSlice 30 (.int .u64 ((((n + 7) / 8 : Nat) : Int) * 8)) (.int .u64 ((((n + 7) / 8 : Nat) : Int) * 8))).run Try.prog u = .ok (.slice (some ⟨u.heap.size, 0, none⟩) ((n + 7) / 8 * 8) ((n + 7) / 8 * 8)) (u.alloc (.cells (madeCells #[.bool false] ((n + 7) / 8 * 8)) 4)) := fun u => by
    have := mk30 .u64 ((n + 7) / 8 * 8) (by omega) u
    rwa [Int.natCast_mul] at this
  generalize (n + 7) / 8 = len at *
  have W1 := Lib.hid w1
  have HN := Lib.hid hnew
  clear w1 hnew
  go_enter Try.func3, Try.ntmps3
  go_wp2_with (first
    | (go_at_call 7; (with_reducible refine (cloneUints a1 len1 cap1 z1 w W1.out (by omega)).mono ?_); rintro _ wa ⟨a2, cap2, rfl, hq, hnil, hba⟩)
    | (go_at_call 8; (with_reducible refine (HN.out _).mono ?_); rintro _ wb ⟨B, rfl, hp, hbb, hB⟩)
    | go_in)
  have hV : wb.heap.size < wb.heap.size + 1 := by omega
  have hBV : B < wb.heap.size := hp.size
  have HI : Inv wa ((wb.alloc (.cells #[.slice (some ⟨B, 0, none⟩) len len] 28)).alloc (.cells (madeCells #[.bool false] (len * 8)) 4)) B wb.heap.size (wb.heap.size + 1) len (fun _ => false) :=
    ⟨Own.alloc (Own.alloc hp _) _, Own.alloc (Own.one (w := wb.alloc (.cells #[.slice (some ⟨B, 0, none⟩) len len] 28)) wb.heap.size (.slice (some ⟨B, 0, none⟩) len len) (by simp) (fun j => by simp [go_sem]) (by simp [go_sem])) _,
      by have := Own.made (wb.alloc (.cells #[.slice (some ⟨B, 0, none⟩) len len] 28)) (len * 8) (.bool false) 4
         rw [show (wb.alloc (.cells #[.slice (some ⟨B, 0, none⟩) len len] 28)).heap.size = wb.heap.size + 1 by simp] at this
         exact this,
      (hbb.alloc hbb.size _).alloc (by have := hbb.size; simp; omega) _⟩
  have HI0 := Lib.hid HI
  have HQ := Lib.hid hq
  have hWB := hbb.size
  clear HI hq hp hbb
  generalize hVe : wb.heap.size = V at *
  go_loopw [32] (fun i wr => ∃ k : Nat, k ≤ len1 ∧ i = .int .i64 k ∧ ∃ S, Inv wa wr B V (V + 1) len S) (fun i _ => len1 - (intOf i).toNat)
  case atStart => exact ⟨0, Nat.zero_le _, rfl, _, HI0.out⟩
  case round =>
    clear HI0
    obtain ⟨k, hk, rfl, S, hi⟩ := hrel
    by_cases hlt : k < len1
    · obtain ⟨b, off, rfl, hb, hcell⟩ := HQ.out.at (by omega)
      have hcur : wr.cell? ⟨b, off + k, none⟩ = some (.int .u64 (z1.getD k 0)) := by rw [hi.b.cell (p := ⟨b, off + k, none⟩) hb]; exact hcell k hlt
      obtain ⟨x, hx, hwf⟩ := nat_u64 (HQ.out.wf k hlt)
      rw [hx] at hcur
      have HX := Lib.hid hx
      have hvc := hi.v.cell 0 (by omega)
      clear hx hcell
      by_cases hxn : x < n
      · have HS := Lib.hid (setBitP B len x S wr hi.p (by omega) (by omega) hle)
        go_wp2_with (first
          | (go_at_call 9; (with_reducible refine HS.out.mono ?_); rintro _ wc ⟨rfl, hkeep, hp2⟩
             have hm2 := hkeep.1 (V + 1) _ _ (by omega) hi.m
             have hv2 := hkeep.1 V _ _ (by omega) hi.v
             have cm := hm2.cell x (by omega)
             have fm := hm2.free x))
        refine ⟨⟨k + 1, by omega, by go_num, upd S x, Own.other hp2 ⟨V + 1, x, none⟩ (by simp; omega) _, hv2.other ⟨V + 1, x, none⟩ (by simp) _, ?_, ?_⟩, by simp [intOf]; omega⟩
        · exact hm2.set x (by omega) _ _ (by simp [upd]) (fun j hj e => by simp [upd, e])
        · exact (hi.b.trans (hkeep.2 wa.heap.size hB hi.b.size)).setCell (p := ⟨V + 1, x, none⟩) (by simp; omega) _
      · go_wp2
        exact ⟨⟨k + 1, by omega, by go_num, S, hi⟩, by simp [intOf]; omega⟩
    · have : k = len1 := by omega
      subst this
      go_wp2
      have HI := Lib.hid hi
      clear hi
      go_loopw [10] (fun i wr => ∃ k : Nat, k ≤ len * 8 ∧ i = .int .u64 k ∧ Inv wa wr B V (V + 1) len S) (fun i _ => len * 8 - (intOf i).toNat)
      case atStart => exact ⟨0, Nat.zero_le _, rfl, HI.out⟩
      case round =>
        clear HI
        obtain ⟨j, hj, rfl, hi⟩ := hrel
        by_cases hlt2 : j < len * 8
        · have hh := held j hlt2 hi
          go_wp2
          go_region_held3 (fun w' => w'.cell? ⟨V, 0, none⟩ = some (.slice (some ⟨B, 0, none⟩) len len) ∧ w'.cell? ⟨V + 1, j, none⟩ = some (.bool (S j)) ∧ Inv wa w' B V (V + 1) len S) (first | assumption | exact held j hlt2 hi.drew | exact held j hlt2 (Inv.alloc (by assumption) _) | exact held j hlt2 (Inv.alloc hi.drew _) | exact held j hlt2 (Inv.alloc (heldI (M := V + 1) (V := V) (wa := wa) (j := j) (by assumption)) _)) (first | (go_at_call 10; refine (hasBitP B len j S _ (heldP (M := V + 1) (V := V) (wa := wa) (j := j) (by assumption)) (by omega) (by omega) hle).mono ?_; rintro e w' ⟨rfl, rfl⟩))
          rename_i hH
          have hi2 := heldI (M := V + 1) (V := V) (wa := wa) (j := j) hH
          clear hH hh
          go_wp2
          exact ⟨⟨j + 1, by omega, by go_num, hi2⟩, by simp [intOf]; omega⟩
        · have : j = len * 8 := by omega
          subst this
          go_wp2
          go_ret
          exact ⟨rfl, hba.trans (hi.b.mono hba.size)⟩

set_option maxHeartbeats 1000000 in
theorem walk (a0 : Int) (a1 : Option Addr) (len1 cap1 : Nat) (z1 : List Int) (w : World) (w0 : (Lit.int .u64 a0).wf = true) (w1 : IsInts .u64 w a1 len1 cap1 z1) :
    Calls Try.prog 3 #[.int .u64 a0, .slice a1 len1 cap1] w fun e w' => e = .returned (.bool true) ∧ Below w.heap.size w w' := by
  have m1 : len1 ≤ 9223372036854775807 := by have := w1.1.2.1; have := w1.1.2.2.1; unfold maxLen at this; omega
  obtain ⟨n, rfl, hn⟩ := nat_u64 w0
  clear w0
  by_cases hl : n ≤ 65536 ∧ len1 ≤ 131072
  · exact main n a1 len1 cap1 z1 w w1 hl.1 hl.2
  · clear w1
    by_cases hs : len1 ≤ 1048576
    · by_cases hs2 : n ≤ 65536
      · have hs3 : ¬ len1 ≤ 131072 := fun q => hl ⟨hs2, q⟩
        go_enter Try.func3, Try.ntmps3
        go_wp2
        go_ret
        exact ⟨rfl, Below.refl _ _⟩
      · go_enter Try.func3, Try.ntmps3
        go_wp2
        go_ret
        exact ⟨rfl, Below.refl _ _⟩
    · go_enter Try.func3, Try.ntmps3
      go_wp2
      go_ret
      exact ⟨rfl, Below.refl _ _⟩
end Go.Proofs.Yteemoncgpifocaa.fnBitSetMatchesBoolModel
