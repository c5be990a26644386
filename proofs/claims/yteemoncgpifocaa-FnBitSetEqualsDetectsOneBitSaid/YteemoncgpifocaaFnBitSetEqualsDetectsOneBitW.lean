/-
  What the law FnBitSetEqualsDetectsOneBit does, for every input. No condition.
-/
import Derived.Test.YteemoncgpifocaaBits
import Derived.Deep.RegionHeld3
namespace Go.Proofs.Yteemoncgpifocaa.fnBitSetEqualsDetectsOneBit
open Go.ChangeShapes Go.WideShapes Go.ChangeAt Go.RowKit
set_option linter.unusedVariables false

structure Inv (wa wr : World) (B C V U len : Nat) (S T : Nat → Bool) : Prop where
  p : Packed wr B len S
  q : Packed wr C len T
  v : Own wr V 1 (fun _ => .slice (some ⟨B, 0, none⟩) len len)
  u : Own wr U 1 (fun _ => .slice (some ⟨C, 0, none⟩) len len)
  b : Below wa.heap.size wa wr
theorem Inv.drew {wa wr : World} {B C V U len : Nat} {S T : Nat → Bool} (h : Inv wa wr B C V U len S T) : Inv wa wr.drew B C V U len S T := ⟨Own.drew h.p, Own.drew h.q, h.v.drew, h.u.drew, h.b.drew⟩
theorem Inv.alloc {wa wr : World} {B C V U len : Nat} {S T : Nat → Bool} (h : Inv wa wr B C V U len S T) (o : Obj) : Inv wa (wr.alloc o) B C V U len S T := ⟨Own.alloc h.p o, Own.alloc h.q o, h.v.alloc o, h.u.alloc o, h.b.alloc h.b.size o⟩
theorem Inv.cells {wa wr : World} {B C V U len : Nat} {S T : Nat → Bool} (h : Inv wa wr B C V U len S T) : wr.cell? ⟨V, 0, none⟩ = some (.slice (some ⟨B, 0, none⟩) len len) ∧ wr.cell? ⟨U, 0, none⟩ = some (.slice (some ⟨C, 0, none⟩) len len) := ⟨h.v.cell 0 (by omega), h.u.cell 0 (by omega)⟩
section
variable {wa w : World} {B C V U len : Nat} {S T : Nat → Bool}
theorem iBC (r : Bool) (hi : Inv wa w B C V U len S T) (hr : decide (str len S = str len T) = r) :
    Calls Try.prog 12 #[.agg #[.slice (some ⟨B, 0, none⟩) len len], .agg #[.slice (some ⟨C, 0, none⟩) len len]] w fun e w' => e = .returned (.bool r) ∧ Inv wa w' B C V U len S T := by
  subst hr
  refine (equals B C len S T w hi.p hi.q).mono ?_
  rintro _ _ ⟨rfl, rfl⟩
  exact ⟨rfl, (hi.alloc _).alloc _⟩
theorem iCB (r : Bool) (hi : Inv wa w B C V U len S T) (hr : decide (str len T = str len S) = r) :
    Calls Try.prog 12 #[.agg #[.slice (some ⟨C, 0, none⟩) len len], .agg #[.slice (some ⟨B, 0, none⟩) len len]] w fun e w' => e = .returned (.bool r) ∧ Inv wa w' B C V U len S T := by
  subst hr
  refine (equals C B len T S w hi.q hi.p).mono ?_
  rintro _ _ ⟨rfl, rfl⟩
  exact ⟨rfl, (hi.alloc _).alloc _⟩
theorem iBB (hi : Inv wa w B C V U len S T) :
    Calls Try.prog 12 #[.agg #[.slice (some ⟨B, 0, none⟩) len len], .agg #[.slice (some ⟨B, 0, none⟩) len len]] w fun e w' => e = .returned (.bool true) ∧ Inv wa w' B C V U len S T := by
  refine (equals B B len S S w hi.p hi.p).mono ?_
  rintro _ _ ⟨rfl, rfl⟩
  exact ⟨by simp, (hi.alloc _).alloc _⟩
theorem iHas (m : Nat) (r : Bool) (hi : Inv wa w B C V U len S T) (hr : T m = r) (h1 : m < 65536) (h2 : m / 8 < len) (hle : len ≤ 8192) :
    Calls Try.prog 10 #[.agg #[.slice (some ⟨C, 0, none⟩) len len], .int .u64 m] w fun e w' => e = .returned (.bool r) ∧ Inv wa w' B C V U len S T := by
  subst hr
  refine (hasBitP C len m T w hi.q h1 h2 hle).mono ?_
  rintro _ _ ⟨rfl, rfl⟩
  exact ⟨rfl, hi.alloc _⟩
theorem iSet (m : Nat) (hi : Inv wa w B C V U len S T) (h1 : m < 65536) (h2 : m / 8 < len) (hle : len ≤ 8192) (n1 : B ≠ C) (n2 : V ≠ C) (n3 : U ≠ C) (n4 : wa.heap.size ≤ C) :
    Calls Try.prog 9 #[.agg #[.slice (some ⟨C, 0, none⟩) len len], .int .u64 m] w fun e w' => e = .returned (.tuple #[]) ∧ Inv wa w' B C V U len S (upd T m) := by
  refine (setBitP C len m T w hi.q h1 h2 hle).mono ?_
  rintro _ _ ⟨rfl, hk, hq⟩
  exact ⟨rfl, hk.1 B _ _ n1 hi.p, hq, hk.1 V _ _ n2 hi.v, hk.1 U _ _ n3 hi.u, hi.b.trans (hk.2 _ n4 hi.b.size)⟩
end
set_option maxRecDepth 100000 in
set_option maxHeartbeats 2000000 in
theorem main (n : Nat) (a1 : Option Addr) (len1 cap1 : Nat) (z1 : List Int) (m : Nat) (w : World) (w1 : IsInts .u64 w a1 len1 cap1 z1) (hm : m < 18446744073709551616) (hn : n ≤ 65536) (hl : len1 ≤ 131072) :
    Calls Try.prog 4 #[.int .u64 n, .slice a1 len1 cap1, .int .u64 m] w fun e w' => e = .returned (.bool true) ∧ Below w.heap.size w w' := by
  have hnew := fun u => newBitSet n u hn
  have hle : (n + 7) / 8 ≤ 8192 := by omega
  have hcov : n ≤ 8 * ((n + 7) / 8) := by omega
  generalize (n + 7) / 8 = len at *
  have W1 := Lib.hid w1
  have HN := Lib.hid hnew
  clear w1 hnew
  go_enter Try.func4, Try.ntmps4
  go_wp2_with (first
    | (go_at_call 7; (with_reducible refine (cloneUints a1 len1 cap1 z1 w W1.out (by omega)).mono ?_); rintro _ wa ⟨a2, cap2, rfl, hq, hnil, hba⟩)
    | (go_at_call 8; (with_reducible refine (HN.out wa).mono ?_); rintro _ wb ⟨B, rfl, hp, hbb, hB⟩)
    | (go_at_call 8; (with_reducible refine (HN.out _).mono ?_); rintro _ wc ⟨C, rfl, hp2, hbc, hC⟩)
    | go_in)
  have hBb : B < wb.heap.size := hp.size
  have hCc : C < wc.heap.size := hp2.size
  have e1 : (wb.alloc (.cells #[.slice (some ⟨B, 0, none⟩) len len] 28)).heap.size = wb.heap.size + 1 := by simp
  rw [e1] at hbc hC
  have HI : Inv wa (wc.alloc (.cells #[.slice (some ⟨C, 0, none⟩) len len] 28)) B C wb.heap.size wc.heap.size len (fun _ => false) (fun _ => false) :=
    ⟨Own.alloc (Own.below (Own.alloc hp _) hbc (by omega)) _, Own.alloc hp2 _,
      Own.alloc (Own.below (Own.one (w := wb.alloc (.cells #[.slice (some ⟨B, 0, none⟩) len len] 28)) wb.heap.size (.slice (some ⟨B, 0, none⟩) len len) (by simp) (fun j => by simp [go_sem]) (by simp [go_sem])) hbc (by omega)) _,
      Own.one (w := wc.alloc (.cells #[.slice (some ⟨C, 0, none⟩) len len] 28)) wc.heap.size (.slice (some ⟨C, 0, none⟩) len len) (by simp) (fun j => by simp [go_sem]) (by simp [go_sem]),
      ((hbb.alloc hbb.size _).trans (hbc.mono (by have := hbb.size; omega))).alloc (by have := hbb.size; have := hbc.size; simp at this; omega) _⟩
  have HI0 := Lib.hid HI
  have HQ := Lib.hid hq
  have hWB := hbb.size
  have hBC := hbc.size
  rw [e1] at hBC
  clear HI hq hp hbb hp2 hbc e1
  generalize hVe : wb.heap.size = V at *
  generalize hUe : wc.heap.size = U at *
  go_loopw [29] (fun i wr => ∃ k : Nat, k ≤ len1 ∧ i = .int .i64 k ∧ ∃ S, Inv wa wr B C V U len S S) (fun i _ => len1 - (intOf i).toNat)
  case atStart => exact ⟨0, Nat.zero_le _, rfl, _, HI0.out⟩
  case round =>
    clear HI0
    obtain ⟨k, hk, rfl, S, hi⟩ := hrel
    by_cases hlt : k < len1
    · obtain ⟨b, off, rfl, hb, hcell⟩ := HQ.out.at (by omega)
      have hcur : wr.cell? ⟨b, off + k, none⟩ = some (.int .u64 (z1.getD k 0)) := by rw [hi.b.cell (p := ⟨b, off + k, none⟩) hb]; exact hcell k hlt
      obtain ⟨x, hx, hwf⟩ := nat_u64 (HQ.out.wf k hlt)
      rw [hx] at hcur
      have HX := Lib.hid hx
      obtain ⟨c1, c2⟩ := hi.cells
      clear hx hcell
      by_cases hxn : x < n
      · have HS := Lib.hid (setBitP B len x S wr hi.p (by omega) (by omega) hle)
        go_wp2_with (first
          | (go_at_call 9; (with_reducible refine HS.out.mono ?_); rintro _ wd ⟨rfl, hkeep, hp2⟩
             have hq2 : Packed _ C len S := hkeep.1 C _ _ (by omega) hi.q
             have hv2 := hkeep.1 V _ _ (by omega) hi.v
             have hu2 := hkeep.1 U _ _ (by omega) hi.u
             have hb2 := hi.b.trans (hkeep.2 wa.heap.size hB hi.b.size)
             have c3 := hu2.cell 0 (by omega))
          | (go_at_call 9; (with_reducible refine (setBitP C len x S wd hq2 (by omega) (by omega) hle).mono ?_); rintro _ we ⟨rfl, hkeep3, hq3⟩
             have hp3 : Packed _ B len (upd S x) := hkeep3.1 B _ _ (by omega) hp2
             have hv3 := hkeep3.1 V _ _ (by omega) hv2
             have hu3 := hkeep3.1 U _ _ (by omega) hu2
             have hb3 := hb2.trans (hkeep3.2 wa.heap.size (by omega) hb2.size)))
        exact ⟨⟨k + 1, by omega, by go_num, upd S x, hp3, hq3, hv3, hu3, hb3⟩, by simp [intOf]; omega⟩
      · go_wp2
        exact ⟨⟨k + 1, by omega, by go_num, S, hi⟩, by simp [intOf]; omega⟩
    · have : k = len1 := by omega
      subst this
      obtain ⟨c1, c2⟩ := hi.cells
      by_cases hmn : m < n
      · cases hSm : S m
        · go_wp2_with (first
          | (go_at_call 12; (with_reducible refine (iBC true hi (decide_eq_true rfl)).mono ?_); rintro _ wx ⟨rfl, hi⟩; obtain ⟨c1, c2⟩ := hi.cells)
          | (go_at_call 12; (with_reducible refine (iCB true hi (decide_eq_true rfl)).mono ?_); rintro _ wx ⟨rfl, hi⟩; obtain ⟨c1, c2⟩ := hi.cells)
          | (go_at_call 12; (with_reducible refine (iBB hi).mono ?_); rintro _ wx ⟨rfl, hi⟩; obtain ⟨c1, c2⟩ := hi.cells)
          | (go_at_call 10; (with_reducible refine (iHas m _ hi hSm (by omega) (by omega) hle).mono ?_); rintro _ wx ⟨rfl, hi⟩; obtain ⟨c1, c2⟩ := hi.cells)
          | (go_at_call 9; (with_reducible refine (iSet m hi (by omega) (by omega) hle (by omega) (by omega) (by omega) (by omega)).mono ?_); rintro _ wx ⟨rfl, hi⟩; obtain ⟨c1, c2⟩ := hi.cells)
          | (go_at_call 12; (with_reducible refine (iBC false hi (decide_eq_false (str_ne m (by omega) (by simp [upd, hSm])))).mono ?_); rintro _ wx ⟨rfl, hi⟩; obtain ⟨c1, c2⟩ := hi.cells)
          | (go_at_call 12; (with_reducible refine (iCB false hi (decide_eq_false (str_ne m (by omega) (by simp [upd, hSm])))).mono ?_); rintro _ wx ⟨rfl, hi⟩; obtain ⟨c1, c2⟩ := hi.cells))
          go_ret
          exact ⟨rfl, hba.trans (hi.b.mono hba.size)⟩
        · go_wp2_with (first
          | (go_at_call 12; (with_reducible refine (iBC true hi (decide_eq_true rfl)).mono ?_); rintro _ wx ⟨rfl, hi⟩; obtain ⟨c1, c2⟩ := hi.cells)
          | (go_at_call 12; (with_reducible refine (iCB true hi (decide_eq_true rfl)).mono ?_); rintro _ wx ⟨rfl, hi⟩; obtain ⟨c1, c2⟩ := hi.cells)
          | (go_at_call 12; (with_reducible refine (iBB hi).mono ?_); rintro _ wx ⟨rfl, hi⟩; obtain ⟨c1, c2⟩ := hi.cells)
          | (go_at_call 10; (with_reducible refine (iHas m _ hi hSm (by omega) (by omega) hle).mono ?_); rintro _ wx ⟨rfl, hi⟩; obtain ⟨c1, c2⟩ := hi.cells)
          | (go_at_call 9; (with_reducible refine (iSet m hi (by omega) (by omega) hle (by omega) (by omega) (by omega) (by omega)).mono ?_); rintro _ wx ⟨rfl, hi⟩; obtain ⟨c1, c2⟩ := hi.cells)
          | (go_at_call 12; (with_reducible refine (iBC false hi (decide_eq_false (str_ne m (by omega) (by simp [upd, hSm])))).mono ?_); rintro _ wx ⟨rfl, hi⟩; obtain ⟨c1, c2⟩ := hi.cells)
          | (go_at_call 12; (with_reducible refine (iCB false hi (decide_eq_false (str_ne m (by omega) (by simp [upd, hSm])))).mono ?_); rintro _ wx ⟨rfl, hi⟩; obtain ⟨c1, c2⟩ := hi.cells))
          go_ret
          exact ⟨rfl, hba.trans (hi.b.mono hba.size)⟩
      · go_wp2_with (first
          | (go_at_call 12; (with_reducible refine (iBC true hi (decide_eq_true rfl)).mono ?_); rintro _ wx ⟨rfl, hi⟩; obtain ⟨c1, c2⟩ := hi.cells)
          | (go_at_call 12; (with_reducible refine (iCB true hi (decide_eq_true rfl)).mono ?_); rintro _ wx ⟨rfl, hi⟩; obtain ⟨c1, c2⟩ := hi.cells)
          | (go_at_call 12; (with_reducible refine (iBB hi).mono ?_); rintro _ wx ⟨rfl, hi⟩; obtain ⟨c1, c2⟩ := hi.cells))
        go_ret
        exact ⟨rfl, hba.trans (hi.b.mono hba.size)⟩

set_option maxHeartbeats 1000000 in
theorem walk (a0 : Int) (a1 : Option Addr) (len1 cap1 : Nat) (z1 : List Int) (a2 : Int) (w : World) (w0 : (Lit.int .u64 a0).wf = true) (w1 : IsInts .u64 w a1 len1 cap1 z1) (w2 : (Lit.int .u64 a2).wf = true) :
    Calls Try.prog 4 #[.int .u64 a0, .slice a1 len1 cap1, .int .u64 a2] w fun e w' => e = .returned (.bool true) ∧ Below w.heap.size w w' := by
  have m1 : len1 ≤ 9223372036854775807 := by have := w1.1.2.1; have := w1.1.2.2.1; unfold maxLen at this; omega
  obtain ⟨n, rfl, hn⟩ := nat_u64 w0
  obtain ⟨m, rfl, hm⟩ := nat_u64 w2
  clear w0 w2
  by_cases hl : n ≤ 65536 ∧ len1 ≤ 131072
  · exact main n a1 len1 cap1 z1 m w w1 hm hl.1 hl.2
  · clear w1
    by_cases hs : len1 ≤ 1048576
    · by_cases hs2 : n ≤ 65536
      · have hs3 : ¬ len1 ≤ 131072 := fun q => hl ⟨hs2, q⟩
        go_enter Try.func4, Try.ntmps4
        go_wp2
        go_ret
        exact ⟨rfl, Below.refl _ _⟩
      · go_enter Try.func4, Try.ntmps4
        go_wp2
        go_ret
        exact ⟨rfl, Below.refl _ _⟩
    · go_enter Try.func4, Try.ntmps4
      go_wp2
      go_ret
      exact ⟨rfl, Below.refl _ _⟩
end Go.Proofs.Yteemoncgpifocaa.fnBitSetEqualsDetectsOneBit
