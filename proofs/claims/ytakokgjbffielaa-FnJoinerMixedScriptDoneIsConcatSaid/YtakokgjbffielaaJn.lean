/-
  Contracts of the Joiner's AddString and AddBytes. No condition.
-/
import Derived.Test.YtakokgjbffielaaFr
import Derived.Test.YtakokgjbffielaaProg
import Derived.WalkSmall
import Derived.Deep.RegionHeld3
import Derived.Handy
import Derived.Deep.RegionLaw
import Derived.Deep.DrawnRows
import Derived.OwnWalk
namespace Go.Proofs.Ytakokgjbffielaa
open Go.ChangeShapes Go.WideShapes Go.ChangeAt Go.RowKit
set_option linter.unusedVariables false

theorem info52 : (Try.prog.info? 52).map (fun i => (i.zero, i.size, i.bytes)) = some (some (.agg #[.string ByteArray.empty, .int .u32 0]), 2, 24) := by kernel_rfl
theorem info50 : (Try.prog.info? 50).map (fun i => (i.zero, i.size, i.bytes)) = some (some (.agg #[.slice none 0 0, .int .u32 0]), 2, 32) := by kernel_rfl

def AddedS (base B : Nat) (v1 v2 : Value) (n L lb : Nat) (xs : List Value) (s : ByteArray) (w : World) (e : Ending) (w' : World) : Prop :=
  e = .returned (.tuple #[]) ∧ ∃ g cap lb' : Nat, Bk w' B 30 #[.slice (some ⟨g, 0, none⟩) (n + 1) cap, v2, .int .u32 ((L + s.size : Nat) : Int), .int .u8 lb'] ∧
    w'.ownsRow base 52 2 (.slice (some ⟨g, 0, none⟩) (n + 1) cap) (n + 1) (xs ++ [.string s, .int .u32 L]) ∧ (s.size = 0 → lb' = lb) ∧ (∀ h : 0 < s.size, lb' = (s[s.size - 1]'(by omega)).toNat) ∧
    Fr (fun k => k = B ∨ v1.ownBlock = some k) w w'
def AddedB (base B : Nat) (v1 v2 : Value) (n L lb : Nat) (xs : List Value) (a : Option Addr) (len cap0 : Nat) (last : Nat) (w : World) (e : Ending) (w' : World) : Prop :=
  e = .returned (.tuple #[]) ∧ ∃ g cap lb' : Nat, Bk w' B 30 #[v1, .slice (some ⟨g, 0, none⟩) (n + 1) cap, .int .u32 ((L + len : Nat) : Int), .int .u8 lb'] ∧
    w'.ownsRow base 50 2 (.slice (some ⟨g, 0, none⟩) (n + 1) cap) (n + 1) (xs ++ [.slice a len cap0, .int .u32 L]) ∧ (len = 0 → lb' = lb) ∧ (0 < len → lb' = last) ∧
    Fr (fun k => k = B ∨ v2.ownBlock = some k) w w'

theorem endS {base B n L cap gg : Nat} {v1 v2 lv : Value} {xs : List Value} {w W w1 : World} {o : Obj} {val x : Value} (hB : Bk W B 30 #[v1, v2, .int .u32 L, lv]) (hfr : Fr (fun k => k = B ∨ v1.ownBlock = some k) w W)
    (hown : W.ownsRow base 52 2 v1 n xs) (hown1 : w1.ownsRow base 52 2 (.slice (some ⟨gg, 0, none⟩) (n + 1) cap) (n + 1) (xs ++ [val, .int .u32 L])) (hgrow : (W.alloc o).drew.grownBy w1 v1.ownBlock) :
    Bk ((w1.setCell ⟨B, 0, none⟩ (.slice (some ⟨gg, 0, none⟩) (n + 1) cap)).setCell ⟨B, 2, none⟩ x) B 30 #[.slice (some ⟨gg, 0, none⟩) (n + 1) cap, v2, x, lv] ∧
    ((w1.setCell ⟨B, 0, none⟩ (.slice (some ⟨gg, 0, none⟩) (n + 1) cap)).setCell ⟨B, 2, none⟩ x).ownsRow base 52 2 (.slice (some ⟨gg, 0, none⟩) (n + 1) cap) (n + 1) (xs ++ [val, .int .u32 L]) ∧
    Fr (fun k => k = B ∨ v1.ownBlock = some k) w ((w1.setCell ⟨B, 0, none⟩ (.slice (some ⟨gg, 0, none⟩) (n + 1) cap)).setCell ⟨B, 2, none⟩ x) := by
  have ag : v1.ownBlock ≠ some B := own_ne hown hB (by decide)
  have h1 : Bk w1 B 30 #[v1, v2, .int .u32 L, lv] := (hB.alloc o).drew.grown hgrow (Ne.symm ag)
  have h2 := (h1.set 0 (.slice (some ⟨gg, 0, none⟩) (n + 1) cap)).set 2 x
  refine ⟨h2, ?_, ?_⟩
  · refine own_fr hown1 (((Fr.refl (fun k => k = B) _).setCell (p := ⟨B, 0, none⟩) (fun _ => rfl) _).setCell (p := ⟨B, 2, none⟩) (fun _ => rfl) _) ?_
    rintro g hg rfl
    exact own_ne hown1 h1 (by decide) hg
  · exact (((hfr.alloc o).drew.grown hgrow (fun k hk _ => .inr hk)).setCell (p := ⟨B, 0, none⟩) (fun _ => .inl rfl) _).setCell (p := ⟨B, 2, none⟩) (fun _ => .inl rfl) _

theorem endB {base B n L cap gg : Nat} {v1 v2 lv : Value} {xs : List Value} {w W w1 : World} {o : Obj} {val x : Value} (hB : Bk W B 30 #[v1, v2, .int .u32 L, lv]) (hfr : Fr (fun k => k = B ∨ v2.ownBlock = some k) w W)
    (hown : W.ownsRow base 50 2 v2 n xs) (hown1 : w1.ownsRow base 50 2 (.slice (some ⟨gg, 0, none⟩) (n + 1) cap) (n + 1) (xs ++ [val, .int .u32 L])) (hgrow : (W.alloc o).drew.grownBy w1 v2.ownBlock) :
    Bk ((w1.setCell ⟨B, 1, none⟩ (.slice (some ⟨gg, 0, none⟩) (n + 1) cap)).setCell ⟨B, 2, none⟩ x) B 30 #[v1, .slice (some ⟨gg, 0, none⟩) (n + 1) cap, x, lv] ∧
    ((w1.setCell ⟨B, 1, none⟩ (.slice (some ⟨gg, 0, none⟩) (n + 1) cap)).setCell ⟨B, 2, none⟩ x).ownsRow base 50 2 (.slice (some ⟨gg, 0, none⟩) (n + 1) cap) (n + 1) (xs ++ [val, .int .u32 L]) ∧
    Fr (fun k => k = B ∨ v2.ownBlock = some k) w ((w1.setCell ⟨B, 1, none⟩ (.slice (some ⟨gg, 0, none⟩) (n + 1) cap)).setCell ⟨B, 2, none⟩ x) := by
  have ag : v2.ownBlock ≠ some B := own_ne hown hB (by decide)
  have h1 : Bk w1 B 30 #[v1, v2, .int .u32 L, lv] := (hB.alloc o).drew.grown hgrow (Ne.symm ag)
  have h2 := (h1.set 1 (.slice (some ⟨gg, 0, none⟩) (n + 1) cap)).set 2 x
  refine ⟨h2, ?_, ?_⟩
  · refine own_fr hown1 (((Fr.refl (fun k => k = B) _).setCell (p := ⟨B, 1, none⟩) (fun _ => rfl) _).setCell (p := ⟨B, 2, none⟩) (fun _ => rfl) _) ?_
    rintro g hg rfl
    exact own_ne hown1 h1 (by decide) hg
  · exact (((hfr.alloc o).drew.grown hgrow (fun k hk _ => .inr hk)).setCell (p := ⟨B, 1, none⟩) (fun _ => .inl rfl) _).setCell (p := ⟨B, 2, none⟩) (fun _ => .inl rfl) _

set_option maxRecDepth 100000 in
set_option maxHeartbeats 3200000 in
set_option linter.unusedSimpArgs false in
theorem addS (base B : Nat) (v1 v2 : Value) (n L lb : Nat) (xs : List Value) (s : ByteArray) (w : World)
    (hB : Bk w B 30 #[v1, v2, .int .u32 L, .int .u8 lb]) (hown : w.ownsRow base 52 2 v1 n xs) (hbase : base ≤ w.heap.size) (hn : n ≤ 1048576) (hs : s.size ≤ 1048576) (hL : L ≤ 16777216) :
    Calls Try.prog 18 #[.pointer (some ⟨B, 0, none⟩), .string s] w (AddedS base B v1 v2 n L lb xs s w) := by
  obtain ⟨i0, hi0, hz0, hz1, hz2⟩ := info_parts info52
  have HI := Lib.hid hi0
  have HZ0 := Lib.hid hz0
  have HZ1 := Lib.hid hz1
  have HZ2 := Lib.hid hz2
  clear hi0 hz0 hz1 hz2
  by_cases h0 : 0 < s.size
  · have c3 : w.cell? ⟨B, 3, none⟩ = some (.int .u8 lb) := hB.cell 3
    have f3 := hB.free 3
    have lB := hB.lt
    have hB' := hB.set 3 (.int .u8 ((s[s.size - 1]'(by omega)).toNat : Int))
    have hfr : Fr (fun k => k = B ∨ v1.ownBlock = some k) w (w.setCell ⟨B, 3, none⟩ (.int .u8 ((s[s.size - 1]'(by omega)).toNat : Int))) := (Fr.refl _ w).setCell (p := ⟨B, 3, none⟩) (fun _ => .inl rfl) _
    have hown' : (w.setCell ⟨B, 3, none⟩ (.int .u8 ((s[s.size - 1]'(by omega)).toNat : Int))).ownsRow base 52 2 v1 n xs := own_fr hown ((Fr.refl (fun k => k = B) _).setCell (p := ⟨B, 3, none⟩) (fun _ => rfl) _) (by rintro g hg rfl; exact own_ne hown hB (by decide) hg)
    have HB' := Lib.hid hB'
    have HFR := Lib.hid hfr
    have HOWN := Lib.hid hown'
    clear hB' hfr hown'
    go_enter Try.func18, Try.ntmps18
    go_wp2_with fail
    generalize hWx : w.setCell ⟨B, 3, none⟩ (.int .u8 ((s[s.size - 1]'(by omega)).toNat : Int)) = W at *
    have hbW : base ≤ W.heap.size := Nat.le_trans hbase HFR.out.size

    have c0 : W.cell? ⟨B, 0, none⟩ = some v1 := HB'.out.cell 0
    have c2 : W.cell? ⟨B, 2, none⟩ = some (.int .u32 L) := HB'.out.cell 2
    have fB := HB'.out.free
    have ag : v1.ownBlock ≠ some B := own_ne HOWN.out HB'.out (by decide)
    have lB' := HB'.out.lt
    go_region_law (refine step_append_lies _ (by rfl) _ _ _ (by rfl) base 52 i0 _ 2 24 Try.underlying26 HI.out HZ0.out HZ1.out HZ2.out rfl (by omega) v1 n xs (by simp [Act.eval, Act.put]) ((HOWN.out.alloc _).drew) ⟨W.heap.size, 0, none⟩ 1 1 [.string s, .int .u32 L] (by simp [Act.eval, Act.put]) (by rfl) (World.news_of_block (cs := #[.string s, .int .u32 L]) (t := 52) (fr := (0, 0)) (heap_alloc_new W _)) (by simp [Value.oneCell']) (by omega) (by unfold maxLen; omega) (by omega) (by simp; omega) (W.heap.size + 1) (by simp) ?_; intro gg cap w1 hown1 hgrow hat hlt; have q0 := (hgrow.cell_far ⟨B, 0, none⟩ (by simp; omega) (Ne.symm ag)).trans ((World.cell?_alloc_past (w := W) _ B 0 lB').trans c0); have q1 := (hgrow.frozen_far ⟨B, 0, none⟩ (by simp; omega) (Ne.symm ag)).trans ((World.frozen?_alloc_past (w := W) _ B 0 lB').trans (fB 0)); have q2 := (hgrow.cell_far ⟨B, 2, none⟩ (by simp; omega) (Ne.symm ag)).trans ((World.cell?_alloc_past (w := W) _ B 2 lB').trans c2); have q3 := (hgrow.frozen_far ⟨B, 2, none⟩ (by simp; omega) (Ne.symm ag)).trans ((World.frozen?_alloc_past (w := W) _ B 2 lB').trans (fB 2)))
    all_goals
      go_wp2
      go_end0
      obtain ⟨k1, k2, k3⟩ := endS (x := .int .u32 ((L + s.size : Nat) : Int)) HB'.out HFR.out HOWN.out hown1 hgrow
      exact ⟨rfl, gg, cap, _, k1, k2, by omega, fun _ => rfl, k3⟩
  · have e0 : s.size = 0 := by omega
    go_enter Try.func18, Try.ntmps18
    go_wp2_with fail

    have c0 : w.cell? ⟨B, 0, none⟩ = some v1 := hB.cell 0
    have c2 : w.cell? ⟨B, 2, none⟩ = some (.int .u32 L) := hB.cell 2
    have fB := hB.free
    have ag : v1.ownBlock ≠ some B := own_ne hown hB (by decide)
    have lB := hB.lt
    go_region_law (refine step_append_lies _ (by rfl) _ _ _ (by rfl) base 52 i0 _ 2 24 Try.underlying26 HI.out HZ0.out HZ1.out HZ2.out rfl (by omega) v1 n xs (by simp [Act.eval, Act.put]) ((hown.alloc _).drew) ⟨w.heap.size, 0, none⟩ 1 1 [.string s, .int .u32 L] (by simp [Act.eval, Act.put]) (by rfl) (World.news_of_block (cs := #[.string s, .int .u32 L]) (t := 52) (fr := (0, 0)) (heap_alloc_new w _)) (by simp [Value.oneCell']) (by omega) (by unfold maxLen; omega) (by omega) (by simp; omega) (w.heap.size + 1) (by simp) ?_; intro gg cap w1 hown1 hgrow hat hlt; have q0 := (hgrow.cell_far ⟨B, 0, none⟩ (by simp; omega) (Ne.symm ag)).trans ((World.cell?_alloc_past (w := w) _ B 0 lB).trans c0); have q1 := (hgrow.frozen_far ⟨B, 0, none⟩ (by simp; omega) (Ne.symm ag)).trans ((World.frozen?_alloc_past (w := w) _ B 0 lB).trans (fB 0)); have q2 := (hgrow.cell_far ⟨B, 2, none⟩ (by simp; omega) (Ne.symm ag)).trans ((World.cell?_alloc_past (w := w) _ B 2 lB).trans c2); have q3 := (hgrow.frozen_far ⟨B, 2, none⟩ (by simp; omega) (Ne.symm ag)).trans ((World.frozen?_alloc_past (w := w) _ B 2 lB).trans (fB 2)))
    all_goals
      go_wp2
      go_end0
      obtain ⟨k1, k2, k3⟩ := endS (x := .int .u32 (L : Int)) hB (Fr.refl _ w) hown hown1 hgrow
      refine ⟨rfl, gg, cap, lb, ?_, k2, fun _ => rfl, fun h => absurd h (by omega), k3⟩
      rw [show L + s.size = L by omega]
      exact k1

set_option maxRecDepth 100000 in
set_option maxHeartbeats 3200000 in
set_option linter.unusedSimpArgs false in
theorem addB (base B : Nat) (v1 v2 : Value) (n L lb : Nat) (xs : List Value) (a : Option Addr) (len cap0 last : Nat) (w : World)
    (hB : Bk w B 30 #[v1, v2, .int .u32 L, .int .u8 lb]) (hown : w.ownsRow base 50 2 v2 n xs) (hbase : base ≤ w.heap.size) (hn : n ≤ 1048576) (hs : len ≤ 1048576) (hla : 0 < len → ∃ b off, a = some ⟨b, off, none⟩ ∧ w.cell? ⟨b, off + (len - 1), none⟩ = some (.int .u8 last)) (hL : L ≤ 16777216) :
    Calls Try.prog 19 #[.pointer (some ⟨B, 0, none⟩), .slice a len cap0] w (AddedB base B v1 v2 n L lb xs a len cap0 last w) := by
  obtain ⟨i0, hi0, hz0, hz1, hz2⟩ := info_parts info50
  have HI := Lib.hid hi0
  have HZ0 := Lib.hid hz0
  have HZ1 := Lib.hid hz1
  have HZ2 := Lib.hid hz2
  clear hi0 hz0 hz1 hz2
  by_cases h0 : 0 < len
  · have c3 : w.cell? ⟨B, 3, none⟩ = some (.int .u8 lb) := hB.cell 3
    have f3 := hB.free 3
    have lB := hB.lt
    obtain ⟨b, off, rfl, hlc⟩ := hla h0
    have hB' := hB.set 3 (.int .u8 (last : Int))
    have hfr : Fr (fun k => k = B ∨ v2.ownBlock = some k) w (w.setCell ⟨B, 3, none⟩ (.int .u8 (last : Int))) := (Fr.refl _ w).setCell (p := ⟨B, 3, none⟩) (fun _ => .inl rfl) _
    have hown' : (w.setCell ⟨B, 3, none⟩ (.int .u8 (last : Int))).ownsRow base 50 2 v2 n xs := own_fr hown ((Fr.refl (fun k => k = B) _).setCell (p := ⟨B, 3, none⟩) (fun _ => rfl) _) (by rintro g hg rfl; exact own_ne hown hB (by decide) hg)
    have HB' := Lib.hid hB'
    have HFR := Lib.hid hfr
    have HOWN := Lib.hid hown'
    clear hB' hfr hown'
    go_enter Try.func19, Try.ntmps19
    go_wp2_with fail
    generalize hWx : w.setCell ⟨B, 3, none⟩ (.int .u8 (last : Int)) = W at *
    have hbW : base ≤ W.heap.size := Nat.le_trans hbase HFR.out.size

    have c0 : W.cell? ⟨B, 1, none⟩ = some v2 := HB'.out.cell 1
    have c2 : W.cell? ⟨B, 2, none⟩ = some (.int .u32 L) := HB'.out.cell 2
    have fB := HB'.out.free
    have ag : v2.ownBlock ≠ some B := own_ne HOWN.out HB'.out (by decide)
    have lB' := HB'.out.lt
    go_region_law (refine step_append_lies _ (by rfl) _ _ _ (by rfl) base 50 i0 _ 2 32 Try.underlying27 HI.out HZ0.out HZ1.out HZ2.out rfl (by omega) v2 n xs (by simp [Act.eval, Act.put]) ((HOWN.out.alloc _).drew) ⟨W.heap.size, 0, none⟩ 1 1 [.slice (some ⟨b, off, none⟩) len cap0, .int .u32 L] (by simp [Act.eval, Act.put]) (by rfl) (World.news_of_block (cs := #[.slice (some ⟨b, off, none⟩) len cap0, .int .u32 L]) (t := 50) (fr := (0, 0)) (heap_alloc_new W _)) (by simp [Value.oneCell']) (by omega) (by unfold maxLen; omega) (by omega) (by simp; omega) (W.heap.size + 1) (by simp) ?_; intro gg cap w1 hown1 hgrow hat hlt; have q0 := (hgrow.cell_far ⟨B, 1, none⟩ (by simp; omega) (Ne.symm ag)).trans ((World.cell?_alloc_past (w := W) _ B 1 lB').trans c0); have q1 := (hgrow.frozen_far ⟨B, 1, none⟩ (by simp; omega) (Ne.symm ag)).trans ((World.frozen?_alloc_past (w := W) _ B 1 lB').trans (fB 1)); have q2 := (hgrow.cell_far ⟨B, 2, none⟩ (by simp; omega) (Ne.symm ag)).trans ((World.cell?_alloc_past (w := W) _ B 2 lB').trans c2); have q3 := (hgrow.frozen_far ⟨B, 2, none⟩ (by simp; omega) (Ne.symm ag)).trans ((World.frozen?_alloc_past (w := W) _ B 2 lB').trans (fB 2)))
    all_goals
      go_wp2
      go_end0
      obtain ⟨k1, k2, k3⟩ := endB (x := .int .u32 ((L + len : Nat) : Int)) HB'.out HFR.out HOWN.out hown1 hgrow
      exact ⟨rfl, gg, cap, _, k1, k2, by omega, fun _ => rfl, k3⟩
  · obtain rfl : len = 0 := by omega
    go_enter Try.func19, Try.ntmps19
    go_wp2_with fail

    have c0 : w.cell? ⟨B, 1, none⟩ = some v2 := hB.cell 1
    have c2 : w.cell? ⟨B, 2, none⟩ = some (.int .u32 L) := hB.cell 2
    have fB := hB.free
    have ag : v2.ownBlock ≠ some B := own_ne hown hB (by decide)
    have lB := hB.lt
    go_region_law (refine step_append_lies _ (by rfl) _ _ _ (by rfl) base 50 i0 _ 2 32 Try.underlying27 HI.out HZ0.out HZ1.out HZ2.out rfl (by omega) v2 n xs (by simp [Act.eval, Act.put]) ((hown.alloc _).drew) ⟨w.heap.size, 0, none⟩ 1 1 [.slice a 0 cap0, .int .u32 L] (by simp [Act.eval, Act.put]) (by rfl) (World.news_of_block (cs := #[.slice a 0 cap0, .int .u32 L]) (t := 50) (fr := (0, 0)) (heap_alloc_new w _)) (by simp [Value.oneCell']) (by omega) (by unfold maxLen; omega) (by omega) (by simp; omega) (w.heap.size + 1) (by simp) ?_; intro gg cap w1 hown1 hgrow hat hlt; have q0 := (hgrow.cell_far ⟨B, 1, none⟩ (by simp; omega) (Ne.symm ag)).trans ((World.cell?_alloc_past (w := w) _ B 1 lB).trans c0); have q1 := (hgrow.frozen_far ⟨B, 1, none⟩ (by simp; omega) (Ne.symm ag)).trans ((World.frozen?_alloc_past (w := w) _ B 1 lB).trans (fB 1)); have q2 := (hgrow.cell_far ⟨B, 2, none⟩ (by simp; omega) (Ne.symm ag)).trans ((World.cell?_alloc_past (w := w) _ B 2 lB).trans c2); have q3 := (hgrow.frozen_far ⟨B, 2, none⟩ (by simp; omega) (Ne.symm ag)).trans ((World.frozen?_alloc_past (w := w) _ B 2 lB).trans (fB 2)))
    all_goals
      go_wp2
      go_end0
      obtain ⟨k1, k2, k3⟩ := endB (x := .int .u32 (L : Int)) hB (Fr.refl _ w) hown hown1 hgrow
      refine ⟨rfl, gg, cap, lb, ?_, k2, fun _ => rfl, fun h => absurd h (by omega), k3⟩
      rw [show L + 0 = L by omega]
      exact k1
end Go.Proofs.Ytakokgjbffielaa
