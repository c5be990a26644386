/-
  The contract of IsBinaryNullAndUndefined. No condition.
-/
import Derived.Test.YtfbmadlcjpaddaaTas
import Derived.Test.YtfbmadlcjpaddaaFr
import Derived.WalkSmall
import Derived.Handy
import Derived.RegionTactic
import Derived.Deep.RegionHeld3
import Derived.Deep.DeepCutAuto
import Derived.Deep.CutRange
import Derived.Deep.QuietTactic
import Derived.BigQuiet
import Derived.ChangeAlike
namespace Go.Proofs.Ytfbmadlcjpaddaa
open Go.ChangeShapes Go.WideShapes Go.ChangeAt Go.RowKit
set_option linter.unusedVariables false
set_option linter.unusedSimpArgs false

/-- The answer, the operands given by their types and nodes. -/
structure Opd where
  U : TypeId
  q : Value
def Opd.v (o : Opd) : Value := .agg #[.iface o.U o.q, .int .i32 0]
/-- The identifier of a comparison, what it is compared with, the identifier's number. -/
def flip (x y : Opd) (rx ry : Int) : Opd × Opd × Int := if y.U = 57 then (y, x, ry) else (x, y, rx)
def res (x1 x2 x3 x4 : Opd) (r1 r2 r3 r4 : Int) : Option Bool :=
  if (flip x1 x2 r1 r2).1.U = 57 ∧ (flip x3 x4 r3 r4).1.U = 57 ∧ (flip x1 x2 r1 r2).2.2 = (flip x3 x4 r3 r4).2.2 then
    (if (flip x1 x2 r1 r2).2.1.U = 74 ∧ (flip x3 x4 r3 r4).2.1.U = 77 then some true else if (flip x1 x2 r1 r2).2.1.U = 77 ∧ (flip x3 x4 r3 r4).2.1.U = 74 then some false else none)
  else none
def zeroX : Value := .agg #[.nilIface, .int .i32 0]
def outs (x1 x2 x3 x4 : Opd) : Option Bool → Value
  | none => .tuple #[zeroX, zeroX, .bool false]
  | some true => .tuple #[x1.v, x2.v, .bool true]
  | some false => .tuple #[x3.v, x4.v, .bool true]
/-- An identifier's node. -/
def IdAt (w : World) (x : Opd) (r : Int) : Prop := x.U = 57 → ∃ n : Nat, x.q = .pointer (some ⟨n, 0, none⟩) ∧ Bk w n 91 #[.int .u32 0, .int .u32 r, .bool false, .bool false, .bool false]
def BinPost (x1 x2 x3 x4 : Opd) (o : Option Bool) (w : World) (e : Ending) (w' : World) : Prop := e = .returned (outs x1 x2 x3 x4 o) ∧ Below w.heap.size w w'
/-- A comparison's node. -/
def BinAt (w : World) (b : Nat) (x y : Opd) (op : Int) : Prop := Bk w b 105 #[.iface x.U x.q, .int .i32 0, .iface y.U y.q, .int .i32 0, .int .u8 op, .bool false]
/-- The two copies, turned so that the identifier comes first. -/
structure Flipped (g h : Nat) (x y : Opd) (w wx : World) : Prop where
  one : Bk wx g 28 #[.iface (flip x y 0 0).1.U (flip x y 0 0).1.q, .int .i32 0]
  two : Bk wx h 28 #[.iface (flip x y 0 0).2.1.U (flip x y 0 0).2.1.q, .int .i32 0]
  fr : Fr (fun k => k = g ∨ k = h) w wx
theorem Flipped.yes {g h : Nat} {x y : Opd} {w : World} (hy : y.U = 57) (hne : g ≠ h) (h1 : Bk w g 28 #[.iface x.U x.q, .int .i32 0]) (h2 : Bk w h 28 #[.iface y.U y.q, .int .i32 0]) :
    Flipped g h x y w ((((w.setCell ⟨g, 0, none⟩ (.iface 57 y.q)).setCell ⟨g, 1, none⟩ (.int .i32 0)).setCell ⟨h, 0, none⟩ (.iface x.U x.q)).setCell ⟨h, 1, none⟩ (.int .i32 0)) where
  one := by
    have e : flip x y 0 0 = (y, x, 0) := if_pos hy
    rw [e]
    show Bk _ g 28 #[.iface y.U y.q, .int .i32 0]
    rw [hy]
    exact (((h1.set 0 (.iface 57 y.q)).set 1 (.int .i32 0)).far (p := ⟨h, 0, none⟩) hne _).far (p := ⟨h, 1, none⟩) hne _
  two := by
    have e : flip x y 0 0 = (y, x, 0) := if_pos hy
    rw [e]
    exact (((h2.far (p := ⟨g, 0, none⟩) (Ne.symm hne) _).far (p := ⟨g, 1, none⟩) (Ne.symm hne) _).set 0 (.iface x.U x.q)).set 1 (.int .i32 0)
  fr := ((((Fr.refl _ w).setCell (p := ⟨g, 0, none⟩) (fun _ => .inl rfl) _).setCell (p := ⟨g, 1, none⟩) (fun _ => .inl rfl) _).setCell (p := ⟨h, 0, none⟩) (fun _ => .inr rfl) _).setCell (p := ⟨h, 1, none⟩) (fun _ => .inr rfl) _
theorem endBel {B r6 r7 : Nat} {w wf : World} (h : Below B w wf) (h6 : B ≤ r6) (h7 : B ≤ r7) (a b c d : Value) : Below B w ((((wf.setCell ⟨r6, 0, none⟩ a).setCell ⟨r6, 1, none⟩ b).setCell ⟨r7, 0, none⟩ c).setCell ⟨r7, 1, none⟩ d) :=
  (((h.setCell (p := ⟨r6, 0, none⟩) h6 a).setCell (p := ⟨r6, 1, none⟩) h6 b).setCell (p := ⟨r7, 0, none⟩) h7 c).setCell (p := ⟨r7, 1, none⟩) h7 d
theorem flip_fst (x y : Opd) (a b c d : Int) : (flip x y a b).1 = (flip x y c d).1 ∧ (flip x y a b).2.1 = (flip x y c d).2.1 := by
  unfold flip; split <;> exact ⟨rfl, rfl⟩
theorem IdAt.flip {w : World} {x y : Opd} {r s : Int} (h1 : IdAt w x r) (h2 : IdAt w y s) : IdAt w (Ytfbmadlcjpaddaa.flip x y 0 0).1 (Ytfbmadlcjpaddaa.flip x y r s).2.2 := by
  unfold Ytfbmadlcjpaddaa.flip
  split
  · exact h2
  · exact h1
theorem res_eq (x1 x2 x3 x4 : Opd) (r1 r2 r3 r4 : Int) : res x1 x2 x3 x4 r1 r2 r3 r4 =
    if (flip x1 x2 0 0).1.U = 57 ∧ (flip x3 x4 0 0).1.U = 57 ∧ (flip x1 x2 r1 r2).2.2 = (flip x3 x4 r3 r4).2.2 then
      (if (flip x1 x2 0 0).2.1.U = 74 ∧ (flip x3 x4 0 0).2.1.U = 77 then some true else if (flip x1 x2 0 0).2.1.U = 77 ∧ (flip x3 x4 0 0).2.1.U = 74 then some false else none)
    else none := by
  unfold res
  rw [(flip_fst x1 x2 r1 r2 0 0).1, (flip_fst x3 x4 r3 r4 0 0).1, (flip_fst x1 x2 r1 r2 0 0).2, (flip_fst x3 x4 r3 r4 0 0).2]
theorem Flipped.no {g h : Nat} {x y : Opd} {w : World} (hy : ¬ y.U = 57) (h1 : Bk w g 28 #[.iface x.U x.q, .int .i32 0]) (h2 : Bk w h 28 #[.iface y.U y.q, .int .i32 0]) : Flipped g h x y w w where
  one := by
    have e : flip x y 0 0 = (x, y, 0) := if_neg hy
    rw [e]; exact h1
  two := by
    have e : flip x y 0 0 = (x, y, 0) := if_neg hy
    rw [e]; exact h2
  fr := Fr.refl _ _
theorem boxes (w : World) (c1 c2 : Array Value) (W : World) (hW : W = (((w.alloc (.cells c1 28)).alloc (.cells c2 28)).alloc (.cells #[.nilIface, .int .i32 0] 28)).alloc (.cells #[.nilIface, .int .i32 0] 28)) :
    Bk W (w.heap.size + 1 + 1) 28 #[.nilIface, .int .i32 0] ∧ Bk W (w.heap.size + 1 + 1 + 1) 28 #[.nilIface, .int .i32 0] ∧ Below w.heap.size w W ∧ ∀ g t cs, Bk w g t cs → Bk W g t cs := by
  subst hW
  have s1 : (w.alloc (.cells c1 28)).heap.size = w.heap.size + 1 := by simp
  have s2 : ((w.alloc (.cells c1 28)).alloc (.cells c2 28)).heap.size = w.heap.size + 1 + 1 := by simp
  have s3 : (((w.alloc (.cells c1 28)).alloc (.cells c2 28)).alloc (.cells #[.nilIface, .int .i32 0] 28)).heap.size = w.heap.size + 1 + 1 + 1 := by simp
  have k1 := (Bk.mk ((w.alloc (.cells c1 28)).alloc (.cells c2 28)) 28 #[.nilIface, .int .i32 0]).alloc (.cells #[.nilIface, .int .i32 0] 28)
  have k2 := Bk.mk (((w.alloc (.cells c1 28)).alloc (.cells c2 28)).alloc (.cells #[.nilIface, .int .i32 0] 28)) 28 #[.nilIface, .int .i32 0]
  rw [s2] at k1
  rw [s3] at k2
  exact ⟨k1, k2, ((((Below.refl _ w).alloc (Nat.le_refl _) _).alloc (by rw [s1]; omega) _).alloc (by rw [s2]; omega) _).alloc (by rw [s3]; omega) _, fun g t cs h => (((h.alloc _).alloc _).alloc _).alloc _⟩
set_option maxRecDepth 100000 in
set_option maxHeartbeats 8000000 in
theorem binSame (w : World) (ba bb : Nat) (x1 x2 x3 x4 : Opd) (r1 r2 r3 r4 : Int) (op : Int) (hA : BinAt w ba x1 x2 op) (hB : BinAt w bb x3 x4 op)
    (i1 : IdAt w x1 r1) (i2 : IdAt w x2 r2) (i3 : IdAt w x3 r3) (i4 : IdAt w x4 r4) :
    Calls Try.prog 23 #[.agg #[.iface 103 (.pointer (some ⟨ba, 0, none⟩)), .int .i32 0], .agg #[.iface 103 (.pointer (some ⟨bb, 0, none⟩)), .int .i32 0], .int .u8 op] w (BinPost x1 x2 x3 x4 (res x1 x2 x3 x4 r1 r2 r3 r4) w) := by
  obtain ⟨U1, q1⟩ := x1
  obtain ⟨U2, q2⟩ := x2
  obtain ⟨U3, q3⟩ := x3
  obtain ⟨U4, q4⟩ := x4
  unfold BinAt at hA hB
  dsimp only at hA hB
  have a4 : w.cell? ⟨ba, 4, none⟩ = some (.int .u8 op) := hA.cell 4
  have b4 : w.cell? ⟨bb, 4, none⟩ = some (.int .u8 op) := hB.cell 4
  have la := hA.lt
  have lb := hB.lt
  have la1 : ba < w.heap.size + 1 := by omega
  have la2 : ba < w.heap.size + 1 + 1 := by omega
  have la3 : ba < w.heap.size + 1 + 1 + 1 := by omega
  have lb1 : bb < w.heap.size + 1 := by omega
  have lb2 : bb < w.heap.size + 1 + 1 := by omega
  have lb3 : bb < w.heap.size + 1 + 1 + 1 := by omega
  go_enter Try.func23, Try.ntmps23
  go_upto_region 5 with (fail)
  generalize hW : (((w.alloc (Obj.cells #[Value.iface 103 (Value.pointer (some { block := ba, off := 0 })), Value.int IntKind.i32 0] 28)).alloc (Obj.cells #[Value.iface 103 (Value.pointer (some { block := bb, off := 0 })), Value.int IntKind.i32 0] 28)).alloc (Obj.cells #[Value.nilIface, Value.int IntKind.i32 0] 28)).alloc (Obj.cells #[Value.nilIface, Value.int IntKind.i32 0] 28) = W
  obtain ⟨hR6, hR7, hBel, hK⟩ := boxes w #[Value.iface 103 (Value.pointer (some { block := ba, off := 0 })), Value.int IntKind.i32 0] #[Value.iface 103 (Value.pointer (some { block := bb, off := 0 })), Value.int IntKind.i32 0] W hW.symm
  have ha := hK _ _ _ hA
  have hB2 := hK _ _ _ hB
  have HA2 := Lib.hid ha
  have HB2 := Lib.hid hB2
  have HBEL := Lib.hid hBel
  have HR6 := Lib.hid hR6
  have HR7 := Lib.hid hR7
  have hr6 : w.heap.size ≤ w.heap.size + 1 + 1 := by omega
  have hr7 : w.heap.size ≤ w.heap.size + 1 + 1 + 1 := by omega
  have hr67 : w.heap.size + 1 + 1 ≠ w.heap.size + 1 + 1 + 1 := by omega
  generalize w.heap.size + 1 + 1 + 1 = r7 at *
  generalize w.heap.size + 1 + 1 = r6 at *
  clear hW hK a4 b4 la1 la2 la3 lb1 lb2 lb3 hR6 hR7 hBel hB2
  have a0 : W.cell? ⟨ba, 0, none⟩ = some (.iface U1 q1) := ha.cell 0
  have a1 : W.cell? ⟨ba, 1, none⟩ = some (.int .i32 0) := ha.cell 1
  have a2 : W.cell? ⟨ba, 2, none⟩ = some (.iface U2 q2) := ha.cell 2
  have a3 : W.cell? ⟨ba, 3, none⟩ = some (.int .i32 0) := ha.cell 3
  have na0 := World.new_ne W _ a0
  have na1 := World.new_ne W _ a1
  have na2 := World.new_ne W _ a2
  have na3 := World.new_ne W _ a3
  go_cut [13, 14] from 63 to 70 (fun s13 s14 wx => ∃ g h : Nat, s13 = .pointer (some ⟨g, 0, none⟩) ∧ s14 = .pointer (some ⟨h, 0, none⟩) ∧ g ≠ h ∧ Bk wx g 28 #[.iface U1 q1, .int .i32 0] ∧ Bk wx h 28 #[.iface U2 q2, .int .i32 0] ∧ W.heap.size ≤ g ∧ W.heap.size ≤ h ∧ Below W.heap.size W wx)
  case first =>
    go_region_held3 (fun w' => w'.cell? ⟨ba, 0, none⟩ = some (.iface U1 q1) ∧ w'.cell? ⟨ba, 1, none⟩ = some (.int .i32 0) ∧ w'.cell? ⟨ba, 2, none⟩ = some (.iface U2 q2) ∧ w'.cell? ⟨ba, 3, none⟩ = some (.int .i32 0)) (go_keep) (fail)
    all_goals (go_wp2_with fail; go_meet)
    · exact ⟨_, _, rfl, rfl, by omega, (Bk.mk W 28 _).alloc _, by have q := Bk.mk (W.alloc (.cells #[.iface U1 q1, .int .i32 0] 28)) 28 #[.iface U2 q2, .int .i32 0]; rw [show (W.alloc (.cells #[.iface U1 q1, .int .i32 0] 28)).heap.size = W.heap.size + 1 by simp] at q; exact q, by omega, by omega, (((Below.refl _ W).alloc (Nat.le_refl _) _).alloc (by simp) _).drew⟩
    · exact ⟨_, _, rfl, rfl, by omega, by have q := Bk.mk (W.alloc (.cells #[.iface U2 q2, .int .i32 0] 28)) 28 #[.iface U1 q1, .int .i32 0]; rw [show (W.alloc (.cells #[.iface U2 q2, .int .i32 0] 28)).heap.size = W.heap.size + 1 by simp] at q; exact q, (Bk.mk W 28 _).alloc _, by omega, by omega, (((Below.refl _ W).alloc (Nat.le_refl _) _).alloc (by simp) _).drew⟩
  clear a0 a1 a2 a3 na0 na1 na2 na3 ha
  obtain ⟨g13, g14, rfl, rfl, hne, hg13, hg14, lg13, lg14, hbx⟩ := hcut
  have hb := HB2.out.below hbx HB2.out.lt
  have HG13 := Lib.hid hg13
  have HG14 := Lib.hid hg14
  have HBX := Lib.hid hbx
  clear hg13 hg14 hbx
  obtain ⟨wp, rfl⟩ : ∃ wp : World, wp = wc := ⟨_, rfl⟩
  go_upto_region 6 with (fail)
  have b0 : wp.cell? ⟨bb, 0, none⟩ = some (.iface U3 q3) := hb.cell 0
  have b1 : wp.cell? ⟨bb, 1, none⟩ = some (.int .i32 0) := hb.cell 1
  have b2 : wp.cell? ⟨bb, 2, none⟩ = some (.iface U4 q4) := hb.cell 2
  have b3 : wp.cell? ⟨bb, 3, none⟩ = some (.int .i32 0) := hb.cell 3
  have nb0 := World.new_ne wp _ b0
  have nb1 := World.new_ne wp _ b1
  have nb2 := World.new_ne wp _ b2
  have nb3 := World.new_ne wp _ b3
  go_cut [15, 16] from 71 to 78 (fun s13 s14 wx => ∃ g h : Nat, s13 = .pointer (some ⟨g, 0, none⟩) ∧ s14 = .pointer (some ⟨h, 0, none⟩) ∧ g ≠ h ∧ Bk wx g 28 #[.iface U3 q3, .int .i32 0] ∧ Bk wx h 28 #[.iface U4 q4, .int .i32 0] ∧ wp.heap.size ≤ g ∧ wp.heap.size ≤ h ∧ Below wp.heap.size wp wx)
  case first =>
    go_region_held3 (fun w' => w'.cell? ⟨bb, 0, none⟩ = some (.iface U3 q3) ∧ w'.cell? ⟨bb, 1, none⟩ = some (.int .i32 0) ∧ w'.cell? ⟨bb, 2, none⟩ = some (.iface U4 q4) ∧ w'.cell? ⟨bb, 3, none⟩ = some (.int .i32 0)) (go_keep) (fail)
    all_goals (go_wp2_with fail; go_meet)
    · exact ⟨_, _, rfl, rfl, by omega, (Bk.mk wp 28 _).alloc _, by have q := Bk.mk (wp.alloc (.cells #[.iface U3 q3, .int .i32 0] 28)) 28 #[.iface U4 q4, .int .i32 0]; rw [show (wp.alloc (.cells #[.iface U3 q3, .int .i32 0] 28)).heap.size = wp.heap.size + 1 by simp] at q; exact q, by omega, by omega, (((Below.refl _ wp).alloc (Nat.le_refl _) _).alloc (by simp) _).drew⟩
    · exact ⟨_, _, rfl, rfl, by omega, by have q := Bk.mk (wp.alloc (.cells #[.iface U4 q4, .int .i32 0] 28)) 28 #[.iface U3 q3, .int .i32 0]; rw [show (wp.alloc (.cells #[.iface U4 q4, .int .i32 0] 28)).heap.size = wp.heap.size + 1 by simp] at q; exact q, (Bk.mk wp 28 _).alloc _, by omega, by omega, (((Below.refl _ wp).alloc (Nat.le_refl _) _).alloc (by simp) _).drew⟩
  clear b0 b1 b2 b3 nb0 nb1 nb2 nb3 hb
  obtain ⟨g15, g16, rfl, rfl, hne2, hg15, hg16, lg15, lg16, hbx2⟩ := hcut
  have HG15 := Lib.hid hg15
  have HG16 := Lib.hid hg16
  have HBY := Lib.hid hbx2
  clear hg15 hg16 hbx2
  have HG13' := Lib.hid (HG13.out.below HBY.out HG13.out.lt)
  have HG14' := Lib.hid (HG14.out.below HBY.out HG14.out.lt)
  have l13 := HG13.out.lt
  have l14 := HG14.out.lt
  clear HG13 HG14
  have HG13 := HG13'
  have HG14 := HG14'
  clear HG13' HG14'
  have hne' : g14 ≠ g13 := fun q => hne q.symm
  have hne2' : g16 ≠ g15 := fun q => hne2 q.symm
  obtain ⟨wd, rfl⟩ : ∃ wd : World, wd = wc := ⟨_, rfl⟩
  have ki0 : wd.cell? ⟨g13, 0, none⟩ = some (.iface U1 q1) := HG13.out.cell 0
  have ki1 : wd.cell? ⟨g13, 1, none⟩ = some (.int .i32 0) := HG13.out.cell 1
  have ke0 : wd.cell? ⟨g14, 0, none⟩ = some (.iface U2 q2) := HG14.out.cell 0
  have ke1 : wd.cell? ⟨g14, 1, none⟩ = some (.int .i32 0) := HG14.out.cell 1
  have fi0 := HG13.out.free 0
  have fi1 := HG13.out.free 1
  have fe0 := HG14.out.free 0
  have fe1 := HG14.out.free 1
  go_upto_if 85 with (fail)
  go_cut [17, 18] from 79 to 87 (fun _ _ wx => Flipped g13 g14 ⟨U1, q1⟩ ⟨U2, q2⟩ wd wx)
  case first =>
    by_cases h : U2 = 57
    · have hd : decide (U2 = 57) = true := decide_eq_true h
      have HX := Lib.hid h
      clear h
      go_wp2
      go_meet
      exact Flipped.yes (x := ⟨U1, q1⟩) (y := ⟨U2, q2⟩) HX.out hne HG13.out HG14.out
    · have hd : decide (U2 = 57) = false := decide_eq_false h
      have HX := Lib.hid h
      clear h
      go_wp2
      go_meet
      exact Flipped.no (x := ⟨U1, q1⟩) (y := ⟨U2, q2⟩) HX.out HG13.out HG14.out
  have HFA := Lib.hid hcut
  clear hcut ki0 ki1 ke0 ke1 fi0 fi1 fe0 fe1
  have nn1 : g15 ≠ g13 := by omega
  have nn2 : g15 ≠ g14 := by omega
  have nn3 : g16 ≠ g13 := by omega
  have nn4 : g16 ≠ g14 := by omega
  have HG15' := Lib.hid (HG15.out.fr HFA.out.fr (by rintro (q | q) <;> omega))
  have HG16' := Lib.hid (HG16.out.fr HFA.out.fr (by rintro (q | q) <;> omega))
  clear HG15 HG16
  have HG15 := HG15'
  have HG16 := HG16'
  clear HG15' HG16'
  obtain ⟨we, rfl⟩ : ∃ we : World, we = wc := ⟨_, rfl⟩
  have ki0 : we.cell? ⟨g15, 0, none⟩ = some (.iface U3 q3) := HG15.out.cell 0
  have ki1 : we.cell? ⟨g15, 1, none⟩ = some (.int .i32 0) := HG15.out.cell 1
  have ke0 : we.cell? ⟨g16, 0, none⟩ = some (.iface U4 q4) := HG16.out.cell 0
  have ke1 : we.cell? ⟨g16, 1, none⟩ = some (.int .i32 0) := HG16.out.cell 1
  have fi0 := HG15.out.free 0
  have fi1 := HG15.out.free 1
  have fe0 := HG16.out.free 0
  have fe1 := HG16.out.free 1
  go_upto_if 94 with (fail)
  go_cut [19, 20] from 88 to 96 (fun _ _ wx => Flipped g15 g16 ⟨U3, q3⟩ ⟨U4, q4⟩ we wx)
  case first =>
    by_cases h : U4 = 57
    · have hd : decide (U4 = 57) = true := decide_eq_true h
      have HX := Lib.hid h
      clear h
      go_wp2
      go_meet
      exact Flipped.yes (x := ⟨U3, q3⟩) (y := ⟨U4, q4⟩) HX.out hne2 HG15.out HG16.out
    · have hd : decide (U4 = 57) = false := decide_eq_false h
      have HX := Lib.hid h
      clear h
      go_wp2
      go_meet
      exact Flipped.no (x := ⟨U3, q3⟩) (y := ⟨U4, q4⟩) HX.out HG15.out HG16.out
  have HFB := Lib.hid hcut
  clear hcut ki0 ki1 ke0 ke1 fi0 fi1 fe0 fe1
  obtain ⟨wf, rfl⟩ : ∃ wf : World, wf = wc := ⟨_, rfl⟩
  have HA3 : Hid (Bk wf ba 105 #[.iface U1 q1, .int .i32 0, .iface U2 q2, .int .i32 0, .int .u8 op, .bool false]) :=
    ((((HA2.out.below HBX.out HA2.out.lt).below HBY.out (HA2.out.below HBX.out HA2.out.lt).lt).fr HFA.out.fr (by have := HA2.out.lt; rintro (q | q) <;> omega)).fr HFB.out.fr (by have := HA2.out.lt; have := HBX.out.size; rintro (q | q) <;> omega))
  have HB3 : Hid (Bk wf bb 105 #[.iface U3 q3, .int .i32 0, .iface U4 q4, .int .i32 0, .int .u8 op, .bool false]) :=
    ((((HB2.out.below HBX.out HB2.out.lt).below HBY.out (HB2.out.below HBX.out HB2.out.lt).lt).fr HFA.out.fr (by have := HB2.out.lt; rintro (q | q) <;> omega)).fr HFB.out.fr (by have := HB2.out.lt; have := HBX.out.size; rintro (q | q) <;> omega))
  have HR6' : Hid (Bk wf r6 28 #[.nilIface, .int .i32 0]) :=
    ((((HR6.out.below HBX.out HR6.out.lt).below HBY.out (HR6.out.below HBX.out HR6.out.lt).lt).fr HFA.out.fr (by have := HR6.out.lt; rintro (q | q) <;> omega)).fr HFB.out.fr (by have := HR6.out.lt; have := HBX.out.size; rintro (q | q) <;> omega))
  have HR7' : Hid (Bk wf r7 28 #[.nilIface, .int .i32 0]) :=
    ((((HR7.out.below HBX.out HR7.out.lt).below HBY.out (HR7.out.below HBX.out HR7.out.lt).lt).fr HFA.out.fr (by have := HR7.out.lt; rintro (q | q) <;> omega)).fr HFB.out.fr (by have := HR7.out.lt; have := HBX.out.size; rintro (q | q) <;> omega))
  have HBF : Hid (Below w.heap.size w wf) := by
    have s1 := HBEL.out.size
    have s2 := HBX.out.size
    have s3 := HBY.out.size
    have s4 := HFA.out.fr.size
    have b1 := HBEL.out.trans (HBX.out.mono s1)
    have b2 := b1.trans (HBY.out.mono (by omega))
    have b3 := b2.trans (HFA.out.fr.below (by omega) (fun k hk => by rintro (q | q) <;> omega))
    exact b3.trans (HFB.out.fr.below (by omega) (fun k hk => by rintro (q | q) <;> omega))
  have HIA := Lib.hid (IdAt.flip i1 i2)
  have HIB := Lib.hid (IdAt.flip i3 i4)
  have k13 : wf.cell? ⟨g13, 0, none⟩ = some (.iface (flip ⟨U1, q1⟩ ⟨U2, q2⟩ 0 0).1.U (flip ⟨U1, q1⟩ ⟨U2, q2⟩ 0 0).1.q) := (HFA.out.one.fr HFB.out.fr (by rintro (q | q) <;> omega)).cell 0
  have k14 : wf.cell? ⟨g14, 0, none⟩ = some (.iface (flip ⟨U1, q1⟩ ⟨U2, q2⟩ 0 0).2.1.U (flip ⟨U1, q1⟩ ⟨U2, q2⟩ 0 0).2.1.q) := (HFA.out.two.fr HFB.out.fr (by rintro (q | q) <;> omega)).cell 0
  have k15 : wf.cell? ⟨g15, 0, none⟩ = some (.iface (flip ⟨U3, q3⟩ ⟨U4, q4⟩ 0 0).1.U (flip ⟨U3, q3⟩ ⟨U4, q4⟩ 0 0).1.q) := HFB.out.one.cell 0
  have k16 : wf.cell? ⟨g16, 0, none⟩ = some (.iface (flip ⟨U3, q3⟩ ⟨U4, q4⟩ 0 0).2.1.U (flip ⟨U3, q3⟩ ⟨U4, q4⟩ 0 0).2.1.q) := HFB.out.two.cell 0
  have HRES := Lib.hid (res_eq ⟨U1, q1⟩ ⟨U2, q2⟩ ⟨U3, q3⟩ ⟨U4, q4⟩ r1 r2 r3 r4)
  generalize (flip (⟨U1, q1⟩ : Opd) ⟨U2, q2⟩ r1 r2).2.2 = rA at *
  generalize (flip (⟨U3, q3⟩ : Opd) ⟨U4, q4⟩ r3 r4).2.2 = rB at *
  generalize (flip (⟨U1, q1⟩ : Opd) ⟨U2, q2⟩ 0 0).1 = IA at *
  generalize (flip (⟨U3, q3⟩ : Opd) ⟨U4, q4⟩ 0 0).1 = IB at *
  generalize (flip (⟨U1, q1⟩ : Opd) ⟨U2, q2⟩ 0 0).2.1 = EA at *
  generalize (flip (⟨U3, q3⟩ : Opd) ⟨U4, q4⟩ 0 0).2.1 = EB at *
  obtain ⟨UI, qI⟩ := IA
  obtain ⟨UJ, qJ⟩ := IB
  obtain ⟨UE, qE⟩ := EA
  obtain ⟨UF, qF⟩ := EB
  dsimp only at k13 k14 k15 k16
  generalize res ⟨U1, q1⟩ ⟨U2, q2⟩ ⟨U3, q3⟩ ⟨U4, q4⟩ r1 r2 r3 r4 = R at *
  have nab : r6 ≠ ba := ne_of_types HR6'.out HA3.out (by decide)
  have nbb : r6 ≠ bb := ne_of_types HR6'.out HB3.out (by decide)
  have nac : r7 ≠ ba := ne_of_types HR7'.out HA3.out (by decide)
  have nbc : r7 ≠ bb := ne_of_types HR7'.out HB3.out (by decide)
  have c60 : wf.cell? ⟨r6, 0, none⟩ = some .nilIface := HR6'.out.cell 0
  have c61 : wf.cell? ⟨r6, 1, none⟩ = some (.int .i32 0) := HR6'.out.cell 1
  have c70 : wf.cell? ⟨r7, 0, none⟩ = some .nilIface := HR7'.out.cell 0
  have c71 : wf.cell? ⟨r7, 1, none⟩ = some (.int .i32 0) := HR7'.out.cell 1
  have f60 := HR6'.out.free 0
  have f61 := HR6'.out.free 1
  have f70 := HR7'.out.free 0
  have f71 := HR7'.out.free 1
  clear HFA HFB HG13 HG14 HG15 HG16 HA2 HB2 HR6 HR7 HBX HBY HBEL i1 i2 i3 i4 hA hB
  have hsn := fun (W : World) (a : Addr) (m : Mode) => run_store Try.prog W a .nilIface m rfl
  have hd67 : r7 ≠ r6 := fun q => hr67 q.symm
  by_cases hI : UI = 57
  · subst hI
    obtain ⟨nA, e, hnA⟩ := HIA.out rfl
    dsimp only at e
    subst e
    by_cases hJ : UJ = 57
    · subst hJ
      obtain ⟨nB, e, hnB⟩ := HIB.out rfl
      dsimp only at e
      subst e
      have cA0 : wf.cell? ⟨nA, 0, none⟩ = some (.int .u32 0) := (hnA.below HBF.out hnA.lt).cell 0
      have cA1 : wf.cell? ⟨nA, 1, none⟩ = some (.int .u32 rA) := (hnA.below HBF.out hnA.lt).cell 1
      have cB0 : wf.cell? ⟨nB, 0, none⟩ = some (.int .u32 0) := (hnB.below HBF.out hnB.lt).cell 0
      have cB1 : wf.cell? ⟨nB, 1, none⟩ = some (.int .u32 rB) := (hnB.below HBF.out hnB.lt).cell 1
      clear HIA HIB hnA hnB
      by_cases hr : rA = rB
      · subst hr
        by_cases hE : UE = 74
        · subst hE
          by_cases hF : UF = 77
          · subst hF
            have HR : Hid (R = some true) := by show _ = _; rw [HRES.out]; simp
            clear HRES
            go_wp2
            go_quiet (fail)
            go_wp2
            have z0 : wf.cell? ⟨ba, 0, none⟩ = some (.iface U1 q1) := HA3.out.cell 0
            have z1 : wf.cell? ⟨ba, 1, none⟩ = some (.int .i32 0) := HA3.out.cell 1
            have z2 : wf.cell? ⟨ba, 2, none⟩ = some (.iface U2 q2) := HA3.out.cell 2
            have z3 : wf.cell? ⟨ba, 3, none⟩ = some (.int .i32 0) := HA3.out.cell 3
            have m6 : ba ≠ r6 := Ne.symm nab
            have m7 : ba ≠ r7 := Ne.symm nac
            go_region_held3 (fun w' => w'.cell? ⟨ba, 0, none⟩ = some (.iface U1 q1) ∧ w'.cell? ⟨ba, 1, none⟩ = some (.int .i32 0) ∧ w'.cell? ⟨ba, 2, none⟩ = some (.iface U2 q2) ∧ w'.cell? ⟨ba, 3, none⟩ = some (.int .i32 0)) (go_keep) (fail)
            all_goals
              go_wp2
              refine bodyPost_ret (v := .tuple #[.agg #[.iface U1 q1, .int .i32 0], .agg #[.iface U2 q2, .int .i32 0], .bool true]) (by simp [results, Try.results23, go_sem, World.cell?_setCell_other, World.cell?_setCell_same _ _ _ c60, World.cell?_setCell_same _ _ _ c61, World.cell?_setCell_same _ _ _ c70, World.cell?_setCell_same _ _ _ c71, c60, c61, c70, c71, hr67, hd67]; try rfl) rfl ⟨by rw [HR.out]; rfl, ?_⟩
              first | exact endBel HBF.out hr6 hr7 _ _ _ _ | exact below_drewN (endBel HBF.out hr6 hr7 _ _ _ _) _ | exact (endBel HBF.out hr6 hr7 _ _ _ _).drew | exact (below_drewN (endBel HBF.out hr6 hr7 _ _ _ _) _).drew | exact below_drewN (endBel HBF.out hr6 hr7 _ _ _ _).drew _
          · have HR : Hid (R = none) := by show _ = _; rw [HRES.out]; simp [hF]
            have hd : decide (UF = 77) = false := decide_eq_false hF
            clear HRES
            go_wp2
            go_quiet (fail)
            go_wp2
            refine bodyPost_ret (v := .tuple #[.agg #[.nilIface, .int .i32 0], .agg #[.nilIface, .int .i32 0], .bool false]) (by simp [results, Try.results23, go_sem, World.cell?_setCell_other, World.cell?_setCell_same _ _ _ c60, World.cell?_setCell_same _ _ _ c61, World.cell?_setCell_same _ _ _ c70, World.cell?_setCell_same _ _ _ c71, c60, c61, c70, c71, hr67, hd67]; try rfl) rfl ⟨by rw [HR.out]; rfl, ?_⟩
            first | exact endBel HBF.out hr6 hr7 _ _ _ _ | exact below_drewN (endBel HBF.out hr6 hr7 _ _ _ _) _ | exact (endBel HBF.out hr6 hr7 _ _ _ _).drew
        · have hdE : decide (UE = 74) = false := decide_eq_false hE
          by_cases hE2 : UE = 77
          · subst hE2
            by_cases hF : UF = 74
            · subst hF
              have HR : Hid (R = some false) := by show _ = _; rw [HRES.out]; simp
              clear HRES
              go_wp2
              go_quiet (fail)
              go_wp2
              have z0 : wf.cell? ⟨bb, 0, none⟩ = some (.iface U3 q3) := HB3.out.cell 0
              have z1 : wf.cell? ⟨bb, 1, none⟩ = some (.int .i32 0) := HB3.out.cell 1
              have z2 : wf.cell? ⟨bb, 2, none⟩ = some (.iface U4 q4) := HB3.out.cell 2
              have z3 : wf.cell? ⟨bb, 3, none⟩ = some (.int .i32 0) := HB3.out.cell 3
              have m6 : bb ≠ r6 := Ne.symm nbb
              have m7 : bb ≠ r7 := Ne.symm nbc
              go_region_held3 (fun w' => w'.cell? ⟨bb, 0, none⟩ = some (.iface U3 q3) ∧ w'.cell? ⟨bb, 1, none⟩ = some (.int .i32 0) ∧ w'.cell? ⟨bb, 2, none⟩ = some (.iface U4 q4) ∧ w'.cell? ⟨bb, 3, none⟩ = some (.int .i32 0)) (go_keep) (fail)
              all_goals
                go_wp2
                refine bodyPost_ret (v := .tuple #[.agg #[.iface U3 q3, .int .i32 0], .agg #[.iface U4 q4, .int .i32 0], .bool true]) (by simp [results, Try.results23, go_sem, World.cell?_setCell_other, World.cell?_setCell_same _ _ _ c60, World.cell?_setCell_same _ _ _ c61, World.cell?_setCell_same _ _ _ c70, World.cell?_setCell_same _ _ _ c71, c60, c61, c70, c71, hr67, hd67]; try rfl) rfl ⟨by rw [HR.out]; rfl, ?_⟩
                first | exact endBel HBF.out hr6 hr7 _ _ _ _ | exact below_drewN (endBel HBF.out hr6 hr7 _ _ _ _) _ | exact (endBel HBF.out hr6 hr7 _ _ _ _).drew | exact (below_drewN (endBel HBF.out hr6 hr7 _ _ _ _) _).drew | exact below_drewN (endBel HBF.out hr6 hr7 _ _ _ _).drew _
            · have HR : Hid (R = none) := by show _ = _; rw [HRES.out]; simp [hF]
              have hd : decide (UF = 74) = false := decide_eq_false hF
              clear HRES
              go_wp2
              go_quiet (fail)
              go_wp2
              refine bodyPost_ret (v := .tuple #[.agg #[.nilIface, .int .i32 0], .agg #[.nilIface, .int .i32 0], .bool false]) (by simp [results, Try.results23, go_sem, World.cell?_setCell_other, World.cell?_setCell_same _ _ _ c60, World.cell?_setCell_same _ _ _ c61, World.cell?_setCell_same _ _ _ c70, World.cell?_setCell_same _ _ _ c71, c60, c61, c70, c71, hr67, hd67]; try rfl) rfl ⟨by rw [HR.out]; rfl, ?_⟩
              first | exact endBel HBF.out hr6 hr7 _ _ _ _ | exact below_drewN (endBel HBF.out hr6 hr7 _ _ _ _) _ | exact (endBel HBF.out hr6 hr7 _ _ _ _).drew
          · have HR : Hid (R = none) := by show _ = _; rw [HRES.out]; simp [hE, hE2]
            have hd : decide (UE = 77) = false := decide_eq_false hE2
            clear HRES
            go_wp2
            go_quiet (fail)
            go_wp2
            refine bodyPost_ret (v := .tuple #[.agg #[.nilIface, .int .i32 0], .agg #[.nilIface, .int .i32 0], .bool false]) (by simp [results, Try.results23, go_sem, World.cell?_setCell_other, World.cell?_setCell_same _ _ _ c60, World.cell?_setCell_same _ _ _ c61, World.cell?_setCell_same _ _ _ c70, World.cell?_setCell_same _ _ _ c71, c60, c61, c70, c71, hr67, hd67]; try rfl) rfl ⟨by rw [HR.out]; rfl, ?_⟩
            first | exact endBel HBF.out hr6 hr7 _ _ _ _ | exact below_drewN (endBel HBF.out hr6 hr7 _ _ _ _) _ | exact (endBel HBF.out hr6 hr7 _ _ _ _).drew
      · have HR : Hid (R = none) := by show _ = _; rw [HRES.out]; simp [hr]
        have hd : (rA == rB) = false := by simpa using hr
        clear HRES
        go_wp2
        go_quiet (fail)
        go_wp2
        refine bodyPost_ret (v := .tuple #[.agg #[.nilIface, .int .i32 0], .agg #[.nilIface, .int .i32 0], .bool false]) (by simp [results, Try.results23, go_sem, World.cell?_setCell_other, World.cell?_setCell_same _ _ _ c60, World.cell?_setCell_same _ _ _ c61, World.cell?_setCell_same _ _ _ c70, World.cell?_setCell_same _ _ _ c71, c60, c61, c70, c71, hr67, hd67]; try rfl) rfl ⟨by rw [HR.out]; rfl, ?_⟩
        first | exact endBel HBF.out hr6 hr7 _ _ _ _ | exact below_drewN (endBel HBF.out hr6 hr7 _ _ _ _) _ | exact (endBel HBF.out hr6 hr7 _ _ _ _).drew
    · have HR : Hid (R = none) := by show _ = _; rw [HRES.out]; simp [hJ]
      have hd : decide (UJ = 57) = false := decide_eq_false hJ
      clear HRES HIA HIB
      go_wp2
      go_quiet (fail)
      go_wp2
      refine bodyPost_ret (v := .tuple #[.agg #[.nilIface, .int .i32 0], .agg #[.nilIface, .int .i32 0], .bool false]) (by simp [results, Try.results23, go_sem, World.cell?_setCell_other, World.cell?_setCell_same _ _ _ c60, World.cell?_setCell_same _ _ _ c61, World.cell?_setCell_same _ _ _ c70, World.cell?_setCell_same _ _ _ c71, c60, c61, c70, c71, hr67, hd67]; try rfl) rfl ⟨by rw [HR.out]; rfl, ?_⟩
      first | exact endBel HBF.out hr6 hr7 _ _ _ _ | exact below_drewN (endBel HBF.out hr6 hr7 _ _ _ _) _ | exact (endBel HBF.out hr6 hr7 _ _ _ _).drew
  · have HR : Hid (R = none) := by show _ = _; rw [HRES.out]; simp [hI]
    have hd : decide (UI = 57) = false := decide_eq_false hI
    clear HRES HIA HIB
    go_wp2
    refine bodyPost_ret (v := .tuple #[.agg #[.nilIface, .int .i32 0], .agg #[.nilIface, .int .i32 0], .bool false]) (by simp [results, Try.results23, go_sem, World.cell?_setCell_other, World.cell?_setCell_same _ _ _ c60, World.cell?_setCell_same _ _ _ c61, World.cell?_setCell_same _ _ _ c70, World.cell?_setCell_same _ _ _ c71, c60, c61, c70, c71, hr67, hd67]; try rfl) rfl ⟨by rw [HR.out]; rfl, ?_⟩
    first | exact endBel HBF.out hr6 hr7 _ _ _ _ | exact below_drewN (endBel HBF.out hr6 hr7 _ _ _ _) _ | exact (endBel HBF.out hr6 hr7 _ _ _ _).drew
end Go.Proofs.Ytfbmadlcjpaddaa
