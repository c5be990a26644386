/-
  Contracts round IsBinaryNullAndUndefined: the operands, the comparisons, the description of an operand. No condition.
-/
import Derived.Test.YtfbmadlcjpaddaaBin
namespace Go.Proofs.Ytfbmadlcjpaddaa
open Go.ChangeShapes Go.WideShapes Go.ChangeAt Go.RowKit
set_option linter.unusedVariables false
set_option linter.unusedSimpArgs false

/-- A number's node. -/
def NumAt (w : World) (x : Opd) : Prop := x.U = 79 → ∃ n f : Nat, x.q = .pointer (some ⟨n, 0, none⟩) ∧ Bk w n 81 #[.float .f64 f]
structure OpAt (w : World) (x : Opd) (r : Int) : Prop where
  id : IdAt w x r
  num : NumAt w x
theorem OpAt.below {w w' : World} {x : Opd} {r : Int} (h : OpAt w x r) (hb : Below w.heap.size w w') : OpAt w' x r :=
  ⟨fun q => by obtain ⟨n, e, hn⟩ := h.id q; exact ⟨n, e, hn.below hb hn.lt⟩, fun q => by obtain ⟨n, f, e, hn⟩ := h.num q; exact ⟨n, f, e, hn.below hb hn.lt⟩⟩
theorem BinAt.below {w w' : World} {b : Nat} {x y : Opd} {op : Int} (h : BinAt w b x y op) (hb : Below w.heap.size w w') : BinAt w' b x y op := by
  unfold BinAt at h ⊢
  exact h.below hb h.lt
def Made (r : Int) (w : World) (e : Ending) (w' : World) : Prop := ∃ U q, e = .returned (.agg #[.iface U q, .int .i32 0]) ∧ OpAt w' ⟨U, q⟩ r ∧ Below w.heap.size w w'
theorem addr0 (w : World) (o : Obj) : (w.alloc o).heap.size = w.heap.size + 1 := by simp
set_option maxRecDepth 100000 in
set_option maxHeartbeats 2000000 in
theorem mkIdent (r : Int) (w : World) : Calls Try.prog 40 #[.int .u32 r] w (Made r w) := by
  go_enter Try.func40, Try.ntmps40
  go_wp2
  refine bodyPost_ret (v := .agg #[.iface 57 (.pointer (some ⟨w.heap.size + 1, 0, none⟩)), .int .i32 0]) (by simp [results, Try.results40, go_sem]; try rfl) rfl ⟨57, _, rfl, ⟨fun _ => ⟨w.heap.size + 1, rfl, ?_⟩, fun q => absurd q (by simp)⟩, by go_grown⟩
  have := Bk.mk (w.alloc (.cells #[.iface 57 (.pointer (some ⟨w.heap.size + 1, 0, none⟩)), .int .i32 0] 28)) 91 #[.int .u32 0, .int .u32 r, .bool false, .bool false, .bool false]
  rw [addr0] at this
  exact this
set_option maxRecDepth 100000 in
set_option maxHeartbeats 2000000 in
theorem mkNull (r : Int) (w : World) : Calls Try.prog 41 #[] w (Made r w) := by
  go_enter Try.func41, Try.ntmps41
  go_wp2
  refine bodyPost_ret (v := .agg #[.iface 74 (.pointer (some ⟨w.heap.size + 1, 0, none⟩)), .int .i32 0]) (by simp [results, Try.results41, go_sem]; try rfl) rfl ⟨74, _, rfl, ⟨fun q => absurd q (by simp), fun q => absurd q (by simp)⟩, by go_grown⟩
set_option maxRecDepth 100000 in
set_option maxHeartbeats 2000000 in
theorem mkUndef (r : Int) (w : World) : Calls Try.prog 42 #[] w (Made r w) := by
  go_enter Try.func42, Try.ntmps42
  go_wp2
  refine bodyPost_ret (v := .agg #[.iface 77 (.pointer (some ⟨w.heap.size + 1, 0, none⟩)), .int .i32 0]) (by simp [results, Try.results42, go_sem]; try rfl) rfl ⟨77, _, rfl, ⟨fun q => absurd q (by simp), fun q => absurd q (by simp)⟩, by go_grown⟩
set_option maxRecDepth 100000 in
set_option maxHeartbeats 2000000 in
theorem mkNumber (r : Int) (f : Nat) (w : World) : Calls Try.prog 43 #[.float .f64 f] w (Made r w) := by
  go_enter Try.func43, Try.ntmps43
  go_wp2
  refine bodyPost_ret (v := .agg #[.iface 79 (.pointer (some ⟨w.heap.size + 1, 0, none⟩)), .int .i32 0]) (by simp [results, Try.results43, go_sem]; try rfl) rfl ⟨79, _, rfl, ⟨fun q => absurd q (by simp), fun _ => ⟨w.heap.size + 1, f, rfl, ?_⟩⟩, by go_grown⟩
  have := Bk.mk (w.alloc (.cells #[.iface 79 (.pointer (some ⟨w.heap.size + 1, 0, none⟩)), .int .i32 0] 28)) 81 #[.float .f64 f]
  rw [addr0] at this
  exact this

/-- A result's cell behind a call. -/
theorem resCell {w w1 : World} (hb : Below (w.alloc (.cells #[.nilIface, .int .i32 0] 28)).heap.size (w.alloc (.cells #[.nilIface, .int .i32 0] 28)) w1) :
    Bk w1 w.heap.size 28 #[.nilIface, .int .i32 0] ∧ Below w.heap.size w w1 :=
  ⟨(Bk.mk w 28 _).below hb (by simp), ((Below.refl _ w).alloc (Nat.le_refl _) _).trans (hb.mono (by simp))⟩
theorem OpAt.far {w : World} {g : Nat} {x : Opd} {r : Int} (h : OpAt w x r) (hg : Bk w g 28 #[.nilIface, .int .i32 0]) (a b : Value) : OpAt ((w.setCell ⟨g, 0, none⟩ a).setCell ⟨g, 1, none⟩ b) x r :=
  ⟨fun q => by obtain ⟨n, e, hn⟩ := h.id q; exact ⟨n, e, (hn.far (p := ⟨g, 0, none⟩) (ne_of_types hn hg (by decide)) _).far (p := ⟨g, 1, none⟩) (ne_of_types hn hg (by decide)) _⟩,
   fun q => by obtain ⟨n, f, e, hn⟩ := h.num q; exact ⟨n, f, e, (hn.far (p := ⟨g, 0, none⟩) (ne_of_types hn hg (by decide)) _).far (p := ⟨g, 1, none⟩) (ne_of_types hn hg (by decide)) _⟩⟩
theorem mkEnd {w w1 : World} {U : TypeId} {q : Value} {r : Int} (hop : OpAt w1 ⟨U, q⟩ r) (hb : Below (w.alloc (.cells #[.nilIface, .int .i32 0] 28)).heap.size (w.alloc (.cells #[.nilIface, .int .i32 0] 28)) w1) :
    OpAt ((w1.setCell ⟨w.heap.size, 0, none⟩ (.iface U q)).setCell ⟨w.heap.size, 1, none⟩ (.int .i32 0)) ⟨U, q⟩ r ∧ Below w.heap.size w ((w1.setCell ⟨w.heap.size, 0, none⟩ (.iface U q)).setCell ⟨w.heap.size, 1, none⟩ (.int .i32 0)) ∧
    Bk ((w1.setCell ⟨w.heap.size, 0, none⟩ (.iface U q)).setCell ⟨w.heap.size, 1, none⟩ (.int .i32 0)) w.heap.size 28 #[.iface U q, .int .i32 0] := by
  obtain ⟨h1, h2⟩ := resCell hb
  exact ⟨hop.far h1 _ _, (h2.setCell (Nat.le_refl _) _).setCell (Nat.le_refl _) _, (h1.set 0 (.iface U q)).set 1 (.int .i32 0)⟩
set_option maxRecDepth 100000 in
set_option maxHeartbeats 2000000 in
theorem mkOp0 (k : Nat) (r : Int) (w : World) (hk : k < 256) (h4 : k % 4 = 0) : Calls Try.prog 21 #[.int .u8 (k : Int), .int .u32 r] w (Made r w) := by
  have e4 : ((k : Int) % 4) = 0 := by omega
  go_enter Try.func21, Try.ntmps21
  go_wp2_with (first | (go_at_call 40; (with_reducible refine (mkIdent r _).mono ?_); rintro _ w1 ⟨U, q, rfl, hop, hb⟩; have r0 : w1.cell? ⟨w.heap.size, 0, none⟩ = some .nilIface := (resCell hb).1.cell 0; have r1 : w1.cell? ⟨w.heap.size, 1, none⟩ = some (.int .i32 0) := (resCell hb).1.cell 1; have f0 := (resCell hb).1.free 0; have f1 := (resCell hb).1.free 1; have HE := Lib.hid (mkEnd hop hb); clear hop hb))
  have z0 := HE.out.2.2.cell 0
  have z1 := HE.out.2.2.cell 1
  refine bodyPost_ret (v := .agg #[.iface U q, .int .i32 0]) (by simp [results, Try.results21, go_sem, z0, z1]; try rfl) rfl ⟨U, q, rfl, HE.out.1, HE.out.2.1⟩
set_option maxRecDepth 100000 in
set_option maxHeartbeats 2000000 in
theorem mkOp1 (k : Nat) (r : Int) (w : World) (hk : k < 256) (h4 : k % 4 = 1) : Calls Try.prog 21 #[.int .u8 (k : Int), .int .u32 r] w (Made r w) := by
  have e4 : ((k : Int) % 4) = 1 := by omega
  go_enter Try.func21, Try.ntmps21
  go_wp2_with (first | (go_at_call 41; (with_reducible refine (mkNull r _).mono ?_); rintro _ w1 ⟨U, q, rfl, hop, hb⟩; have r0 : w1.cell? ⟨w.heap.size, 0, none⟩ = some .nilIface := (resCell hb).1.cell 0; have r1 : w1.cell? ⟨w.heap.size, 1, none⟩ = some (.int .i32 0) := (resCell hb).1.cell 1; have f0 := (resCell hb).1.free 0; have f1 := (resCell hb).1.free 1; have HE := Lib.hid (mkEnd hop hb); clear hop hb))
  have z0 := HE.out.2.2.cell 0
  have z1 := HE.out.2.2.cell 1
  refine bodyPost_ret (v := .agg #[.iface U q, .int .i32 0]) (by simp [results, Try.results21, go_sem, z0, z1]; try rfl) rfl ⟨U, q, rfl, HE.out.1, HE.out.2.1⟩
set_option maxRecDepth 100000 in
set_option maxHeartbeats 2000000 in
theorem mkOp2 (k : Nat) (r : Int) (w : World) (hk : k < 256) (h4 : k % 4 = 2) : Calls Try.prog 21 #[.int .u8 (k : Int), .int .u32 r] w (Made r w) := by
  have e4 : ((k : Int) % 4) = 2 := by omega
  go_enter Try.func21, Try.ntmps21
  go_wp2_with (first | (go_at_call 42; (with_reducible refine (mkUndef r _).mono ?_); rintro _ w1 ⟨U, q, rfl, hop, hb⟩; have r0 : w1.cell? ⟨w.heap.size, 0, none⟩ = some .nilIface := (resCell hb).1.cell 0; have r1 : w1.cell? ⟨w.heap.size, 1, none⟩ = some (.int .i32 0) := (resCell hb).1.cell 1; have f0 := (resCell hb).1.free 0; have f1 := (resCell hb).1.free 1; have HE := Lib.hid (mkEnd hop hb); clear hop hb))
  have z0 := HE.out.2.2.cell 0
  have z1 := HE.out.2.2.cell 1
  refine bodyPost_ret (v := .agg #[.iface U q, .int .i32 0]) (by simp [results, Try.results21, go_sem, z0, z1]; try rfl) rfl ⟨U, q, rfl, HE.out.1, HE.out.2.1⟩
set_option maxRecDepth 100000 in
set_option maxHeartbeats 2000000 in
theorem mkOp3 (k : Nat) (r : Int) (w : World) (hk : k < 256) (h4 : k % 4 = 3) : Calls Try.prog 21 #[.int .u8 (k : Int), .int .u32 r] w (Made r w) := by
  have e4 : ((k : Int) % 4) = 3 := by omega
  go_enter Try.func21, Try.ntmps21
  go_wp2_with (first | (go_at_call 43; (with_reducible refine (mkNumber r 0 _).mono ?_); rintro _ w1 ⟨U, q, rfl, hop, hb⟩; have r0 : w1.cell? ⟨w.heap.size, 0, none⟩ = some .nilIface := (resCell hb).1.cell 0; have r1 : w1.cell? ⟨w.heap.size, 1, none⟩ = some (.int .i32 0) := (resCell hb).1.cell 1; have f0 := (resCell hb).1.free 0; have f1 := (resCell hb).1.free 1; have HE := Lib.hid (mkEnd hop hb); clear hop hb))
  have z0 := HE.out.2.2.cell 0
  have z1 := HE.out.2.2.cell 1
  refine bodyPost_ret (v := .agg #[.iface U q, .int .i32 0]) (by simp [results, Try.results21, go_sem, z0, z1]; try rfl) rfl ⟨U, q, rfl, HE.out.1, HE.out.2.1⟩
theorem mkOp (k : Nat) (r : Int) (w : World) (hk : k < 256) : Calls Try.prog 21 #[.int .u8 (k : Int), .int .u32 r] w (Made r w) := by
  have h4 : k % 4 = 0 ∨ k % 4 = 1 ∨ k % 4 = 2 ∨ k % 4 = 3 := by omega
  rcases h4 with h | h | h | h
  · exact mkOp0 k r w hk h
  · exact mkOp1 k r w hk h
  · exact mkOp2 k r w hk h
  · exact mkOp3 k r w hk h
def MadeB (x y : Opd) (op : Int) (w : World) (e : Ending) (w' : World) : Prop := ∃ b : Nat, e = .returned (.agg #[.iface 103 (.pointer (some ⟨b, 0, none⟩)), .int .i32 0]) ∧ BinAt w' b x y op ∧ Below w.heap.size w w'
set_option maxRecDepth 100000 in
set_option maxHeartbeats 2000000 in
theorem mkBin (op : Int) (U V : TypeId) (q r : Value) (w : World) : Calls Try.prog 22 #[.int .u8 op, .agg #[.iface U q, .int .i32 0], .agg #[.iface V r, .int .i32 0]] w (MadeB ⟨U, q⟩ ⟨V, r⟩ op w) := by
  go_enter Try.func22, Try.ntmps22
  go_wp2
  refine bodyPost_ret (v := .agg #[.iface 103 (.pointer (some ⟨w.heap.size + 1 + 1 + 1, 0, none⟩)), .int .i32 0]) (by simp [results, Try.results22, go_sem]; try rfl) rfl ⟨w.heap.size + 1 + 1 + 1, rfl, ?_, by go_grown⟩
  have := Bk.mk (((w.alloc (.cells #[.iface U q, .int .i32 0] 28)).alloc (.cells #[.iface V r, .int .i32 0] 28)).alloc (.cells #[.iface 103 (.pointer (some ⟨w.heap.size + 1 + 1 + 1, 0, none⟩)), .int .i32 0] 28)) 105 #[.iface U q, .int .i32 0, .iface V r, .int .i32 0, .int .u8 op, .bool false]
  rw [addr0, addr0, addr0] at this
  exact this
set_option maxRecDepth 100000 in
set_option maxHeartbeats 4000000 in
theorem binNe1 (w : World) (ba bb : Nat) (x1 x2 x3 x4 : Opd) (op opA opB : Int) (hA : BinAt w ba x1 x2 opA) (hB : BinAt w bb x3 x4 opB) (h : opA ≠ op) :
    Calls Try.prog 23 #[.agg #[.iface 103 (.pointer (some ⟨ba, 0, none⟩)), .int .i32 0], .agg #[.iface 103 (.pointer (some ⟨bb, 0, none⟩)), .int .i32 0], .int .u8 op] w (BinPost x1 x2 x3 x4 none w) := by
  unfold BinAt at hA hB
  have a4 : w.cell? ⟨ba, 4, none⟩ = some (.int .u8 opA) := hA.cell 4
  have b4 : w.cell? ⟨bb, 4, none⟩ = some (.int .u8 opB) := hB.cell 4
  have la := hA.lt
  have lb := hB.lt
  have la1 : ba < w.heap.size + 1 := by omega
  have la2 : ba < w.heap.size + 1 + 1 := by omega
  have la3 : ba < w.heap.size + 1 + 1 + 1 := by omega
  have lb1 : bb < w.heap.size + 1 := by omega
  have lb2 : bb < w.heap.size + 1 + 1 := by omega
  have lb3 : bb < w.heap.size + 1 + 1 + 1 := by omega
  have e1 : (opA == op) = false := by simpa using h
  clear h
  clear hA hB
  have hsn := fun (W : World) (a : Addr) (m : Mode) => run_store Try.prog W a .nilIface m rfl
  go_enter Try.func23, Try.ntmps23
  go_wp2
  refine bodyPost_ret (v := .tuple #[.agg #[.nilIface, .int .i32 0], .agg #[.nilIface, .int .i32 0], .bool false]) (by simp [results, Try.results23, go_sem]; try rfl) rfl ⟨rfl, by go_grown⟩
set_option maxRecDepth 100000 in
set_option maxHeartbeats 4000000 in
theorem binNe2 (w : World) (ba bb : Nat) (x1 x2 x3 x4 : Opd) (op opA opB : Int) (hA : BinAt w ba x1 x2 opA) (hB : BinAt w bb x3 x4 opB) (h1 : opA = op) (h : opB ≠ op) :
    Calls Try.prog 23 #[.agg #[.iface 103 (.pointer (some ⟨ba, 0, none⟩)), .int .i32 0], .agg #[.iface 103 (.pointer (some ⟨bb, 0, none⟩)), .int .i32 0], .int .u8 op] w (BinPost x1 x2 x3 x4 none w) := by
  unfold BinAt at hA hB
  have a4 : w.cell? ⟨ba, 4, none⟩ = some (.int .u8 opA) := hA.cell 4
  have b4 : w.cell? ⟨bb, 4, none⟩ = some (.int .u8 opB) := hB.cell 4
  have la := hA.lt
  have lb := hB.lt
  have la1 : ba < w.heap.size + 1 := by omega
  have la2 : ba < w.heap.size + 1 + 1 := by omega
  have la3 : ba < w.heap.size + 1 + 1 + 1 := by omega
  have lb1 : bb < w.heap.size + 1 := by omega
  have lb2 : bb < w.heap.size + 1 + 1 := by omega
  have lb3 : bb < w.heap.size + 1 + 1 + 1 := by omega
  have e1 : (opB == op) = false := by simpa using h
  subst h1
  clear h
  clear hA hB
  have hsn := fun (W : World) (a : Addr) (m : Mode) => run_store Try.prog W a .nilIface m rfl
  go_enter Try.func23, Try.ntmps23
  go_wp2
  refine bodyPost_ret (v := .tuple #[.agg #[.nilIface, .int .i32 0], .agg #[.nilIface, .int .i32 0], .bool false]) (by simp [results, Try.results23, go_sem]; try rfl) rfl ⟨rfl, by go_grown⟩
def resO (op opA opB : Int) (x1 x2 x3 x4 : Opd) (r1 r2 r3 r4 : Int) : Option Bool := if opA = op ∧ opB = op then res x1 x2 x3 x4 r1 r2 r3 r4 else none
theorem binAny (w : World) (ba bb : Nat) (x1 x2 x3 x4 : Opd) (r1 r2 r3 r4 : Int) (op opA opB : Int) (hA : BinAt w ba x1 x2 opA) (hB : BinAt w bb x3 x4 opB)
    (i1 : OpAt w x1 r1) (i2 : OpAt w x2 r2) (i3 : OpAt w x3 r3) (i4 : OpAt w x4 r4) (R : Option Bool) (hR : resO op opA opB x1 x2 x3 x4 r1 r2 r3 r4 = R) :
    Calls Try.prog 23 #[.agg #[.iface 103 (.pointer (some ⟨ba, 0, none⟩)), .int .i32 0], .agg #[.iface 103 (.pointer (some ⟨bb, 0, none⟩)), .int .i32 0], .int .u8 op] w (BinPost x1 x2 x3 x4 R w) := by
  subst hR
  by_cases h1 : opA = op
  · by_cases h2 : opB = op
    · have e : resO op opA opB x1 x2 x3 x4 r1 r2 r3 r4 = res x1 x2 x3 x4 r1 r2 r3 r4 := if_pos ⟨h1, h2⟩
      rw [e]
      subst h1
      subst h2
      exact binSame w ba bb x1 x2 x3 x4 r1 r2 r3 r4 _ hA hB i1.id i2.id i3.id i4.id
    · have e : resO op opA opB x1 x2 x3 x4 r1 r2 r3 r4 = none := if_neg fun q => h2 q.2
      rw [e]
      exact binNe2 w ba bb x1 x2 x3 x4 op opA opB hA hB h1 h2
  · have e : resO op opA opB x1 x2 x3 x4 r1 r2 r3 r4 = none := if_neg fun q => h1 q.1
    rw [e]
    exact binNe1 w ba bb x1 x2 x3 x4 op opA opB hA hB h1
/-! ### The plain law -/
theorem flip_swap (x y : Opd) (r s : Int) (h : (x.U = 57 ∧ y.U ≠ 57) ∨ (x.U ≠ 57 ∧ y.U = 57)) : flip y x s r = flip x y r s := by
  unfold flip
  rcases h with ⟨h1, h2⟩ | ⟨h1, h2⟩
  · rw [if_pos h1, if_neg h2]
  · rw [if_neg h1, if_pos h2]
theorem res_swap (x1 x2 x3 x4 : Opd) (r1 r2 r3 r4 : Int) : res x3 x4 x1 x2 r3 r4 r1 r2 = (res x1 x2 x3 x4 r1 r2 r3 r4).map (!·) := by
  unfold res
  generalize flip x1 x2 r1 r2 = a
  generalize flip x3 x4 r3 r4 = b
  obtain ⟨a1, a2, a3⟩ := a
  obtain ⟨b1, b2, b3⟩ := b
  dsimp only
  by_cases h : a1.U = 57 ∧ b1.U = 57 ∧ a3 = b3
  · rw [if_pos h, if_pos ⟨h.2.1, h.1, h.2.2.symm⟩]
    by_cases p : a2.U = 74 ∧ b2.U = 77
    · rw [if_pos p, if_neg (by rintro ⟨_, q⟩; rw [p.1] at q; cases q), if_pos ⟨p.2, p.1⟩]; rfl
    · rw [if_neg p]
      by_cases p2 : a2.U = 77 ∧ b2.U = 74
      · rw [if_pos p2, if_pos ⟨p2.2, p2.1⟩]; rfl
      · rw [if_neg p2, if_neg (by rintro ⟨q1, q2⟩; exact p2 ⟨q2, q1⟩), if_neg (by rintro ⟨q1, q2⟩; exact p ⟨q2, q1⟩)]; rfl
  · rw [if_neg h, if_neg (by rintro ⟨q1, q2, q3⟩; exact h ⟨q2, q1, q3.symm⟩)]; rfl
/-- Where a comparison's answer counts at all, its operands may stand either way. -/
theorem res_none {x1 x2 x3 x4 : Opd} {r1 r2 r3 r4 : Int} (h : ¬ ((x1.U = 57 ∧ x2.U ≠ 57) ∨ (x1.U ≠ 57 ∧ x2.U = 57)) ∨ ¬ ((x3.U = 57 ∧ x4.U ≠ 57) ∨ (x3.U ≠ 57 ∧ x4.U = 57))) : res x1 x2 x3 x4 r1 r2 r3 r4 = none := by
  unfold res
  have key : ∀ (x y : Opd) (r s : Int), ¬ ((x.U = 57 ∧ y.U ≠ 57) ∨ (x.U ≠ 57 ∧ y.U = 57)) → (flip x y r s).1.U ≠ 57 ∨ (flip x y r s).2.1.U = 57 := by
    intro x y r s h
    unfold flip
    by_cases hy : y.U = 57
    · rw [if_pos hy]
      by_cases hx : x.U = 57
      · exact .inr hx
      · exact absurd (.inr ⟨hx, hy⟩) h
    · rw [if_neg hy]
      by_cases hx : x.U = 57
      · exact absurd (.inl ⟨hx, hy⟩) h
      · exact .inl hx
  rcases h with h | h
  · rcases key _ _ r1 r2 h with q | q
    · rw [if_neg (fun p => q p.1)]
    · split
      · rw [if_neg (by rintro ⟨p, _⟩; rw [q] at p; cases p), if_neg (by rintro ⟨p, _⟩; rw [q] at p; cases p)]
      · rfl
  · rcases key _ _ r3 r4 h with q | q
    · rw [if_neg (fun p => q p.2.1)]
    · split
      · rw [if_neg (by rintro ⟨_, p⟩; rw [q] at p; cases p), if_neg (by rintro ⟨_, p⟩; rw [q] at p; cases p)]
      · rfl
theorem res_turn (x1 x2 x3 x4 : Opd) (r1 r2 r3 r4 : Int) : res x2 x1 x4 x3 r2 r1 r4 r3 = res x1 x2 x3 x4 r1 r2 r3 r4 := by
  by_cases h1 : (x1.U = 57 ∧ x2.U ≠ 57) ∨ (x1.U ≠ 57 ∧ x2.U = 57)
  · by_cases h2 : (x3.U = 57 ∧ x4.U ≠ 57) ∨ (x3.U ≠ 57 ∧ x4.U = 57)
    · unfold res
      rw [flip_swap x1 x2 r1 r2 h1, flip_swap x3 x4 r3 r4 h2]
    · rw [res_none (.inr h2), res_none (.inr (by rintro (⟨p, q⟩ | ⟨p, q⟩); exact h2 (.inr ⟨q, p⟩); exact h2 (.inl ⟨q, p⟩)))]
  · rw [res_none (.inl h1), res_none (.inl (by rintro (⟨p, q⟩ | ⟨p, q⟩); exact h1 (.inr ⟨q, p⟩); exact h1 (.inl ⟨q, p⟩)))]
theorem resAll (op opA opB : Int) (x1 x2 x3 x4 : Opd) (r1 r2 r3 r4 : Int) : ∃ R, resO op opA opB x1 x2 x3 x4 r1 r2 r3 r4 = R ∧ resO op opB opA x3 x4 x1 x2 r3 r4 r1 r2 = R.map (!·) ∧ resO op opA opB x2 x1 x4 x3 r2 r1 r4 r3 = R := by
  refine ⟨_, rfl, ?_, ?_⟩
  · unfold resO
    by_cases h : opA = op ∧ opB = op
    · rw [if_pos h, if_pos ⟨h.2, h.1⟩, res_swap]
    · rw [if_neg h, if_neg (fun q => h ⟨q.2, q.1⟩)]; rfl
  · unfold resO
    by_cases h : opA = op ∧ opB = op
    · rw [if_pos h, if_pos h, res_turn]
    · rw [if_neg h, if_neg h]
/-! ### The description of an operand -/
def Said (v : Value) (w : World) (e : Ending) (w' : World) : Prop := e = .returned v ∧ Below w.heap.size w w'
set_option maxRecDepth 100000 in
theorem identYes (q : Value) (r : Int) (w : World) (h : OpAt w ⟨57, q⟩ r) : Calls Try.prog 45 #[.agg #[.iface 57 q, .int .i32 0]] w (Said (.tuple #[.int .u32 r, .bool true]) w) := by
  obtain ⟨n, e, hn⟩ := h.id rfl
  dsimp only at e
  subst e
  have c1 : w.cell? ⟨n, 1, none⟩ = some (.int .u32 r) := hn.cell 1
  have l := hn.lt
  clear h hn
  go_enter Try.func45, Try.ntmps45
  go_wp2
  go_ret2
  exact ⟨rfl, by go_grown⟩
set_option maxRecDepth 100000 in
theorem identNo (U : TypeId) (q : Value) (w : World) (h : U ≠ 57) : Calls Try.prog 45 #[.agg #[.iface U q, .int .i32 0]] w (Said (.tuple #[.int .u32 0, .bool false]) w) := by
  have hd : decide (U = 57) = false := decide_eq_false h
  go_enter Try.func45, Try.ntmps45
  go_wp2
  go_ret2
  exact ⟨rfl, by go_grown⟩
set_option maxRecDepth 100000 in
theorem isNull (U : TypeId) (q : Value) (w : World) (b : Bool) (hd : decide (U = 74) = b) : Calls Try.prog 46 #[.agg #[.iface U q, .int .i32 0]] w (Said (.bool b) w) := by
  go_enter Try.func46, Try.ntmps46
  go_wp2
  all_goals (go_ret; exact ⟨rfl, by go_grown⟩)
set_option maxRecDepth 100000 in
theorem isUndef (U : TypeId) (q : Value) (w : World) (b : Bool) (hd : decide (U = 77) = b) : Calls Try.prog 47 #[.agg #[.iface U q, .int .i32 0]] w (Said (.bool b) w) := by
  go_enter Try.func47, Try.ntmps47
  go_wp2
  all_goals (go_ret; exact ⟨rfl, by go_grown⟩)
def SaidF (b : Bool) (w : World) (e : Ending) (w' : World) : Prop := ∃ f : Nat, e = .returned (.tuple #[.float .f64 f, .bool b]) ∧ Below w.heap.size w w'
set_option maxRecDepth 100000 in
theorem numYes (q : Value) (r : Int) (w : World) (h : OpAt w ⟨79, q⟩ r) : Calls Try.prog 48 #[.agg #[.iface 79 q, .int .i32 0]] w (SaidF true w) := by
  obtain ⟨n, f, e, hn⟩ := h.num rfl
  dsimp only at e
  subst e
  have c1 : w.cell? ⟨n, 0, none⟩ = some (.float .f64 f) := hn.cell 0
  have l := hn.lt
  clear h hn
  go_enter Try.func48, Try.ntmps48
  go_wp2
  go_ret2
  exact ⟨f, rfl, by go_grown⟩
set_option maxRecDepth 100000 in
theorem numNo (U : TypeId) (q : Value) (w : World) (h : U ≠ 79) : Calls Try.prog 48 #[.agg #[.iface U q, .int .i32 0]] w (SaidF false w) := by
  have hd : decide (U = 79) = false := decide_eq_false h
  go_enter Try.func48, Try.ntmps48
  go_wp2
  go_ret2
  exact ⟨_, rfl, by go_grown⟩
def dk (U : TypeId) : Int := if U = 57 then 0 else if U = 74 then 1 else if U = 77 then 2 else if U = 79 then 3 else 4
def dr (U : TypeId) (r : Int) : Int := if U = 57 then r else 0
theorem boxCell {w w1 : World} {U : TypeId} {q : Value} (hb : Below (w.alloc (.cells #[.iface U q, .int .i32 0] 28)).heap.size (w.alloc (.cells #[.iface U q, .int .i32 0] 28)) w1) :
    (w1.cell? ⟨w.heap.size, 0, none⟩ = some (.iface U q) ∧ w1.cell? ⟨w.heap.size, 1, none⟩ = some (.int .i32 0)) ∧ Below w.heap.size w w1 :=
  ⟨⟨((Bk.mk w 28 _).below hb (by simp)).cell 0, ((Bk.mk w 28 _).below hb (by simp)).cell 1⟩, ((Below.refl _ w).alloc (Nat.le_refl _) _).trans (hb.mono (by simp))⟩
set_option maxRecDepth 100000 in
set_option maxHeartbeats 4000000 in
theorem descr (U : TypeId) (q : Value) (r : Int) (w : World) (h : OpAt w ⟨U, q⟩ r) : Calls Try.prog 44 #[.agg #[.iface U q, .int .i32 0]] w (Said (.tuple #[.int .u8 (dk U), .int .u32 (dr U r)]) w) := by
  have h0 : OpAt (w.alloc (.cells #[.iface U q, .int .i32 0] 28)) ⟨U, q⟩ r := h.below ((Below.refl _ _).alloc (Nat.le_refl _) _)
  have H0 := Lib.hid h0
  clear h h0
  by_cases h57 : U = 57
  · subst h57
    go_enter Try.func44, Try.ntmps44
    go_wp2_with (first | (go_at_call 45; (with_reducible refine (identYes q r _ H0.out).mono ?_); rintro _ w1 ⟨rfl, hb⟩; have HB := Lib.hid (boxCell hb).2; clear hb))
    go_ret2
    exact ⟨rfl, HB.out⟩
  · by_cases h74 : U = 74
    · subst h74
      go_enter Try.func44, Try.ntmps44
      go_wp2_with (first
        | (go_at_call 45; (with_reducible refine (identNo 74 q _ (by decide)).mono ?_); rintro _ w1 ⟨rfl, hb⟩; obtain ⟨⟨c0, c1⟩, hb1⟩ := boxCell hb; have HB := Lib.hid hb1; clear hb hb1)
        | (go_at_call 46; (with_reducible refine (isNull 74 q _ true rfl).mono ?_); rintro _ w2 ⟨rfl, hb⟩; have HB2 := Lib.hid hb; clear hb))
      go_ret2
      exact ⟨rfl, HB.out.trans (HB2.out.mono HB.out.size)⟩
    · have hn1 : decide (U = 74) = false := decide_eq_false h74
      by_cases h77 : U = 77
      · subst h77
        go_enter Try.func44, Try.ntmps44
        go_wp2_with (first
          | (go_at_call 45; (with_reducible refine (identNo 77 q _ (by decide)).mono ?_); rintro _ w1 ⟨rfl, hb⟩; obtain ⟨⟨c0, c1⟩, hb1⟩ := boxCell hb; have HB := Lib.hid hb1; have lt : w.heap.size < w1.heap.size := Nat.lt_of_lt_of_le (by simp) hb.size; clear hb hb1)
          | (go_at_call 46; (with_reducible refine (isNull 77 q _ false rfl).mono ?_); rintro _ w2 ⟨rfl, hb⟩; have HB2 := Lib.hid hb; have d0 := (hb.cell (p := ⟨w.heap.size, 0, none⟩) lt).trans c0; have d1 := (hb.cell (p := ⟨w.heap.size, 1, none⟩) lt).trans c1; clear hb)
          | (go_at_call 47; (with_reducible refine (isUndef 77 q _ true rfl).mono ?_); rintro _ w3 ⟨rfl, hb⟩; have HB3 := Lib.hid hb; clear hb))
        go_ret2
        have b1 := HB.out.trans (HB2.out.mono HB.out.size)
        exact ⟨rfl, b1.trans (HB3.out.mono b1.size)⟩
      · have hn2 : decide (U = 77) = false := decide_eq_false h77
        by_cases h79 : U = 79
        · subst h79
          go_enter Try.func44, Try.ntmps44
          go_wp2_with (first
            | (go_at_call 45; (with_reducible refine (identNo 79 q _ (by decide)).mono ?_); rintro _ w1 ⟨rfl, hb⟩; obtain ⟨⟨c0, c1⟩, hb1⟩ := boxCell hb; have HB := Lib.hid hb1; have lt : w.heap.size < w1.heap.size := Nat.lt_of_lt_of_le (by simp) hb.size; have H1 := Lib.hid (H0.out.below hb); clear hb hb1)
            | (go_at_call 46; (with_reducible refine (isNull 79 q _ false rfl).mono ?_); rintro _ w2 ⟨rfl, hb⟩; have HB2 := Lib.hid hb; have d0 := (hb.cell (p := ⟨w.heap.size, 0, none⟩) lt).trans c0; have d1 := (hb.cell (p := ⟨w.heap.size, 1, none⟩) lt).trans c1; have lt2 : w.heap.size < w2.heap.size := Nat.lt_of_lt_of_le lt hb.size; have H2 := Lib.hid (H1.out.below hb); clear hb)
            | (go_at_call 47; (with_reducible refine (isUndef 79 q _ false rfl).mono ?_); rintro _ w3 ⟨rfl, hb⟩; have HB3 := Lib.hid hb; have e0 := (hb.cell (p := ⟨w.heap.size, 0, none⟩) lt2).trans d0; have e1 := (hb.cell (p := ⟨w.heap.size, 1, none⟩) lt2).trans d1; have H3 := Lib.hid (H2.out.below hb); clear hb)
            | (go_at_call 48; (with_reducible refine (numYes q r _ H3.out).mono ?_); rintro _ w4 ⟨f, rfl, hb⟩; have HB4 := Lib.hid hb; clear hb))
          go_ret2
          have b1 := HB.out.trans (HB2.out.mono HB.out.size)
          have b2 := b1.trans (HB3.out.mono b1.size)
          exact ⟨rfl, b2.trans (HB4.out.mono b2.size)⟩
        · have HD : Hid (dk U = 4 ∧ dr U r = 0) := by constructor <;> simp [dk, dr, h57, h74, h77, h79]
          go_enter Try.func44, Try.ntmps44
          go_wp2_with (first
            | (go_at_call 45; (with_reducible refine (identNo U q _ h57).mono ?_); rintro _ w1 ⟨rfl, hb⟩; obtain ⟨⟨c0, c1⟩, hb1⟩ := boxCell hb; have HB := Lib.hid hb1; have lt : w.heap.size < w1.heap.size := Nat.lt_of_lt_of_le (by simp) hb.size; clear hb hb1)
            | (go_at_call 46; (with_reducible refine (isNull U q _ false hn1).mono ?_); rintro _ w2 ⟨rfl, hb⟩; have HB2 := Lib.hid hb; have d0 := (hb.cell (p := ⟨w.heap.size, 0, none⟩) lt).trans c0; have d1 := (hb.cell (p := ⟨w.heap.size, 1, none⟩) lt).trans c1; have lt2 : w.heap.size < w2.heap.size := Nat.lt_of_lt_of_le lt hb.size; clear hb)
            | (go_at_call 47; (with_reducible refine (isUndef U q _ false hn2).mono ?_); rintro _ w3 ⟨rfl, hb⟩; have HB3 := Lib.hid hb; have e0 := (hb.cell (p := ⟨w.heap.size, 0, none⟩) lt2).trans d0; have e1 := (hb.cell (p := ⟨w.heap.size, 1, none⟩) lt2).trans d1; clear hb)
            | (go_at_call 48; (with_reducible refine (numNo U q _ h79).mono ?_); rintro _ w4 ⟨f, rfl, hb⟩; have HB4 := Lib.hid hb; clear hb))
          go_ret2
          have b1 := HB.out.trans (HB2.out.mono HB.out.size)
          have b2 := b1.trans (HB3.out.mono b1.size)
          exact ⟨by rw [HD.out.1, HD.out.2]; rfl, b2.trans (HB4.out.mono b2.size)⟩
set_option maxRecDepth 100000 in
set_option maxHeartbeats 4000000 in
theorem sameOp (U : TypeId) (q : Value) (r : Int) (w : World) (h : OpAt w ⟨U, q⟩ r) : Calls Try.prog 24 #[.agg #[.iface U q, .int .i32 0], .agg #[.iface U q, .int .i32 0]] w (Said (.bool true) w) := by
  have hb0 : Below w.heap.size w ((w.alloc (.cells #[.iface U q, .int .i32 0] 28)).alloc (.cells #[.iface U q, .int .i32 0] 28)) := ((Below.refl _ _).alloc (Nat.le_refl _) _).alloc (by simp) _
  have H0 := Lib.hid (h.below hb0)
  have k1 := Bk.mk (w.alloc (.cells #[.iface U q, .int .i32 0] 28)) 28 #[.iface U q, .int .i32 0]
  rw [addr0] at k1
  have K1 := Lib.hid k1
  have HB0 := Lib.hid hb0
  clear h hb0 k1
  generalize hk : dk U = k
  generalize hr : dr U r = s
  have HD := Lib.hid (descr U q r)
  rw [hk, hr] at HD
  clear hk hr
  go_enter Try.func24, Try.ntmps24
  go_wp2_with (first
    | (go_at_call 44; (with_reducible refine (HD.out ((w.alloc (.cells #[.iface U q, .int .i32 0] 28)).alloc (.cells #[.iface U q, .int .i32 0] 28)) H0.out).mono ?_); rintro _ w1 ⟨rfl, hb⟩; have HB := Lib.hid hb; have H1 := Lib.hid (H0.out.below hb); have z0 := (K1.out.below hb K1.out.lt).cell 0; have z1 := (K1.out.below hb K1.out.lt).cell 1; simp at z0 z1; clear hb)
    | (go_at_call 44; (with_reducible refine (HD.out w1 H1.out).mono ?_); rintro _ w2 ⟨rfl, hb⟩; have HB2 := Lib.hid hb; clear hb))
  go_ret
  have b1 := HB0.out.trans (HB.out.mono HB0.out.size)
  exact ⟨rfl, b1.trans (HB2.out.mono b1.size)⟩
end Go.Proofs.Ytfbmadlcjpaddaa
