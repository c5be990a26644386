/-
  The contract of b3Build. No condition.
-/
import Derived.Test.YtfbmadlcjpaddaaChd
import Derived.BigQuiet
namespace Go.Proofs.Ytfbmadlcjpaddaa
open Go.ChangeShapes Go.WideShapes Go.ChangeAt Go.RowKit
set_option linter.unusedVariables false

/-- At the building loop's head. -/
structure Bd (w wr : World) (n : Nat) : Prop where
  below : Below w.heap.size w wr
  out : Out w.heap.size n wr
theorem Bd.later {w wr w' : World} {n : Nat} (h : Bd w wr n) (b : Below wr.heap.size wr w') : Bd w w' n := ⟨h.below.trans (b.mono h.below.size), h.out.below b⟩
theorem Bd.alloc {w wr : World} {n : Nat} (h : Bd w wr n) (o : Obj) : Bd w (wr.alloc o) n := h.later ((Below.refl _ _).alloc (Nat.le_refl _) _)
theorem Bd.drew {w wr : World} {n : Nat} (h : Bd w wr n) : Bd w wr.drew n := h.later (Below.refl _ _).drew
theorem Bd.drewN {w wr : World} {n : Nat} (h : Bd w wr n) (m : Nat) : Bd w (wr.drewN m) n := h.later (below_drewN (Below.refl _ _) m)
theorem Bd.set {w wr : World} {n k : Nat} {v : Value} (h : Bd w wr n) (hk : k < n) (g : Good w.heap.size wr v) : Bd w (wr.setCell ⟨w.heap.size, k * 2, none⟩ v) n :=
  ⟨h.below.setCell (Nat.le_refl _) _, h.out.set hk g⟩
theorem Bd.wrap106 {w wr : World} {n k : Nat} {v : Value} (h : Bd w wr n) (hk : k < n) (g : Good w.heap.size wr v) (cs : Array Value) (hcs : cs[0]? = some v) (t : TypeId) :
    Bd w ((wr.setCell ⟨w.heap.size, k * 2, none⟩ (.iface 106 (.pointer (some ⟨wr.heap.size, 0, none⟩)))).alloc (.cells cs t)) n := by
  rw [← World.setCell_alloc_past _ _ _ _ h.out.lt]
  have hlt := h.out.lt
  refine (h.alloc _).set hk (good106 _ wr.heap.size v _ (g.later ((Kx.refl _ _).alloc _)) ?_ (by simp) (by omega))
  rw [World.cell?_alloc_new]; exact hcs
theorem Bd.wrap110 {w wr : World} {n k : Nat} {v : Value} (h : Bd w wr n) (hk : k < n) (g : Good w.heap.size wr v) (cs : Array Value) (hcs : cs[0]? = some v) (t : TypeId) :
    Bd w ((wr.setCell ⟨w.heap.size, k * 2, none⟩ (.iface 110 (.pointer (some ⟨wr.heap.size, 0, none⟩)))).alloc (.cells cs t)) n := by
  rw [← World.setCell_alloc_past _ _ _ _ h.out.lt]
  have hlt := h.out.lt
  refine (h.alloc _).set hk (good110 _ wr.heap.size v _ (g.later ((Kx.refl _ _).alloc _)) ?_ (by simp) (by omega))
  rw [World.cell?_alloc_new]; exact hcs

/-- The cell's value, whatever it is. -/
def cur (W : World) (p : Addr) : Value := (W.cell? p).getD .nilIface
theorem cur_of {W : World} {p : Addr} (h : ∃ u, W.cell? p = some u) : W.cell? p = some (cur W p) := by
  obtain ⟨u, hu⟩ := h
  unfold cur
  rw [hu]; rfl
/-- Blocks but for O are as they were; O's cells are there. -/
structure Kq (O : Nat) (w w' : World) : Prop where
  size : w.heap.size ≤ w'.heap.size
  blk : ∀ b, b < w.heap.size → b ≠ O → w'.heap[b]? = w.heap[b]?
  lt : O < w'.heap.size
  ex : ∀ o, (∃ u, w.cell? ⟨O, o, none⟩ = some u) → ∃ u, w'.cell? ⟨O, o, none⟩ = some u
  fr : ∀ o, w'.frozen? ⟨O, o, none⟩ = w.frozen? ⟨O, o, none⟩
theorem Kq.refl (O : Nat) (w : World) (h : O < w.heap.size) : Kq O w w := ⟨Nat.le_refl _, fun _ _ _ => rfl, h, fun _ h => h, fun _ => rfl⟩
theorem Kq.more {O : Nat} {a b c : World} (h : Kq O a b) (k : Below b.heap.size b c) : Kq O a c :=
  ⟨Nat.le_trans h.size k.size, fun x h1 h2 => (k.block x (Nat.lt_of_lt_of_le h1 h.size)).trans (h.blk x h1 h2), Nat.lt_of_lt_of_le h.lt k.size,
    fun o e => by rw [k.cell (p := ⟨O, o, none⟩) h.lt]; exact h.ex o e, fun o => (k.frozen (p := ⟨O, o, none⟩) h.lt).trans (h.fr o)⟩
theorem Kq.alloc {O : Nat} {a b : World} (h : Kq O a b) (o : Obj) : Kq O a (b.alloc o) := h.more ((Below.refl _ _).alloc (Nat.le_refl _) _)
theorem Kq.drew {O : Nat} {a b : World} (h : Kq O a b) : Kq O a b.drew := h.more (Below.refl _ _).drew
theorem Kq.drewN {O : Nat} {a b : World} (h : Kq O a b) (n : Nat) : Kq O a (b.drewN n) := h.more (below_drewN (Below.refl _ _) n)
theorem Kq.set {O : Nat} {a b : World} (h : Kq O a b) (o : Nat) (v : Value) : Kq O a (b.setCell ⟨O, o, none⟩ v) :=
  ⟨by simpa using h.size, fun x h1 h2 => (Below.heap_setCell b _ _ x h2).trans (h.blk x h1 h2), by simpa using h.lt, fun o e => sc_ex (h.ex o e), fun o => by simpa using h.fr o⟩
theorem Kq.cell {O : Nat} {w w' : World} (h : Kq O w w') {b o : Nat} (h1 : b < w.heap.size) (h2 : b ≠ O) : w'.cell? ⟨b, o, none⟩ = w.cell? ⟨b, o, none⟩ :=
  World.cell?_of_block (w := w) (h.blk b h1 h2)
theorem bd_start (w : World) (n : Nat) : Bd w (w.alloc (.cells (madeCells #[.nilIface, .int .i32 0] (n * 2)) 28)) n := by
  refine ⟨(Below.refl _ _).alloc (Nat.le_refl _) _, by simp, fun j => by simp [go_sem], fun j hj => ⟨.nilIface, 0, ?_, ?_, good_nil _ _⟩⟩
  · rw [World.cell?_alloc_new]; simp [madeCells, show j * 2 < n * 2 by omega]
  · rw [World.cell?_alloc_new]; simp [madeCells, show j * 2 + 1 < n * 2 by omega]
theorem mkE (len : Nat) (hl : len ≤ 4194304) : ∀ u : World, (Instr.makeSlice 42 (.int .i64 (len : Int)) (.int .i64 (len : Int))).run Try.prog u =
        .ok (.slice (some ⟨u.heap.size, 0, none⟩) len len) (u.alloc (.cells (madeCells #[.nilIface, .int .i32 0] (len * 2)) 28)) := fun u => by
  obtain ⟨i0, hi, hz0, hz1, hz2⟩ := pInfo (show (Try.prog.info? 28).map (fun i => (i.zero, i.size, i.bytes)) = some (some (.agg #[.nilIface, .int .i32 0]), 2, 24) by kernel_rfl)
  have q := run_make (P := Try.prog) u 42 28 i0 (.agg #[.nilIface, .int .i32 0]) Try.underlying42 hi hz0 .i64 .i64 (len : Int) (len : Int) (by omega) (Int.le_refl _) (by rw [hz2]; omega) (by omega)
  simpa [hz1, Value.cells] using q
set_option maxRecDepth 100000 in
set_option maxHeartbeats 20000000 in
theorem build18 (a : Option Addr) (len cap : Nat) (w : World) (h : IsNods w a len cap) (hl : len ≤ 4096) (h0 : 0 < len) :
    Calls Try.prog 18 #[.slice a len cap] w fun e w' => e = .returned (.slice (some ⟨w.heap.size, 0, none⟩) len len) ∧ Bd w w' len := by
  have hmk := mkE len (by omega)
  obtain ⟨b, off, rfl, hb, hc⟩ := h.2.2.2 h0
  have HC := Lib.hid hc
  clear h hc
  go_enter Try.func18, Try.ntmps18
  go_wp2_with fail
  clear hmk
  go_loopw [5] (fun i wr => ∃ k : Nat, k ≤ len ∧ i = .int .i64 ((k : Int) - 1) ∧ Bd w wr len) (fun i _ => (jOf i + 1).toNat)
  case atStart => exact ⟨len, Nat.le_refl _, rfl, bd_start w len⟩
  case round =>
    obtain ⟨k, hk, rfl, bd⟩ := hrel
    cases k with
    | zero =>
      have HB := Lib.hid bd
      clear bd
      go_wp2_with fail
      go_ret
      exact ⟨rfl, HB.out⟩
    | succ i =>
      have hi : i < len := hk
      obtain ⟨q, op, f, c, a1, a2, a3, nd⟩ := HC.out i hi
      have n0 := nd.below bd.below hb
      have d0 := n0.k0; have d1 := n0.k1; have d2 := n0.k2; have d3 := n0.k3; have d4 := n0.k4; have d5 := n0.k5; have d6 := n0.k6
      have HB := Lib.hid bd
      have HND := Lib.hid nd
      obtain ⟨u, l, e0, e1, gu⟩ := bd.out.cell i hi
      have ff := bd.out.free
      have lt := bd.out.lt
      have rk := nd.rk
      clear bd nd n0 gu e1
      have hq : q = 0 ∨ q = 1 ∨ q = 2 ∨ q = 3 ∨ q = 4 ∨ q = 5 ∨ q = 6 ∨ q = 7 ∨ q = 8 ∨ q = 9 ∨ q = 10 ∨ q = 11 ∨ q = 13 ∨ q = 14 ∨ q = 15 ∨ q = 16 ∨ q = 17 ∨ (q ≠ 0 ∧ q ≠ 1 ∧ q ≠ 2 ∧ q ≠ 3 ∧ q ≠ 4 ∧ q ≠ 5 ∧ q ≠ 6 ∧ q ≠ 7 ∧ q ≠ 8 ∧ q ≠ 9 ∧ q ≠ 10 ∧ q ≠ 11 ∧ q ≠ 13 ∧ q ≠ 14 ∧ q ≠ 15 ∧ q ≠ 16 ∧ q ≠ 17) := by omega
      rcases hq with rfl | rfl | rfl | rfl | rfl | rfl | rfl | rfl | rfl | rfl | rfl | rfl | rfl | rfl | rfl | rfl | rfl | ⟨x0, x1, x2, x3, x4, x5, x6, x7, x8, x9, x10, x11, x13, x14, x15, x16, x17⟩
      · as_aux_lemma =>
        go_wp2_with fail
        refine ⟨⟨i, by omega, by simp [IntKind.wrap]; try omega, ?_⟩, by simp [jOf, IntKind.wrap]; try omega⟩
        exact ((HB.out.set hi (good79 _ _ _)).alloc _).alloc _
      · as_aux_lemma =>
        go_wp2_with fail
        refine ⟨⟨i, by omega, by simp [IntKind.wrap]; try omega, ?_⟩, by simp [jOf, IntKind.wrap]; try omega⟩
        exact ((HB.out.set hi (good82 _ _ _)).alloc _).alloc _
      · as_aux_lemma =>
        go_wp2_with fail
        refine ⟨⟨i, by omega, by simp [IntKind.wrap]; try omega, ?_⟩, by simp [jOf, IntKind.wrap]; try omega⟩
        exact ((HB.out.set hi (good65 _ _ _)).alloc _).alloc _
      · as_aux_lemma =>
        go_wp2_with fail
        refine ⟨⟨i, by omega, by simp [IntKind.wrap]; try omega, ?_⟩, by simp [jOf, IntKind.wrap]; try omega⟩
        exact ((HB.out.set hi (good74 _ _ _)).alloc _).alloc _
      · as_aux_lemma =>
        go_wp2_with fail
        refine ⟨⟨i, by omega, by simp [IntKind.wrap]; try omega, ?_⟩, by simp [jOf, IntKind.wrap]; try omega⟩
        exact ((HB.out.set hi (good77 _ _ _)).alloc _).alloc _
      · as_aux_lemma =>
        cases f
        all_goals
          go_wp2_with fail
          refine ⟨⟨i, by omega, by simp [IntKind.wrap]; try omega, ?_⟩, by simp [jOf, IntKind.wrap]; try omega⟩
          exact ((HB.out.set hi (good58 _ _ _)).alloc _).alloc _
      · as_aux_lemma =>
        have HB0 := Lib.hid (HB.out.alloc (.cells #[.int .u8 6, .int .u8 op, .bool f, .int .u8 c, .int .i32 a1, .int .i32 a2, .int .i32 a3] 141))
        have KQ0 : Kq w.heap.size (wr.alloc (.cells #[.int .u8 6, .int .u8 op, .bool f, .int .u8 c, .int .i32 a1, .int .i32 a2, .int .i32 a3] 141)) (wr.alloc (.cells #[.int .u8 6, .int .u8 op, .bool f, .int .u8 c, .int .i32 a1, .int .i32 a2, .int .i32 a3] 141)) := Kq.refl _ _ (by simp; omega)
        have HF : Hid (∀ W, Kq w.heap.size (wr.alloc (.cells #[.int .u8 6, .int .u8 op, .bool f, .int .u8 c, .int .i32 a1, .int .i32 a2, .int .i32 a3] 141)) W → W.frozen? ⟨w.heap.size, i * 2, none⟩ = false ∧ W.cell? ⟨w.heap.size, i * 2, none⟩ = some (cur W ⟨w.heap.size, i * 2, none⟩) ∧ W.cell? ⟨wr.heap.size, 1, none⟩ = some (.int .u8 op) ∧ W.cell? ⟨wr.heap.size, 4, none⟩ = some (.int .i32 a1)) := Lib.hid fun W o => ⟨by rw [o.fr]; simp [go_sem, lt, ff], cur_of (o.ex _ ⟨u, by rw [World.cell?_alloc_lt _ _ _ (by exact lt)]; exact e0⟩), (o.cell (by simp) (by omega)).trans (by simp [go_sem]), (o.cell (by simp) (by omega)).trans (by simp [go_sem])⟩
        obtain ⟨v1, l1, n1, _, C1⟩ := child_at w.heap.size len i a1 _ hl hi HND.out.r1 HB0.out.out
        have H1 := fun W (o : Below (wr.alloc (.cells #[.int .u8 6, .int .u8 op, .bool f, .int .u8 c, .int .i32 a1, .int .i32 a2, .int .i32 a3] 141)).heap.size (wr.alloc (.cells #[.int .u8 6, .int .u8 op, .bool f, .int .u8 c, .int .i32 a1, .int .i32 a2, .int .i32 a3] 141)) W) => Lib.hid (C1 W o)
        clear C1
        have hc1 : v1.cells = #[v1] := by rcases n1 with rfl | ⟨_, _, rfl⟩ <;> rfl
        clear n1
        all_goals
          go_wp2_with fail
          go_region_held3 (fun w' => w'.frozen? ⟨w.heap.size, i * 2, none⟩ = false ∧ w'.cell? ⟨w.heap.size, i * 2, none⟩ = some (cur w' ⟨w.heap.size, i * 2, none⟩) ∧ w'.cell? ⟨wr.heap.size, 1, none⟩ = some (.int .u8 op) ∧ w'.cell? ⟨wr.heap.size, 4, none⟩ = some (.int .i32 a1)) (first | assumption | exact HF.out _ (by repeat' (first | (with_reducible assumption) | (with_reducible refine Kq.drewN ?_ _) | (with_reducible refine Kq.drew ?_) | (with_reducible refine Kq.alloc ?_ _) | (with_reducible refine Kq.set ?_ _ _)))) (first | (go_at_call 39; (with_reducible refine ((H1 _ (by repeat' (first | (with_reducible assumption) | (with_reducible exact Below.refl _ _) | (with_reducible refine below_drewN ?_ _) | (with_reducible refine Below.drew ?_)))).out).mono ?_); rintro _ wx1 ⟨rfl, hbx⟩; have hb1 : Below (wr.alloc (.cells #[.int .u8 6, .int .u8 op, .bool f, .int .u8 c, .int .i32 a1, .int .i32 a2, .int .i32 a3] 141)).heap.size (wr.alloc (.cells #[.int .u8 6, .int .u8 op, .bool f, .int .u8 c, .int .i32 a1, .int .i32 a2, .int .i32 a3] 141)) wx1 := Below.trans (by repeat' (first | (with_reducible assumption) | (with_reducible exact Below.refl _ _) | (with_reducible refine below_drewN ?_ _) | (with_reducible refine Below.drew ?_))) (hbx.mono (Below.size (B := (wr.alloc (.cells #[.int .u8 6, .int .u8 op, .bool f, .int .u8 c, .int .i32 a1, .int .i32 a2, .int .i32 a3] 141)).heap.size) (w := (wr.alloc (.cells #[.int .u8 6, .int .u8 op, .bool f, .int .u8 c, .int .i32 a1, .int .i32 a2, .int .i32 a3] 141))) (by repeat' (first | (with_reducible assumption) | (with_reducible exact Below.refl _ _) | (with_reducible refine below_drewN ?_ _) | (with_reducible refine Below.drew ?_))))); have kq1 := KQ0.more hb1; have hS1 := HF.out _ kq1; have z1 := hb1.size; clear hbx))
        all_goals
          clear HF
          go_wp2_with fail
          refine ⟨⟨i, by omega, by simp [IntKind.wrap]; try omega, ?_⟩, by simp [jOf, IntKind.wrap]; try omega⟩
          repeat' (first | (with_reducible refine Bd.drewN ?_ _) | (with_reducible refine Bd.drew ?_) | (with_reducible refine Bd.alloc ?_ _) | (with_reducible refine Bd.set ?_ hi (good69 _ _ _)) | (with_reducible exact HB0.out.later (by assumption)))
      · as_aux_lemma =>
        have HB0 := Lib.hid (HB.out.alloc (.cells #[.int .u8 7, .int .u8 op, .bool f, .int .u8 c, .int .i32 a1, .int .i32 a2, .int .i32 a3] 141))
        have KQ0 : Kq w.heap.size (wr.alloc (.cells #[.int .u8 7, .int .u8 op, .bool f, .int .u8 c, .int .i32 a1, .int .i32 a2, .int .i32 a3] 141)) (wr.alloc (.cells #[.int .u8 7, .int .u8 op, .bool f, .int .u8 c, .int .i32 a1, .int .i32 a2, .int .i32 a3] 141)) := Kq.refl _ _ (by simp; omega)
        have HF : Hid (∀ W, Kq w.heap.size (wr.alloc (.cells #[.int .u8 7, .int .u8 op, .bool f, .int .u8 c, .int .i32 a1, .int .i32 a2, .int .i32 a3] 141)) W → W.frozen? ⟨w.heap.size, i * 2, none⟩ = false ∧ W.cell? ⟨w.heap.size, i * 2, none⟩ = some (cur W ⟨w.heap.size, i * 2, none⟩) ∧ W.cell? ⟨wr.heap.size, 1, none⟩ = some (.int .u8 op) ∧ W.cell? ⟨wr.heap.size, 4, none⟩ = some (.int .i32 a1) ∧ W.cell? ⟨wr.heap.size, 5, none⟩ = some (.int .i32 a2)) := Lib.hid fun W o => ⟨by rw [o.fr]; simp [go_sem, lt, ff], cur_of (o.ex _ ⟨u, by rw [World.cell?_alloc_lt _ _ _ (by exact lt)]; exact e0⟩), (o.cell (by simp) (by omega)).trans (by simp [go_sem]), (o.cell (by simp) (by omega)).trans (by simp [go_sem]), (o.cell (by simp) (by omega)).trans (by simp [go_sem])⟩
        obtain ⟨v1, l1, n1, _, C1⟩ := child_at w.heap.size len i a1 _ hl hi HND.out.r1 HB0.out.out
        have H1 := fun W (o : Below (wr.alloc (.cells #[.int .u8 7, .int .u8 op, .bool f, .int .u8 c, .int .i32 a1, .int .i32 a2, .int .i32 a3] 141)).heap.size (wr.alloc (.cells #[.int .u8 7, .int .u8 op, .bool f, .int .u8 c, .int .i32 a1, .int .i32 a2, .int .i32 a3] 141)) W) => Lib.hid (C1 W o)
        clear C1
        obtain ⟨v2, l2, n2, _, C2⟩ := child_at w.heap.size len i a2 _ hl hi HND.out.r2 HB0.out.out
        have H2 := fun W (o : Below (wr.alloc (.cells #[.int .u8 7, .int .u8 op, .bool f, .int .u8 c, .int .i32 a1, .int .i32 a2, .int .i32 a3] 141)).heap.size (wr.alloc (.cells #[.int .u8 7, .int .u8 op, .bool f, .int .u8 c, .int .i32 a1, .int .i32 a2, .int .i32 a3] 141)) W) => Lib.hid (C2 W o)
        clear C2
        have hc1 : v1.cells = #[v1] := by rcases n1 with rfl | ⟨_, _, rfl⟩ <;> rfl
        clear n1
        have hc2 : v2.cells = #[v2] := by rcases n2 with rfl | ⟨_, _, rfl⟩ <;> rfl
        clear n2
        all_goals
          go_wp2_with fail
          go_region_held3 (fun w' => w'.frozen? ⟨w.heap.size, i * 2, none⟩ = false ∧ w'.cell? ⟨w.heap.size, i * 2, none⟩ = some (cur w' ⟨w.heap.size, i * 2, none⟩) ∧ w'.cell? ⟨wr.heap.size, 1, none⟩ = some (.int .u8 op) ∧ w'.cell? ⟨wr.heap.size, 4, none⟩ = some (.int .i32 a1) ∧ w'.cell? ⟨wr.heap.size, 5, none⟩ = some (.int .i32 a2)) (first | assumption | exact HF.out _ (by repeat' (first | (with_reducible assumption) | (with_reducible refine Kq.drewN ?_ _) | (with_reducible refine Kq.drew ?_) | (with_reducible refine Kq.alloc ?_ _) | (with_reducible refine Kq.set ?_ _ _)))) (first | (go_at_call 39; (with_reducible refine ((H1 _ (by repeat' (first | (with_reducible assumption) | (with_reducible exact Below.refl _ _) | (with_reducible refine below_drewN ?_ _) | (with_reducible refine Below.drew ?_)))).out).mono ?_); rintro _ wx1 ⟨rfl, hbx⟩; have hb1 : Below (wr.alloc (.cells #[.int .u8 7, .int .u8 op, .bool f, .int .u8 c, .int .i32 a1, .int .i32 a2, .int .i32 a3] 141)).heap.size (wr.alloc (.cells #[.int .u8 7, .int .u8 op, .bool f, .int .u8 c, .int .i32 a1, .int .i32 a2, .int .i32 a3] 141)) wx1 := Below.trans (by repeat' (first | (with_reducible assumption) | (with_reducible exact Below.refl _ _) | (with_reducible refine below_drewN ?_ _) | (with_reducible refine Below.drew ?_))) (hbx.mono (Below.size (B := (wr.alloc (.cells #[.int .u8 7, .int .u8 op, .bool f, .int .u8 c, .int .i32 a1, .int .i32 a2, .int .i32 a3] 141)).heap.size) (w := (wr.alloc (.cells #[.int .u8 7, .int .u8 op, .bool f, .int .u8 c, .int .i32 a1, .int .i32 a2, .int .i32 a3] 141))) (by repeat' (first | (with_reducible assumption) | (with_reducible exact Below.refl _ _) | (with_reducible refine below_drewN ?_ _) | (with_reducible refine Below.drew ?_))))); have kq1 := KQ0.more hb1; have hS1 := HF.out _ kq1; have z1 := hb1.size; clear hbx) | (go_at_call 39; (with_reducible refine ((H2 _ (by repeat' (first | (with_reducible assumption) | (with_reducible exact Below.refl _ _) | (with_reducible refine below_drewN ?_ _) | (with_reducible refine Below.drew ?_)))).out).mono ?_); rintro _ wx2 ⟨rfl, hbx⟩; have hb2 : Below (wr.alloc (.cells #[.int .u8 7, .int .u8 op, .bool f, .int .u8 c, .int .i32 a1, .int .i32 a2, .int .i32 a3] 141)).heap.size (wr.alloc (.cells #[.int .u8 7, .int .u8 op, .bool f, .int .u8 c, .int .i32 a1, .int .i32 a2, .int .i32 a3] 141)) wx2 := Below.trans (by repeat' (first | (with_reducible assumption) | (with_reducible exact Below.refl _ _) | (with_reducible refine below_drewN ?_ _) | (with_reducible refine Below.drew ?_))) (hbx.mono (Below.size (B := (wr.alloc (.cells #[.int .u8 7, .int .u8 op, .bool f, .int .u8 c, .int .i32 a1, .int .i32 a2, .int .i32 a3] 141)).heap.size) (w := (wr.alloc (.cells #[.int .u8 7, .int .u8 op, .bool f, .int .u8 c, .int .i32 a1, .int .i32 a2, .int .i32 a3] 141))) (by repeat' (first | (with_reducible assumption) | (with_reducible exact Below.refl _ _) | (with_reducible refine below_drewN ?_ _) | (with_reducible refine Below.drew ?_))))); have kq2 := KQ0.more hb2; have hS2 := HF.out _ kq2; have z2 := hb2.size; clear hbx))
        all_goals
          clear HF
          go_wp2_with fail
          refine ⟨⟨i, by omega, by simp [IntKind.wrap]; try omega, ?_⟩, by simp [jOf, IntKind.wrap]; try omega⟩
          repeat' (first | (with_reducible refine Bd.drewN ?_ _) | (with_reducible refine Bd.drew ?_) | (with_reducible refine Bd.alloc ?_ _) | (with_reducible refine Bd.set ?_ hi (good103 _ _ _)) | (with_reducible exact HB0.out.later (by assumption)))
      · as_aux_lemma =>
        have HB0 := Lib.hid (HB.out.alloc (.cells #[.int .u8 8, .int .u8 op, .bool f, .int .u8 c, .int .i32 a1, .int .i32 a2, .int .i32 a3] 141))
        have KQ0 : Kq w.heap.size (wr.alloc (.cells #[.int .u8 8, .int .u8 op, .bool f, .int .u8 c, .int .i32 a1, .int .i32 a2, .int .i32 a3] 141)) (wr.alloc (.cells #[.int .u8 8, .int .u8 op, .bool f, .int .u8 c, .int .i32 a1, .int .i32 a2, .int .i32 a3] 141)) := Kq.refl _ _ (by simp; omega)
        have HF : Hid (∀ W, Kq w.heap.size (wr.alloc (.cells #[.int .u8 8, .int .u8 op, .bool f, .int .u8 c, .int .i32 a1, .int .i32 a2, .int .i32 a3] 141)) W → W.frozen? ⟨w.heap.size, i * 2, none⟩ = false ∧ W.cell? ⟨w.heap.size, i * 2, none⟩ = some (cur W ⟨w.heap.size, i * 2, none⟩) ∧ W.cell? ⟨wr.heap.size, 4, none⟩ = some (.int .i32 a1) ∧ W.cell? ⟨wr.heap.size, 5, none⟩ = some (.int .i32 a2) ∧ W.cell? ⟨wr.heap.size, 6, none⟩ = some (.int .i32 a3)) := Lib.hid fun W o => ⟨by rw [o.fr]; simp [go_sem, lt, ff], cur_of (o.ex _ ⟨u, by rw [World.cell?_alloc_lt _ _ _ (by exact lt)]; exact e0⟩), (o.cell (by simp) (by omega)).trans (by simp [go_sem]), (o.cell (by simp) (by omega)).trans (by simp [go_sem]), (o.cell (by simp) (by omega)).trans (by simp [go_sem])⟩
        obtain ⟨v1, l1, n1, _, C1⟩ := child_at w.heap.size len i a1 _ hl hi HND.out.r1 HB0.out.out
        have H1 := fun W (o : Below (wr.alloc (.cells #[.int .u8 8, .int .u8 op, .bool f, .int .u8 c, .int .i32 a1, .int .i32 a2, .int .i32 a3] 141)).heap.size (wr.alloc (.cells #[.int .u8 8, .int .u8 op, .bool f, .int .u8 c, .int .i32 a1, .int .i32 a2, .int .i32 a3] 141)) W) => Lib.hid (C1 W o)
        clear C1
        obtain ⟨v2, l2, n2, _, C2⟩ := child_at w.heap.size len i a2 _ hl hi HND.out.r2 HB0.out.out
        have H2 := fun W (o : Below (wr.alloc (.cells #[.int .u8 8, .int .u8 op, .bool f, .int .u8 c, .int .i32 a1, .int .i32 a2, .int .i32 a3] 141)).heap.size (wr.alloc (.cells #[.int .u8 8, .int .u8 op, .bool f, .int .u8 c, .int .i32 a1, .int .i32 a2, .int .i32 a3] 141)) W) => Lib.hid (C2 W o)
        clear C2
        obtain ⟨v3, l3, n3, _, C3⟩ := child_at w.heap.size len i a3 _ hl hi HND.out.r3 HB0.out.out
        have H3 := fun W (o : Below (wr.alloc (.cells #[.int .u8 8, .int .u8 op, .bool f, .int .u8 c, .int .i32 a1, .int .i32 a2, .int .i32 a3] 141)).heap.size (wr.alloc (.cells #[.int .u8 8, .int .u8 op, .bool f, .int .u8 c, .int .i32 a1, .int .i32 a2, .int .i32 a3] 141)) W) => Lib.hid (C3 W o)
        clear C3
        have hc1 : v1.cells = #[v1] := by rcases n1 with rfl | ⟨_, _, rfl⟩ <;> rfl
        clear n1
        have hc2 : v2.cells = #[v2] := by rcases n2 with rfl | ⟨_, _, rfl⟩ <;> rfl
        clear n2
        have hc3 : v3.cells = #[v3] := by rcases n3 with rfl | ⟨_, _, rfl⟩ <;> rfl
        clear n3
        all_goals
          go_wp2_with fail
          go_region_held3 (fun w' => w'.frozen? ⟨w.heap.size, i * 2, none⟩ = false ∧ w'.cell? ⟨w.heap.size, i * 2, none⟩ = some (cur w' ⟨w.heap.size, i * 2, none⟩) ∧ w'.cell? ⟨wr.heap.size, 4, none⟩ = some (.int .i32 a1) ∧ w'.cell? ⟨wr.heap.size, 5, none⟩ = some (.int .i32 a2) ∧ w'.cell? ⟨wr.heap.size, 6, none⟩ = some (.int .i32 a3)) (first | assumption | exact HF.out _ (by repeat' (first | (with_reducible assumption) | (with_reducible refine Kq.drewN ?_ _) | (with_reducible refine Kq.drew ?_) | (with_reducible refine Kq.alloc ?_ _) | (with_reducible refine Kq.set ?_ _ _)))) (first | (go_at_call 39; (with_reducible refine ((H1 _ (by repeat' (first | (with_reducible assumption) | (with_reducible exact Below.refl _ _) | (with_reducible refine below_drewN ?_ _) | (with_reducible refine Below.drew ?_)))).out).mono ?_); rintro _ wx1 ⟨rfl, hbx⟩; have hb1 : Below (wr.alloc (.cells #[.int .u8 8, .int .u8 op, .bool f, .int .u8 c, .int .i32 a1, .int .i32 a2, .int .i32 a3] 141)).heap.size (wr.alloc (.cells #[.int .u8 8, .int .u8 op, .bool f, .int .u8 c, .int .i32 a1, .int .i32 a2, .int .i32 a3] 141)) wx1 := Below.trans (by repeat' (first | (with_reducible assumption) | (with_reducible exact Below.refl _ _) | (with_reducible refine below_drewN ?_ _) | (with_reducible refine Below.drew ?_))) (hbx.mono (Below.size (B := (wr.alloc (.cells #[.int .u8 8, .int .u8 op, .bool f, .int .u8 c, .int .i32 a1, .int .i32 a2, .int .i32 a3] 141)).heap.size) (w := (wr.alloc (.cells #[.int .u8 8, .int .u8 op, .bool f, .int .u8 c, .int .i32 a1, .int .i32 a2, .int .i32 a3] 141))) (by repeat' (first | (with_reducible assumption) | (with_reducible exact Below.refl _ _) | (with_reducible refine below_drewN ?_ _) | (with_reducible refine Below.drew ?_))))); have kq1 := KQ0.more hb1; have hS1 := HF.out _ kq1; have z1 := hb1.size; clear hbx) | (go_at_call 39; (with_reducible refine ((H2 _ (by repeat' (first | (with_reducible assumption) | (with_reducible exact Below.refl _ _) | (with_reducible refine below_drewN ?_ _) | (with_reducible refine Below.drew ?_)))).out).mono ?_); rintro _ wx2 ⟨rfl, hbx⟩; have hb2 : Below (wr.alloc (.cells #[.int .u8 8, .int .u8 op, .bool f, .int .u8 c, .int .i32 a1, .int .i32 a2, .int .i32 a3] 141)).heap.size (wr.alloc (.cells #[.int .u8 8, .int .u8 op, .bool f, .int .u8 c, .int .i32 a1, .int .i32 a2, .int .i32 a3] 141)) wx2 := Below.trans (by repeat' (first | (with_reducible assumption) | (with_reducible exact Below.refl _ _) | (with_reducible refine below_drewN ?_ _) | (with_reducible refine Below.drew ?_))) (hbx.mono (Below.size (B := (wr.alloc (.cells #[.int .u8 8, .int .u8 op, .bool f, .int .u8 c, .int .i32 a1, .int .i32 a2, .int .i32 a3] 141)).heap.size) (w := (wr.alloc (.cells #[.int .u8 8, .int .u8 op, .bool f, .int .u8 c, .int .i32 a1, .int .i32 a2, .int .i32 a3] 141))) (by repeat' (first | (with_reducible assumption) | (with_reducible exact Below.refl _ _) | (with_reducible refine below_drewN ?_ _) | (with_reducible refine Below.drew ?_))))); have kq2 := KQ0.more hb2; have hS2 := HF.out _ kq2; have z2 := hb2.size; clear hbx) | (go_at_call 39; (with_reducible refine ((H3 _ (by repeat' (first | (with_reducible assumption) | (with_reducible exact Below.refl _ _) | (with_reducible refine below_drewN ?_ _) | (with_reducible refine Below.drew ?_)))).out).mono ?_); rintro _ wx3 ⟨rfl, hbx⟩; have hb3 : Below (wr.alloc (.cells #[.int .u8 8, .int .u8 op, .bool f, .int .u8 c, .int .i32 a1, .int .i32 a2, .int .i32 a3] 141)).heap.size (wr.alloc (.cells #[.int .u8 8, .int .u8 op, .bool f, .int .u8 c, .int .i32 a1, .int .i32 a2, .int .i32 a3] 141)) wx3 := Below.trans (by repeat' (first | (with_reducible assumption) | (with_reducible exact Below.refl _ _) | (with_reducible refine below_drewN ?_ _) | (with_reducible refine Below.drew ?_))) (hbx.mono (Below.size (B := (wr.alloc (.cells #[.int .u8 8, .int .u8 op, .bool f, .int .u8 c, .int .i32 a1, .int .i32 a2, .int .i32 a3] 141)).heap.size) (w := (wr.alloc (.cells #[.int .u8 8, .int .u8 op, .bool f, .int .u8 c, .int .i32 a1, .int .i32 a2, .int .i32 a3] 141))) (by repeat' (first | (with_reducible assumption) | (with_reducible exact Below.refl _ _) | (with_reducible refine below_drewN ?_ _) | (with_reducible refine Below.drew ?_))))); have kq3 := KQ0.more hb3; have hS3 := HF.out _ kq3; have z3 := hb3.size; clear hbx))
        all_goals
          clear HF
          go_wp2_with fail
          refine ⟨⟨i, by omega, by simp [IntKind.wrap]; try omega, ?_⟩, by simp [jOf, IntKind.wrap]; try omega⟩
          repeat' (first | (with_reducible refine Bd.drewN ?_ _) | (with_reducible refine Bd.drew ?_) | (with_reducible refine Bd.alloc ?_ _) | (with_reducible refine Bd.set ?_ hi (good130 _ _ _)) | (with_reducible exact HB0.out.later (by assumption)))
      · as_aux_lemma =>
        go_wp2_with ((go_at_call 39; (with_reducible refine (child39 _ len i _ _ hl hi HND.out.r1 (HB.out.alloc _).out).mono ?_); rintro _ wx ⟨v, l2, rfl, hn, hg, hbx⟩; have HN := Lib.hid hn; have HB2 := Lib.hid ((HB.out.alloc _).later hbx); have HG := Lib.hid hg; have z0 := hbx.size; clear hbx hg hn; obtain ⟨u2, l3, e2, _, _⟩ := HB2.out.out.cell i hi; have ff2 := HB2.out.out.free; have lt2 := HB2.out.out.lt; rcases HN.out with rfl | ⟨T0, y0, rfl⟩))
        all_goals
          refine ⟨⟨i, by omega, by simp [IntKind.wrap]; try omega, ?_⟩, by simp [jOf, IntKind.wrap]; try omega⟩
          exact HB2.out.wrap106 hi HG.out _ rfl _
      · as_aux_lemma =>
        go_wp2_with ((go_at_call 39; (with_reducible refine (child39 _ len i _ _ hl hi HND.out.r1 (HB.out.alloc _).out).mono ?_); rintro _ wx ⟨v, l2, rfl, hn, hg, hbx⟩; have HN := Lib.hid hn; have HB2 := Lib.hid ((HB.out.alloc _).later hbx); have HG := Lib.hid hg; have z0 := hbx.size; clear hbx hg hn; obtain ⟨u2, l3, e2, _, _⟩ := HB2.out.out.cell i hi; have ff2 := HB2.out.out.free; have lt2 := HB2.out.out.lt; rcases HN.out with rfl | ⟨T0, y0, rfl⟩))
        all_goals
          refine ⟨⟨i, by omega, by simp [IntKind.wrap]; try omega, ?_⟩, by simp [jOf, IntKind.wrap]; try omega⟩
          exact HB2.out.wrap110 hi HG.out _ rfl _
      · as_aux_lemma =>
        go_wp2_with ((go_at_call 39; (with_reducible refine (child39 _ len i _ _ hl hi HND.out.r1 (HB.out.alloc _).out).mono ?_); rintro _ wx ⟨v, l2, rfl, hn, hg, hbx⟩; have HN := Lib.hid hn; have HB2 := Lib.hid ((HB.out.alloc _).later hbx); have HG := Lib.hid hg; have z0 := hbx.size; clear hbx hg hn; obtain ⟨u2, l3, e2, _, _⟩ := HB2.out.out.cell i hi; have ff2 := HB2.out.out.free; have lt2 := HB2.out.out.lt; rcases HN.out with rfl | ⟨T0, y0, rfl⟩))
        all_goals
          refine ⟨⟨i, by omega, by simp [IntKind.wrap]; try omega, ?_⟩, by simp [jOf, IntKind.wrap]; try omega⟩
          exact (HB2.out.set hi (good126 _ _ _)).alloc _
      · as_aux_lemma =>
        have HB0 := Lib.hid (HB.out.alloc (.cells #[.int .u8 13, .int .u8 op, .bool f, .int .u8 c, .int .i32 a1, .int .i32 a2, .int .i32 a3] 141))
        have KQ0 : Kq w.heap.size (wr.alloc (.cells #[.int .u8 13, .int .u8 op, .bool f, .int .u8 c, .int .i32 a1, .int .i32 a2, .int .i32 a3] 141)) (wr.alloc (.cells #[.int .u8 13, .int .u8 op, .bool f, .int .u8 c, .int .i32 a1, .int .i32 a2, .int .i32 a3] 141)) := Kq.refl _ _ (by simp; omega)
        have HF : Hid (∀ W, Kq w.heap.size (wr.alloc (.cells #[.int .u8 13, .int .u8 op, .bool f, .int .u8 c, .int .i32 a1, .int .i32 a2, .int .i32 a3] 141)) W → W.frozen? ⟨w.heap.size, i * 2, none⟩ = false ∧ W.cell? ⟨w.heap.size, i * 2, none⟩ = some (cur W ⟨w.heap.size, i * 2, none⟩) ∧ W.cell? ⟨wr.heap.size, 4, none⟩ = some (.int .i32 a1) ∧ W.cell? ⟨wr.heap.size, 2, none⟩ = some (.bool f) ∧ W.cell? ⟨wr.heap.size, 3, none⟩ = some (.int .u8 c)) := Lib.hid fun W o => ⟨by rw [o.fr]; simp [go_sem, lt, ff], cur_of (o.ex _ ⟨u, by rw [World.cell?_alloc_lt _ _ _ (by exact lt)]; exact e0⟩), (o.cell (by simp) (by omega)).trans (by simp [go_sem]), (o.cell (by simp) (by omega)).trans (by simp [go_sem]), (o.cell (by simp) (by omega)).trans (by simp [go_sem])⟩
        obtain ⟨v1, l1, n1, _, C1⟩ := child_at w.heap.size len i a1 _ hl hi HND.out.r1 HB0.out.out
        have H1 := fun W (o : Below (wr.alloc (.cells #[.int .u8 13, .int .u8 op, .bool f, .int .u8 c, .int .i32 a1, .int .i32 a2, .int .i32 a3] 141)).heap.size (wr.alloc (.cells #[.int .u8 13, .int .u8 op, .bool f, .int .u8 c, .int .i32 a1, .int .i32 a2, .int .i32 a3] 141)) W) => Lib.hid (C1 W o)
        clear C1
        have hc1 : v1.cells = #[v1] := by rcases n1 with rfl | ⟨_, _, rfl⟩ <;> rfl
        clear n1
        all_goals
          go_wp2_with fail
          go_region_held3 (fun w' => w'.frozen? ⟨w.heap.size, i * 2, none⟩ = false ∧ w'.cell? ⟨w.heap.size, i * 2, none⟩ = some (cur w' ⟨w.heap.size, i * 2, none⟩) ∧ w'.cell? ⟨wr.heap.size, 4, none⟩ = some (.int .i32 a1) ∧ w'.cell? ⟨wr.heap.size, 2, none⟩ = some (.bool f) ∧ w'.cell? ⟨wr.heap.size, 3, none⟩ = some (.int .u8 c)) (first | assumption | exact HF.out _ (by repeat' (first | (with_reducible assumption) | (with_reducible refine Kq.drewN ?_ _) | (with_reducible refine Kq.drew ?_) | (with_reducible refine Kq.alloc ?_ _) | (with_reducible refine Kq.set ?_ _ _)))) (first | (go_at_call 39; (with_reducible refine ((H1 _ (by repeat' (first | (with_reducible assumption) | (with_reducible exact Below.refl _ _) | (with_reducible refine below_drewN ?_ _) | (with_reducible refine Below.drew ?_)))).out).mono ?_); rintro _ wx1 ⟨rfl, hbx⟩; have hb1 : Below (wr.alloc (.cells #[.int .u8 13, .int .u8 op, .bool f, .int .u8 c, .int .i32 a1, .int .i32 a2, .int .i32 a3] 141)).heap.size (wr.alloc (.cells #[.int .u8 13, .int .u8 op, .bool f, .int .u8 c, .int .i32 a1, .int .i32 a2, .int .i32 a3] 141)) wx1 := Below.trans (by repeat' (first | (with_reducible assumption) | (with_reducible exact Below.refl _ _) | (with_reducible refine below_drewN ?_ _) | (with_reducible refine Below.drew ?_))) (hbx.mono (Below.size (B := (wr.alloc (.cells #[.int .u8 13, .int .u8 op, .bool f, .int .u8 c, .int .i32 a1, .int .i32 a2, .int .i32 a3] 141)).heap.size) (w := (wr.alloc (.cells #[.int .u8 13, .int .u8 op, .bool f, .int .u8 c, .int .i32 a1, .int .i32 a2, .int .i32 a3] 141))) (by repeat' (first | (with_reducible assumption) | (with_reducible exact Below.refl _ _) | (with_reducible refine below_drewN ?_ _) | (with_reducible refine Below.drew ?_))))); have kq1 := KQ0.more hb1; have hS1 := HF.out _ kq1; have z1 := hb1.size; clear hbx))
        all_goals
          clear HF
          go_wp2_with fail
          refine ⟨⟨i, by omega, by simp [IntKind.wrap]; try omega, ?_⟩, by simp [jOf, IntKind.wrap]; try omega⟩
          repeat' (first | (with_reducible refine Bd.drewN ?_ _) | (with_reducible refine Bd.drew ?_) | (with_reducible refine Bd.alloc ?_ _) | (with_reducible refine Bd.set ?_ hi (good92 _ _ _)) | (with_reducible exact HB0.out.later (by assumption)))
      · as_aux_lemma =>
        have HB0 := Lib.hid (HB.out.alloc (.cells #[.int .u8 14, .int .u8 op, .bool f, .int .u8 c, .int .i32 a1, .int .i32 a2, .int .i32 a3] 141))
        have KQ0 : Kq w.heap.size (wr.alloc (.cells #[.int .u8 14, .int .u8 op, .bool f, .int .u8 c, .int .i32 a1, .int .i32 a2, .int .i32 a3] 141)) (wr.alloc (.cells #[.int .u8 14, .int .u8 op, .bool f, .int .u8 c, .int .i32 a1, .int .i32 a2, .int .i32 a3] 141)) := Kq.refl _ _ (by simp; omega)
        have HF : Hid (∀ W, Kq w.heap.size (wr.alloc (.cells #[.int .u8 14, .int .u8 op, .bool f, .int .u8 c, .int .i32 a1, .int .i32 a2, .int .i32 a3] 141)) W → W.frozen? ⟨w.heap.size, i * 2, none⟩ = false ∧ W.cell? ⟨w.heap.size, i * 2, none⟩ = some (cur W ⟨w.heap.size, i * 2, none⟩) ∧ W.cell? ⟨wr.heap.size, 4, none⟩ = some (.int .i32 a1) ∧ W.cell? ⟨wr.heap.size, 5, none⟩ = some (.int .i32 a2) ∧ W.cell? ⟨wr.heap.size, 2, none⟩ = some (.bool f) ∧ W.cell? ⟨wr.heap.size, 3, none⟩ = some (.int .u8 c)) := Lib.hid fun W o => ⟨by rw [o.fr]; simp [go_sem, lt, ff], cur_of (o.ex _ ⟨u, by rw [World.cell?_alloc_lt _ _ _ (by exact lt)]; exact e0⟩), (o.cell (by simp) (by omega)).trans (by simp [go_sem]), (o.cell (by simp) (by omega)).trans (by simp [go_sem]), (o.cell (by simp) (by omega)).trans (by simp [go_sem]), (o.cell (by simp) (by omega)).trans (by simp [go_sem])⟩
        obtain ⟨v1, l1, n1, _, C1⟩ := child_at w.heap.size len i a1 _ hl hi HND.out.r1 HB0.out.out
        have H1 := fun W (o : Below (wr.alloc (.cells #[.int .u8 14, .int .u8 op, .bool f, .int .u8 c, .int .i32 a1, .int .i32 a2, .int .i32 a3] 141)).heap.size (wr.alloc (.cells #[.int .u8 14, .int .u8 op, .bool f, .int .u8 c, .int .i32 a1, .int .i32 a2, .int .i32 a3] 141)) W) => Lib.hid (C1 W o)
        clear C1
        obtain ⟨v2, l2, n2, _, C2⟩ := child_at w.heap.size len i a2 _ hl hi HND.out.r2 HB0.out.out
        have H2 := fun W (o : Below (wr.alloc (.cells #[.int .u8 14, .int .u8 op, .bool f, .int .u8 c, .int .i32 a1, .int .i32 a2, .int .i32 a3] 141)).heap.size (wr.alloc (.cells #[.int .u8 14, .int .u8 op, .bool f, .int .u8 c, .int .i32 a1, .int .i32 a2, .int .i32 a3] 141)) W) => Lib.hid (C2 W o)
        clear C2
        have hc1 : v1.cells = #[v1] := by rcases n1 with rfl | ⟨_, _, rfl⟩ <;> rfl
        clear n1
        have hc2 : v2.cells = #[v2] := by rcases n2 with rfl | ⟨_, _, rfl⟩ <;> rfl
        clear n2
        all_goals
          go_wp2_with fail
          go_region_held3 (fun w' => w'.frozen? ⟨w.heap.size, i * 2, none⟩ = false ∧ w'.cell? ⟨w.heap.size, i * 2, none⟩ = some (cur w' ⟨w.heap.size, i * 2, none⟩) ∧ w'.cell? ⟨wr.heap.size, 4, none⟩ = some (.int .i32 a1) ∧ w'.cell? ⟨wr.heap.size, 5, none⟩ = some (.int .i32 a2) ∧ w'.cell? ⟨wr.heap.size, 2, none⟩ = some (.bool f) ∧ w'.cell? ⟨wr.heap.size, 3, none⟩ = some (.int .u8 c)) (first | assumption | exact HF.out _ (by repeat' (first | (with_reducible assumption) | (with_reducible refine Kq.drewN ?_ _) | (with_reducible refine Kq.drew ?_) | (with_reducible refine Kq.alloc ?_ _) | (with_reducible refine Kq.set ?_ _ _)))) (first | (go_at_call 39; (with_reducible refine ((H1 _ (by repeat' (first | (with_reducible assumption) | (with_reducible exact Below.refl _ _) | (with_reducible refine below_drewN ?_ _) | (with_reducible refine Below.drew ?_)))).out).mono ?_); rintro _ wx1 ⟨rfl, hbx⟩; have hb1 : Below (wr.alloc (.cells #[.int .u8 14, .int .u8 op, .bool f, .int .u8 c, .int .i32 a1, .int .i32 a2, .int .i32 a3] 141)).heap.size (wr.alloc (.cells #[.int .u8 14, .int .u8 op, .bool f, .int .u8 c, .int .i32 a1, .int .i32 a2, .int .i32 a3] 141)) wx1 := Below.trans (by repeat' (first | (with_reducible assumption) | (with_reducible exact Below.refl _ _) | (with_reducible refine below_drewN ?_ _) | (with_reducible refine Below.drew ?_))) (hbx.mono (Below.size (B := (wr.alloc (.cells #[.int .u8 14, .int .u8 op, .bool f, .int .u8 c, .int .i32 a1, .int .i32 a2, .int .i32 a3] 141)).heap.size) (w := (wr.alloc (.cells #[.int .u8 14, .int .u8 op, .bool f, .int .u8 c, .int .i32 a1, .int .i32 a2, .int .i32 a3] 141))) (by repeat' (first | (with_reducible assumption) | (with_reducible exact Below.refl _ _) | (with_reducible refine below_drewN ?_ _) | (with_reducible refine Below.drew ?_))))); have kq1 := KQ0.more hb1; have hS1 := HF.out _ kq1; have z1 := hb1.size; clear hbx) | (go_at_call 39; (with_reducible refine ((H2 _ (by repeat' (first | (with_reducible assumption) | (with_reducible exact Below.refl _ _) | (with_reducible refine below_drewN ?_ _) | (with_reducible refine Below.drew ?_)))).out).mono ?_); rintro _ wx2 ⟨rfl, hbx⟩; have hb2 : Below (wr.alloc (.cells #[.int .u8 14, .int .u8 op, .bool f, .int .u8 c, .int .i32 a1, .int .i32 a2, .int .i32 a3] 141)).heap.size (wr.alloc (.cells #[.int .u8 14, .int .u8 op, .bool f, .int .u8 c, .int .i32 a1, .int .i32 a2, .int .i32 a3] 141)) wx2 := Below.trans (by repeat' (first | (with_reducible assumption) | (with_reducible exact Below.refl _ _) | (with_reducible refine below_drewN ?_ _) | (with_reducible refine Below.drew ?_))) (hbx.mono (Below.size (B := (wr.alloc (.cells #[.int .u8 14, .int .u8 op, .bool f, .int .u8 c, .int .i32 a1, .int .i32 a2, .int .i32 a3] 141)).heap.size) (w := (wr.alloc (.cells #[.int .u8 14, .int .u8 op, .bool f, .int .u8 c, .int .i32 a1, .int .i32 a2, .int .i32 a3] 141))) (by repeat' (first | (with_reducible assumption) | (with_reducible exact Below.refl _ _) | (with_reducible refine below_drewN ?_ _) | (with_reducible refine Below.drew ?_))))); have kq2 := KQ0.more hb2; have hS2 := HF.out _ kq2; have z2 := hb2.size; clear hbx))
        all_goals
          clear HF
          go_wp2_with fail
          refine ⟨⟨i, by omega, by simp [IntKind.wrap]; try omega, ?_⟩, by simp [jOf, IntKind.wrap]; try omega⟩
          repeat' (first | (with_reducible refine Bd.drewN ?_ _) | (with_reducible refine Bd.drew ?_) | (with_reducible refine Bd.alloc ?_ _) | (with_reducible refine Bd.set ?_ hi (good96 _ _ _)) | (with_reducible exact HB0.out.later (by assumption)))
      · as_aux_lemma =>
        go_wp2_with fail
        refine ⟨⟨i, by omega, by simp [IntKind.wrap]; try omega, ?_⟩, by simp [jOf, IntKind.wrap]; try omega⟩
        exact ((HB.out.set hi (good136 _ _ _)).alloc _).alloc _
      · as_aux_lemma =>
        go_wp2_with fail
        refine ⟨⟨i, by omega, by simp [IntKind.wrap]; try omega, ?_⟩, by simp [jOf, IntKind.wrap]; try omega⟩
        exact ((HB.out.set hi (good113 _ _ _)).alloc _).alloc _
      · as_aux_lemma =>
        go_wp2_with fail
        refine ⟨⟨i, by omega, by simp [IntKind.wrap]; try omega, ?_⟩, by simp [jOf, IntKind.wrap]; try omega⟩
        exact ((HB.out.set hi (good137 _ _ _)).alloc _).alloc _
      · as_aux_lemma =>
        go_wp2_with fail
        refine ⟨⟨i, by omega, by simp [IntKind.wrap]; try omega, ?_⟩, by simp [jOf, IntKind.wrap]; try omega⟩
        exact ((HB.out.set hi (good57 _ _ _)).alloc _).alloc _
end Go.Proofs.Ytfbmadlcjpaddaa
