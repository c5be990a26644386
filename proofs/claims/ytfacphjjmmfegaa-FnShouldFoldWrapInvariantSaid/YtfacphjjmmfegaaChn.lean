/-
  Contracts of zzLeaf, zzWrap, extractNumericValues, extractStringValues. No condition.
-/
import Derived.Test.YtfacphjjmmfegaaKno
import Derived.Test.YtfacphjjmmfegaaCln
namespace Go.Proofs.Ytfacphjjmmfegaa
open Go.ChangeShapes Go.WideShapes Go.ChangeAt Go.RowKit
set_option linter.unusedVariables false

/-- A known expression, returned. -/
def Built (s : Bool) (r : Nat) (sv : Value) (w : World) (e : Ending) (w' : World) : Prop :=
  ∃ v, e = .returned (.agg #[v, .int .i32 0]) ∧ Kn w' v s r sv ∧ Below w.heap.size w w'
set_option maxRecDepth 100000 in
theorem leaf7 (s : Bool) (a : Option Addr) (len cap r : Nat) (w : World) : Calls Try.prog 7 #[.bool s, .slice a len cap, .float .f64 r] w (Built s r (.slice a len cap) w) := by
  cases s
  · go_enter Try.func7, Try.ntmps7
    go_wp2
    refine bodyPost_ret (by simp [results, Try.results7, go_sem]; rfl) rfl ⟨_, rfl, ⟨⟨_, _, rfl⟩, fun w' k => r_num _ _ _ _ ?_⟩, by go_grown⟩
    rw [k.cell (by simp)]; simp [go_sem]
  · go_enter Try.func7, Try.ntmps7
    go_wp2
    refine bodyPost_ret (by simp [results, Try.results7, go_sem]; rfl) rfl ⟨_, rfl, ⟨⟨_, _, rfl⟩, fun w' k => r_str _ _ _ _ _ _ ?_⟩, by go_grown⟩
    rw [k.cell (by simp)]; simp [go_sem]

/-- At the wrapping loop's head. -/
structure Ch (w wr : World) (v : Value) (s : Bool) (r : Nat) (sv : Value) : Prop where
  below : Below w.heap.size w wr
  lt : w.heap.size + 1 < wr.heap.size
  if_ : Iface v
  c0 : wr.cell? ⟨w.heap.size, 0, none⟩ = some v
  c1 : wr.cell? ⟨w.heap.size, 1, none⟩ = some (.int .i32 0)
  f0 : wr.frozen? ⟨w.heap.size, 0, none⟩ = false
  f1 : wr.frozen? ⟨w.heap.size, 1, none⟩ = false
  r0 : ∃ u, wr.cell? ⟨w.heap.size + 1, 0, none⟩ = some u
  r1 : ∃ u, wr.cell? ⟨w.heap.size + 1, 1, none⟩ = some u
  g0 : wr.frozen? ⟨w.heap.size + 1, 0, none⟩ = false
  g1 : wr.frozen? ⟨w.heap.size + 1, 1, none⟩ = false
  ext : Ext w.heap.size (w.heap.size + 1) wr v s r sv
/-- One more wrapper. -/
theorem Ch.step {w wr : World} {v : Value} {s : Bool} {r : Nat} {sv : Value} (h : Ch w wr v s r sv) (cs : Array Value) (t T : TypeId) (hT : T = 48 ∨ T = 52) (hcs : cs[0]? = some v) :
    Ch w (((wr.setCell ⟨w.heap.size, 0, none⟩ (.iface T (.pointer (some ⟨wr.heap.size, 0, none⟩)))).setCell ⟨w.heap.size, 1, none⟩ (.int .i32 0)).alloc (.cells cs t)) (.iface T (.pointer (some ⟨wr.heap.size, 0, none⟩))) s r sv := by
  have hlt := h.lt
  have hB : w.heap.size < wr.heap.size := by omega
  have hext : Ext w.heap.size (w.heap.size + 1) (wr.alloc (.cells cs t)) (.iface T (.pointer (some ⟨wr.heap.size, 0, none⟩))) s r sv := fun w' k =>
    r_wrap T hT wr.heap.size s r sv v w' h.if_ (by rw [k.cell (by simp) (by omega) (by omega), World.cell?_alloc_new]; exact hcs) (h.ext w' (((Kp.refl _ _ _).alloc _).trans k))
  rw [← World.setCell_alloc_past _ _ _ _ (by simpa using hB), ← World.setCell_alloc_past _ _ _ _ hB]
  have c0' : (wr.alloc (.cells cs t)).cell? ⟨w.heap.size, 0, none⟩ = some v := by rw [World.cell?_alloc_lt _ _ _ (by exact hB)]; exact h.c0
  have c1' : (wr.alloc (.cells cs t)).cell? ⟨w.heap.size, 1, none⟩ = some (.int .i32 0) := by rw [World.cell?_alloc_lt _ _ _ (by exact hB)]; exact h.c1
  refine ⟨((h.below.alloc h.below.size _).setCell (Nat.le_refl _) _).setCell (Nat.le_refl _) _, by simp; omega, ⟨_, _, rfl⟩, ?_, ?_, ?_, ?_, ?_, ?_, ?_, ?_, ?_⟩
  · rw [World.cell?_setCell_other _ _ _ _ (by simp), World.cell?_setCell_same _ _ _ c0']
  · rw [World.cell?_setCell_same (u := .int .i32 0)]
    rw [World.cell?_setCell_other _ _ _ _ (by simp)]; exact c1'
  · simp [go_sem, h.f0, hB]
  · simp [go_sem, h.f1, hB]
  · obtain ⟨u, hu⟩ := h.r0
    refine ⟨u, ?_⟩
    rw [World.cell?_setCell_other _ _ _ _ (by first | (simp; done) | (simp; omega)), World.cell?_setCell_other _ _ _ _ (by first | (simp; done) | (simp; omega)), World.cell?_alloc_lt _ _ _ (by exact hlt)]; exact hu
  · obtain ⟨u, hu⟩ := h.r1
    refine ⟨u, ?_⟩
    rw [World.cell?_setCell_other _ _ _ _ (by first | (simp; done) | (simp; omega)), World.cell?_setCell_other _ _ _ _ (by first | (simp; done) | (simp; omega)), World.cell?_alloc_lt _ _ _ (by exact hlt)]; exact hu
  · simp [go_sem, h.g0, hlt]
  · simp [go_sem, h.g1, hlt]
  · exact hext.later (((Kp.refl _ _ _).setB _ _).setB _ _)
set_option maxRecDepth 100000 in
set_option maxHeartbeats 2000000 in
theorem wrap8 (v : Value) (s : Bool) (r : Nat) (sv : Value) (a : Option Addr) (len cap : Nat) (ws : List Bool) (w : World) (hk : Kn w v s r sv) (h : IsBools w a len cap ws) (hl : len ≤ 1048576) :
    Calls Try.prog 8 #[.agg #[v, .int .i32 0], .slice a len cap] w (Built s r sv w) := by
  have HL : Hid (ws.length = len) := by have := h.1; rwa [List.length_map] at this
  have HS := Lib.hid h.2.2.2.2
  have start : Ch w ((w.alloc (.cells #[v, .int .i32 0] 34)).alloc (.cells #[.nilIface, .int .i32 0] 34)) v s r sv := by
    refine ⟨by go_grown, by simp, hk.1, ?_, ?_, ?_, ?_, ?_, ?_, ?_, ?_, ?_⟩
    · simp [go_sem]
    · simp [go_sem]
    · simp [go_sem]
    · simp [go_sem]
    · exact ⟨.nilIface, by simp [go_sem]⟩
    · exact ⟨.int .i32 0, by simp [go_sem]⟩
    · simp [go_sem]
    · simp [go_sem]
    · intro w' k
      refine hk.2 w' ⟨Nat.le_trans (by simp; omega) k.1, fun b hb => ?_⟩
      rw [k.2 b (by simp; omega) (by omega) (by omega)]
      exact (((Below.refl _ w).alloc (Nat.le_refl _) _).alloc (by simp) _).block b hb
  clear h
  have hi := hk.1
  clear hk
  go_enter Try.func8, Try.ntmps8
  obtain ⟨T0, y0, rfl⟩ := hi
  all_goals
    go_wp2_with fail
    go_loopw [5] (fun i wr => ∃ (k : Nat) (v : Value), k ≤ len ∧ i = .int .i64 ((k : Int) - 1) ∧ Ch w wr v s r sv) (fun i _ => (intOf i + 1).toNat)
    case atStart => exact ⟨len, _, Nat.le_refl _, rfl, start⟩
    case round =>
      clear start
      obtain ⟨k, v, hk, rfl, hc⟩ := hrel
      have HC := Lib.hid hc
      have c0 := hc.c0
      have c1 := hc.c1
      have f0 := hc.f0
      have f1 := hc.f1
      have lt := hc.lt
      have ltB : w.heap.size < wr.heap.size := by omega
      have hv := hc.if_
      cases k with
      | zero =>
        obtain ⟨u0, r0⟩ := hc.r0
        obtain ⟨u1, r1⟩ := hc.r1
        have g0 := hc.g0
        have g1 := hc.g1
        have q0 : ∀ v, (wr.setCell ⟨w.heap.size + 1, 0, none⟩ v).cell? ⟨w.heap.size + 1, 0, none⟩ = some v := fun v => World.cell?_setCell_same _ _ _ r0
        have q1 : ∀ v u, ((wr.setCell ⟨w.heap.size + 1, 0, none⟩ v).setCell ⟨w.heap.size + 1, 1, none⟩ u).cell? ⟨w.heap.size + 1, 1, none⟩ = some u :=
          fun v u => World.cell?_setCell_same _ _ _ (u := u1) (by rw [World.cell?_setCell_other _ _ _ _ (by simp)]; exact r1)
        clear hc
        obtain ⟨T, y, rfl⟩ := hv
        all_goals
          go_wp2_with fail
          refine bodyPost_ret (by simp [results, Try.results8, go_sem, q0, q1]) rfl ⟨_, rfl, ⟨HC.out.if_, fun w' o => ?_⟩, ?_⟩
          · exact HC.out.ext w' ((((Kp.refl _ _ _).setR _ _).setR _ _).trans ⟨o.1, fun b h1 _ _ => o.2 b h1⟩)
          · exact (HC.out.below.setCell (by show _ ≤ w.heap.size + 1; omega) _).setCell (by show _ ≤ w.heap.size + 1; omega) _
      | succ j =>
        have e : ((j + 1 : Nat) : Int) - 1 = (j : Int) := by omega
        rw [e]
        obtain ⟨b, off, ea, hb, hcell⟩ := HS.out (by omega)
        cases ea
        have hcur : wr.cell? ⟨b, off + j, none⟩ = some (.bool (ws.getD j false)) := by
          rw [HC.out.below.cell (p := ⟨b, off + j, none⟩) hb, hcell j (by omega), getD_map_bool _ _ (by rw [HL.out]; omega)]
        have hj : j < len := by omega
        generalize ws.getD j false = bit at *
        clear hcell hc HS
        have st48 := fun (cs : Array Value) (t : TypeId) (h : cs[0]? = some v) => HC.out.step cs t 48 (.inl rfl) h
        have st52 := fun (cs : Array Value) (t : TypeId) (h : cs[0]? = some v) => HC.out.step cs t 52 (.inr rfl) h
        have ST48 := Lib.hid st48
        have ST52 := Lib.hid st52
        clear st48 st52
        obtain ⟨T, y, rfl⟩ := hv
        cases bit
        all_goals
          go_wp2_with fail
          first
            | exact ⟨⟨j, _, by omega, rfl, ST48.out _ _ rfl⟩, by simp [intOf]⟩
            | exact ⟨⟨j, _, by omega, rfl, ST52.out _ _ rfl⟩, by simp [intOf]⟩
/-- Two numbers, or none. -/
def N2 (ls rs : Bool) (lr rr : Nat) : Value := .tuple #[.float .f64 (if ls || rs then 0 else lr), .float .f64 (if ls || rs then 0 else rr), .bool (!(ls || rs))]
set_option maxRecDepth 100000 in
theorem ex10 {vl vr : Value} {ls rs : Bool} {lr rr : Nat} {lsv rsv : Value} (w : World) (hl : Kn w vl ls lr lsv) (hr : Kn w vr rs rr rsv) :
    Calls Try.prog 10 #[.agg #[vl, .int .i32 0], .agg #[vr, .int .i32 0]] w fun e w' => e = .returned (N2 ls rs lr rr) ∧ Below w.heap.size w w' := by
  have HL := fun W => Lib.hid (fun (o : Below w.heap.size w W) => (hl.2 W (.of_below o)).num)
  have HR := fun W => Lib.hid (fun (o : Below w.heap.size w W) => (hr.2 W (.of_below o)).num)
  have il := hl.1
  have ir := hr.1
  clear hl hr
  unfold N2
  cases ls <;> cases rs
  all_goals
    simp only [Bool.or_self, Bool.or_true, Bool.or_false, Bool.not_true, Bool.not_false, Bool.false_eq_true, if_true, if_false] at HL HR ⊢
    obtain ⟨Tl, xl, rfl⟩ := il
    obtain ⟨Tr, xr, rfl⟩ := ir
    all_goals
      go_enter Try.func10, Try.ntmps10
      go_wp2_with (first
        | (go_at_call 18; (with_reducible refine ((HL _).out (by go_grown)).mono ?_); rintro _ _ ⟨rfl, rfl⟩)
        | (go_at_call 18; (with_reducible refine ((HR _).out (by go_grown)).mono ?_); rintro _ _ ⟨rfl, rfl⟩))
      go_ret3
      exact ⟨rfl, by go_grown⟩
set_option maxRecDepth 100000 in
theorem ex13 {vl vr : Value} {ls rs : Bool} {lr rr : Nat} {la ra : Option Addr} {ll lc rl rc : Nat} (w : World) (hl : Kn w vl ls lr (.slice la ll lc)) (hr : Kn w vr rs rr (.slice ra rl rc)) :
    Calls Try.prog 13 #[.agg #[vl, .int .i32 0], .agg #[vr, .int .i32 0]] w fun e w' => (∃ a l c a' l' c', e = .returned (.tuple #[.slice a l c, .slice a' l' c', .bool (ls && rs)])) ∧ Below w.heap.size w w' := by
  have HL := fun W => Lib.hid (fun (o : Below w.heap.size w W) => (hl.2 W (.of_below o)).str)
  have HR := fun W => Lib.hid (fun (o : Below w.heap.size w W) => (hr.2 W (.of_below o)).str)
  have il := hl.1
  have ir := hr.1
  clear hl hr
  cases ls <;> cases rs
  all_goals
    simp only [Bool.and_self, Bool.and_true, Bool.and_false, Bool.false_eq_true, if_true, if_false] at HL HR ⊢
    obtain ⟨Tl, xl, rfl⟩ := il
    obtain ⟨Tr, xr, rfl⟩ := ir
    all_goals
      go_enter Try.func13, Try.ntmps13
      go_wp2_with (first
        | (go_at_call 23; (with_reducible refine ((HL _).out (by go_grown)).mono ?_); rintro _ _ ⟨rfl, rfl⟩)
        | (go_at_call 23; (with_reducible refine ((HR _).out (by go_grown)).mono ?_); rintro _ _ ⟨rfl, rfl⟩))
      go_ret3
      exact ⟨⟨_, _, _, _, _, _, rfl⟩, by go_grown⟩
end Go.Proofs.Ytfacphjjmmfegaa
