/-
  The chain of wrappers that zzChain builds. No condition.
-/
import Derived.Test.YtnhjmhomkmfopaaExt
import Derived.WideLaws
import Derived.WalkSmall
import Derived.Deep.QuietTactic
import Derived.BigQuiet
namespace Go.Proofs.Ytnhjmhomkmfopaa
open Go.ChangeShapes Go.WideShapes Go.ChangeAt Go.RowKit
set_option linter.unusedVariables false

def tr (ws : List Int) : Bool := ws.all fun x => decide (x % 5 ≤ 1)
def chR (ws : List Int) (k : Int) (v : Nat) : Nat := if tr ws then leafR k v else 0
def chOk (ws : List Int) (k : Int) : Bool := tr ws && leafOk k
theorem drop_cons (ws : List Int) (j : Nat) (h : j < ws.length) : ws.drop j = ws.getD j 0 :: ws.drop (j + 1) := by
  rw [List.drop_eq_getElem_cons h]; simp [List.getD_eq_getElem?_getD, List.getElem?_eq_getElem h]
theorem tr_yes {ws : List Int} {j : Nat} (h : j < ws.length) (hx : ws.getD j 0 % 5 ≤ 1) : tr (ws.drop j) = tr (ws.drop (j + 1)) := by
  rw [drop_cons ws j h]; generalize ws.getD j 0 = x at *; simp [tr, hx]
theorem tr_no {ws : List Int} {j : Nat} (h : j < ws.length) (hx : ¬ ws.getD j 0 % 5 ≤ 1) : tr (ws.drop j) = false := by
  rw [drop_cons ws j h]; generalize ws.getD j 0 = x at *; simp [tr, hx]
theorem ints_cell {k : IntKind} {w : World} {a : Option Addr} {len cap : Nat} {zs : List Int} (h : IsInts k w a len cap zs) (h0 : 0 < len) :
    ∃ b off, a = some ⟨b, off, none⟩ ∧ b < w.heap.size ∧ ∀ i, i < len → w.cell? ⟨b, off + i, none⟩ = some (.int k (zs.getD i 0)) := by
  obtain ⟨⟨h1, _, _, _, h5⟩, _⟩ := h
  obtain ⟨b, off, e, hb, hc⟩ := h5 h0
  rw [List.length_map] at h1
  exact ⟨b, off, e, hb, fun i hi => by rw [hc i hi, getD_map_int _ _ _ (by omega)]⟩
theorem u8_bd {zs : List Int} (h : ∀ n ∈ zs, (Lit.int .u8 n).wf = true) (i : Nat) : 0 ≤ zs.getD i 0 ∧ zs.getD i 0 ≤ 255 := by
  by_cases hi : i < zs.length
  · have := h (zs.getD i 0) (by simp [List.getD_eq_getElem?_getD, List.getElem?_eq_getElem hi])
    simpa [Lit.wf, IntKind.min, IntKind.max, IntKind.signed, IntKind.bits] using this
  · simp [List.getD_eq_getElem?_getD, List.getElem?_eq_none (Nat.le_of_not_lt hi)]

/-- At the loop's head, the wrappers from k on are laid. -/
structure Ch (w wr : World) (B : Nat) (v : Value) (r : Nat) (ok : Bool) : Prop where
  below : Below w.heap.size w wr
  hB : w.heap.size + 1 ≤ B
  lt : B < wr.heap.size
  if_ : Iface v
  c0 : wr.cell? ⟨B, 0, none⟩ = some v
  c1 : wr.cell? ⟨B, 1, none⟩ = some (.int .i32 0)
  f0 : wr.frozen? ⟨B, 0, none⟩ = false
  f1 : wr.frozen? ⟨B, 1, none⟩ = false
  r0 : ∃ u, wr.cell? ⟨w.heap.size, 0, none⟩ = some u
  r1 : ∃ u, wr.cell? ⟨w.heap.size, 1, none⟩ = some u
  g0 : wr.frozen? ⟨w.heap.size, 0, none⟩ = false
  g1 : wr.frozen? ⟨w.heap.size, 1, none⟩ = false
  ext : Ext (w.heap.size + 1) B wr v r ok

/-- One more wrapper: a new block o, and the variable points to it. -/
theorem Ch.step {w wr : World} {B : Nat} {v : Value} {r : Nat} {ok : Bool} (h : Ch w wr B v r ok) (cs : Array Value) (t T : TypeId) (r' : Nat) (ok' : Bool)
    (hext : Ext (w.heap.size + 1) B (wr.alloc (.cells cs t)) (.iface T (.pointer (some ⟨wr.heap.size, 0, none⟩))) r' ok') :
    Ch w (((wr.setCell ⟨B, 0, none⟩ (.iface T (.pointer (some ⟨wr.heap.size, 0, none⟩)))).setCell ⟨B, 1, none⟩ (.int .i32 0)).alloc (.cells cs t)) B (.iface T (.pointer (some ⟨wr.heap.size, 0, none⟩))) r' ok' := by
  rw [← World.setCell_alloc_past _ _ _ _ (by simpa using h.lt), ← World.setCell_alloc_past _ _ _ _ h.lt]
  have hA : w.heap.size ≠ B := by have := h.hB; omega
  have hlt := h.lt
  have c0' : (wr.alloc (.cells cs t)).cell? ⟨B, 0, none⟩ = some v := by rw [World.cell?_alloc_lt _ _ _ (by exact hlt)]; exact h.c0
  have c1' : (wr.alloc (.cells cs t)).cell? ⟨B, 1, none⟩ = some (.int .i32 0) := by rw [World.cell?_alloc_lt _ _ _ (by exact hlt)]; exact h.c1
  have hAlt : w.heap.size < wr.heap.size := by have := h.hB; omega
  refine ⟨((h.below.alloc h.below.size _).setCell (by have := h.hB; show _ ≤ B; omega) _).setCell (by have := h.hB; show _ ≤ B; omega) _, h.hB, by simp; omega, .inr ⟨_, _, rfl⟩, ?_, ?_, ?_, ?_, ?_, ?_, ?_, ?_, ?_⟩
  · rw [World.cell?_setCell_other _ _ _ _ (by simp), World.cell?_setCell_same _ _ _ c0']
  · rw [World.cell?_setCell_same (u := .int .i32 0)]
    rw [World.cell?_setCell_other _ _ _ _ (by simp)]; exact c1'
  · simp [go_sem, h.f0, hlt]
  · simp [go_sem, h.f1, hlt]
  · obtain ⟨u, hu⟩ := h.r0
    refine ⟨u, ?_⟩
    rw [World.cell?_setCell_other _ _ _ _ (by first | (simp; done) | (simp; omega)), World.cell?_setCell_other _ _ _ _ (by first | (simp; done) | (simp; omega)), World.cell?_alloc_lt _ _ _ (by exact hAlt)]; exact hu
  · obtain ⟨u, hu⟩ := h.r1
    refine ⟨u, ?_⟩
    rw [World.cell?_setCell_other _ _ _ _ (by first | (simp; done) | (simp; omega)), World.cell?_setCell_other _ _ _ _ (by first | (simp; done) | (simp; omega)), World.cell?_alloc_lt _ _ _ (by exact hAlt)]; exact hu
  · simp [go_sem, h.g0, hAlt]
  · simp [go_sem, h.g1, hAlt]
  · exact hext.later (((Keeps.refl _ _ _).setCell _ _).setCell _ _)


theorem ext_52 {lo B : Nat} {wr : World} {v : Value} {r : Nat} {ok : Bool} {cs : Array Value} {t : TypeId} (h : Ext lo B wr v r ok) (hv : Iface v) (hlo : lo ≤ wr.heap.size) (hB : B < wr.heap.size) (hcs : cs[0]? = some v) :
    Ext lo B (wr.alloc (.cells cs t)) (.iface 52 (.pointer (some ⟨wr.heap.size, 0, none⟩))) r ok := fun w' k =>
  x_52 wr.heap.size r ok v w' hv (by rw [k.cell hlo (by simp) (by omega), World.cell?_alloc_new]; exact hcs) (h w' (((Keeps.refl _ _ _).alloc _).trans k))
theorem ext_56 {lo B : Nat} {wr : World} {v : Value} {r : Nat} {ok : Bool} {cs : Array Value} {t : TypeId} (h : Ext lo B wr v r ok) (hv : Iface v) (hlo : lo ≤ wr.heap.size) (hB : B < wr.heap.size) (hcs : cs[0]? = some v) :
    Ext lo B (wr.alloc (.cells cs t)) (.iface 56 (.pointer (some ⟨wr.heap.size, 0, none⟩))) r ok := fun w' k =>
  x_56 wr.heap.size r ok v w' hv (by rw [k.cell hlo (by simp) (by omega), World.cell?_alloc_new]; exact hcs) (h w' (((Keeps.refl _ _ _).alloc _).trans k))
theorem chR_yes {ws : List Int} {k : Int} {v j : Nat} (h : tr (ws.drop j) = tr (ws.drop (j + 1))) : chR (ws.drop j) k v = chR (ws.drop (j + 1)) k v ∧ chOk (ws.drop j) k = chOk (ws.drop (j + 1)) k := by
  unfold chR chOk; rw [h]; exact ⟨rfl, rfl⟩
theorem chR_no {ws : List Int} {k : Int} {v j : Nat} (h : tr (ws.drop j) = false) : chR (ws.drop j) k v = 0 ∧ chOk (ws.drop j) k = false := by
  unfold chR chOk; rw [h]; exact ⟨rfl, rfl⟩
def Chain (ws : List Int) (k : Int) (v : Nat) (w : World) (e : Ending) (w' : World) : Prop :=
  ∃ x lo B, e = .returned (.agg #[x, .int .i32 0]) ∧ Iface x ∧ Ext lo B w' x (chR ws k v) (chOk ws k) ∧ Below w.heap.size w w'
set_option maxRecDepth 100000 in
set_option maxHeartbeats 2000000 in
theorem chain (a : Option Addr) (len cap : Nat) (ws : List Int) (k0 : Int) (v0 : Nat) (a3 : Option Addr) (l3 c3 : Nat) (w : World) (h : IsInts .u8 w a len cap ws) (hl : len ≤ 1048576) (h0 : 0 ≤ k0) :
    Calls Try.prog 10 #[.slice a len cap, .int .u8 k0, .float .f64 v0, .slice a3 l3 c3] w (Chain ws k0 v0 w) := by
  have HL : Hid (ws.length = len) := by have := h.1.1; rwa [List.length_map] at this
  have HS := Lib.hid h
  clear h
  go_enter Try.func10, Try.ntmps10
  go_wp2_with fail
  refine (leaf _ _ _ _ _ _ h0).mono ?_
  rintro e w1 ⟨x, rfl, hi, hx, hb1⟩
  have z1 : w.heap.size < w1.heap.size := by have := hb1.size; simp at this; omega
  have start : Ch w (w1.alloc (.cells #[x, .int .i32 0] 33)) w1.heap.size x (leafR k0 v0) (leafOk k0) := by
    refine ⟨by have := (below_step hb1 (B := w.heap.size) (w0 := w) (by go_grown) (by go_size)).1; go_grown, by omega, by simp, hi, ?_, ?_, ?_, ?_, ?_, ?_, ?_, ?_, ?_⟩
    · simp [go_sem]
    · simp [go_sem]
    · simp [go_sem]
    · simp [go_sem]
    · refine ⟨.nilIface, ?_⟩
      rw [World.cell?_alloc_lt _ _ _ (by exact z1), hb1.cell (by simp)]; simp [go_sem]
    · refine ⟨.int .i32 0, ?_⟩
      rw [World.cell?_alloc_lt _ _ _ (by exact z1), hb1.cell (by simp)]; simp [go_sem]
    · simp [go_sem, z1]; rw [hb1.frozen (by simp)]; simp [go_sem]
    · simp [go_sem, z1]; rw [hb1.frozen (by simp)]; simp [go_sem]
    · have := hx.later ((Keeps.refl _ _ _).alloc (.cells #[x, .int .i32 0] 33))
      simpa using this
  clear hx hb1
  rcases hi with rfl | ⟨T0, y0, rfl⟩
  · go_wp2
    go_loopw [10] (fun i wr => ∃ (k : Nat) (v : Value), k ≤ len ∧ i = .int .i64 ((k : Int) - 1) ∧ Ch w wr w1.heap.size v (chR (ws.drop k) k0 v0) (chOk (ws.drop k) k0)) (fun i _ => (intOf i + 1).toNat)
    case atStart =>
      refine ⟨len, .nilIface, Nat.le_refl _, rfl, ?_⟩
      rw [List.drop_eq_nil_of_le (by rw [HL.out]; exact Nat.le_refl _)]
      exact start
    case round =>
      clear start
      obtain ⟨k, v, hk, rfl, hc⟩ := hrel
      have HC := Lib.hid hc
      have c0 := hc.c0
      have c1 := hc.c1
      have f0 := hc.f0
      have f1 := hc.f1
      have lt := hc.lt
      have hv := hc.if_
      cases k with
      | zero =>
        obtain ⟨u0, r0⟩ := hc.r0
        obtain ⟨u1, r1⟩ := hc.r1
        have g0 := hc.g0
        have g1 := hc.g1
        have q0 : ∀ v, (wr.setCell ⟨w.heap.size, 0, none⟩ v).cell? ⟨w.heap.size, 0, none⟩ = some v := fun v => World.cell?_setCell_same _ _ _ r0
        have q1 : ∀ v u, ((wr.setCell ⟨w.heap.size, 0, none⟩ v).setCell ⟨w.heap.size, 1, none⟩ u).cell? ⟨w.heap.size, 1, none⟩ = some u :=
          fun v u => World.cell?_setCell_same _ _ _ (u := u1) (by rw [World.cell?_setCell_other _ _ _ _ (by simp)]; exact r1)
        clear hc
        rcases hv with rfl | ⟨T, y, rfl⟩
        all_goals
          go_wp2
          refine bodyPost_ret (by simp [results, Try.results10, go_sem, q0, q1]) rfl ⟨_, w.heap.size + 1, w1.heap.size, rfl, HC.out.if_, ?_, ?_⟩
          · exact (HC.out.ext.later (((Keeps.refl _ _ _).setLow (by omega) _ _).setLow (by omega) _ _))
          · exact ((HC.out.below.setCell (Nat.le_refl _) _).setCell (Nat.le_refl _) _)
      | succ j =>
        have e : ((j + 1 : Nat) : Int) - 1 = (j : Int) := by omega
        simp only [e]
        obtain ⟨ba, oa, rfl, hba, hca⟩ := ints_cell HS.out (by omega)
        have ca := hca j (by omega)
        have ca1 : wr.cell? ⟨ba, oa + j, none⟩ = some (.int .u8 (ws.getD j 0)) := by rw [hc.below.cell (p := ⟨ba, oa + j, none⟩) hba]; exact ca
        have bx := u8_bd HS.out.2 j
        have ty := fun hx => Lib.hid (tr_yes (ws := ws) (j := j) (by rw [HL.out]; omega) hx)
        have tn := fun hx => Lib.hid (tr_no (ws := ws) (j := j) (by rw [HL.out]; omega) hx)
        generalize ws.getD j 0 = x at ca1 bx ty tn
        have i0 : (0 : Int) ≤ (j : Int) := by omega
        have i1 : (j : Int) < (len : Int) := by omega
        clear hca ca e hc
        have hx : x % 5 = 0 ∨ x % 5 = 1 ∨ x % 5 = 2 ∨ x % 5 = 3 ∨ x % 5 = 4 := by omega
        have HT : Hid ((x % 5 ≤ 1 → tr (ws.drop j) = tr (ws.drop (j + 1))) ∧ (¬ x % 5 ≤ 1 → tr (ws.drop j) = false)) := ⟨fun h => (ty h).out, fun h => (tn h).out⟩
        clear ty tn
        rcases hv with rfl | ⟨T, y, rfl⟩
        · rcases hx with hx | hx | hx | hx | hx
          · have hR := chR_yes (ws := ws) (k := k0) (v := v0) (j := j) (HT.out.1 (by omega))
            have ST := fun cs t (hcs : cs[0]? = some _) => Lib.hid (HC.out.step cs t 52 _ _ (ext_52 HC.out.ext HC.out.if_ (by have := HC.out.hB; have := HC.out.lt; omega) HC.out.lt hcs))
            rw [← hR.1, ← hR.2] at ST
            clear hR HT
            go_wp2
            exact ⟨⟨j, _, by omega, rfl, (ST _ _ rfl).out⟩, by simp [intOf]⟩
          · have hR := chR_yes (ws := ws) (k := k0) (v := v0) (j := j) (HT.out.1 (by omega))
            have ST := fun cs t (hcs : cs[0]? = some _) => Lib.hid (HC.out.step cs t 56 _ _ (ext_56 HC.out.ext HC.out.if_ (by have := HC.out.hB; have := HC.out.lt; omega) HC.out.lt hcs))
            rw [← hR.1, ← hR.2] at ST
            clear hR HT
            go_wp2
            exact ⟨⟨j, _, by omega, rfl, (ST _ _ rfl).out⟩, by simp [intOf]⟩
          · have hR := chR_no (ws := ws) (k := k0) (v := v0) (j := j) (HT.out.2 (by omega))
            have ST := fun cs t => Lib.hid (HC.out.step cs t 59 (chR (ws.drop j) k0 v0) (chOk (ws.drop j) k0) (by rw [hR.1, hR.2]; exact fun w' _ => x_59 _ _))
            clear hR HT
            go_wp2
            exact ⟨⟨j, _, by omega, rfl, (ST _ _).out⟩, by simp [intOf]⟩
          · have hR := chR_no (ws := ws) (k := k0) (v := v0) (j := j) (HT.out.2 (by omega))
            have ST := fun cs t => Lib.hid (HC.out.step cs t 63 (chR (ws.drop j) k0 v0) (chOk (ws.drop j) k0) (by rw [hR.1, hR.2]; exact fun w' _ => x_63 _ _))
            clear hR HT
            go_wp2
            exact ⟨⟨j, _, by omega, rfl, (ST _ _).out⟩, by simp [intOf]⟩
          · have hR := chR_no (ws := ws) (k := k0) (v := v0) (j := j) (HT.out.2 (by omega))
            have ST := fun cs t => Lib.hid (HC.out.step cs t 66 (chR (ws.drop j) k0 v0) (chOk (ws.drop j) k0) (by rw [hR.1, hR.2]; exact fun w' _ => x_66 _ _))
            clear hR HT
            go_wp2
            exact ⟨⟨j, _, by omega, rfl, (ST _ _).out⟩, by simp [intOf]⟩
        · rcases hx with hx | hx | hx | hx | hx
          · have hR := chR_yes (ws := ws) (k := k0) (v := v0) (j := j) (HT.out.1 (by omega))
            have ST := fun cs t (hcs : cs[0]? = some _) => Lib.hid (HC.out.step cs t 52 _ _ (ext_52 HC.out.ext HC.out.if_ (by have := HC.out.hB; have := HC.out.lt; omega) HC.out.lt hcs))
            rw [← hR.1, ← hR.2] at ST
            clear hR HT
            go_wp2
            exact ⟨⟨j, _, by omega, rfl, (ST _ _ rfl).out⟩, by simp [intOf]⟩
          · have hR := chR_yes (ws := ws) (k := k0) (v := v0) (j := j) (HT.out.1 (by omega))
            have ST := fun cs t (hcs : cs[0]? = some _) => Lib.hid (HC.out.step cs t 56 _ _ (ext_56 HC.out.ext HC.out.if_ (by have := HC.out.hB; have := HC.out.lt; omega) HC.out.lt hcs))
            rw [← hR.1, ← hR.2] at ST
            clear hR HT
            go_wp2
            exact ⟨⟨j, _, by omega, rfl, (ST _ _ rfl).out⟩, by simp [intOf]⟩
          · have hR := chR_no (ws := ws) (k := k0) (v := v0) (j := j) (HT.out.2 (by omega))
            have ST := fun cs t => Lib.hid (HC.out.step cs t 59 (chR (ws.drop j) k0 v0) (chOk (ws.drop j) k0) (by rw [hR.1, hR.2]; exact fun w' _ => x_59 _ _))
            clear hR HT
            go_wp2
            exact ⟨⟨j, _, by omega, rfl, (ST _ _).out⟩, by simp [intOf]⟩
          · have hR := chR_no (ws := ws) (k := k0) (v := v0) (j := j) (HT.out.2 (by omega))
            have ST := fun cs t => Lib.hid (HC.out.step cs t 63 (chR (ws.drop j) k0 v0) (chOk (ws.drop j) k0) (by rw [hR.1, hR.2]; exact fun w' _ => x_63 _ _))
            clear hR HT
            go_wp2
            exact ⟨⟨j, _, by omega, rfl, (ST _ _).out⟩, by simp [intOf]⟩
          · have hR := chR_no (ws := ws) (k := k0) (v := v0) (j := j) (HT.out.2 (by omega))
            have ST := fun cs t => Lib.hid (HC.out.step cs t 66 (chR (ws.drop j) k0 v0) (chOk (ws.drop j) k0) (by rw [hR.1, hR.2]; exact fun w' _ => x_66 _ _))
            clear hR HT
            go_wp2
            exact ⟨⟨j, _, by omega, rfl, (ST _ _).out⟩, by simp [intOf]⟩
  · go_wp2
    go_loopw [10] (fun i wr => ∃ (k : Nat) (v : Value), k ≤ len ∧ i = .int .i64 ((k : Int) - 1) ∧ Ch w wr w1.heap.size v (chR (ws.drop k) k0 v0) (chOk (ws.drop k) k0)) (fun i _ => (intOf i + 1).toNat)
    case atStart =>
      refine ⟨len, .iface T0 y0, Nat.le_refl _, rfl, ?_⟩
      rw [List.drop_eq_nil_of_le (by rw [HL.out]; exact Nat.le_refl _)]
      exact start
    case round =>
      clear start
      obtain ⟨k, v, hk, rfl, hc⟩ := hrel
      have HC := Lib.hid hc
      have c0 := hc.c0
      have c1 := hc.c1
      have f0 := hc.f0
      have f1 := hc.f1
      have lt := hc.lt
      have hv := hc.if_
      cases k with
      | zero =>
        obtain ⟨u0, r0⟩ := hc.r0
        obtain ⟨u1, r1⟩ := hc.r1
        have g0 := hc.g0
        have g1 := hc.g1
        have q0 : ∀ v, (wr.setCell ⟨w.heap.size, 0, none⟩ v).cell? ⟨w.heap.size, 0, none⟩ = some v := fun v => World.cell?_setCell_same _ _ _ r0
        have q1 : ∀ v u, ((wr.setCell ⟨w.heap.size, 0, none⟩ v).setCell ⟨w.heap.size, 1, none⟩ u).cell? ⟨w.heap.size, 1, none⟩ = some u :=
          fun v u => World.cell?_setCell_same _ _ _ (u := u1) (by rw [World.cell?_setCell_other _ _ _ _ (by simp)]; exact r1)
        clear hc
        rcases hv with rfl | ⟨T, y, rfl⟩
        all_goals
          go_wp2
          refine bodyPost_ret (by simp [results, Try.results10, go_sem, q0, q1]) rfl ⟨_, w.heap.size + 1, w1.heap.size, rfl, HC.out.if_, ?_, ?_⟩
          · exact (HC.out.ext.later (((Keeps.refl _ _ _).setLow (by omega) _ _).setLow (by omega) _ _))
          · exact ((HC.out.below.setCell (Nat.le_refl _) _).setCell (Nat.le_refl _) _)
      | succ j =>
        have e : ((j + 1 : Nat) : Int) - 1 = (j : Int) := by omega
        simp only [e]
        obtain ⟨ba, oa, rfl, hba, hca⟩ := ints_cell HS.out (by omega)
        have ca := hca j (by omega)
        have ca1 : wr.cell? ⟨ba, oa + j, none⟩ = some (.int .u8 (ws.getD j 0)) := by rw [hc.below.cell (p := ⟨ba, oa + j, none⟩) hba]; exact ca
        have bx := u8_bd HS.out.2 j
        have ty := fun hx => Lib.hid (tr_yes (ws := ws) (j := j) (by rw [HL.out]; omega) hx)
        have tn := fun hx => Lib.hid (tr_no (ws := ws) (j := j) (by rw [HL.out]; omega) hx)
        generalize ws.getD j 0 = x at ca1 bx ty tn
        have i0 : (0 : Int) ≤ (j : Int) := by omega
        have i1 : (j : Int) < (len : Int) := by omega
        clear hca ca e hc
        have hx : x % 5 = 0 ∨ x % 5 = 1 ∨ x % 5 = 2 ∨ x % 5 = 3 ∨ x % 5 = 4 := by omega
        have HT : Hid ((x % 5 ≤ 1 → tr (ws.drop j) = tr (ws.drop (j + 1))) ∧ (¬ x % 5 ≤ 1 → tr (ws.drop j) = false)) := ⟨fun h => (ty h).out, fun h => (tn h).out⟩
        clear ty tn
        rcases hv with rfl | ⟨T, y, rfl⟩
        · rcases hx with hx | hx | hx | hx | hx
          · have hR := chR_yes (ws := ws) (k := k0) (v := v0) (j := j) (HT.out.1 (by omega))
            have ST := fun cs t (hcs : cs[0]? = some _) => Lib.hid (HC.out.step cs t 52 _ _ (ext_52 HC.out.ext HC.out.if_ (by have := HC.out.hB; have := HC.out.lt; omega) HC.out.lt hcs))
            rw [← hR.1, ← hR.2] at ST
            clear hR HT
            go_wp2
            exact ⟨⟨j, _, by omega, rfl, (ST _ _ rfl).out⟩, by simp [intOf]⟩
          · have hR := chR_yes (ws := ws) (k := k0) (v := v0) (j := j) (HT.out.1 (by omega))
            have ST := fun cs t (hcs : cs[0]? = some _) => Lib.hid (HC.out.step cs t 56 _ _ (ext_56 HC.out.ext HC.out.if_ (by have := HC.out.hB; have := HC.out.lt; omega) HC.out.lt hcs))
            rw [← hR.1, ← hR.2] at ST
            clear hR HT
            go_wp2
            exact ⟨⟨j, _, by omega, rfl, (ST _ _ rfl).out⟩, by simp [intOf]⟩
          · have hR := chR_no (ws := ws) (k := k0) (v := v0) (j := j) (HT.out.2 (by omega))
            have ST := fun cs t => Lib.hid (HC.out.step cs t 59 (chR (ws.drop j) k0 v0) (chOk (ws.drop j) k0) (by rw [hR.1, hR.2]; exact fun w' _ => x_59 _ _))
            clear hR HT
            go_wp2
            exact ⟨⟨j, _, by omega, rfl, (ST _ _).out⟩, by simp [intOf]⟩
          · have hR := chR_no (ws := ws) (k := k0) (v := v0) (j := j) (HT.out.2 (by omega))
            have ST := fun cs t => Lib.hid (HC.out.step cs t 63 (chR (ws.drop j) k0 v0) (chOk (ws.drop j) k0) (by rw [hR.1, hR.2]; exact fun w' _ => x_63 _ _))
            clear hR HT
            go_wp2
            exact ⟨⟨j, _, by omega, rfl, (ST _ _).out⟩, by simp [intOf]⟩
          · have hR := chR_no (ws := ws) (k := k0) (v := v0) (j := j) (HT.out.2 (by omega))
            have ST := fun cs t => Lib.hid (HC.out.step cs t 66 (chR (ws.drop j) k0 v0) (chOk (ws.drop j) k0) (by rw [hR.1, hR.2]; exact fun w' _ => x_66 _ _))
            clear hR HT
            go_wp2
            exact ⟨⟨j, _, by omega, rfl, (ST _ _).out⟩, by simp [intOf]⟩
        · rcases hx with hx | hx | hx | hx | hx
          · have hR := chR_yes (ws := ws) (k := k0) (v := v0) (j := j) (HT.out.1 (by omega))
            have ST := fun cs t (hcs : cs[0]? = some _) => Lib.hid (HC.out.step cs t 52 _ _ (ext_52 HC.out.ext HC.out.if_ (by have := HC.out.hB; have := HC.out.lt; omega) HC.out.lt hcs))
            rw [← hR.1, ← hR.2] at ST
            clear hR HT
            go_wp2
            exact ⟨⟨j, _, by omega, rfl, (ST _ _ rfl).out⟩, by simp [intOf]⟩
          · have hR := chR_yes (ws := ws) (k := k0) (v := v0) (j := j) (HT.out.1 (by omega))
            have ST := fun cs t (hcs : cs[0]? = some _) => Lib.hid (HC.out.step cs t 56 _ _ (ext_56 HC.out.ext HC.out.if_ (by have := HC.out.hB; have := HC.out.lt; omega) HC.out.lt hcs))
            rw [← hR.1, ← hR.2] at ST
            clear hR HT
            go_wp2
            exact ⟨⟨j, _, by omega, rfl, (ST _ _ rfl).out⟩, by simp [intOf]⟩
          · have hR := chR_no (ws := ws) (k := k0) (v := v0) (j := j) (HT.out.2 (by omega))
            have ST := fun cs t => Lib.hid (HC.out.step cs t 59 (chR (ws.drop j) k0 v0) (chOk (ws.drop j) k0) (by rw [hR.1, hR.2]; exact fun w' _ => x_59 _ _))
            clear hR HT
            go_wp2
            exact ⟨⟨j, _, by omega, rfl, (ST _ _).out⟩, by simp [intOf]⟩
          · have hR := chR_no (ws := ws) (k := k0) (v := v0) (j := j) (HT.out.2 (by omega))
            have ST := fun cs t => Lib.hid (HC.out.step cs t 63 (chR (ws.drop j) k0 v0) (chOk (ws.drop j) k0) (by rw [hR.1, hR.2]; exact fun w' _ => x_63 _ _))
            clear hR HT
            go_wp2
            exact ⟨⟨j, _, by omega, rfl, (ST _ _).out⟩, by simp [intOf]⟩
          · have hR := chR_no (ws := ws) (k := k0) (v := v0) (j := j) (HT.out.2 (by omega))
            have ST := fun cs t => Lib.hid (HC.out.step cs t 66 (chR (ws.drop j) k0 v0) (chOk (ws.drop j) k0) (by rw [hR.1, hR.2]; exact fun w' _ => x_66 _ _))
            clear hR HT
            go_wp2
            exact ⟨⟨j, _, by omega, rfl, (ST _ _).out⟩, by simp [intOf]⟩
end Go.Proofs.Ytnhjmhomkmfopaa
