/-
  The log: its blocks, NewDeferLog, newQuery. No condition.
-/
import Derived.Test.YteamfcjfoihehaaGreatDoorLk
import Derived.Laws.EntriesVeiled
namespace Go.Proofs.YteamfcjfoihehaaGreatDoor
open Go.ChangeShapes Go.WideShapes Go.ChangeAt Go.RowKit
set_option linter.unusedVariables false
/-- The log's closures over kind, messages, mutex and the flag. -/
def fAdd (K M X H : Nat) : Value := .func (.func 19) #[] #[.pointer (some ⟨K, 0, none⟩), .pointer (some ⟨X, 0, none⟩), .pointer (some ⟨H, 0, none⟩), .pointer (some ⟨M, 0, none⟩)]
def fHas (X H : Nat) : Value := .func (.func 22) #[] #[.pointer (some ⟨X, 0, none⟩), .pointer (some ⟨H, 0, none⟩)]
def fPeek (X M : Nat) : Value := .func (.func 23) #[] #[.pointer (some ⟨X, 0, none⟩), .pointer (some ⟨M, 0, none⟩)]
def fDone (X M : Nat) : Value := .func (.func 24) #[] #[.pointer (some ⟨X, 0, none⟩), .pointer (some ⟨M, 0, none⟩)]
/-- The log's blocks: no message yet, the mutex free. -/
structure Lg (base K M X H : Nat) (s : Int) (v : Value) (ms : List Value) (n : Nat) (w : World) : Prop where
  k : Bk w K 61 #[.int .u8 0]
  m : Bk w M 134 #[v]
  x : Bk w X 129 #[.int .i32 s, .int .u32 0]
  h : Bk w H 4 #[.bool false]
  own : w.ownsRow base 48 8 v n ms
  bk : base ≤ K
  bm : base ≤ M
  bx : base ≤ X
  bh : base ≤ H
theorem Bk.last (W : World) (t : TypeId) (cs : Array Value) (g : Nat) (hg : g = W.heap.size) : Bk (W.alloc (.cells cs t)) g t cs := by subst hg; exact Bk.mk W t cs
/-- What the log's blocks are made of. -/
def lgT (t : TypeId) : Prop := t = 61 ∨ t = 134 ∨ t = 129 ∨ t = 4 ∨ t = 48
theorem Lg.kept {base K M X H n : Nat} {s : Int} {v : Value} {ms : List Value} {w w' : World} (h : Lg base K M X H s v ms n w) {S : Nat → Prop} (hf : Fr S w w') (hS : ∀ b cs t fr, w.heap[b]? = some (.cells cs t fr) → base ≤ b → lgT t → ¬ S b) : Lg base K M X H s v ms n w' where
  k := h.k.fr hf (hS _ _ _ _ h.k h.bk (.inl rfl))
  m := h.m.fr hf (hS _ _ _ _ h.m h.bm (.inr (.inl rfl)))
  x := h.x.fr hf (hS _ _ _ _ h.x h.bx (.inr (.inr (.inl rfl))))
  h := h.h.fr hf (hS _ _ _ _ h.h h.bh (.inr (.inr (.inr (.inl rfl)))))
  own := own_fr h.own hf (fun g hg => by
    rcases h.own.2 with ⟨rfl, _⟩ | ⟨g', cap, cur, rfl, hb, hh, _⟩
    · simp [Value.ownBlock] at hg
    · have : g' = g := by simpa [Value.ownBlock] using hg
      subst this
      exact hS _ _ _ _ hh hb (.inr (.inr (.inr (.inr rfl)))))
  bk := h.bk
  bm := h.bm
  bx := h.bx
  bh := h.bh
theorem Lg.below {base K M X H n : Nat} {s : Int} {v : Value} {ms : List Value} {w w' : World} (h : Lg base K M X H s v ms n w) (hb : Below w.heap.size w w') : Lg base K M X H s v ms n w' :=
  h.kept (Fr.ofBelow hb) fun b cs t fr hh _ _ q => by have := (Array.getElem?_eq_some_iff.1 hh).1; omega
theorem Lg.mono {base base' K M X H n : Nat} {s : Int} {v : Value} {ms : List Value} {w : World} (h : Lg base K M X H s v ms n w) (hb : base' ≤ base) : Lg base' K M X H s v ms n w where
  k := h.k
  m := h.m
  x := h.x
  h := h.h
  own := own_mono h.own hb
  bk := Nat.le_trans hb h.bk
  bm := Nat.le_trans hb h.bm
  bx := Nat.le_trans hb h.bx
  bh := Nat.le_trans hb h.bh
theorem Lg.setX {base K M X H n : Nat} {s : Int} {v : Value} {ms : List Value} {w : World} (h : Lg base K M X H s v ms n w) (t : Int) : Lg base K M X H t v ms n (w.setCell ⟨X, 0, none⟩ (.int .i32 t)) where
  k := h.k.far (p := ⟨X, 0, none⟩) (ne_of_types (w := w) (t := 61) (t' := 129) h.k h.x (by decide)) _
  m := h.m.far (p := ⟨X, 0, none⟩) (ne_of_types (w := w) (t := 134) (t' := 129) h.m h.x (by decide)) _
  x := h.x.set 0 _
  h := h.h.far (p := ⟨X, 0, none⟩) (ne_of_types (w := w) (t := 4) (t' := 129) h.h h.x (by decide)) _
  own := own_fr h.own ((Fr.refl (fun k => k = X) _).setCell (p := ⟨X, 0, none⟩) (fun _ => rfl) _) (by rintro g hg rfl; exact own_ne h.own h.x (by decide) hg)
  bk := h.bk
  bm := h.bm
  bx := h.bx
  bh := h.bh
theorem Lg.start (w : World) (cs : Array Value) : Lg w.heap.size w.heap.size (w.heap.size + 1 + 1) (w.heap.size + 1 + 1 + 1) (w.heap.size + 1 + 1 + 1 + 1) 0 (.slice none 0 0) [] 0 (((((w.alloc (.cells #[.int .u8 0] 61)).alloc (.cells cs 59)).alloc (.cells #[.slice none 0 0] 134)).alloc (.cells #[.int .i32 0, .int .u32 0] 129)).alloc (.cells #[.bool false] 4)) := by
  have e : ∀ (W : World) (o : Obj), (W.alloc o).heap.size = W.heap.size + 1 := fun W o => by simp
  refine ⟨((((Bk.mk w 61 _).alloc _).alloc _).alloc _).alloc _, ?_, ?_, ?_, own_nil _ _ _ _, by omega, by omega, by omega, by omega⟩
  · have := ((Bk.mk ((w.alloc (.cells #[.int .u8 0] 61)).alloc (.cells cs 59)) 134 #[.slice none 0 0]).alloc (.cells #[.int .i32 0, .int .u32 0] 129)).alloc (.cells #[.bool false] 4)
    rwa [e, e] at this
  · have := (Bk.mk (((w.alloc (.cells #[.int .u8 0] 61)).alloc (.cells cs 59)).alloc (.cells #[.slice none 0 0] 134)) 129 #[.int .i32 0, .int .u32 0]).alloc (.cells #[.bool false] 4)
    rwa [e, e, e] at this
  · have := Bk.mk ((((w.alloc (.cells #[.int .u8 0] 61)).alloc (.cells cs 59)).alloc (.cells #[.slice none 0 0] 134)).alloc (.cells #[.int .i32 0, .int .u32 0] 129)) 4 #[.bool false]
    rwa [e, e, e, e] at this
set_option maxRecDepth 100000 in
set_option maxHeartbeats 4000000 in
theorem newDefer (w : World) : Calls Tryz.prog 17 #[.int .u8 0, .map none] w fun e w' => ∃ K M X H, e = .returned (.agg #[fAdd K M X H, fHas X H, fPeek X M, fDone X M, .int .i8 3, .map none]) ∧ Lg w.heap.size K M X H 0 (.slice none 0 0) [] 0 w' ∧ Below w.heap.size w w' := by
  have hc := fun cs => Lib.hid (Lg.start w cs)
  go_enter Tryz.func17, Tryz.ntmps17
  go_wp2
  refine bodyPost_ret (v := .agg #[fAdd w.heap.size (w.heap.size + 1 + 1) (w.heap.size + 1 + 1 + 1) (w.heap.size + 1 + 1 + 1 + 1), fHas (w.heap.size + 1 + 1 + 1) (w.heap.size + 1 + 1 + 1 + 1), fPeek (w.heap.size + 1 + 1 + 1) (w.heap.size + 1 + 1), fDone (w.heap.size + 1 + 1 + 1) (w.heap.size + 1 + 1), .int .i8 3, .map none]) (by simp [results, Tryz.results17, go_sem, fAdd, fHas, fPeek, fDone]) rfl ?_
  exact ⟨_, _, _, _, rfl, (hc _).out, by go_grown⟩
/-- The log's function table as it lies in the resolver's block. -/
def logCells (K M X H : Nat) (lvl : Int) : List Value := [fAdd K M X H, fHas X H, fPeek X M, fDone X M, .int .i8 lvl, .map none]
def Rs (R K M X H : Nat) (lvl : Int) (w : World) : Prop :=
  ∃ cs, Bk w R 131 cs ∧ cs[1]? = some (fAdd K M X H) ∧ cs[1 + 1]? = some (fHas X H) ∧ cs[1 + 2]? = some (fPeek X M) ∧ cs[1 + 3]? = some (fDone X M) ∧ cs[1 + 4]? = some (.int .i8 lvl) ∧ cs[1 + 5]? = some (.map none)
set_option maxRecDepth 100000 in
set_option maxHeartbeats 4000000 in
theorem newQ (lvl : Int) (Bd : Nat) (w : World) : Calls Tryz.prog 9 #[.int .i8 lvl, .pointer (some ⟨Bd, 0, none⟩)] w fun e w' => ∃ R K M X H, e = .returned (.agg #[.pointer (some ⟨R, 0, none⟩), .pointer none, .pointer (some ⟨Bd, 0, none⟩), .int .u8 0]) ∧ w.heap.size ≤ R ∧ Rs R K M X H lvl w' ∧ Lg w.heap.size K M X H 0 (.slice none 0 0) [] 0 w' ∧ Below w.heap.size w w' := by
  go_enter Tryz.func9, Tryz.ntmps9
  go_wp2_with fail
  refine (newDefer _).mono ?_
  rintro _ w1 ⟨K, M, X, H, rfl, hL, hb⟩
  unfold fAdd fHas fPeek fDone
  have hbk := (Bk.mk w 33 #[.pointer none, .pointer none, .pointer none, .int .u8 0]).below hb (by simp)
  have c0 : w1.cell? ⟨w.heap.size, 0, none⟩ = some (.pointer none) := hbk.cell 0
  have c1 : w1.cell? ⟨w.heap.size, 1, none⟩ = some (.pointer none) := hbk.cell 1
  have c2 : w1.cell? ⟨w.heap.size, 2, none⟩ = some (.pointer none) := hbk.cell 2
  have c3 : w1.cell? ⟨w.heap.size, 3, none⟩ = some (.int .u8 0) := hbk.cell 3
  have f0 := hbk.free 0
  have f1 := hbk.free 1
  have f2 := hbk.free 2
  have f3 := hbk.free 3
  have l0 := hbk.lt
  have l1 : w.heap.size < w1.heap.size + 1 := by omega
  have l2 : w.heap.size < w1.heap.size + 1 + 1 := by omega
  have HL := Lib.hid hL
  have HB := Lib.hid hb
  clear hL hb hbk
  go_wp2_with fail
  refine bodyPost_ret (v := .agg #[.pointer (some ⟨w1.heap.size + 1, 0, none⟩), .pointer none, .pointer (some ⟨Bd, 0, none⟩), .int .u8 0]) (by simp [results, Tryz.results9, go_sem, World.cell?_setCell_other, World.cell?_setCell_same _ _ _ c0, World.cell?_setCell_same _ _ _ c1, World.cell?_setCell_same _ _ _ c2, World.cell?_setCell_same _ _ _ c3, c0, c1, c2, c3, l0, l1, l2]) rfl ?_
  refine ⟨w1.heap.size + 1, K, M, X, H, rfl, by omega, ?_, ?_, ?_⟩
  · refine ⟨_, Bk.last _ 131 _ _ (by simp), ?_⟩
    have hz : Tryz.zeroCells131.size = 121 := by kernel_rfl
    simp [Array.getElem?_setIfInBounds, hz, fAdd, fHas, fPeek, fDone]
  · refine ((((HL.out.kept (((((Fr.refl (fun k => k = w.heap.size) w1).setCell (p := ⟨w.heap.size, 0, none⟩) (fun _ => rfl) _).setCell (p := ⟨w.heap.size, 1, none⟩) (fun _ => rfl) _).setCell (p := ⟨w.heap.size, 2, none⟩) (fun _ => rfl) _).setCell (p := ⟨w.heap.size, 3, none⟩) (fun _ => rfl) _) ?_).below (((Below.refl _ _).alloc (Nat.le_refl _) _))).below (((Below.refl _ _).alloc (Nat.le_refl _) _))).mono (by simp))
    intro b cs t fr _ hb _ e
    simp at hb
    omega
  · have h1 : Below w.heap.size w w1 := ((Below.refl _ w).alloc (Nat.le_refl _) _).trans (HB.out.mono (by simp))
    go_grown
end Go.Proofs.YteamfcjfoihehaaGreatDoor
