/-
  The log: its blocks, NewDeferLog, newQuery. No condition.
-/
import Derived.Test.YtlgdojbojlbehaaFmtLk
import Derived.Laws.EntriesVeiled
namespace Go.Proofs.YtlgdojbojlbehaaFmt
open Go.ChangeShapes Go.WideShapes Go.ChangeAt Go.RowKit
set_option linter.unusedVariables false
/-- The log's closures over kind, messages, mutex and the flag. -/
def fAdd (K M X H : Nat) : Value := .func (.func 11) #[] #[.pointer (some ⟨K, 0, none⟩), .pointer (some ⟨X, 0, none⟩), .pointer (some ⟨H, 0, none⟩), .pointer (some ⟨M, 0, none⟩)]
def fHas (X H : Nat) : Value := .func (.func 14) #[] #[.pointer (some ⟨X, 0, none⟩), .pointer (some ⟨H, 0, none⟩)]
def fPeek (X M : Nat) : Value := .func (.func 15) #[] #[.pointer (some ⟨X, 0, none⟩), .pointer (some ⟨M, 0, none⟩)]
def fDone (X M : Nat) : Value := .func (.func 16) #[] #[.pointer (some ⟨X, 0, none⟩), .pointer (some ⟨M, 0, none⟩)]
/-- The log's blocks: no message yet, the mutex free. -/
structure Lg (base K M X H : Nat) (s : Int) (v : Value) (ms : List Value) (n : Nat) (w : World) : Prop where
  k : Bk w K 35 #[.int .u8 1]
  m : Bk w M 53 #[v]
  x : Bk w X 59 #[.int .i32 s, .int .u32 0]
  h : Bk w H 4 #[.bool false]
  own : w.ownsRow base 66 8 v n ms
  bk : base ≤ K
  bm : base ≤ M
  bx : base ≤ X
  bh : base ≤ H
theorem Bk.last (W : World) (t : TypeId) (cs : Array Value) (g : Nat) (hg : g = W.heap.size) : Bk (W.alloc (.cells cs t)) g t cs := by subst hg; exact Bk.mk W t cs
/-- What the log's blocks are made of. -/
def lgT (t : TypeId) : Prop := t = 35 ∨ t = 53 ∨ t = 59 ∨ t = 4 ∨ t = 66
theorem Lg.kept {base K M X H n : Nat} {s : Int} {v : Value} {ms : List Value} {w w' : World} (h : Lg base K M X H s v ms n w) {S : Nat → Prop} (hf : Fr S w w') (hS : ∀ b cs t fr, w.heap[b]? = some (.cells cs t fr) → base ≤ b → lgT t → ¬ S b) : Lg base K M X H s v ms n w' where
  k := h.k.fr hf (hS _ _ _ _ h.k h.bk (.inl rfl))
  m := h.m.fr hf (hS _ _ _ _ h.m h.bm (.inr (.inl rfl)))
  x := h.x.fr hf (hS _ _ _ _ h.x h.bx (.inr (.inr (.inl rfl))))
  h := h.h.fr hf (hS _ _ _ _ h.h h.bh (.inr (.inr (.inr (.inl rfl)))))
  own := own_fr h.own hf (fun g hg => by
    rcases h.own.2 with ⟨rfl, _⟩ | ⟨g', cap, cur, rfl, hb, hh, _⟩
    · simp [Value.ownBlock] at hg
    · have : g' = g := by simpa [Value.ownBlock] using hg
      subst this
      exact hS _ _ _ _ hh hb (.inr (.inr (.inr (.inr rfl)))))
  bk := h.bk
  bm := h.bm
  bx := h.bx
  bh := h.bh
theorem Lg.below {base K M X H n : Nat} {s : Int} {v : Value} {ms : List Value} {w w' : World} (h : Lg base K M X H s v ms n w) (hb : Below w.heap.size w w') : Lg base K M X H s v ms n w' :=
  h.kept (Fr.ofBelow hb) fun b cs t fr hh _ _ q => by have := (Array.getElem?_eq_some_iff.1 hh).1; omega
theorem Lg.mono {base base' K M X H n : Nat} {s : Int} {v : Value} {ms : List Value} {w : World} (h : Lg base K M X H s v ms n w) (hb : base' ≤ base) : Lg base' K M X H s v ms n w where
  k := h.k
  m := h.m
  x := h.x
  h := h.h
  own := own_mono h.own hb
  bk := Nat.le_trans hb h.bk
  bm := Nat.le_trans hb h.bm
  bx := Nat.le_trans hb h.bx
  bh := Nat.le_trans hb h.bh
theorem Lg.setX {base K M X H n : Nat} {s : Int} {v : Value} {ms : List Value} {w : World} (h : Lg base K M X H s v ms n w) (t : Int) : Lg base K M X H t v ms n (w.setCell ⟨X, 0, none⟩ (.int .i32 t)) where
  k := h.k.far (p := ⟨X, 0, none⟩) (ne_of_types (w := w) (t := 35) (t' := 59) h.k h.x (by decide)) _
  m := h.m.far (p := ⟨X, 0, none⟩) (ne_of_types (w := w) (t := 53) (t' := 59) h.m h.x (by decide)) _
  x := h.x.set 0 _
  h := h.h.far (p := ⟨X, 0, none⟩) (ne_of_types (w := w) (t := 4) (t' := 59) h.h h.x (by decide)) _
  own := own_fr h.own ((Fr.refl (fun k => k = X) _).setCell (p := ⟨X, 0, none⟩) (fun _ => rfl) _) (by rintro g hg rfl; exact own_ne h.own h.x (by decide) hg)
  bk := h.bk
  bm := h.bm
  bx := h.bx
  bh := h.bh
theorem Lg.start (w : World) (cs : Array Value) : Lg w.heap.size w.heap.size (w.heap.size + 1 + 1) (w.heap.size + 1 + 1 + 1) (w.heap.size + 1 + 1 + 1 + 1) 0 (.slice none 0 0) [] 0 (((((w.alloc (.cells #[.int .u8 1] 35)).alloc (.cells cs 33)).alloc (.cells #[.slice none 0 0] 53)).alloc (.cells #[.int .i32 0, .int .u32 0] 59)).alloc (.cells #[.bool false] 4)) := by
  have e : ∀ (W : World) (o : Obj), (W.alloc o).heap.size = W.heap.size + 1 := fun W o => by simp
  refine ⟨((((Bk.mk w 35 _).alloc _).alloc _).alloc _).alloc _, ?_, ?_, ?_, own_nil _ _ _ _, by omega, by omega, by omega, by omega⟩
  · have := ((Bk.mk ((w.alloc (.cells #[.int .u8 1] 35)).alloc (.cells cs 33)) 53 #[.slice none 0 0]).alloc (.cells #[.int .i32 0, .int .u32 0] 59)).alloc (.cells #[.bool false] 4)
    rwa [e, e] at this
  · have := (Bk.mk (((w.alloc (.cells #[.int .u8 1] 35)).alloc (.cells cs 33)).alloc (.cells #[.slice none 0 0] 53)) 59 #[.int .i32 0, .int .u32 0]).alloc (.cells #[.bool false] 4)
    rwa [e, e, e] at this
  · have := Bk.mk ((((w.alloc (.cells #[.int .u8 1] 35)).alloc (.cells cs 33)).alloc (.cells #[.slice none 0 0] 53)).alloc (.cells #[.int .i32 0, .int .u32 0] 59)) 4 #[.bool false]
    rwa [e, e, e, e] at this
set_option maxRecDepth 100000 in
set_option maxHeartbeats 4000000 in
theorem newDefer (w : World) : Calls Tryf.prog 7 #[.int .u8 1, .map none] w fun e w' => ∃ K M X H, e = .returned (.agg #[fAdd K M X H, fHas X H, fPeek X M, fDone X M, .int .i8 3, .map none]) ∧ Lg w.heap.size K M X H 0 (.slice none 0 0) [] 0 w' ∧ Below w.heap.size w w' := by
  have hc := fun cs => Lib.hid (Lg.start w cs)
  go_enter Tryf.func7, Tryf.ntmps7
  go_wp2
  refine bodyPost_ret (v := .agg #[fAdd w.heap.size (w.heap.size + 1 + 1) (w.heap.size + 1 + 1 + 1) (w.heap.size + 1 + 1 + 1 + 1), fHas (w.heap.size + 1 + 1 + 1) (w.heap.size + 1 + 1 + 1 + 1), fPeek (w.heap.size + 1 + 1 + 1) (w.heap.size + 1 + 1), fDone (w.heap.size + 1 + 1 + 1) (w.heap.size + 1 + 1), .int .i8 3, .map none]) (by simp [results, Tryf.results7, go_sem, fAdd, fHas, fPeek, fDone]) rfl ?_
  exact ⟨_, _, _, _, rfl, (hc _).out, by go_grown⟩
end Go.Proofs.YtlgdojbojlbehaaFmt
