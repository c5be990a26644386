/-
  Binding trees in memory, and the contract of zzBuildBinding. No condition.
-/
import Derived.Test.YtnflgpcbdjkpfaaPre
import Derived.Test.YtnflgpcbdjkpfaaFr
import Derived.Test.YtnflgpcbdjkpfaaProg
import Derived.WalkSmall
import Derived.Handy
import Derived.OwnWalk
import Derived.IntWalk
namespace Go.Proofs.Ytnflgpcbdjkpfaa
open Go.ChangeShapes Go.WideShapes Go.ChangeAt Go.RowKit
set_option linter.unusedVariables false
set_option linter.unusedSimpArgs false

theorem info60 : (Try.prog.info? 60).map (fun i => (i.zero, i.size, i.bytes)) = some (some (.agg #[.nilIface, .int .i32 0, .nilIface, .int .i32 0, .int .i32 0]), 5, 56) := by kernel_rfl
theorem info66 : (Try.prog.info? 66).map (fun i => (i.zero, i.size, i.bytes)) = some (some (.agg #[.nilIface, .int .i32 0, .nilIface, .int .i32 0, .nilIface, .int .i32 0, .int .i32 0, .int .i32 0, .bool false, .bool false, .bool false]), 11, 88) := by kernel_rfl
/-- A binding: its type, its node, its place. -/
structure Bd where
  T : TypeId
  q : Value
  p : Nat
def Bd.v (x : Bd) : Value := .agg #[.iface x.T x.q, .int .i32 x.p]
def itemA (x : Bd) : List Value := [.iface x.T x.q, .int .i32 x.p, .nilIface, .int .i32 0, .int .i32 x.p]
def itemO (x : Bd) : List Value := [.nilIface, .int .i32 0, .iface x.T x.q, .int .i32 x.p, .nilIface, .int .i32 0, .int .i32 x.p, .int .i32 0, .bool false, .bool false, .bool false]
/-- The tree at a binding, its identifiers in prefix order; all its blocks satisfy P. -/
inductive Tr (w : World) (P : Nat → Prop) : Bd → List Nat → Prop
  | miss (q : Value) (p : Nat) : Tr w P ⟨50, q, p⟩ []
  | id (n p : Nat) (h : Bk w n 41 #[.int .u32 0, .int .u32 p]) (hp : P n) : Tr w P ⟨36, .pointer (some ⟨n, 0, none⟩), p⟩ [p]
  | arr (n p base : Nat) (v : Value) (kids : List (Bd × List Nat)) (hl : kids.length ≤ 3) (h : Bk w n 63 #[v, .int .i32 0, .bool false, .bool false]) (hp : P n) (ho : w.ownsRow base 60 5 v kids.length (kids.flatMap fun k => itemA k.1)) (hv : ∀ g, v.ownBlock = some g → P g) (hk : ∀ k ∈ kids, Tr w P k.1 k.2) :
      Tr w P ⟨61, .pointer (some ⟨n, 0, none⟩), p⟩ (kids.flatMap (·.2))
  | obj (n p base : Nat) (v : Value) (kids : List (Bd × List Nat)) (hl : kids.length ≤ 3) (h : Bk w n 69 #[v, .int .i32 0, .bool false]) (hp : P n) (ho : w.ownsRow base 66 11 v kids.length (kids.flatMap fun k => itemO k.1)) (hv : ∀ g, v.ownBlock = some g → P g) (hk : ∀ k ∈ kids, Tr w P k.1 k.2) :
      Tr w P ⟨67, .pointer (some ⟨n, 0, none⟩), p⟩ (kids.flatMap (·.2))
/-- The blocks of a tree. -/
def TB (w : World) (b : Nat) : Prop := ∃ cs t, w.heap[b]? = some (.cells cs t (0, 0)) ∧ (t = 41 ∨ t = 63 ∨ t = 69 ∨ t = 60 ∨ t = 66)
theorem own_block {w : World} {base e size n : Nat} {v : Value} {xs : List Value} (h : w.ownsRow base e size v n xs) (g : Nat) (hg : v.ownBlock = some g) : ∃ cs, w.heap[g]? = some (.cells cs e (0, 0)) := by
  rcases h.2 with ⟨rfl, _⟩ | ⟨g', cap, cur, rfl, hb, hh, _⟩
  · simp [Value.ownBlock] at hg
  · have : g' = g := by simpa [Value.ownBlock] using hg
    subst this
    exact ⟨cur, hh⟩
theorem Tr.fr {w w' : World} {P Q S : Nat → Prop} (hf : Fr S w w') (hS : ∀ b, TB w b → P b → ¬ S b ∧ Q b) {x : Bd} {l : List Nat} (h : Tr w P x l) : Tr w' Q x l := by
  induction h with
  | miss q p => exact .miss q p
  | id n p h hp =>
    have k := hS _ ⟨_, 41, h, .inl rfl⟩ hp
    exact .id n p (h.fr hf k.1) k.2
  | arr n p base v kids hl h hp ho hv hk ih =>
    have k := hS _ ⟨_, 63, h, .inr (.inl rfl)⟩ hp
    have kv : ∀ g, v.ownBlock = some g → ¬ S g ∧ Q g := fun g hg => by
      obtain ⟨cs, hh⟩ := own_block ho g hg
      exact hS g ⟨cs, 60, hh, .inr (.inr (.inr (.inl rfl)))⟩ (hv g hg)
    exact .arr n p base v kids hl (h.fr hf k.1) k.2 (own_fr ho hf fun g hg => (kv g hg).1) (fun g hg => (kv g hg).2) ih
  | obj n p base v kids hl h hp ho hv hk ih =>
    have k := hS _ ⟨_, 69, h, .inr (.inr (.inl rfl))⟩ hp
    have kv : ∀ g, v.ownBlock = some g → ¬ S g ∧ Q g := fun g hg => by
      obtain ⟨cs, hh⟩ := own_block ho g hg
      exact hS g ⟨cs, 66, hh, .inr (.inr (.inr (.inr rfl)))⟩ (hv g hg)
    exact .obj n p base v kids hl (h.fr hf k.1) k.2 (own_fr ho hf fun g hg => (kv g hg).1) (fun g hg => (kv g hg).2) ih
theorem TB.lt {w : World} {b : Nat} (h : TB w b) : b < w.heap.size := by
  obtain ⟨cs, t, hh, _⟩ := h
  exact (Array.getElem?_eq_some_iff.1 hh).1
theorem Tr.later {w w' : World} {P Q : Nat → Prop} {x : Bd} {l : List Nat} (h : Tr w P x l) (hb : Below w.heap.size w w') (hQ : ∀ b, b < w.heap.size → P b → Q b) : Tr w' Q x l :=
  h.fr (Fr.ofBelow hb) fun b hT hP => ⟨by have := hT.lt; omega, hQ b hT.lt hP⟩
theorem Tr.mono {w : World} {P Q : Nat → Prop} {x : Bd} {l : List Nat} (h : Tr w P x l) (hQ : ∀ b, b < w.heap.size → P b → Q b) : Tr w Q x l := h.later (Below.refl _ _) hQ

/-- What a slice of bytes reads as, in every later world. -/
structure Code (w : World) (a : Option Addr) (n : Nat) (code : Nat → Nat) : Prop where
  at_ : 0 < n → ∃ b off, a = some ⟨b, off, none⟩ ∧ b < w.heap.size ∧ ∀ i, i < n → w.cell? ⟨b, off + i, none⟩ = some (.int .u8 (code i : Int))
  lt : ∀ i, i < n → code i < 256
theorem Code.below {w w' : World} {a : Option Addr} {n : Nat} {code : Nat → Nat} (h : Code w a n code) (hb : Below w.heap.size w w') : Code w' a n code :=
  ⟨fun h0 => by obtain ⟨b, off, e, hlt, hc⟩ := h.at_ h0; exact ⟨b, off, e, Nat.lt_of_lt_of_le hlt hb.size, fun i hi => (hb.cell (p := ⟨b, off + i, none⟩) hlt).trans (hc i hi)⟩, h.lt⟩
set_option maxRecDepth 100000 in
theorem arity (b : Nat) (hb : b < 256) (w : World) : Calls Try.prog 14 #[.int .u8 (b : Int)] w fun e w' => e = .returned (.int .i64 ((ar b : Nat) : Int)) ∧ w = w' := by
  by_cases h : 2 ≤ b % 4
  · have e : ar b = (b / 4) % 4 := by unfold ar; rw [if_pos h]
    have h1 : (2 : Int) ≤ (b : Int) % 4 := by omega
    go_enter Try.func14, Try.ntmps14
    go_wp2
    go_ret
    exact ⟨by rw [e]; first | rfl | (simp; done) | (congr 2; omega), rfl⟩
  · have e : ar b = 0 := by unfold ar; rw [if_neg h]
    have h1 : ¬ (2 : Int) ≤ (b : Int) % 4 := by omega
    go_enter Try.func14, Try.ntmps14
    go_wp2
    go_ret
    exact ⟨rfl, rfl⟩
/-! ### The loop over the children -/
/-- What the loop has made so far: the children's row, their trees; the result's cell and the place stand as they were. -/
structure LS (E sz : Nat) (item : Bd → List Value) (w wr : World) (pos : Nat) (kids : List (Bd × List Nat)) (v : Value) : Prop where
  below : Below w.heap.size w wr
  own : wr.ownsRow w.heap.size E sz v kids.length (kids.flatMap fun k => item k.1)
  tr : ∀ k ∈ kids, Tr wr (fun b => w.heap.size ≤ b ∧ v.ownBlock ≠ some b) k.1 k.2
  res : Bk wr w.heap.size 30 #[.nilIface, .int .i32 0]
  loc : Bk wr (w.heap.size + 1) 28 #[.int .i32 pos]
theorem LS.later {E sz : Nat} {item : Bd → List Value} {w wr w1 : World} {pos : Nat} {kids : List (Bd × List Nat)} {v : Value} (h : LS E sz item w wr pos kids v) (hb : Below wr.heap.size wr w1) : LS E sz item w w1 pos kids v where
  below := h.below.trans (hb.mono h.below.size)
  own := own_fr h.own (Fr.ofBelow hb) fun g hg => by have := (own_lt h.own g hg).2; omega
  tr := fun k hk => (h.tr k hk).later hb fun _ _ q => q
  res := h.res.below hb h.res.lt
  loc := h.loc.below hb h.loc.lt
theorem LS.start (E sz : Nat) (item : Bd → List Value) (w : World) (pos : Nat) : LS E sz item w ((w.alloc (.cells #[.nilIface, .int .i32 0] 30)).alloc (.cells #[.int .i32 pos] 28)) pos [] (.slice none 0 0) where
  below := ((Below.refl _ w).alloc (Nat.le_refl _) _).alloc (by simp) _
  own := own_nil _ _ _ _
  tr := by simp
  res := (Bk.mk w 30 _).alloc _
  loc := by
    have := Bk.mk (w.alloc (.cells #[.nilIface, .int .i32 0] 30)) 28 #[.int .i32 pos]
    rwa [show (w.alloc (.cells #[.nilIface, .int .i32 0] 30)).heap.size = w.heap.size + 1 by simp] at this
theorem LS.step {E sz : Nat} {item : Bd → List Value} {w wr w1 w4 : World} {pos : Nat} {kids : List (Bd × List Nat)} {v : Value} {g cap : Nat} {c1 c2 : Array Value} (h : LS E sz item w wr pos kids v) (hb : Below wr.heap.size wr w1) {x : Bd} {l : List Nat} (hx : Tr w1 (fun b => wr.heap.size ≤ b) x l) (hE : E = 60 ∨ E = 66)
    (hown : w4.ownsRow w.heap.size E sz (.slice (some ⟨g, 0, none⟩) (kids.length + 1) cap) (kids.length + 1) ((kids.flatMap fun k => item k.1) ++ item x)) (hg : ((w1.alloc (.cells c1 30)).alloc (.cells c2 E)).grownBy w4 v.ownBlock) (hat : v.ownBlock = some g ∨ g = w1.heap.size + 1 + 1) :
    LS E sz item w w4 pos (kids ++ [(x, l)]) (.slice (some ⟨g, 0, none⟩) (kids.length + 1) cap) := by
  have hb2 : Below w1.heap.size w1 ((w1.alloc (.cells c1 30)).alloc (.cells c2 E)) := ((Below.refl _ w1).alloc (Nat.le_refl _) _).alloc (by simp) _
  have h1 := h.later hb
  have h2 := h1.later hb2
  have hx2 : Tr ((w1.alloc (.cells c1 30)).alloc (.cells c2 E)) (fun b => wr.heap.size ≤ b ∧ b < w1.heap.size) x l := hx.later hb2 fun b hlt q => ⟨q, hlt⟩
  have hf : Fr (fun k => v.ownBlock = some k) ((w1.alloc (.cells c1 30)).alloc (.cells c2 E)) w4 := (Fr.refl _ _).grown hg (fun k hk _ => hk)
  have hvl : ∀ k, v.ownBlock = some k → k < wr.heap.size := fun k hk => (own_lt h.own k hk).2
  have hsz : w.heap.size ≤ wr.heap.size := h.below.size
  refine ⟨h2.below.grown hg h2.below.size (fun k hk => (own_lt h.own k hk).1), by simpa using hown, ?_, h2.res.fr hf (fun q => own_ne h2.own h2.res (by rcases hE with rfl | rfl <;> decide) q), h2.loc.fr hf (fun q => own_ne h2.own h2.loc (by rcases hE with rfl | rfl <;> decide) q)⟩
  intro k hk
  rcases List.mem_append.1 hk with hk | hk
  · have hk1 : Tr ((w1.alloc (.cells c1 30)).alloc (.cells c2 E)) (fun b => (w.heap.size ≤ b ∧ v.ownBlock ≠ some b) ∧ b < w1.heap.size) k.1 k.2 := (h1.tr k hk).later hb2 fun b hlt q => ⟨q, hlt⟩
    refine hk1.fr hf fun b _ ⟨⟨q1, q2⟩, q3⟩ => ⟨q2, q1, fun e => ?_⟩
    have e' : g = b := by simpa [Value.ownBlock] using e
    rcases hat with q | q
    · exact q2 (by rw [q, e'])
    · omega
  · rw [List.mem_singleton.1 hk]
    refine hx2.fr hf fun b _ ⟨q1, q2⟩ => ⟨fun q => by have := hvl b q; omega, by omega, fun e => ?_⟩
    have e' : g = b := by simpa [Value.ownBlock] using e
    rcases hat with q | q
    · have := hvl g q; omega
    · omega
end Go.Proofs.Ytnflgpcbdjkpfaa
