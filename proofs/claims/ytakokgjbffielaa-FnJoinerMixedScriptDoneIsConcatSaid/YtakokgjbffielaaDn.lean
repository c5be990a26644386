/-
  The Joiner's state as a list of entries over the joined text, and the contract of Done. No condition.
-/
import Derived.Test.YtakokgjbffielaaJn
import Derived.Laws.CopyOwn
import Derived.Lib.BufferWrite
import Derived.LoopTactic
import Derived.Deep.QuietTactic
import Derived.BigQuiet
namespace Go.Proofs.Ytakokgjbffielaa
open Go.ChangeShapes Go.WideShapes Go.ChangeAt Go.RowKit
set_option linter.unusedVariables false

def bl (s : ByteArray) : List Int := s.data.toList.map fun c => (c.toNat : Int)
theorem bl_len (s : ByteArray) : (bl s).length = s.size := by simp [bl]
theorem bl_cells (s : ByteArray) : Lib.byteCells s.data.toList = (bl s).map (Value.int .u8) := by simp [bl, Lib.byteCells, Function.comp_def]
/-- The text zs stands in C from place off on. -/
def Fit (C : List Int) (off : Nat) (zs : List Int) : Prop := off + zs.length ≤ C.length ∧ ∀ i, i < zs.length → C.getD (off + i) 0 = zs.getD i 0
theorem Fit.more {C : List Int} {off : Nat} {zs : List Int} (h : Fit C off zs) (ys : List Int) : Fit (C ++ ys) off zs := by
  refine ⟨by have := h.1; simp; omega, fun i hi => ?_⟩
  rw [← h.2 i hi]
  have := h.1
  simp [List.getD_eq_getElem?_getD, List.getElem?_append_left (show off + i < C.length by omega)]
theorem Fit.last (C ys : List Int) : Fit (C ++ ys) C.length ys := by
  refine ⟨by simp, fun i hi => ?_⟩
  simp [List.getD_eq_getElem?_getD, List.getElem?_append_right]
def Okay (C : List Int) (buf : List Value) (P : Nat → Prop) : Prop := buf.length = C.length ∧ ∀ i, i < C.length → P i → buf[i]? = some (.int .u8 (C.getD i 0))
theorem Okay.splice {C : List Int} {buf : List Value} {P : Nat → Prop} (h : Okay C buf P) {off : Nat} {zs : List Int} (hf : Fit C off zs) (P' : Nat → Prop) (hP : ∀ i, P' i → P i ∨ (off ≤ i ∧ i < off + zs.length)) :
    Okay C (splice buf off (zs.map (Value.int .u8))) P' := by
  obtain ⟨h1, h2⟩ := h
  obtain ⟨f1, f2⟩ := hf
  refine ⟨by rw [length_splice _ _ _ (by simp; omega)]; exact h1, fun i hi hp => ?_⟩
  unfold Go.splice
  by_cases ha : i < off
  · rw [List.getElem?_append_left (by simp; omega), List.getElem?_take_of_lt ha]
    rcases hP i hp with q | q
    · exact h2 i hi q
    · omega
  · rw [List.getElem?_append_right (by simp; omega)]
    simp only [List.length_take, Nat.min_eq_left (show off ≤ buf.length by omega)]
    by_cases hb : i < off + zs.length
    · rw [List.getElem?_append_left (by simp; omega)]
      have := f2 (i - off) (by omega)
      rw [show off + (i - off) = i by omega] at this
      rw [this]
      simp [List.getD_eq_getElem?_getD, List.getElem?_eq_getElem (show i - off < zs.length by omega)]
    · rw [List.getElem?_append_right (by simp; omega)]
      simp only [List.length_map, List.getElem?_drop]
      rw [show off + zs.length + (i - off - zs.length) = i by omega]
      rcases hP i hp with q | q
      · exact h2 i hi q
      · omega
theorem flat2 {α : Type} (f g : α → Value) : ∀ (l : List α) (k : Nat) (h : k < l.length), (l.flatMap fun e => [f e, g e])[k * 2]? = some (f l[k]) ∧ (l.flatMap fun e => [f e, g e])[k * 2 + 1]? = some (g l[k])
  | [], k, h => by simp at h
  | x :: l, 0, h => by simp
  | x :: l, k + 1, h => by
    have := flat2 f g l k (by simpa using h)
    have e1 : ((x :: l).flatMap fun e => [f e, g e]) = f x :: g x :: (l.flatMap fun e => [f e, g e]) := by simp
    rw [e1]
    rw [show (k + 1) * 2 = k * 2 + 1 + 1 by omega]
    simpa using this
theorem flat2_len {α : Type} (f g : α → Value) (l : List α) : (l.flatMap fun e => [f e, g e]).length = l.length * 2 := by
  induction l with
  | nil => rfl
  | cons x l ih => simp [ih]; omega

/-- What a slice of bytes reads as; it lies below block D, in a row of bytes. -/
def Rd (w : World) (D : Nat) (a : Option Addr) (len : Nat) (zs : List Int) : Prop :=
  zs.length = len ∧ (0 < len → ∃ b off, a = some ⟨b, off, none⟩ ∧ b < D ∧ (∃ cs fr, w.heap[b]? = some (.cells cs 5 fr)) ∧ ∀ i, i < len → w.cell? ⟨b, off + i, none⟩ = some (.int .u8 (zs.getD i 0)))
theorem Rd.kept {w w' : World} {D : Nat} {a : Option Addr} {len : Nat} {zs : List Int} (h : Rd w D a len zs) (hk : ∀ b cs fr, b < D → w.heap[b]? = some (.cells cs 5 fr) → w'.heap[b]? = w.heap[b]?) : Rd w' D a len zs := by
  refine ⟨h.1, fun h0 => ?_⟩
  obtain ⟨b, off, e, hb, ⟨cs, fr, hh⟩, hc⟩ := h.2 h0
  have hq := hk b cs fr hb hh
  exact ⟨b, off, e, hb, ⟨cs, fr, hq.trans hh⟩, fun i hi => (World.cell?_of_block (a := ⟨b, off + i, none⟩) hq).trans (hc i hi)⟩
theorem Rd.more {w : World} {D D' : Nat} {a : Option Addr} {len : Nat} {zs : List Int} (h : Rd w D a len zs) (hD : D ≤ D') : Rd w D' a len zs := by
  refine ⟨h.1, fun h0 => ?_⟩
  obtain ⟨b, off, e, hb, rest⟩ := h.2 h0
  exact ⟨b, off, e, by omega, rest⟩

/-- An entry of bytes. -/
structure BE where
  a : Option Addr
  len : Nat
  cap : Nat
  off : Nat
  zs : List Int

structure JS (base B D : Nat) (C : List Int) (ss : List (ByteArray × Nat)) (bs : List BE) (v1 v2 : Value) (lb : Nat) (w : World) : Prop where
  blk : Bk w B 30 #[v1, v2, .int .u32 (C.length : Int), .int .u8 lb]
  own1 : w.ownsRow base 52 2 v1 ss.length (ss.flatMap fun e => [.string e.1, .int .u32 e.2])
  own2 : w.ownsRow base 50 2 v2 bs.length (bs.flatMap fun e => [.slice e.a e.len e.cap, .int .u32 e.off])
  hb : base ≤ B
  last : 0 < C.length → (lb : Int) = C.getD (C.length - 1) 0
  fit1 : ∀ e ∈ ss, Fit C e.2 (bl e.1)
  fit2 : ∀ e ∈ bs, Fit C e.off e.zs ∧ Rd w D e.a e.len e.zs
  cover : ∀ i, i < C.length → (∃ e ∈ ss, e.2 ≤ i ∧ i < e.2 + e.1.size) ∨ (∃ e ∈ bs, e.off ≤ i ∧ i < e.off + e.len)

theorem JS.start (w : World) (D : Nat) : JS w.heap.size w.heap.size D [] [] [] (.slice none 0 0) (.slice none 0 0) 0 (w.alloc (.cells #[.slice none 0 0, .slice none 0 0, .int .u32 0, .int .u8 0] 30)) where
  blk := Bk.mk w 30 _
  own1 := own_nil _ _ _ _
  own2 := own_nil _ _ _ _
  hb := Nat.le_refl _
  last := by simp
  fit1 := by simp
  fit2 := by simp
  cover := by simp
/-- The state stands where its own blocks and the data stand. -/
theorem JS.kept {base B D : Nat} {C : List Int} {ss : List (ByteArray × Nat)} {bs : List BE} {v1 v2 : Value} {lb : Nat} {w w' : World} (h : JS base B D C ss bs v1 v2 lb w) {S : Nat → Prop} (hf : Fr S w w')
    (hS : ∀ b cs t fr, w.heap[b]? = some (.cells cs t fr) → t = 30 ∨ t = 50 ∨ t = 52 ∨ (t = 5 ∧ b < D) → ¬ S b) : JS base B D C ss bs v1 v2 lb w' where
  blk := h.blk.fr hf (hS B _ _ _ h.blk (.inl rfl))
  own1 := own_fr h.own1 hf (fun g hg => by
    rcases h.own1.2 with ⟨rfl, _⟩ | ⟨g', cap, cur, rfl, _, hh, _⟩
    · simp [Value.ownBlock] at hg
    · have : g' = g := by simpa [Value.ownBlock] using hg
      subst this
      exact hS _ _ _ _ hh (.inr (.inr (.inl rfl))))
  own2 := own_fr h.own2 hf (fun g hg => by
    rcases h.own2.2 with ⟨rfl, _⟩ | ⟨g', cap, cur, rfl, _, hh, _⟩
    · simp [Value.ownBlock] at hg
    · have : g' = g := by simpa [Value.ownBlock] using hg
      subst this
      exact hS _ _ _ _ hh (.inr (.inl rfl)))
  hb := h.hb
  last := h.last
  fit1 := h.fit1
  fit2 := fun e he => ⟨(h.fit2 e he).1, (h.fit2 e he).2.kept fun b cs fr hb hh => hf.block b (Array.getElem?_eq_some_iff.1 hh).1 (hS b cs 5 fr hh (.inr (.inr (.inr ⟨rfl, hb⟩))))⟩
  cover := h.cover
theorem JS.more {base B D D' : Nat} {C : List Int} {ss : List (ByteArray × Nat)} {bs : List BE} {v1 v2 : Value} {lb : Nat} {w : World} (h : JS base B D C ss bs v1 v2 lb w) (hD : D ≤ D') : JS base B D' C ss bs v1 v2 lb w :=
  { h with fit2 := fun e he => ⟨(h.fit2 e he).1, (h.fit2 e he).2.more hD⟩ }
theorem lastOf (C ys : List Int) (h : 0 < ys.length) : (C ++ ys).getD ((C ++ ys).length - 1) 0 = ys.getD (ys.length - 1) 0 := by
  simp only [List.length_append, List.getD_eq_getElem?_getD]
  rw [List.getElem?_append_right (by omega)]
  congr 2; omega

/-- The Joiner's own blocks. -/
def Own3 (base : Nat) (w : World) (k : Nat) : Prop := ∃ cs t, w.heap[k]? = some (.cells cs t (0, 0)) ∧ (t = 30 ∨ t = 50 ∨ t = 52) ∧ base ≤ k
theorem own_own3 {base e size n : Nat} {v : Value} {xs : List Value} {w : World} (h : w.ownsRow base e size v n xs) (he : e = 30 ∨ e = 50 ∨ e = 52) (k : Nat) (hk : v.ownBlock = some k) : Own3 base w k := by
  rcases h.2 with ⟨rfl, _⟩ | ⟨g', cap, cur, rfl, hb, hh, _⟩
  · simp [Value.ownBlock] at hk
  · have : g' = k := by simpa [Value.ownBlock] using hk
    subst this
    exact ⟨cur, e, hh, he, hb⟩
def JAddS (base B D : Nat) (C : List Int) (ss : List (ByteArray × Nat)) (bs : List BE) (v2 : Value) (s : ByteArray) (w : World) (e : Ending) (w' : World) : Prop :=
  e = .returned (.tuple #[]) ∧ ∃ v1 lb, JS base B D (C ++ bl s) (ss ++ [(s, C.length)]) bs v1 v2 lb w' ∧ Fr (Own3 base w) w w'
def JAddB (base B D : Nat) (C : List Int) (ss : List (ByteArray × Nat)) (bs : List BE) (v1 : Value) (a : Option Addr) (len cap : Nat) (zs : List Int) (w : World) (e : Ending) (w' : World) : Prop :=
  e = .returned (.tuple #[]) ∧ ∃ v2 lb, JS base B D (C ++ zs) ss (bs ++ [⟨a, len, cap, C.length, zs⟩]) v1 v2 lb w' ∧ Fr (Own3 base w) w w'
theorem getD_bl (s : ByteArray) (i : Nat) (h : i < s.size) : (bl s).getD i 0 = (s[i].toNat : Int) := by
  have h' : i < s.data.toList.length := by simpa using h
  simp only [bl, List.getD_eq_getElem?_getD, List.getElem?_map, List.getElem?_eq_getElem h']
  rfl
theorem JS.addS {base B D : Nat} {C : List Int} {ss : List (ByteArray × Nat)} {bs : List BE} {v1 v2 : Value} {lb : Nat} {w : World} (h : JS base B D C ss bs v1 v2 lb w) (hn : ss.length ≤ 1048576) (s : ByteArray) (hs : s.size ≤ 1048576) (hC : C.length ≤ 16777216) :
    Calls Try.prog 18 #[.pointer (some ⟨B, 0, none⟩), .string s] w (JAddS base B D C ss bs v2 s w) := by
  refine (Ytakokgjbffielaa.addS base B v1 v2 ss.length C.length lb _ s w h.blk h.own1 (Nat.le_trans h.hb (Nat.le_of_lt h.blk.lt)) hn hs hC).mono ?_
  rintro e w' ⟨rfl, g, cap, lb', hblk, hown, hl0, hl1, hfr⟩
  have hfr' : Fr (Own3 base w) w w' := hfr.mono fun k hk hS => by
    rcases hS with rfl | hS
    · exact ⟨_, 30, h.blk, .inl rfl, h.hb⟩
    · exact own_own3 h.own1 (.inr (.inr rfl)) k hS
  have hfit2 : ∀ e ∈ bs, Fit (C ++ bl s) e.off e.zs ∧ Rd w' D e.a e.len e.zs := fun e he => ⟨(h.fit2 e he).1.more _, (h.fit2 e he).2.kept fun b cs fr hb hh => hfr.block b (Array.getElem?_eq_some_iff.1 hh).1 (by
    rintro (rfl | q)
    · exact ne_of_types h.blk hh (by decide) rfl
    · exact own_ne h.own1 hh (by decide) q)⟩
  refine ⟨rfl, .slice (some ⟨g, 0, none⟩) (ss.length + 1) cap, lb', { blk := ?_, own1 := ?_, own2 := ?_, hb := h.hb, last := ?_, fit1 := ?_, fit2 := hfit2, cover := ?_ }, hfr'⟩
  · simpa [bl_len] using hblk
  · simpa using hown
  · refine own_fr h.own2 hfr ?_
    rintro g hg (rfl | q)
    · exact own_ne h.own2 h.blk (by decide) hg
    · exact own_own_ne h.own2 h.own1 (by decide) g hg q
  · intro hpos
    by_cases h0 : 0 < s.size
    · rw [lastOf _ _ (by rw [bl_len]; exact h0), bl_len, getD_bl s _ (by omega), hl1 h0]
    · have e0 : bl s = [] := List.eq_nil_of_length_eq_zero (by rw [bl_len]; omega)
      rw [e0, List.append_nil] at hpos ⊢
      rw [hl0 (by omega)]; exact h.last hpos
  · intro e he
    rcases List.mem_append.1 he with q | q
    · exact (h.fit1 e q).more _
    · rw [List.mem_singleton.1 q]; exact Fit.last C (bl s)
  · intro i hi
    by_cases hi' : i < C.length
    · rcases h.cover i hi' with ⟨e, he, q⟩ | q
      · exact .inl ⟨e, List.mem_append_left _ he, q⟩
      · exact .inr q
    · exact .inl ⟨(s, C.length), by simp, by simp; omega, by simp [bl_len] at hi ⊢; omega⟩
theorem JS.addB {base B D : Nat} {C : List Int} {ss : List (ByteArray × Nat)} {bs : List BE} {v1 v2 : Value} {lb : Nat} {w : World} (h : JS base B D C ss bs v1 v2 lb w) (hn : bs.length ≤ 1048576) (a : Option Addr) (len cap : Nat) (zs : List Int) (hz : Rd w D a len zs) (hw : ∀ z ∈ zs, ∃ n : Nat, z = n) (hs : len ≤ 1048576) (hC : C.length ≤ 16777216) :
    Calls Try.prog 19 #[.pointer (some ⟨B, 0, none⟩), .slice a len cap] w (JAddB base B D C ss bs v1 a len cap zs w) := by
  have hlast : ∃ last : Nat, 0 < len → (last : Int) = zs.getD (len - 1) 0 := by
    by_cases h0 : 0 < len
    · have hm : zs.getD (len - 1) 0 ∈ zs := by
        have := hz.1
        rw [List.getD_eq_getElem?_getD, List.getElem?_eq_getElem (show len - 1 < zs.length by omega)]; simp
      obtain ⟨n, hn⟩ := hw _ hm
      exact ⟨n, fun _ => hn.symm⟩
    · exact ⟨0, fun q => absurd q h0⟩
  obtain ⟨last, hlast⟩ := hlast
  refine (Ytakokgjbffielaa.addB base B v1 v2 bs.length C.length lb _ a len cap last w h.blk h.own2 (Nat.le_trans h.hb (Nat.le_of_lt h.blk.lt)) hn hs (fun h0 => ?_) hC).mono ?_
  · obtain ⟨b, off, e, _, _, hc⟩ := hz.2 h0
    exact ⟨b, off, e, by rw [hc (len - 1) (by omega), hlast h0]⟩
  rintro e w' ⟨rfl, g, cap', lb', hblk, hown, hl0, hl1, hfr⟩
  have hfr' : Fr (Own3 base w) w w' := hfr.mono fun k hk hS => by
    rcases hS with rfl | hS
    · exact ⟨_, 30, h.blk, .inl rfl, h.hb⟩
    · exact own_own3 h.own2 (.inr (.inl rfl)) k hS
  have hrd : ∀ {a : Option Addr} {len : Nat} {zs : List Int}, Rd w D a len zs → Rd w' D a len zs := fun q => q.kept fun b cs fr hb hh => hfr.block b (Array.getElem?_eq_some_iff.1 hh).1 (by
    rintro (rfl | q)
    · exact ne_of_types h.blk hh (by decide) rfl
    · exact own_ne h.own2 hh (by decide) q)
  refine ⟨rfl, .slice (some ⟨g, 0, none⟩) (bs.length + 1) cap', lb', { blk := ?_, own1 := ?_, own2 := ?_, hb := h.hb, last := ?_, fit1 := fun e he => (h.fit1 e he).more _, fit2 := ?_, cover := ?_ }, hfr'⟩
  · simpa [hz.1] using hblk
  · refine own_fr h.own1 hfr ?_
    rintro g hg (rfl | q)
    · exact own_ne h.own1 h.blk (by decide) hg
    · exact own_own_ne h.own1 h.own2 (by decide) g hg q
  · simpa using hown
  · intro hpos
    by_cases h0 : 0 < len
    · rw [lastOf _ _ (by rw [hz.1]; exact h0), hz.1, hl1 h0, hlast h0]
    · have e0 : zs = [] := List.eq_nil_of_length_eq_zero (by rw [hz.1]; omega)
      subst e0
      rw [List.append_nil] at hpos ⊢
      rw [hl0 (by omega)]; exact h.last hpos
  · intro e he
    rcases List.mem_append.1 he with q | q
    · exact ⟨(h.fit2 e q).1.more _, hrd (h.fit2 e q).2⟩
    · rw [List.mem_singleton.1 q]; exact ⟨Fit.last C zs, hrd hz⟩
  · intro i hi
    by_cases hi' : i < C.length
    · rcases h.cover i hi' with q | ⟨e, he, q⟩
      · exact .inl q
      · exact .inr ⟨e, List.mem_append_left _ he, q⟩
    · exact .inr ⟨⟨a, len, cap, C.length, zs⟩, by simp, by simp; omega, by simp [hz.1] at hi ⊢; omega⟩
end Go.Proofs.Ytakokgjbffielaa
