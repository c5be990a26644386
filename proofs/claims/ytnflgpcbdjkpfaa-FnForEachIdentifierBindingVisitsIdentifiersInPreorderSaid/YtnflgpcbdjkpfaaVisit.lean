/-
  The callback and the visit of a tree. No condition.
-/
import Derived.Test.YtnflgpcbdjkpfaaTree
import Derived.Deep.RegionLaw
import Derived.Deep.DrawnRows
namespace Go.Proofs.Ytnflgpcbdjkpfaa
open Go.ChangeShapes Go.WideShapes Go.ChangeAt Go.RowKit
set_option linter.unusedVariables false
set_option linter.unusedSimpArgs false

theorem info21 : (Try.prog.info? 21).map (fun i => (i.zero, i.size, i.bytes)) = some (some (.int .i32 0), 1, 4) := by kernel_rfl
theorem info37 : (Try.prog.info? 37).map (fun i => (i.zero, i.size, i.bytes)) = some (some (.int .u32 0), 1, 4) := by kernel_rfl
/-- What the callback has collected. -/
structure Cb (base bl br : Nat) (L : List Nat) (v1 v2 : Value) (w : World) : Prop where
  b1 : Bk w bl 33 #[v1]
  b2 : Bk w br 34 #[v2]
  o1 : w.ownsRow base 21 1 v1 L.length (L.map fun p : Nat => Value.int .i32 (p : Int))
  o2 : w.ownsRow base 37 1 v2 L.length (L.map fun p : Nat => Value.int .u32 (p : Int))
  h1 : base ≤ bl
  h2 : base ≤ br
/-- The blocks that the callback writes. -/
def S4 (base : Nat) (w : World) (k : Nat) : Prop := ∃ cs t, w.heap[k]? = some (.cells cs t (0, 0)) ∧ (t = 33 ∨ t = 34 ∨ t = 21 ∨ t = 37) ∧ base ≤ k
theorem S4.trans {base : Nat} {w w1 w2 : World} (h : Fr (S4 base w) w w1) (k : Fr (S4 base w1) w1 w2) : Fr (S4 base w) w w2 :=
  ⟨k.os.trans h.os, k.tape.trans h.tape, k.output.trans h.output, Nat.le_trans h.size k.size, fun i hi hn => by
    have e := h.block i hi hn
    refine (k.block i (Nat.lt_of_lt_of_le hi h.size) ?_).trans e
    rintro ⟨cs, t, hh, ht, hb⟩
    exact hn ⟨cs, t, by rw [← e]; exact hh, ht, hb⟩⟩
theorem own_S4 {base e n : Nat} {v : Value} {xs : List Value} {w : World} (h : w.ownsRow base e 1 v n xs) (he : e = 33 ∨ e = 34 ∨ e = 21 ∨ e = 37) (k : Nat) (hk : v.ownBlock = some k) : S4 base w k := by
  obtain ⟨cs, hh⟩ := own_block h k hk
  exact ⟨cs, e, hh, he, (own_lt h k hk).1⟩
def Called (base bl br : Nat) (L l : List Nat) (w : World) (e : Ending) (w' : World) : Prop := e = .returned (.tuple #[]) ∧ ∃ v1 v2, Cb base bl br (L ++ l) v1 v2 w' ∧ Fr (S4 base w) w w'
theorem oneNewT (W : World) (v : Value) (T : TypeId) : ∀ j u, [v][j]? = some u → (W.alloc (.cells #[v] T)).cell? ((⟨W.heap.size, 0, none⟩ : Addr).add j) = some u := by
  intro j u hj
  have : j = 0 := by
    false_or_by_contra
    rename_i q
    rw [List.getElem?_eq_none (by simp; omega)] at hj
    cases hj
  subst this
  simp at hj
  subst hj
  rw [Addr.add_lit]
  simp [go_sem]
/-- The first half: locs. -/
theorem cb_one {base bl br g cap p : Nat} {L : List Nat} {v1 v2 : Value} {w w1 : World} {c : Array Value} (h : Cb base bl br L v1 v2 w) (hown : w1.ownsRow base 21 1 (.slice (some ⟨g, 0, none⟩) (L.length + 1) cap) (L.length + 1) ((L.map fun p : Nat => Value.int .i32 (p : Int)) ++ [.int .i32 (p : Int)]))
    (hg : ((w.alloc (.cells c 28)).alloc (.cells #[.int .i32 (p : Int)] 21)).grownBy w1 v1.ownBlock) :
    Bk w1 bl 33 #[v1] ∧ (∀ n cs, Bk w n 41 cs → Bk (w1.setCell ⟨bl, 0, none⟩ (.slice (some ⟨g, 0, none⟩) (L.length + 1) cap)) n 41 cs) ∧
    (let w2 := w1.setCell ⟨bl, 0, none⟩ (.slice (some ⟨g, 0, none⟩) (L.length + 1) cap)
     Bk w2 bl 33 #[.slice (some ⟨g, 0, none⟩) (L.length + 1) cap] ∧ Bk w2 br 34 #[v2] ∧ w2.ownsRow base 21 1 (.slice (some ⟨g, 0, none⟩) (L.length + 1) cap) (L.length + 1) ((L ++ [p]).map fun p : Nat => Value.int .i32 (p : Int)) ∧
     w2.ownsRow base 37 1 v2 L.length (L.map fun p : Nat => Value.int .u32 (p : Int)) ∧ Fr (S4 base w) w w2) := by
  have hf0 : Fr (fun k => v1.ownBlock = some k) w w1 := (((Fr.refl _ w).alloc _).alloc _).grown hg (fun k hk _ => hk)
  have k1 : Bk w1 bl 33 #[v1] := h.b1.fr hf0 (fun q => own_ne h.o1 h.b1 (by decide) q)
  have k2 : Bk w1 br 34 #[v2] := h.b2.fr hf0 (fun q => own_ne h.o1 h.b2 (by decide) q)
  have o2 : w1.ownsRow base 37 1 v2 L.length (L.map fun p : Nat => Value.int .u32 (p : Int)) := own_fr h.o2 hf0 (fun g hg q => own_own_ne h.o2 h.o1 (by decide) g hg q)
  have hfs : Fr (fun k => k = bl) w1 (w1.setCell ⟨bl, 0, none⟩ (.slice (some ⟨g, 0, none⟩) (L.length + 1) cap)) := (Fr.refl (fun k => k = bl) _).setCell (p := ⟨bl, 0, none⟩) (fun _ => rfl) _
  refine ⟨k1, fun n cs hn => ?_, k1.set 0 _, k2.fr hfs (fun q => ne_of_types k2 k1 (by decide) q), ?_, own_fr o2 hfs (by rintro g hg rfl; exact own_ne o2 k1 (by decide) hg), ?_⟩
  · have := hn.fr hf0 (fun q => own_ne h.o1 hn (by decide) q)
    exact this.fr hfs (fun q => ne_of_types this k1 (by decide) q)
  · have := own_fr hown hfs (by rintro g hg rfl; exact own_ne hown k1 (by decide) hg)
    simpa using this
  · refine (hf0.mono fun k hk q => own_S4 h.o1 (.inr (.inr (.inl rfl))) k q).trans' hfs fun i hi q => ?_
    subst q
    exact ⟨_, 33, h.b1, .inl rfl, h.h1⟩
theorem cb_two {base bl br g cap p : Nat} {L : List Nat} {v1 v2 : Value} {w w1 : World} (b1 : Bk w bl 33 #[v1]) (b2 : Bk w br 34 #[v2]) (o1 : w.ownsRow base 21 1 v1 (L.length + 1) ((L ++ [p]).map fun p : Nat => Value.int .i32 (p : Int))) (o2 : w.ownsRow base 37 1 v2 L.length (L.map fun p : Nat => Value.int .u32 (p : Int))) (h1 : base ≤ bl) (h2 : base ≤ br)
    (hown : w1.ownsRow base 37 1 (.slice (some ⟨g, 0, none⟩) (L.length + 1) cap) (L.length + 1) ((L.map fun p : Nat => Value.int .u32 (p : Int)) ++ [.int .u32 (p : Int)]))
    (hg : (w.alloc (.cells #[.int .u32 (p : Int)] 37)).drew.grownBy w1 v2.ownBlock) :
    Cb base bl br (L ++ [p]) v1 (.slice (some ⟨g, 0, none⟩) (L.length + 1) cap) (w1.setCell ⟨br, 0, none⟩ (.slice (some ⟨g, 0, none⟩) (L.length + 1) cap)) ∧ Fr (S4 base w) w (w1.setCell ⟨br, 0, none⟩ (.slice (some ⟨g, 0, none⟩) (L.length + 1) cap)) := by
  have hf0 : Fr (fun k => v2.ownBlock = some k) w w1 := (((Fr.refl _ w).alloc _).drew).grown hg (fun k hk _ => hk)
  have k1 : Bk w1 bl 33 #[v1] := b1.fr hf0 (fun q => own_ne o2 b1 (by decide) q)
  have k2 : Bk w1 br 34 #[v2] := b2.fr hf0 (fun q => own_ne o2 b2 (by decide) q)
  have o1' := own_fr o1 hf0 (fun g hg q => own_own_ne o1 o2 (by decide) g hg q)
  have hfs : Fr (fun k => k = br) w1 (w1.setCell ⟨br, 0, none⟩ (.slice (some ⟨g, 0, none⟩) (L.length + 1) cap)) := (Fr.refl (fun k => k = br) _).setCell (p := ⟨br, 0, none⟩) (fun _ => rfl) _
  refine ⟨⟨k1.fr hfs (fun q => ne_of_types k1 k2 (by decide) q), k2.set 0 _, ?_, ?_, h1, h2⟩, ?_⟩
  · have := own_fr o1' hfs (by rintro g hg rfl; exact own_ne o1' k2 (by decide) hg)
    simpa using this
  · have := own_fr hown hfs (by rintro g hg rfl; exact own_ne hown k2 (by decide) hg)
    simpa using this
  · refine (hf0.mono fun k hk q => own_S4 o2 (.inr (.inr (.inr rfl))) k q).trans' hfs fun i hi q => ?_
    subst q
    exact ⟨_, 34, b2, .inr (.inl rfl), h2⟩
set_option maxRecDepth 100000 in
set_option maxHeartbeats 4000000 in
theorem callback {base bl br n p : Nat} {L : List Nat} {v1 v2 : Value} {w : World} (h : Cb base bl br L v1 v2 w) (hn : Bk w n 41 #[.int .u32 0, .int .u32 p]) (hL : L.length ≤ 1048576) :
    Calls Try.prog 9 #[.agg #[.int .i32 (p : Int)], .pointer (some ⟨n, 0, none⟩), .pointer (some ⟨bl, 0, none⟩), .pointer (some ⟨br, 0, none⟩)] w (Called base bl br L [p] w) := by
  obtain ⟨i1, hi, hz0, hz1, hz2⟩ := info_parts info21
  have HI := Lib.hid hi
  have HZ0 := Lib.hid hz0
  have HZ1 := Lib.hid hz1
  have HZ2 := Lib.hid hz2
  clear hi hz0 hz1 hz2
  obtain ⟨i2, hi, hz0, hz1, hz2⟩ := info_parts info37
  have HJ := Lib.hid hi
  have HY0 := Lib.hid hz0
  have HY1 := Lib.hid hz1
  have HY2 := Lib.hid hz2
  clear hi hz0 hz1 hz2
  have c1 : w.cell? ⟨bl, 0, none⟩ = some v1 := h.b1.cell 0
  have l1 := h.b1.lt
  have hbs : base ≤ w.heap.size := Nat.le_trans h.h1 (Nat.le_of_lt l1)
  have HH := Lib.hid h
  have HN := Lib.hid hn
  clear h hn
  go_enter Try.func9, Try.ntmps9
  go_wp2_with (refine wpList_append_lies ((w.alloc (.cells #[.int .i32 (p : Int)] 28)).alloc (.cells #[.int .i32 (p : Int)] 21)) rfl (.tmp 6) (.tmp 9) 33 rfl base 21 i1 (.int .i32 0) 1 4 Try.underlying33 HI.out HZ0.out HZ1.out HZ2.out rfl (by decide) v1 L.length (L.map fun p : Nat => Value.int .i32 (p : Int)) rfl ((HH.out.o1.alloc _).alloc _) ⟨w.heap.size + 1, 0, none⟩ 1 1 [.int .i32 (p : Int)] rfl rfl (by have q := oneNewT (w.alloc (.cells #[.int .i32 (p : Int)] 28)) (.int .i32 (p : Int)) 21; rw [show (w.alloc (.cells #[.int .i32 (p : Int)] 28)).heap.size = w.heap.size + 1 by simp] at q; exact q) (by simp [Value.oneCell']) (by decide) (by unfold maxLen; omega) (by omega) (by simp; omega) (w.heap.size + 1 + 1) (by simp) ?_; intro g1 cap1 w1 hown1 hg1 _ _; obtain ⟨k1, kn, kk⟩ := cb_one HH.out hown1 hg1; have d1 := k1.cell 0; have f1 := k1.free 0; simp at d1; have KN := Lib.hid (kn n _ HN.out); have KK := Lib.hid kk; clear k1 kn kk hown1 hg1)
  generalize hW2 : w1.setCell ⟨bl, 0, none⟩ (.slice (some ⟨g1, 0, none⟩) (L.length + 1) cap1) = w2 at *
  obtain ⟨b1, b2, o1, o2, fr2⟩ := KK.out
  have KB1 := Lib.hid b1
  have KB2 := Lib.hid b2
  have KO1 := Lib.hid o1
  have KO2 := Lib.hid o2
  have KF := Lib.hid fr2
  have c2 : w2.cell? ⟨br, 0, none⟩ = some v2 := b2.cell 0
  have cn : w2.cell? ⟨n, 1, none⟩ = some (.int .u32 (p : Int)) := KN.out.cell 1
  have fB := b2.free 0
  have ag : v2.ownBlock ≠ some br := own_ne o2 b2 (by decide)
  have lB := b2.lt
  have hbs2 : base ≤ w2.heap.size := Nat.le_trans hbs fr2.size
  have hrs := HH.out.h1
  have hrs2 := HH.out.h2
  clear b1 b2 o1 fr2 KK hW2
  go_region_law (refine step_append_lies _ (by rfl) _ _ _ (by rfl) base 37 i2 _ 1 4 Try.underlying34 HJ.out HY0.out HY1.out HY2.out rfl (by omega) v2 L.length (L.map fun p : Nat => Value.int .u32 (p : Int)) (by simp [Act.eval, Act.put]) ((KO2.out.alloc _).drew) ⟨w2.heap.size, 0, none⟩ 1 1 [.int .u32 (p : Int)] (by simp [Act.eval, Act.put]) (by rfl) (World.news_of_block (cs := #[.int .u32 (p : Int)]) (t := 37) (fr := (0, 0)) (heap_alloc_new w2 _)) (by simp [Value.oneCell']) (by omega) (by unfold maxLen; omega) (by omega) (by simp; omega) (w2.heap.size + 1) (by simp) ?_; intro g2 cap2 w3 hown2 hgrow _ _; have q0 := (hgrow.cell_far ⟨br, 0, none⟩ (by simp; omega) (Ne.symm ag)).trans ((World.cell?_alloc_past (w := w2) _ br 0 lB).trans c2); have q1 := (hgrow.frozen_far ⟨br, 0, none⟩ (by simp; omega) (Ne.symm ag)).trans ((World.frozen?_alloc_past (w := w2) _ br 0 lB).trans fB))
  all_goals
    go_wp2
    go_end0
    obtain ⟨k1, k2⟩ := cb_two KB1.out KB2.out KO1.out KO2.out hrs hrs2 hown2 hgrow
    exact ⟨rfl, _, _, k1, S4.trans KF.out k2⟩
end Go.Proofs.Ytnflgpcbdjkpfaa
