/-
  Contracts of the debug notes: newDebugLogs, increaseIndent, addNote. No condition.
-/
import Derived.Test.YteamfcjfoihehaaGreatDoorNr
import Derived.Test.YteamfcjfoihehaaGreatDoorStr
import Derived.Test.YteamfcjfoihehaaGreatDoorProg
import Derived.WalkSmall
import Derived.Handy
import Derived.OwnWalk
import Derived.Laws.Concat
namespace Go.Proofs.YteamfcjfoihehaaGreatDoor
open Go.ChangeShapes Go.WideShapes Go.ChangeAt Go.RowKit
set_option linter.unusedVariables false

theorem info45 : (Tryz.prog.info? 45).map (fun i => (i.zero, i.size, i.bytes)) = some (some (.agg #[.nilIface, .pointer none, .string ByteArray.empty, .bool false]), 4, 48) := by kernel_rfl
/-- A note's four cells. -/
def note (s : ByteArray) : List Value := [.nilIface, .pointer none, .string s, .bool true]
structure Db (base Bd : Nat) (what ind : ByteArray) (ns : List ByteArray) (v : Value) (w : World) : Prop where
  blk : Bk w Bd 52 #[.string what, .string ind, v]
  own : w.ownsRow base 45 4 v ns.length (ns.flatMap note)
  hb : base ≤ Bd
theorem flat4 : ∀ (l : List ByteArray) (k : Nat) (h : k < l.length), (l.flatMap note)[k * 4]? = some .nilIface ∧ (l.flatMap note)[k * 4 + 1]? = some (.pointer none) ∧ (l.flatMap note)[k * 4 + 2]? = some (.string l[k]) ∧ (l.flatMap note)[k * 4 + 3]? = some (.bool true)
  | [], k, h => by simp at h
  | x :: l, 0, h => by simp [note]
  | x :: l, k + 1, h => by
    have := flat4 l k (by simpa using h)
    have e1 : ((x :: l).flatMap note) = .nilIface :: .pointer none :: .string x :: .bool true :: (l.flatMap note) := by simp [note]
    rw [e1, show (k + 1) * 4 = k * 4 + 1 + 1 + 1 + 1 by omega]
    refine ⟨?_, ?_, ?_, ?_⟩ <;> simp [show k * 4 + 1 + 1 + 1 + 1 + 1 = k * 4 + 1 + 1 + 1 + 1 + 1 by rfl]
    · exact this.1
    · exact this.2.1
    · exact this.2.2.1
    · exact this.2.2.2
theorem Db.at {base Bd : Nat} {what ind : ByteArray} {ns : List ByteArray} {v : Value} {w : World} (h : Db base Bd what ind ns v w) (k : Nat) (hk : k < ns.length) :
    ∃ g cap, v = .slice (some ⟨g, 0, none⟩) ns.length cap ∧ g < w.heap.size ∧ w.cell? ⟨g, k * 4, none⟩ = some .nilIface ∧ w.cell? ⟨g, k * 4 + 1, none⟩ = some (.pointer none) ∧ w.cell? ⟨g, k * 4 + 2, none⟩ = some (.string ns[k]) ∧ w.cell? ⟨g, k * 4 + 3, none⟩ = some (.bool true) := by
  obtain ⟨g, cap, rfl, _, hlt⟩ := h.own.form (by omega)
  obtain ⟨q0, q1, q2, q3⟩ := flat4 ns k hk
  exact ⟨g, cap, rfl, hlt, by rw [h.own.cellAt _ (by omega), q0], by rw [h.own.cellAt _ (by omega), q1], by rw [h.own.cellAt _ (by omega), q2], by rw [h.own.cellAt _ (by omega), q3]⟩
/-- The state stands where its own blocks stand. -/
theorem Db.kept {base Bd : Nat} {what ind : ByteArray} {ns : List ByteArray} {v : Value} {w w' : World} (h : Db base Bd what ind ns v w) {S : Nat → Prop} (hf : Fr S w w') (hS : ∀ b cs t fr, w.heap[b]? = some (.cells cs t fr) → t = 52 ∨ t = 45 → ¬ S b) : Db base Bd what ind ns v w' where
  blk := h.blk.fr hf (hS Bd _ _ _ h.blk (.inl rfl))
  own := own_fr h.own hf (fun g hg => by
    rcases h.own.2 with ⟨rfl, _⟩ | ⟨g', cap, cur, rfl, _, hh, _⟩
    · simp [Value.ownBlock] at hg
    · have : g' = g := by simpa [Value.ownBlock] using hg
      subst this
      exact hS _ _ _ _ hh (.inr rfl))
  hb := h.hb
theorem Db.below {base Bd : Nat} {what ind : ByteArray} {ns : List ByteArray} {v : Value} {w w' : World} (h : Db base Bd what ind ns v w) (hb : Below w.heap.size w w') : Db base Bd what ind ns v w' :=
  h.kept (Fr.ofBelow hb) fun b cs t fr hh _ q => by have := (Array.getElem?_eq_some_iff.1 hh).1; omega
theorem newsN (w : World) (s : ByteArray) : ∀ j u, (note s)[j]? = some u → (w.alloc (.cells (note s).toArray 45)).cell? ((⟨w.heap.size, 0, none⟩ : Addr).add j) = some u := World.news_of_block (cs := (note s).toArray) (t := 45) (fr := (0, 0)) (heap_alloc_new w _)
theorem oneN (s : ByteArray) : ∀ u ∈ note s, u.oneCell' = true := by simp [note, Value.oneCell']
def Noted (base Bd : Nat) (what ind : ByteArray) (ns : List ByteArray) (v : Value) (s : ByteArray) (w : World) (e : Ending) (w' : World) : Prop :=
  e = .returned (.tuple #[]) ∧ ∃ v', Db base Bd what ind (ns ++ [ind ++ s]) v' w' ∧ Below base w w' ∧ Fr (fun k => k = Bd ∨ v.ownBlock = some k) w w'
theorem Db.end {base Bd cap gg : Nat} {what ind t : ByteArray} {ns : List ByteArray} {v : Value} {w w1 : World} (h : Db base Bd what ind ns v w) (hown1 : w1.ownsRow base 45 4 (.slice (some ⟨gg, 0, none⟩) (ns.length + 1) cap) (ns.length + 1) (ns.flatMap note ++ note t))
    (hgrow : (w.alloc (.cells (note t).toArray 45)).grownBy w1 v.ownBlock) :
    Db base Bd what ind (ns ++ [t]) (.slice (some ⟨gg, 0, none⟩) (ns.length + 1) cap) (w1.setCell ⟨Bd, 2, none⟩ (.slice (some ⟨gg, 0, none⟩) (ns.length + 1) cap)) ∧ Below base w (w1.setCell ⟨Bd, 2, none⟩ (.slice (some ⟨gg, 0, none⟩) (ns.length + 1) cap)) ∧ Fr (fun k => k = Bd ∨ v.ownBlock = some k) w (w1.setCell ⟨Bd, 2, none⟩ (.slice (some ⟨gg, 0, none⟩) (ns.length + 1) cap)) := by
  have ag : v.ownBlock ≠ some Bd := own_ne h.own h.blk (by decide)
  have h1 : Bk w1 Bd 52 #[.string what, .string ind, v] := (h.blk.alloc _).grown hgrow (Ne.symm ag)
  have hbB : base ≤ w.heap.size := Nat.le_trans h.hb (Nat.le_of_lt h.blk.lt)
  refine ⟨⟨h1.set 2 _, ?_, h.hb⟩, ?_, (((Fr.refl _ w).alloc _).grown hgrow (fun k hk _ => .inr hk)).setCell (p := ⟨Bd, 2, none⟩) (fun _ => .inl rfl) _⟩
  · have := own_fr hown1 ((Fr.refl (fun k => k = Bd) _).setCell (p := ⟨Bd, 2, none⟩) (fun _ => rfl) (.slice (some ⟨gg, 0, none⟩) (ns.length + 1) cap)) (by rintro g hg rfl; exact own_ne hown1 h1 (by decide) hg)
    simpa using this
  · exact ((((Below.refl base w).alloc hbB _).grown hgrow (by simp; omega) (fun k hk => (own_lt h.own k hk).1)).setCell h.hb _)
set_option maxRecDepth 100000 in
set_option maxHeartbeats 2000000 in
theorem addNote {base Bd : Nat} {what ind : ByteArray} {ns : List ByteArray} {v : Value} {w : World} (h : Db base Bd what ind ns v w) (s : ByteArray) (hn : ns.length ≤ 65536) (hi : ind.size ≤ 1048576) (hs : s.size ≤ 1048576) :
    Calls Tryz.prog 16 #[.pointer (some ⟨Bd, 0, none⟩), .string s] w (Noted base Bd what ind ns v s w) := by
  have c1 : w.cell? ⟨Bd, 1, none⟩ = some (.string ind) := h.blk.cell 1
  have c2 : w.cell? ⟨Bd, 2, none⟩ = some v := h.blk.cell 2
  have fB := h.blk.free 2
  have lB := h.blk.lt
  have hbB : base ≤ w.heap.size := Nat.le_trans h.hb (Nat.le_of_lt lB)
  have ag : v.ownBlock ≠ some Bd := own_ne h.own h.blk (by decide)
  obtain ⟨i0, hi0, hz0, hz1, hz2⟩ := info_parts info45
  have HI := Lib.hid hi0
  have HZ0 := Lib.hid hz0
  have HZ1 := Lib.hid hz1
  have HZ2 := Lib.hid hz2
  have H := Lib.hid h
  clear hi0 hz0 hz1 hz2 h
  have b1 : ns.length + 1 ≤ maxLen := by unfold maxLen; omega
  have b2 : (ns.length + 1) * 48 ≤ 140737488355328 := by omega
  have b3 : ∀ o, base ≤ (w.alloc o).heap.size := fun o => by simp; omega
  have b4 : ∀ o, (w.alloc o).heap.size = w.heap.size + 1 := fun o => by simp
  have hadd := fun W : World => run_string_add (P := Tryz.prog) W ind s (by omega) (by omega)
  by_cases h0 : ind.size = 0
  · obtain rfl : ind = ⟨#[]⟩ := by
      obtain ⟨d⟩ := ind
      have : d = #[] := Array.eq_empty_of_size_eq_zero h0
      rw [this]
    have HQ : Hid ((⟨#[]⟩ : ByteArray) ++ s = s) := by show _ = _; apply ByteArray.ext; simp
    clear hadd h0
    go_enter Tryz.func16, Tryz.ntmps16
    go_wp2_with (at_builtin; (refine wpList_append_lies (w.alloc (.cells (note s).toArray 45)) rfl (.tmp 19) (.tmp 22) 42 rfl base 45 i0 (.agg #[.nilIface, .pointer none, .string ByteArray.empty, .bool false]) 4 48 Tryz.underlying42 HI.out HZ0.out HZ1.out HZ2.out rfl (by omega) v ns.length (ns.flatMap note) rfl (H.out.own.alloc _) ⟨w.heap.size, 0, none⟩ 1 1 (note s) rfl rfl (newsN w s) (oneN s) (by decide) b1 b2 (b3 _) (w.heap.size + 1) (b4 _) ?_; intro gg cap w1 hown1 hgrow hat hlt; have q0 := (hgrow.cell_far ⟨Bd, 2, none⟩ (by simp; omega) (Ne.symm ag)).trans ((World.cell?_alloc_past (w := w) _ Bd 2 lB).trans c2); have q1 := (hgrow.frozen_far ⟨Bd, 2, none⟩ (by simp; omega) (Ne.symm ag)).trans ((World.frozen?_alloc_past (w := w) _ Bd 2 lB).trans fB); have HE := Lib.hid (H.out.end hown1 hgrow); clear hown1 hgrow))
    go_end0
    exact ⟨rfl, _, by rw [HQ.out]; exact HE.out.1, HE.out.2⟩
  · have t1 : ind.toList.isEmpty = false := by
      rw [ByteArray.toList_eq]
      cases hq : ind.data.toList with
      | nil => exfalso; apply h0; show ind.data.size = 0; rw [← Array.length_toList, hq]; rfl
      | cons a l => rfl
    have t2 : ¬ ind.toList = [] := by intro q; rw [q] at t1; cases t1
    go_enter Tryz.func16, Tryz.ntmps16
    go_wp2_with (at_builtin; (refine wpList_append_lies (w.alloc (.cells (note (ind ++ s)).toArray 45)) rfl (.tmp 19) (.tmp 22) 42 rfl base 45 i0 (.agg #[.nilIface, .pointer none, .string ByteArray.empty, .bool false]) 4 48 Tryz.underlying42 HI.out HZ0.out HZ1.out HZ2.out rfl (by omega) v ns.length (ns.flatMap note) rfl (H.out.own.alloc _) ⟨w.heap.size, 0, none⟩ 1 1 (note (ind ++ s)) rfl rfl (newsN w (ind ++ s)) (oneN (ind ++ s)) (by decide) b1 b2 (b3 _) (w.heap.size + 1) (b4 _) ?_; intro gg cap w1 hown1 hgrow hat hlt; have q0 := (hgrow.cell_far ⟨Bd, 2, none⟩ (by simp; omega) (Ne.symm ag)).trans ((World.cell?_alloc_past (w := w) _ Bd 2 lB).trans c2); have q1 := (hgrow.frozen_far ⟨Bd, 2, none⟩ (by simp; omega) (Ne.symm ag)).trans ((World.frozen?_alloc_past (w := w) _ Bd 2 lB).trans fB); have HE := Lib.hid (H.out.end hown1 hgrow); clear hown1 hgrow))
    go_end0
    exact ⟨rfl, _, HE.out.1, HE.out.2⟩
theorem addNoteZ {base Bd : Nat} {what ind : ByteArray} {ns : List ByteArray} {v : Value} {w : World} (h : Db base Bd what ind ns v w) (s : ByteArray) (hn : ns.length ≤ 65536) (hi : ind.size ≤ 1048576) (hs : s.size ≤ 1048576) :
    Calls Tryz.prog 8 #[.pointer (some ⟨Bd, 0, none⟩), .string s] w (Noted base Bd what ind ns v s w) := by
  go_enter Tryz.func8, Tryz.ntmps8
  go_wp2_with (first | (go_at_call 16; (with_reducible refine (addNote h s hn hi hs).mono ?_); rintro e w' hN; obtain ⟨rfl, hN2⟩ := hN))
  go_end0
  exact ⟨rfl, hN2⟩
end Go.Proofs.YteamfcjfoihehaaGreatDoor
