/-
  A row of bytes that the call owns, a mark behind its end or none: how it grows. No condition. (My own helper text after the library's FrozenHead, one copy a seat.)
-/
import Derived.Lib.FrozenHead2
import Derived.Lib.ConvBytes
import Derived.Lib.SlBytesRow
import Derived.Lib.UnsafeStr
import Derived.Laws.OwnMore
import Derived.Below
import Derived.Calls
namespace Go.Proofs.Ytocnfapldcjilaa
open Go.RowKit
set_option linter.unusedVariables false

/-- The slice value 'v' owns the bytes 'l' (elements of type e); the row bears no mark, or one behind its end. -/
def OwnB (B : Nat) (e : TypeId) (v : Value) (l : List UInt8) (w : World) : Prop :=
  (v = .slice none 0 0 ∧ l = []) ∨
  ∃ g cap cur fz, v = .slice (some ⟨g, 0, none⟩) l.length cap ∧ B ≤ g ∧ w.heap[g]? = some (.cells cur e fz) ∧ (fz = (0, 0) ∨ cap ≤ fz.1) ∧ l.length ≤ cap ∧ cap ≤ maxLen ∧ cur.size = cap ∧ cur.toList.take l.length = Lib.byteCells l

theorem OwnB.nil (B : Nat) (e : TypeId) (w : World) : OwnB B e (.slice none 0 0) [] w := .inl ⟨rfl, rfl⟩
theorem OwnB.lt {B : Nat} {e : TypeId} {v : Value} {l : List UInt8} {w : World} (h : OwnB B e v l w) : ∀ k, v.ownBlock = some k → B ≤ k ∧ k < w.heap.size := by
  intro k hk
  rcases h with ⟨rfl, _⟩ | ⟨g, cap, cur, fz, rfl, hb, hg, _⟩
  · simp [Value.ownBlock] at hk
  · simp [Value.ownBlock] at hk
    subst hk
    exact ⟨hb, (Array.getElem?_eq_some_iff.1 hg).1⟩
theorem OwnB.form {B : Nat} {e : TypeId} {v : Value} {l : List UInt8} {w : World} (h : OwnB B e v l w) : ∃ p cap, v = .slice p l.length cap := by
  rcases h with ⟨rfl, rfl⟩ | ⟨g, cap, cur, fz, rfl, _⟩
  · exact ⟨none, 0, rfl⟩
  · exact ⟨_, cap, rfl⟩
theorem OwnB.kept {B : Nat} {e : TypeId} {v : Value} {l : List UInt8} {w w' : World} {row : Option Nat} (h : OwnB B e v l w) (hg : w.grownBy w' row) (hne : v.ownBlock = none ∨ v.ownBlock ≠ row) : OwnB B e v l w' := by
  rcases h with hn | ⟨g, cap, cur, fz, rfl, hb, hgg, rest⟩
  · exact .inl hn
  · refine .inr ⟨g, cap, cur, fz, rfl, hb, ?_, rest⟩
    rw [hg.block g (Array.getElem?_eq_some_iff.1 hgg).1 (by simpa [Value.ownBlock] using hne)]
    exact hgg
theorem OwnB.alloc {B : Nat} {e : TypeId} {v : Value} {l : List UInt8} {w : World} (h : OwnB B e v l w) (o : Obj) : OwnB B e v l (w.alloc o) :=
  h.kept (World.grownBy_alloc w o none) (by cases hv : v.ownBlock <;> simp)
theorem OwnB.below {B : Nat} {e : TypeId} {v : Value} {l : List UInt8} {w w' : World} (h : OwnB B e v l w) (hb : Below w.heap.size w w') : OwnB B e v l w' :=
  h.kept (row := none) ⟨hb.os, hb.tape, hb.output, hb.size, fun i hi _ => hb.block i hi⟩ (by cases hv : v.ownBlock <;> simp)
theorem OwnB.cellAt {B : Nat} {e : TypeId} {v : Value} {l : List UInt8} {w : World} (h : OwnB B e v l w) {g : Nat} (hg : v.ownBlock = some g) : ∀ j u, (Lib.byteCells l)[j]? = some u → w.cell? ((⟨g, 0, none⟩ : Addr).add j) = some u := by
  intro j u hu
  rcases h with ⟨rfl, _⟩ | ⟨g', cap, cur, fz, rfl, _, hgg, _, _, _, _, htake⟩
  · simp [Value.ownBlock] at hg
  · simp [Value.ownBlock] at hg
    subst hg
    have hadd : (⟨g', 0, none⟩ : Addr).add j = ⟨g', j, none⟩ := by unfold Addr.add; split <;> simp_all
    rw [hadd, cell_of_row w g' j cur e fz hgg]
    rw [← htake, List.getElem?_take] at hu
    split at hu
    · simpa using hu
    · cases hu
theorem byteCells_len (l : List UInt8) : (Lib.byteCells l).length = l.length := by simp [Lib.byteCells]
theorem byteCells_app (a b : List UInt8) : Lib.byteCells (a ++ b) = Lib.byteCells a ++ Lib.byteCells b := by simp [Lib.byteCells]

/-- Stores ahead of the mark. -/
theorem run_storeCells_atG (P : Program) (g o : Nat) (t : TypeId) (fz : Nat × Nat) : ∀ (vs : List Value) (i : Nat) (cur : Array Value) (w : World), w.heap[g]? = some (.cells cur t fz) → (fz = (0, 0) ∨ cur.size ≤ fz.1) → o + i + vs.length ≤ cur.size → (∀ v ∈ vs, v.oneCell' = true) →
    (storeCells ⟨g, o, none⟩ vs i).run P w = .ok () (w.setRow g (cur.toList.take (o + i) ++ vs ++ cur.toList.drop (o + i + vs.length)).toArray)
  | [], i, cur, w, hg, _, _, _ => by
    simp only [storeCells, List.append_nil, List.length_nil, Nat.add_zero, List.take_append_drop, Array.toArray_toList]
    rw [setRow_self w g cur t fz hg]
    rfl
  | v :: rest, i, cur, w, hg, hfz, hl, h1 => by
    have hi : o + i < cur.size := by simp at hl; omega
    have hadd : (⟨g, o, none⟩ : Addr).add i = ⟨g, o + i, none⟩ := by unfold Addr.add; split <;> simp_all
    have hcell : w.cell? ⟨g, o + i, none⟩ = some cur[o + i] := by simp [World.cell?, hg, hi]
    have hfro : w.frozen? ⟨g, o + i, none⟩ = false := by
      obtain ⟨lo, hi'⟩ := fz
      simp only [World.frozen?, hg, Bool.and_eq_false_iff, decide_eq_false_iff_not]
      rcases hfz with hfz | hfz
      · cases hfz; right; omega
      · left; simp only at hfz; omega
    have hst : (store ((⟨g, o, none⟩ : Addr).add i) v).run P w = .ok () (w.setRow g (cur.setIfInBounds (o + i) v)) := by
      rw [hadd, run_store P w _ v _ (h1 v (by simp)), hcell]
      simp [hfro, setCell_eq_setRow w g (o + i) cur t fz v hg]
    have ih := run_storeCells_atG P g o t fz rest (i + 1) (cur.setIfInBounds (o + i) v) (w.setRow g (cur.setIfInBounds (o + i) v)) (setRow_heap w g cur _ t _ hg) (by simpa using hfz) (by simp at hl ⊢; omega) (fun x hx => h1 x (by simp [hx]))
    simp only [storeCells, Sem.run_bind, hst, Result.andThen_ok, ih, setRow_setRow]
    congr 3
    have e := list_seg_step cur.toList (o + i) v rest (by simp at hl ⊢; omega)
    simpa [Array.toList_setIfInBounds, Nat.add_assoc] using e

section
variable {P : Program} (w : World)
theorem run_append_ownB (B : Nat) (t ty e : TypeId) (i : TypeInfo) (ht : P.underlying t = some (.slice e)) (hi : P.info? e = some i) (hz : i.zero = some (.int .u8 0)) (hs1 : i.size = 1) (hb1 : i.bytes = 1)
    (v : Value) (l : List UInt8) (hown : OwnB B e v l w)
    (a : Addr) (m c : Nat) (news : List UInt8) (hl : news.length = m) (hnews : ∀ j u, (Lib.byteCells news)[j]? = some u → w.cell? (a.add j) = some u)
    (hlen : l.length + m ≤ 140737488355328) (hbase : B ≤ w.heap.size) :
    ∃ v' w', (Builtin.append_ #[t, t] ty #[v, .slice (some a) m c]).run P w = .ok v' w' ∧ OwnB B e v' (l ++ news) w' ∧ w.grownBy w' v.ownBlock := by
  have h1 : ∀ u ∈ Lib.byteCells news, u.oneCell' = true := by
    intro u hu; simp only [Lib.byteCells, List.mem_map] at hu; obtain ⟨b, _, rfl⟩ := hu; rfl
  have hnl : (Lib.byteCells news).length = m * i.size := by rw [byteCells_len, hl, hs1, Nat.mul_one]
  have h63 : l.length + m ≤ maxLen := by unfold maxLen; omega
  rcases hown with ⟨rfl, rfl⟩ | ⟨g, cap, cur, fz, rfl, hbg, hg, hfz, hnc, hcm, hcs, htake⟩
  · obtain ⟨v', w', r1, r2, r3, r4⟩ := run_append_own (P := P) w B t ty e i (.int .u8 0) 1 1 ht hi hz hs1 hb1 rfl (by omega) (.slice none 0 0) 0 [] ⟨rfl, .inl ⟨rfl, rfl⟩⟩ a m c (Lib.byteCells news) (by rw [byteCells_len]; omega) hnews h1 (by simpa using h63) (by simp at hlen ⊢; omega) hbase
    refine ⟨v', w', r1, ?_, r3⟩
    rcases r2.2 with ⟨hv, h0⟩ | ⟨g, cap, cur, hv, hb, hg, hn, hm, hc, htk⟩
    · have : news = [] := List.eq_nil_of_length_eq_zero (by omega)
      subst this
      exact .inl ⟨hv, rfl⟩
    · refine .inr ⟨g, cap, cur, (0, 0), ?_, hb, hg, .inl rfl, ?_, hm, by simpa using hc, ?_⟩
      · simpa [hl] using hv
      · simp [hl] at hn ⊢; omega
      · simpa [hl] using htk
  · by_cases hroom : l.length + m ≤ cap
    · have hf := run_firstCells_some (P := P) w i.size m a m c (Lib.byteCells news) hnl hnews
      have hst := run_storeCells_atG P g l.length e fz (Lib.byteCells news) 0 cur w hg (by rcases hfz with h | h; exact .inl h; exact .inr (by omega)) (by rw [byteCells_len]; omega) h1
      simp only [Nat.add_zero] at hst
      have hr : (Builtin.append_ #[t, t] ty #[.slice (some ⟨g, 0, none⟩) l.length cap, .slice (some a) m c]).run P w =
          .ok (.slice (some ⟨g, 0, none⟩) (l.length + m) cap) (w.setRow g (cur.toList.take l.length ++ Lib.byteCells news ++ cur.toList.drop (l.length + (Lib.byteCells news).length)).toArray) := by
        have hf1 : (Builtin.firstCells 1 m (.slice (some a) m c)).run P w = .ok (Lib.byteCells news).toArray w := by rw [hs1] at hf; exact hf
        simp [Builtin.append_, run_underlying ht, sizeOf, typeInfo, hi, Builtin.lenOf, hroom, hs1, hf1, Addr.add_lit, hst]
      refine ⟨_, _, hr, .inr ⟨g, cap, _, fz, by rw [List.length_append, hl], hbg, setRow_heap w g cur _ e _ hg, hfz, by rw [List.length_append]; omega, hcm, ?_, ?_⟩, ⟨rfl, rfl, rfl, by simp, fun k _ hk => setRow_other w g k _ (fun e => hk (by simp [Value.ownBlock, e]))⟩⟩
      · simp only [List.size_toArray, List.length_append, List.length_take, List.length_drop, Array.length_toList, byteCells_len]
        omega
      · rw [htake, byteCells_app, List.length_append, ← byteCells_len l, ← byteCells_len news, ← List.length_append]
        exact List.take_left
    · have holds : ∀ j u, (Lib.byteCells l)[j]? = some u → w.cell? ((⟨g, 0, none⟩ : Addr).add j) = some u := OwnB.cellAt (B := B) (e := e) (v := .slice (some ⟨g, 0, none⟩) l.length cap) (.inr ⟨g, cap, cur, fz, rfl, hbg, hg, hfz, hnc, hcm, hcs, htake⟩) rfl
      have hr := run_append_grow (P := P) w t ty e i (.int .u8 0) ht hi hz ⟨g, 0, none⟩ l.length cap (Lib.byteCells l) (by rw [byteCells_len, hs1, Nat.mul_one]) holds a m c (Lib.byteCells news) hnl hnews (by omega) (by omega) (growslice_fits (by omega) (by rw [hb1]; omega))
      have hge := grownCap_ge w (l.length + m) cap e
      have hcm2 : grownCap w (l.length + m) cap e ≤ maxLen := grownCap_le_maxLen w (l.length + m) cap e h63
      refine ⟨_, _, hr, .inr ⟨w.heap.size, _, _, (0, 0), by rw [List.length_append, hl], hbase, heap_alloc_new w.drew _, .inl rfl, by rw [List.length_append]; omega, hcm2, ?_, ?_⟩, ⟨rfl, rfl, rfl, by simp, fun k hk _ => Below.heap_alloc w.drew _ k hk⟩⟩
      · have z1 : (Value.int IntKind.u8 0).cells.size = 1 := rfl
        simp only [Array.size_append, List.size_toArray, size_zeroCells, byteCells_len, z1]
        omega
      · simp only [Array.toList_append, List.append_assoc]
        rw [← List.append_assoc, byteCells_app, List.length_append, ← byteCells_len l, ← byteCells_len news, ← List.length_append]
        exact List.take_left
end
theorem wpList_append_ownB {P : Program} {w : World} {ops : Array Oper} {rest : List Oper} {o : Oper} {a : Act} {Q : Exit → Act → World → Prop} (hgd : o.guard = none) (s x : Operand) (t : TypeId)
    (ho : o.op = .call { callee := .builtin .append, args := #[s, x], argTypes := #[t, t] })
    (B : Nat) (e : TypeId) (i : TypeInfo) (ht : P.underlying t = some (.slice e)) (hi : P.info? e = some i) (hz : i.zero = some (.int .u8 0)) (hs1 : i.size = 1) (hb1 : i.bytes = 1)
    (v : Value) (l : List UInt8) (hs : a.eval s = v) (hown : OwnB B e v l w)
    (ad : Addr) (m c : Nat) (news : List UInt8) (hx : a.eval x = .slice (some ad) m c) (hl : news.length = m) (hnews : ∀ j u, (Lib.byteCells news)[j]? = some u → w.cell? (ad.add j) = some u)
    (hlen : l.length + m ≤ 140737488355328) (hbase : B ≤ w.heap.size)
    (h : ∀ v' w', OwnB B e v' (l ++ news) w' → w.grownBy w' v.ownBlock → wpList P ops Q rest (a.put o.dst v') w') : wpList P ops Q (o :: rest) a w := by
  refine wpList_plain hgd fun K hK => ?_
  obtain ⟨v', w', hr, h2, h3⟩ := run_append_ownB (P := P) w B t o.type e i ht hi hz hs1 hb1 v l hown ad m c news hl hnews hlen hbase
  unfold Oper.wp execOp
  simp only [ho, resolve, invoke, builtin, Sem.run_bind, Sem.run_pure, Result.andThen_ok, List.map_toArray, List.map_cons, List.map_nil, hs, hx, hr]
  exact hK _ _ (h v' w' h2 h3)
theorem below_grown {B : Nat} {w0 w w' : World} {v : Value} {e : TypeId} {l : List UInt8} (h : Below B w0 w) (hB : B ≤ w.heap.size) (hown : OwnB B e v l w) (hg : w.grownBy w' v.ownBlock) : Below B w0 w' :=
  h.grown hg hB (fun k hk => (hown.lt k hk).1)
/-- 'string(b)'. -/
theorem OwnB.text {B : Nat} {e : TypeId} {v : Value} {l : List UInt8} {w : World} (P : Program) (h : OwnB B e v l w) (src dst : TypeId) (hs : P.underlying src = some (.slice e)) (he : P.underlying e = some (.int .u8)) (hd : P.underlying dst = some .string) :
    (convert src dst v).run P w = .ok (.string ⟨l.toArray⟩) w := by
  rcases h with ⟨rfl, rfl⟩ | ⟨g, cap, cur, fz, rfl, hb, hg, hfz, hnc, hcm, hcs, htake⟩
  · exact run_convert_bytes_nil w src e hs he 0 0 dst hd
  · refine run_convert_bytes_back w src dst e ⟨g, 0, none⟩ cap l hs he hd fun j hj => ?_
    refine OwnB.cellAt (B := B) (e := e) (v := .slice (some ⟨g, 0, none⟩) l.length cap) (.inr ⟨g, cap, cur, fz, rfl, hb, hg, hfz, hnc, hcm, hcs, htake⟩) rfl j _ ?_
    simp [Lib.byteCells, List.getElem?_eq_getElem hj]
/-- '[]byte(s)'. -/
theorem OwnB.ofText (w : World) (e : TypeId) (s : ByteArray) (h : s.size ≤ 140737488355328) : OwnB w.heap.size e (.slice (some ⟨w.heap.size, 0, none⟩) s.size (grownCap w s.size 0 e)) s.data.toList (Lib.bytesWorld w e s) := by
  have hsz : (Lib.bytesCells w e s).size = grownCap w s.size 0 e := by
    have := grownCap_ge w s.size 0 e
    simp [Lib.bytesCells]
    have e1 : s.data.size = s.size := rfl
    omega
  refine .inr ⟨w.heap.size, _, _, _, rfl, Nat.le_refl _, Lib.bytesWorld_at_new w e s, .inr (by rw [hsz]; exact Nat.le_refl _), grownCap_ge w s.size 0 e, grownCap_le_maxLen w s.size 0 e (by unfold maxLen; omega), hsz, ?_⟩
  simp [Lib.bytesCells, Lib.byteCells]
theorem bytesWorld_below (w : World) (e : TypeId) (s : ByteArray) : Below w.heap.size w (Lib.bytesWorld w e s) :=
  ⟨rfl, rfl, rfl, by rw [Lib.bytesWorld_size]; omega, fun i hi => Lib.bytesWorld_at_old w e s i hi⟩
end Go.Proofs.Ytocnfapldcjilaa
