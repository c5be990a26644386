/-
  A row of bytes that the call grows, told by numbers; appends as arms of the walk. No condition.
-/
import Derived.Test.YtocnfapldcjilaaJr
import Derived.Test.YtocnfapldcjilaaJd
import Derived.Lib.FrozenHead2
import Derived.Laws.AppendOwn
namespace Go.Proofs.Ytocnfapldcjilaa
open Go.ChangeShapes Go.WideShapes Go.ChangeAt Go.RowKit
set_option linter.unusedVariables false

def cl (ns : List Nat) : List Value := ns.map (fun n : Nat => Value.int .u8 (n : Int))
theorem cl_len (ns : List Nat) : (cl ns).length = ns.length := by simp [cl]
theorem cl_app (a b : List Nat) : cl (a ++ b) = cl a ++ cl b := by simp [cl]
theorem cl_str (s : ByteArray) : Lib.strCells s = cl (nb s) := by
  rw [Lib.strCells_eq]; simp [Lib.byteCells, cl, nb]
def Row (Bb : Nat) (v : Value) (ns : List Nat) (w : World) : Prop := w.ownsRowF Bb 5 1 v ns.length (cl ns)
theorem Row.alloc {Bb : Nat} {v : Value} {ns : List Nat} {w : World} (h : Row Bb v ns w) (o : Obj) : Row Bb v ns (w.alloc o) := World.ownsRowF.alloc h o
theorem Row.lt {Bb : Nat} {v : Value} {ns : List Nat} {w : World} (h : Row Bb v ns w) : ∀ k, v.ownBlock = some k → Bb ≤ k := by
  intro k hk
  rcases h.2 with ⟨rfl, _⟩ | ⟨g, cap, cur, fz, rfl, hb, hg, _⟩
  · simp [Value.ownBlock] at hk
  · simp [Value.ownBlock] at hk
    subst hk
    exact hb
theorem Row.drew {Bb : Nat} {v : Value} {ns : List Nat} {w : World} (h : Row Bb v ns w) : Row Bb v ns w.drew := h
theorem Row.form {Bb : Nat} {v : Value} {ns : List Nat} {w : World} (h : Row Bb v ns w) (h0 : 0 < ns.length) :
    ∃ g cap, v = .slice (some ⟨g, 0, none⟩) ns.length cap ∧ Bb ≤ g ∧ g < w.heap.size ∧ ∀ j, j < ns.length → w.cell? ⟨g, j, none⟩ = some (.int .u8 ((ns.getD j 0 : Nat) : Int)) := by
  rcases h.2 with ⟨rfl, h1⟩ | ⟨g, cap, cur, fz, rfl, hb, hg, _, _, _, hcs, htake⟩
  · omega
  · refine ⟨g, cap, rfl, hb, (Array.getElem?_eq_some_iff.1 hg).1, fun j hj => ?_⟩
    rw [cell_of_row w g j cur 5 fz hg, ← Array.getElem?_toList]
    have : (cl ns)[j]? = some (Value.int .u8 ((ns.getD j 0 : Nat) : Int)) := by
      simp only [cl, List.getElem?_map, List.getElem?_eq_getElem hj, Option.map_some]
      rw [List.getD_eq_getElem?_getD, List.getElem?_eq_getElem hj]; rfl
    rw [← htake, List.getElem?_take] at this
    split at this
    · exact this
    · cases this
theorem mkRow (m : Nat) (hm : m ≤ 140737488355328) : ∀ u : World, (Instr.makeSlice 23 (.int .i64 0) (.int .i64 (m : Int))).run Try.prog u =
    .ok (.slice (some ⟨u.heap.size, 0, none⟩) 0 m) (u.alloc (.cells (madeCells #[.int .u8 0] m) 5)) := fun u => by
  obtain ⟨i0, hi, hz0, hz1, hz2⟩ := pInfo info5
  have q := run_make (P := Try.prog) u 23 5 i0 (Value.int .u8 0) Try.underlying23 hi hz0 .i64 .i64 0 (m : Int) (Int.le_refl _) (by omega) (by rw [hz2]; omega) (by omega)
  simpa [hz1, Value.cells] using q
theorem Row.made (u : World) (m Bb : Nat) (hm : m ≤ 140737488355328) (hB : Bb ≤ u.heap.size) : Row Bb (.slice (some ⟨u.heap.size, 0, none⟩) 0 m) [] (u.alloc (.cells (madeCells #[.int .u8 0] m) 5)) :=
  World.ownsRowF_of (World.ownsRow_made u _ m hB (by unfold maxLen; omega) (by simp [size_madeCells]))
theorem wp_str {ops : Array Oper} {rest : List Oper} {o : Oper} {a : Act} {Q : Exit → Act → World → Prop} {w : World} (hgd : o.guard = none) (sl x : Operand)
    (ho : o.op = .call { callee := .builtin .append, args := #[sl, x], argTypes := #[23, 9] }) (Bb : Nat) (v : Value) (ns ms : List Nat) (w0 : World)
    (hsl : a.eval sl = v) (hr : Row Bb v ns w) (hb : Below Bb w0 w) (s : ByteArray) (hx : a.eval x = .string s) (hms : nb s = ms)
    (hl : ns.length + ms.length ≤ 140737488355328) (hB : Bb ≤ w.heap.size)
    (h : ∀ v' w', Hid (Row Bb v' (ns ++ ms) w') → Hid (Below Bb w0 w') → wpList Try.prog ops Q rest (a.put o.dst v') w') : wpList Try.prog ops Q (o :: rest) a w := by
  obtain ⟨i0, hi, hz0, hz1, hz2⟩ := pInfo info5
  have hsz : s.size = ms.length := by rw [← hms, nb_len]
  refine Lib.wpList_append_own_stringF _ hgd sl x 23 9 ho Bb 5 i0 Try.underlying23 Try.underlying9 hi hz0 hz1 hz2 v ns.length (cl ns) hsl hr s hx (by unfold maxLen; omega) (by omega) hB ?_
  intro v' w' h1 h2 _
  refine h v' w' (Lib.hid ?_) (Lib.hid (hb.grown h2 hB hr.lt))
  unfold Row
  rw [List.length_append, cl_app, ← hms, ← cl_str, nb_len]
  exact h1
theorem wp_new {ops : Array Oper} {rest : List Oper} {o : Oper} {a : Act} {Q : Exit → Act → World → Prop} {W : World} {cs : Array Value} (hgd : o.guard = none) (sl x : Operand)
    (ho : o.op = .call { callee := .builtin .append, args := #[sl, x], argTypes := #[23, 23] }) (Bb : Nat) (v : Value) (ns ms : List Nat) (w0 : World)
    (hsl : a.eval sl = v) (hr : Row Bb v ns W) (hb : Below Bb w0 W) (c g : Nat) (hx : a.eval x = .slice (some ⟨g, 0, none⟩) ms.length c) (hg : g = W.heap.size) (hcs : cs.toList = cl ms)
    (hl : ns.length + ms.length ≤ 140737488355328) (hB : Bb ≤ W.heap.size)
    (h : ∀ v' w', Hid (Row Bb v' (ns ++ ms) w') → Hid (Below Bb w0 w') → wpList Try.prog ops Q rest (a.put o.dst v') w') : wpList Try.prog ops Q (o :: rest) a (W.alloc (.cells cs 5)) := by
  subst hg
  obtain ⟨i0, hi, hz0, hz1, hz2⟩ := pInfo info5
  refine wpList_append_ownF _ hgd sl x 23 ho Bb 5 i0 (.int .u8 0) 1 1 Try.underlying23 hi hz0 hz1 hz2 rfl (by decide) v ns.length (cl ns) hsl (hr.alloc _) ⟨W.heap.size, 0, none⟩ ms.length c (cl ms) hx (by rw [cl_len, Nat.mul_one]) ?_ ?_ (by unfold maxLen; omega) (by omega) (by simp; omega) ?_
  · intro j u hj
    have hadd : (⟨W.heap.size, 0, none⟩ : Addr).add j = ⟨W.heap.size, j, none⟩ := by unfold Addr.add; split <;> simp_all
    rw [hadd, World.cell?_alloc_new, ← Array.getElem?_toList, hcs]
    exact hj
  · intro u hu
    simp only [cl, List.mem_map] at hu
    obtain ⟨n, _, rfl⟩ := hu
    rfl
  · intro v' w' h1 h2 _
    refine h v' w' (Lib.hid ?_) (Lib.hid ((hb.alloc hB _).grown h2 (by simp; omega) hr.lt))
    unfold Row
    rw [List.length_append, cl_app]
    exact h1
theorem wp_newD {ops : Array Oper} {rest : List Oper} {o : Oper} {a : Act} {Q : Exit → Act → World → Prop} {W : World} {cs : Array Value} (hgd : o.guard = none) (sl x : Operand)
    (ho : o.op = .call { callee := .builtin .append, args := #[sl, x], argTypes := #[23, 23] }) (Bb : Nat) (v : Value) (ns ms : List Nat) (w0 : World)
    (hsl : a.eval sl = v) (hr : Row Bb v ns W) (hb : Below Bb w0 W) (c g : Nat) (hx : a.eval x = .slice (some ⟨g, 0, none⟩) ms.length c) (hg : g = W.heap.size) (hcs : cs.toList = cl ms)
    (hl : ns.length + ms.length ≤ 140737488355328) (hB : Bb ≤ W.heap.size)
    (h : ∀ v' w', Hid (Row Bb v' (ns ++ ms) w') → Hid (Below Bb w0 w') → wpList Try.prog ops Q rest (a.put o.dst v') w') : wpList Try.prog ops Q (o :: rest) a (W.alloc (.cells cs 5)).drew :=
  wp_new (W := W.drew) hgd sl x ho Bb v ns ms w0 hsl hr.drew hb.drew c g hx hg hcs hl hB h
theorem step_newD {ops : Array Oper} {o : Oper} {a : Act} {K : Act → World → Prop} {Q : Exit → Act → World → Prop} {E : Prop} {W : World} {cs : Array Value} (hgd : o.guard = none) (sl x : Operand)
    (ho : o.op = .call { callee := .builtin .append, args := #[sl, x], argTypes := #[23, 23] }) (Bb : Nat) (v : Value) (ns ms : List Nat) (w0 : World)
    (hsl : a.eval sl = v) (hr : Row Bb v ns W) (hb : Below Bb w0 W) (c g : Nat) (hx : a.eval x = .slice (some ⟨g, 0, none⟩) ms.length c) (hg : g = W.heap.size) (hcs : cs.toList = cl ms)
    (hl : ns.length + ms.length ≤ 140737488355328) (hB : Bb ≤ W.heap.size)
    (h : ∀ v' w', Hid (Row Bb v' (ns ++ ms) w') → Hid (Below Bb w0 w') → K (a.put o.dst v') w') : if Region.wanted o (yielded ops a.tmps) = true then Oper.wp Try.prog o a (W.alloc (.cells cs 5)).drew K Q else E := by
  obtain ⟨i0, hi, hz0, hz1, hz2⟩ := pInfo info5
  subst hg
  rw [if_pos (by simp [Region.wanted, hgd])]
  have hr2 : Row Bb v ns (W.alloc (.cells cs 5)).drew := (hr.alloc _).drew
  obtain ⟨v', w', hrun, h1, h2, _⟩ := run_append_ownF (P := Try.prog) (W.alloc (.cells cs 5)).drew Bb 23 o.type 5 i0 (.int .u8 0) 1 1 Try.underlying23 hi hz0 hz1 hz2 rfl (by decide) v ns.length (cl ns) hr2 ⟨W.heap.size, 0, none⟩ ms.length c (cl ms) (by rw [cl_len, Nat.mul_one]) (fun j u hj => by
    have hadd : (⟨W.heap.size, 0, none⟩ : Addr).add j = ⟨W.heap.size, j, none⟩ := by unfold Addr.add; split <;> simp_all
    rw [hadd, show (W.alloc (.cells cs 5)).drew.cell? ⟨W.heap.size, j, none⟩ = (W.alloc (.cells cs 5)).cell? ⟨W.heap.size, j, none⟩ from rfl, World.cell?_alloc_new, ← Array.getElem?_toList, hcs]
    exact hj) (fun u hu => by
    simp only [cl, List.mem_map] at hu
    obtain ⟨n, _, rfl⟩ := hu
    rfl) (by unfold maxLen; omega) (by omega) (by show Bb ≤ (W.alloc (.cells cs 5)).heap.size; simp; omega)
  unfold Oper.wp execOp
  simp only [ho, resolve, invoke, builtin, Sem.run_bind, Sem.run_pure, Result.andThen_ok, List.map_toArray, List.map_cons, List.map_nil, hsl, hx, hrun]
  refine h v' w' (Lib.hid ?_) (Lib.hid ((hb.alloc hB (.cells cs 5)).drew.grown h2 (by show Bb ≤ (W.alloc (.cells cs 5)).heap.size; simp; omega) hr.lt))
  unfold Row
  rw [List.length_append, cl_app]
  exact h1
theorem nb_mid (s : ByteArray) (a b : Nat) : nb (s.extract a b) = ((nb s).take b).drop a := by
  unfold nb
  rw [Lib.extract_data, ← List.map_take, ← List.map_drop, List.drop_take]
/-- At the head of 'c': the decoder. -/
theorem B_app (s : ByteArray) (p q : List Nat) (h : nb s = p ++ q) (k : Nat) : B s (p.length + k) = q.getD k 0 := by
  rw [B_nb, h, List.getD_eq_getElem?_getD, List.getD_eq_getElem?_getD, List.getElem?_append_right (by omega)]
  congr 2; omega
theorem decAt (s : ByteArray) (p q : List Nat) (c i : Nat) (hc : Sc c) (h : nb s = p ++ (encN c ++ q)) (hi : p.length = i) (hs : s.size ≤ 4194304) (w : World) :
    Calls Try.prog 32 #[.string (s.extract i s.size)] w fun e w' => e = .returned (.tuple #[.int .i32 (c : Int), .int .i64 ((encN c).length : Int)]) ∧ w = w' := by
  subst hi
  have hsz : s.size = p.length + (encN c ++ q).length := by rw [← nb_len, h, List.length_append]
  have hx := size_from s p.length (by omega)
  have D := dec32 (s.extract p.length s.size) (by rw [hx]; omega) w
  have hb := fun k => (B_from s p.length k (by omega)).trans (B_app s p _ h k)
  rw [hb, hb, hb, hb, hx, show s.size - p.length = (encN c ++ q).length by omega, dcod_enc c hc q] at D
  exact D
end Go.Proofs.Ytocnfapldcjilaa
