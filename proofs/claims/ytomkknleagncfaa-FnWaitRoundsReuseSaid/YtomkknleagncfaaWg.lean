/-
  Contracts of ThreadSafeWaitGroup in one goroutine. No condition.
-/
import Derived.Test.YtomkknleagncfaaOwn
import Derived.Test.YtomkknleagncfaaProg
import Derived.WalkSmall
import Derived.Laws.LoneSync
import Derived.Conc.LoneCalls
import Derived.Conc.LoneSelectN
namespace Go.Proofs.Ytomkknleagncfaa
open Go.ChangeShapes Go.WideShapes Go.ChangeAt Go.RowKit
set_option linter.unusedVariables false

/-- A group of the call's own: its struct in block p, its channel in block c. -/
structure TG (w : World) (p c : Nat) (n : Int) (buf : Array Value) (s r : Nat) : Prop where
  st : w.heap[p]? = some (.cells #[.int .i32 n, .chan (some c)] 42 (0, 0))
  ch : w.heap[c]? = some (.chan 1 buf false s r false)

theorem bytes45 : ∃ i, Try.prog.info? 45 = some i ∧ i.bytes = 0 := by
  have h : (Try.prog.info? 45).map (·.bytes) = some 0 := by kernel_rfl
  obtain ⟨i, hi, hb⟩ := Option.map_eq_some_iff.1 h
  exact ⟨i, hi, hb⟩
theorem mk1 (w : World) : (Instr.makeChan 40 (.int .i64 1)).run Try.prog w = .ok (.chan (some w.heap.size)) (w.alloc (.chan 1 #[] false 0 0 false)) := by
  obtain ⟨i, hi, hb⟩ := bytes45
  simpa using Conc.run_makeChan (P := Try.prog) (w := w) Try.underlying40 hi .i64 1 (by omega) (by rw [hb]; omega)
theorem make6 (w : World) : Calls Try.prog 6 #[] w fun e w' => ∃ p c, e = .returned (.pointer (some ⟨p, 0, none⟩)) ∧ TG w' p c 0 #[] 0 0 ∧ Below w.heap.size w w' ∧ w.heap.size ≤ p ∧ w.heap.size ≤ c := by
  have hm := mk1
  go_enter Try.func6, Try.ntmps6
  go_wp2
  go_ret
  refine ⟨w.heap.size + 1, w.heap.size, rfl, ⟨?_, ?_⟩, ((Below.refl _ w).alloc (Nat.le_refl _) _).alloc (by simp) _, by omega, by omega⟩
  · have := heap_alloc_new (w.alloc (.chan 1 #[] false 0 0 false)) (.cells #[.int .i32 0, .chan (some w.heap.size)] 42)
    rwa [show (w.alloc (.chan 1 #[] false 0 0 false)).heap.size = w.heap.size + 1 by simp] at this
  · rw [Below.heap_alloc _ _ _ (by simp)]
    exact heap_alloc_new w _
theorem TG.c0 {w : World} {p c : Nat} {n : Int} {buf : Array Value} {s r : Nat} (h : TG w p c n buf s r) : w.cell? ⟨p, 0, none⟩ = some (.int .i32 n) ∧ w.cell? ⟨p, 1, none⟩ = some (.chan (some c)) ∧ ∀ j, w.frozen? ⟨p, j, none⟩ = false := by
  refine ⟨?_, ?_, fun j => ?_⟩
  · rw [cell_of_row w p 0 _ 42 (0, 0) h.st]; rfl
  · rw [cell_of_row w p 1 _ 42 (0, 0) h.st]; rfl
  · have := h.st
    simp [World.frozen?, this]
theorem TG.set {w : World} {p c : Nat} {n : Int} {buf : Array Value} {s r : Nat} (h : TG w p c n buf s r) (m : Int) : TG (w.setCell ⟨p, 0, none⟩ (.int .i32 m)) p c m buf s r where
  st := by
    have := h.st
    simp [World.setCell, Array.getElem?_modify, this]
  ch := by
    rw [Below.heap_setCell w ⟨p, 0, none⟩ _ c (fun e => by
      have h1 := h.st
      have h2 := h.ch
      simp only at e
      rw [← e, h2] at h1
      cases h1)]
    exact h.ch
theorem addI32 (n d : Int) (w : World) (h : -2147483648 ≤ n + d ∧ n + d ≤ 2147483647) : (Op.intArith .add .i32 n d).run Try.prog w = .ok (.int .i32 (n + d)) w := by
  have : IntKind.i32.wrap (n + d) = n + d := by rw [IntKind.wrap_i32]; omega
  simp [Op.intArith, this]
set_option maxHeartbeats 1000000 in
theorem add7 (p c : Nat) (n d : Int) (buf : Array Value) (s r : Nat) (w : World) (h : TG w p c n buf s r) (h1 : 1 ≤ n + d) (h2 : n + d ≤ 2147483647) :
    Calls Try.prog 7 #[.pointer (some ⟨p, 0, none⟩), .int .i32 d] w fun e w' => e = .returned (.tuple #[]) ∧ w' = w.setCell ⟨p, 0, none⟩ (.int .i32 (n + d)) := by
  obtain ⟨c0, c1, hf⟩ := h.c0
  have hadd := run_call_add (f := 18) Try.func18 (by kernel_rfl) (by kernel_rfl) (by kernel_rfl) .i32 (by kernel_rfl) c0 (hf 0) (addI32 n d w ⟨by omega, h2⟩)
  have e0 : (n + d == 0) = false := by simp; omega
  generalize n + d = m at *
  clear c0 c1 hf
  go_enter Try.func7, Try.ntmps7
  go_wp2
  go_end0
  exact ⟨rfl, rfl⟩
theorem counter8 (p c : Nat) (n : Int) (buf : Array Value) (s r : Nat) (w : World) (h : TG w p c n buf s r) :
    Calls Try.prog 8 #[.pointer (some ⟨p, 0, none⟩)] w fun e w' => e = .returned (.int .i32 n) ∧ w = w' := by
  obtain ⟨c0, c1, hf⟩ := h.c0
  go_enter Try.func8, Try.ntmps8
  go_wp2
  go_ret
  exact ⟨rfl, rfl⟩
theorem pending9 (p c : Nat) (n : Int) (buf : Array Value) (s r : Nat) (w : World) (h : TG w p c n buf s r) :
    Calls Try.prog 9 #[.pointer (some ⟨p, 0, none⟩)] w fun e w' => e = .returned (.int .i64 buf.size) ∧ w = w' := by
  obtain ⟨c0, c1, hf⟩ := h.c0
  have hl := fun ty => Conc.run_len_chan (P := Try.prog) 40 ty Try.underlying40 h.ch
  go_enter Try.func9, Try.ntmps9
  go_wp2
  go_ret
  exact ⟨rfl, rfl⟩
end Go.Proofs.Ytomkknleagncfaa
