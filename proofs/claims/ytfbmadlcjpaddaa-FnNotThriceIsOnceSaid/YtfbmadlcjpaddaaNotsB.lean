/-
  MaybeSimplifyNot at some kinds of node. No condition.
-/
import Derived.Test.YtfbmadlcjpaddaaNotsN
import Derived.Test.YtfbmadlcjpaddaaNotsU
namespace Go.Proofs.Ytfbmadlcjpaddaa
open Go.ChangeShapes Go.WideShapes Go.ChangeAt Go.RowKit
set_option linter.unusedVariables false
set_option linter.unusedSimpArgs false
def S0 : ByteArray := { data := #[48] }
def Says (x y : Bool) (w : World) (e : Ending) (w' : World) : Prop := e = .returned (.tuple #[.bool x, .bool y]) ∧ w = w'
set_option maxRecDepth 100000 in
set_option maxHeartbeats 2000000 in
theorem chke (s : ByteArray) (hq : (s.toList == [48]) = true) (w : World) : Calls Try.prog 35 #[.string s, .string { data := #[48] }] w (Says true true w) := by
  go_enter Try.func35, Try.ntmps35
  go_wp2
  go_ret2
  exact ⟨rfl, rfl⟩
set_option maxRecDepth 100000 in
set_option maxHeartbeats 2000000 in
theorem chks (s : ByteArray) (hq : (s.toList == [48]) = false) (h2 : s.size < 2) (w : World) : Calls Try.prog 35 #[.string s, .string { data := #[48] }] w (Says false true w) := by
  go_enter Try.func35, Try.ntmps35
  go_wp2
  go_ret2
  exact ⟨rfl, rfl⟩
set_option maxRecDepth 100000 in
set_option maxHeartbeats 2000000 in
theorem chkr (s : ByteArray) (hq : (s.toList == [48]) = false) (h0 : 0 < s.size) (h2 : 2 ≤ s.size) (hc : (s[0]'h0).toNat = 48) (w : World) : Calls Try.prog 35 #[.string s, .string { data := #[48] }] w (Says false false w) := by
  go_enter Try.func35, Try.ntmps35
  go_wp2
  go_ret2
  exact ⟨rfl, rfl⟩
set_option maxRecDepth 100000 in
set_option maxHeartbeats 2000000 in
theorem chkd (s : ByteArray) (hq : (s.toList == [48]) = false) (h0 : 0 < s.size) (h2 : 2 ≤ s.size) (c : Nat) (hc : (s[0]'h0).toNat = c) (hn : ((c : Int) != 48) = true) (w : World) : Calls Try.prog 35 #[.string s, .string { data := #[48] }] w (Says false true w) := by
  go_enter Try.func35, Try.ntmps35
  go_wp2
  go_ret2
  exact ⟨rfl, rfl⟩
set_option maxRecDepth 100000 in
set_option maxHeartbeats 2000000 in
theorem ms58e (y : Nat) (s : ByteArray) (hq : (s.toList == [48]) = true) (l : Int) (w : World) (hlt : y < w.heap.size) (hcell : w.cell? ⟨y, 0, none⟩ = some (.string s)) : Calls Try.prog 13 #[.agg #[.iface 58 (.pointer (some ⟨y, 0, none⟩)), .int .i32 l]] w (MB true l w) := by
  have C := fun W => chke s hq W
  have HC := Lib.hid C
  clear C hq
  go_enter Try.func13, Try.ntmps13
  go_wp2_with (go_at_call 35; refine (HC.out _).mono ?_; rintro e w' ⟨rfl, rfl⟩)
  exact bodyPost_ret (by simp [results, Try.results13, go_sem]; rfl) rfl ⟨_, rfl, by simp [go_sem], by (first | omega | (simp; omega)), by go_size, by go_grown⟩
set_option maxRecDepth 100000 in
set_option maxHeartbeats 2000000 in
theorem ms58s (y : Nat) (s : ByteArray) (hq : (s.toList == [48]) = false) (h2 : s.size < 2) (l : Int) (w : World) (hlt : y < w.heap.size) (hcell : w.cell? ⟨y, 0, none⟩ = some (.string s)) : Calls Try.prog 13 #[.agg #[.iface 58 (.pointer (some ⟨y, 0, none⟩)), .int .i32 l]] w (MB false l w) := by
  have C := fun W => chks s hq h2 W
  have HC := Lib.hid C
  clear C hq h2
  go_enter Try.func13, Try.ntmps13
  go_wp2_with (go_at_call 35; refine (HC.out _).mono ?_; rintro e w' ⟨rfl, rfl⟩)
  exact bodyPost_ret (by simp [results, Try.results13, go_sem]; rfl) rfl ⟨_, rfl, by simp [go_sem], by (first | omega | (simp; omega)), by go_size, by go_grown⟩
set_option maxRecDepth 100000 in
set_option maxHeartbeats 2000000 in
theorem ms58r (y : Nat) (s : ByteArray) (hq : (s.toList == [48]) = false) (h0 : 0 < s.size) (h2 : 2 ≤ s.size) (hc : (s[0]'h0).toNat = 48) (l : Int) (w : World) (hlt : y < w.heap.size) (hcell : w.cell? ⟨y, 0, none⟩ = some (.string s)) : Calls Try.prog 13 #[.agg #[.iface 58 (.pointer (some ⟨y, 0, none⟩)), .int .i32 l]] w (MF w) := by
  have C := fun W => chkr s hq h0 h2 hc W
  have HC := Lib.hid C
  clear C hq h2 hc
  go_enter Try.func13, Try.ntmps13
  go_wp2_with (go_at_call 35; refine (HC.out _).mono ?_; rintro e w' ⟨rfl, rfl⟩)
  exact bodyPost_ret (by simp [results, Try.results13, go_sem]) rfl ⟨rfl, by go_grown⟩
set_option maxRecDepth 100000 in
set_option maxHeartbeats 2000000 in
theorem ms58d (y : Nat) (s : ByteArray) (hq : (s.toList == [48]) = false) (h0 : 0 < s.size) (h2 : 2 ≤ s.size) (c : Nat) (hc : (s[0]'h0).toNat = c) (hn : ((c : Int) != 48) = true) (l : Int) (w : World) (hlt : y < w.heap.size) (hcell : w.cell? ⟨y, 0, none⟩ = some (.string s)) : Calls Try.prog 13 #[.agg #[.iface 58 (.pointer (some ⟨y, 0, none⟩)), .int .i32 l]] w (MB false l w) := by
  have C := fun W => chkd s hq h0 h2 c hc hn W
  have HC := Lib.hid C
  clear C hq h2 hc hn
  go_enter Try.func13, Try.ntmps13
  go_wp2_with (go_at_call 35; refine (HC.out _).mono ?_; rintro e w' ⟨rfl, rfl⟩)
  exact bodyPost_ret (by simp [results, Try.results13, go_sem]; rfl) rfl ⟨_, rfl, by simp [go_sem], by (first | omega | (simp; omega)), by go_size, by go_grown⟩
set_option maxRecDepth 100000 in
set_option maxHeartbeats 2000000 in
theorem notB (T : TypeId) (y : Nat) (l : Int) (v : Bool) (w : World) (h : ∀ W, Below w.heap.size w W → Calls Try.prog 13 #[.agg #[.iface T (.pointer (some ⟨y, 0, none⟩)), .int .i32 l]] W (MB v l W)) : Calls Try.prog 28 #[.agg #[.iface T (.pointer (some ⟨y, 0, none⟩)), .int .i32 l]] w (NB v l w) := by
  have HK := Lib.hid h
  clear h
  go_enter Try.func28, Try.ntmps28
  go_wp2_with (go_at_call 13; refine (HK.out _ (by go_grown)).mono ?_; rintro e w' ⟨b, rfl, hv, hbn, hlt, hb⟩; simp at hbn; have hne1 : b ≠ w.heap.size + 1 := (by omega); have hne2 : w.heap.size + 1 ≠ b := (by omega); have zz := hb.size; simp at zz; have zl : w.heap.size + 1 < w'.heap.size := (by omega); have zl0 : w.heap.size < w'.heap.size := (by omega); have hB : Below w.heap.size w w' := (below_step hb (by go_grown) (by go_size)).1; have q0 : w'.cell? ⟨w.heap.size + 1, 0, none⟩ = some .nilIface := (by rw [hb.cell (p := ⟨w.heap.size + 1, 0, none⟩) (by simp)]; simp [go_sem]); have q1 : w'.cell? ⟨w.heap.size + 1, 1, none⟩ = some (.int .i32 0) := (by rw [hb.cell (p := ⟨w.heap.size + 1, 1, none⟩) (by simp)]; simp [go_sem]); have g0 : w'.frozen? ⟨w.heap.size + 1, 0, none⟩ = false := (by rw [hb.frozen (p := ⟨w.heap.size + 1, 0, none⟩) (by simp)]; simp [go_sem]); have g1 : w'.frozen? ⟨w.heap.size + 1, 1, none⟩ = false := (by rw [hb.frozen (p := ⟨w.heap.size + 1, 1, none⟩) (by simp)]; simp [go_sem]))
  exact bodyPost_ret (by simp [results, Try.results28, go_sem, q0, q1, zl, zl0]; rfl) rfl ⟨_, rfl, by simp [go_sem, hv, hlt, hne1, hne2, World.cell?_setCell_far], by go_size, by go_grown⟩
set_option maxRecDepth 100000 in
set_option maxHeartbeats 2000000 in
theorem notU (T : TypeId) (y : Nat) (l : Int) (w : World) (h : ∀ W, Below w.heap.size w W → Calls Try.prog 13 #[.agg #[.iface T (.pointer (some ⟨y, 0, none⟩)), .int .i32 l]] W (MF W)) : Calls Try.prog 28 #[.agg #[.iface T (.pointer (some ⟨y, 0, none⟩)), .int .i32 l]] w (NU (.iface T (.pointer (some ⟨y, 0, none⟩))) l w) := by
  have HK := Lib.hid h
  clear h
  go_enter Try.func28, Try.ntmps28
  go_wp2_with (go_at_call 13; refine (HK.out _ (by go_grown)).mono ?_; rintro e w' ⟨rfl, hb⟩; have zz := hb.size; simp at zz; have zl : w.heap.size + 1 < w'.heap.size := (by omega); have zl0 : w.heap.size < w'.heap.size := (by omega); have hB : Below w.heap.size w w' := (below_step hb (by go_grown) (by go_size)).1; have q0 : w'.cell? ⟨w.heap.size + 1, 0, none⟩ = some .nilIface := (by rw [hb.cell (p := ⟨w.heap.size + 1, 0, none⟩) (by simp)]; simp [go_sem]); have q1 : w'.cell? ⟨w.heap.size + 1, 1, none⟩ = some (.int .i32 0) := (by rw [hb.cell (p := ⟨w.heap.size + 1, 1, none⟩) (by simp)]; simp [go_sem]); have g0 : w'.frozen? ⟨w.heap.size + 1, 0, none⟩ = false := (by rw [hb.frozen (p := ⟨w.heap.size + 1, 0, none⟩) (by simp)]; simp [go_sem]); have g1 : w'.frozen? ⟨w.heap.size + 1, 1, none⟩ = false := (by rw [hb.frozen (p := ⟨w.heap.size + 1, 1, none⟩) (by simp)]; simp [go_sem]); have t0 : w'.cell? ⟨w.heap.size, 0, none⟩ = some (.iface T (.pointer (some ⟨y, 0, none⟩))) := (by rw [hb.cell (p := ⟨w.heap.size, 0, none⟩) (by simp; omega)]; simp [go_sem]); have t1 : w'.cell? ⟨w.heap.size, 1, none⟩ = some (.int .i32 l) := (by rw [hb.cell (p := ⟨w.heap.size, 1, none⟩) (by simp; omega)]; simp [go_sem]))
  exact bodyPost_ret (by simp [results, Try.results28, go_sem, q0, q1, zl, zl0]; rfl) rfl ⟨_, rfl, by simp [go_sem, t0, t1], by simp [go_sem, t0, t1], by simp [go_sem], by (first | omega | (simp; omega)), by go_size, by go_grown⟩
end Go.Proofs.Ytfbmadlcjpaddaa
