/-
  What the law FnNotThriceIsOnce does, for every input. No condition.
-/
import Derived.Test.YtfbmadlcjpaddaaAll
import Derived.LaidEqlPtr
namespace Go.Proofs.Ytfbmadlcjpaddaa.fnNotThriceIsOnce
open Go.ChangeShapes Go.WideShapes Go.ChangeAt Go.RowKit
set_option linter.unusedVariables false
set_option linter.unusedSimpArgs false
set_option maxRecDepth 100000 in
set_option maxHeartbeats 2000000 in
theorem notI (y z : Nat) (l l2 : Int) (w : World) (hlt : y < w.heap.size) (hz : z < w.heap.size) (h0 : w.cell? ⟨y, 0, none⟩ = some (.iface 69 (.pointer (some ⟨z, 0, none⟩)))) (h1 : w.cell? ⟨y, 1, none⟩ = some (.int .i32 l2)) (h2 : w.cell? ⟨y, 2, none⟩ = some (.int .u8 3)) (h3 : w.cell? ⟨z, 2, none⟩ = some (.int .u8 3)) : Calls Try.prog 28 #[.agg #[.iface 69 (.pointer (some ⟨y, 0, none⟩)), .int .i32 l]] w fun e w' => e = .returned (.agg #[.iface 69 (.pointer (some ⟨z, 0, none⟩)), .int .i32 l2]) ∧ Below w.heap.size w w' := by
  have HK := Lib.hid (fun (W : World) (hW : Below w.heap.size w W) => ms69i y l l2 z W (Nat.lt_of_lt_of_le hlt hW.size) (Nat.lt_of_lt_of_le hz hW.size) ((hW.cell (p := ⟨y, 0, none⟩) hlt).trans h0) ((hW.cell (p := ⟨y, 1, none⟩) hlt).trans h1) ((hW.cell (p := ⟨y, 2, none⟩) hlt).trans h2) ((hW.cell (p := ⟨z, 2, none⟩) hz).trans h3))
  go_enter Try.func28, Try.ntmps28
  go_wp2_with (go_at_call 13; refine (HK.out _ (by go_grown)).mono ?_; rintro e w' ⟨rfl, hb⟩; have zz := hb.size; simp at zz; have zl : w.heap.size + 1 < w'.heap.size := (by omega); have zl0 : w.heap.size < w'.heap.size := (by omega); have hB : Below w.heap.size w w' := (below_step hb (by go_grown) (by go_size)).1; have q0 : w'.cell? ⟨w.heap.size + 1, 0, none⟩ = some .nilIface := (by rw [hb.cell (p := ⟨w.heap.size + 1, 0, none⟩) (by simp)]; simp [go_sem]); have q1 : w'.cell? ⟨w.heap.size + 1, 1, none⟩ = some (.int .i32 0) := (by rw [hb.cell (p := ⟨w.heap.size + 1, 1, none⟩) (by simp)]; simp [go_sem]); have g0 : w'.frozen? ⟨w.heap.size + 1, 0, none⟩ = false := (by rw [hb.frozen (p := ⟨w.heap.size + 1, 0, none⟩) (by simp)]; simp [go_sem]); have g1 : w'.frozen? ⟨w.heap.size + 1, 1, none⟩ = false := (by rw [hb.frozen (p := ⟨w.heap.size + 1, 1, none⟩) (by simp)]; simp [go_sem]))
  exact bodyPost_ret (by (first | (simp [results, Try.results28, go_sem, q0, q1, zl, zl0]; done) | (simp [results, Try.results28, go_sem, q0, q1, zl, zl0]; rfl))) rfl ⟨rfl, by go_grown⟩
theorem info72 : (Try.prog.info? 72).map (fun i => i.size) = some 5 := by kernel_rfl
theorem n65 (b : Nat) (v : Bool) (l : Int) (w : World) (hlt : b < w.heap.size) (hc : w.cell? ⟨b, 0, none⟩ = some (.bool v)) : Calls Try.prog 28 #[.agg #[.iface 65 (.pointer (some ⟨b, 0, none⟩)), .int .i32 l]] w (NB (!v) l w) :=
  psC (fun b W g1 g2 => ms65 b v l W g1 g2) b w hlt hc w (Below.refl _ _)
theorem n69 (b y : Nat) (T : TypeId) (t : Int) (l : Int) (w w0 : World) (hlt : b < w.heap.size) (h0 : w.cell? ⟨b, 0, none⟩ = some (.iface T (.pointer (some ⟨y, 0, none⟩)))) (h2 : w.cell? ⟨b, 2, none⟩ = some (.int .u8 3)) (ht : t ≠ 4) (hb : Below w0.heap.size w0 w)
    (K : ∀ W, Below w0.heap.size w0 W → Calls Try.prog 11 #[.iface T (.pointer (some ⟨y, 0, none⟩))] W (Kn t W)) : Calls Try.prog 28 #[.agg #[.iface 69 (.pointer (some ⟨b, 0, none⟩)), .int .i32 l]] w (NU2 (.iface 69 (.pointer (some ⟨b, 0, none⟩))) l w) :=
  notU2 69 b l w fun W hW => ms69w b l T _ t W (Nat.lt_of_lt_of_le hlt hW.size) ((hW.cell (p := ⟨b, 0, none⟩) hlt).trans h0) ((hW.cell (p := ⟨b, 2, none⟩) hlt).trans h2) ht fun W' hW' => K W' (hb.trans ((hW.trans (hW'.mono hW.size)).mono hb.size))
theorem zz25 (a0 : Int) (a1 : Bool) (a2 : Nat) (p : Option Addr) (n c : Nat) (s : ByteArray) (l : Int) (w : World) (hn : n ≤ 9223372036854775807) (hs : s.size ≤ 9223372036854775807) : Calls Try.prog 25 #[.int .u8 a0, .bool a1, .float .f64 a2, .slice p n c, .string s, .int .i32 l] w fun e w' => e = .returned (.bool (decide (n + s.size ≤ 1048576))) ∧ w = w' := by
  by_cases h : n + s.size ≤ 1048576
  · rw [decide_eq_true h]
    go_enter Try.func25, Try.ntmps25
    go_wp2
    go_ret
    exact ⟨rfl, rfl⟩
  · rw [decide_eq_false h]
    go_enter Try.func25, Try.ntmps25
    go_wp2
    all_goals go_ret
    all_goals exact ⟨rfl, rfl⟩
set_option maxRecDepth 100000 in
set_option maxHeartbeats 4000000 in
theorem walk (a0 : Int) (a1 : Bool) (a2 : Nat) (a3 : Option Addr) (len3 cap3 : Nat) (z3 : List Int) (a4 : ByteArray) (a5 : Int) (w : World) (w0 : (Lit.int .u8 a0).wf = true) (w2 : (Lit.float .f64 a2).wf = true) (w3 : IsInts .u16 w a3 len3 cap3 z3) (w4 : a4.size ≤ maxLen) (w5 : (Lit.int .i32 a5).wf = true) :
    Calls Try.prog 7 #[.int .u8 a0, .bool a1, .float .f64 a2, .slice a3 len3 cap3, .string a4, .int .i32 a5] w fun e w' => e = .returned (.bool true) ∧ Below w.heap.size w w' := by
  have h0 : 0 ≤ a0 := by have : (0 : Int) ≤ a0 ∧ a0 ≤ 255 := by simpa [Lit.wf, IntKind.min, IntKind.max, IntKind.signed, IntKind.bits] using w0
                         exact this.1
  have hl : len3 ≤ 9223372036854775807 := by have h1 := w3.1.2.1; have h2 := w3.1.2.2.1; unfold maxLen at h2; omega
  have hs : a4.size ≤ 9223372036854775807 := by unfold maxLen at w4; omega
  have Z := fun W => zz25 a0 a1 a2 a3 len3 cap3 a4 a5 W hl hs
  have HI := Lib.hid w3
  have HL := fun p n c => leaves a0 a1 a2 p n c a4 a5 h0
  have HLL := Lib.hid HL
  clear HL w3 w0 w2 w4 w5 h0
  by_cases hno : ¬ 2 * len3 + a4.size ≤ 1048576
  · by_cases h1 : len3 + a4.size ≤ 1048576
    · rw [decide_eq_true h1] at Z
      have HZ := Lib.hid Z
      clear Z
      go_enter Try.func7, Try.ntmps7
      go_wp2_with (go_at_call 25; refine (HZ.out _).mono ?_; rintro e w' ⟨rfl, rfl⟩)
      go_ret
      exact ⟨rfl, by go_grown⟩
    · rw [decide_eq_false h1] at Z
      have HZ := Lib.hid Z
      clear Z
      go_enter Try.func7, Try.ntmps7
      go_wp2_with (go_at_call 25; refine (HZ.out _).mono ?_; rintro e w' ⟨rfl, rfl⟩)
      go_ret
      exact ⟨rfl, by go_grown⟩
  have hok : 2 * len3 + a4.size ≤ 1048576 := by omega
  clear hno
  rw [decide_eq_true (show len3 + a4.size ≤ 1048576 by omega)] at Z
  have HZ := Lib.hid Z
  clear Z
  go_enter Try.func7, Try.ntmps7
  go_wp2_with (go_at_call 25; refine (HZ.out _).mono ?_; rintro e w' ⟨rfl, rfl⟩)
  refine (cl26 a3 len3 cap3 z3 _ HI.out (by omega)).mono ?_
  rintro e w1 ⟨a', c', rfl, hI, hiff, hb1⟩
  have hsz1 := hb1.size
  clear hI hiff HI HZ
  rcases HLL.out a' len3 c' with ⟨v, hk, hm⟩ | ⟨hk, hm⟩
  rcases v with _ | _
  · have HM := Lib.hid hm
    clear hm
    go_wp2_with fail
    refine (hk _).mono ?_
    rintro e w2 ⟨T, b, p1, p2, p3, rfl, hP, hlt, hb2⟩
    have B2 : Below w.heap.size w w2 := (below_step hb2 (by go_grown) (by go_size)).1
    have hsz2 := B2.size
    clear hk
    go_wp2_with fail
    refine (hP _ (by go_grown)).mono ?_
    rintro e w3 ⟨b1, rfl, hv1, hlt1, hb3⟩
    clear hP
    have B3 : Below w.heap.size w w3 := (below_step hb3 (by go_grown) (by go_size)).1
    have hsz3 := B3.size
    go_wp2_with fail
    refine (n65 b1 false a5 _ (by simp; omega) (by simp [go_sem, hv1, hlt1])).mono ?_
    rintro e w4 ⟨b2, rfl, hv2, hlt2, hb4⟩
    have z4 : w3.heap.size < w4.heap.size := by have := hb4.size; simp at this; omega
    have p0 : w4.cell? ⟨w3.heap.size, 0, none⟩ = some (.iface 65 (.pointer (some ⟨b1, 0, none⟩))) := by rw [hb4.cell (p := ⟨w3.heap.size, 0, none⟩) (by simp)]; simp [go_sem]
    have p1 : w4.cell? ⟨w3.heap.size, 1, none⟩ = some (.int .i32 a5) := by rw [hb4.cell (p := ⟨w3.heap.size, 1, none⟩) (by simp)]; simp [go_sem]
    have u1 : w4.cell? ⟨b1, 0, none⟩ = some (.bool false) := by rw [hb4.cell (p := ⟨b1, 0, none⟩) (by simp; omega)]; simp [go_sem, hv1, hlt1]
    have hlt14 : b1 < w4.heap.size := by omega
    have B4 : Below w.heap.size w w4 := (below_step hb4 (by go_grown) (by go_size)).1
    have hsz4 := B4.size
    have hv2 : w4.cell? ⟨b2, 0, none⟩ = some (.bool true) := hv2
    go_wp2_with fail
    refine (n65 b2 true a5 _ (by simp; omega) (by simp [go_sem, hv2, hlt2])).mono ?_
    rintro e w5 ⟨b3, rfl, hv3, hlt3, hb5⟩
    have hv3 : w5.cell? ⟨b3, 0, none⟩ = some (.bool false) := hv3
    have z5 : w4.heap.size < w5.heap.size := by have := hb5.size; simp at this; omega
    have z35 : w3.heap.size < w5.heap.size := by omega
    have r0 : w5.cell? ⟨w3.heap.size, 0, none⟩ = some (.iface 65 (.pointer (some ⟨b1, 0, none⟩))) := by rw [hb5.cell (p := ⟨w3.heap.size, 0, none⟩) (by simp; omega)]; simp [go_sem, p0, z4]
    have r1 : w5.cell? ⟨w3.heap.size, 1, none⟩ = some (.int .i32 a5) := by rw [hb5.cell (p := ⟨w3.heap.size, 1, none⟩) (by simp; omega)]; simp [go_sem, p1, z4]
    have s0 : w5.cell? ⟨w4.heap.size, 0, none⟩ = some (.iface 65 (.pointer (some ⟨b2, 0, none⟩))) := by rw [hb5.cell (p := ⟨w4.heap.size, 0, none⟩) (by simp)]; simp [go_sem]
    have s1 : w5.cell? ⟨w4.heap.size, 1, none⟩ = some (.int .i32 a5) := by rw [hb5.cell (p := ⟨w4.heap.size, 1, none⟩) (by simp)]; simp [go_sem]
    have B5 : Below w.heap.size w w5 := (below_step hb5 (by go_grown) (by go_size)).1
    have x1 : w5.cell? ⟨b1, 0, none⟩ = some (.bool false) := by rw [hb5.cell (p := ⟨b1, 0, none⟩) (by simp; omega)]; simp [go_sem, u1, hlt14]
    have x2 : w5.cell? ⟨b2, 0, none⟩ = some (.bool true) := by rw [hb5.cell (p := ⟨b2, 0, none⟩) (by simp; omega)]; simp [go_sem, hv2, hlt2]
    have hlt15 : b1 < w5.heap.size := by omega
    have hlt25 : b2 < w5.heap.size := by omega
    clear p0 p1 u1 hv1 hv2
    go_wp2_with fail
    refine (HM.out _).mono ?_
    rintro e w6 ⟨rfl, rfl⟩
    go_wp2_with go_in
    go_ret
    exact ⟨rfl, by go_grown⟩
  · have HM := Lib.hid hm
    clear hm
    go_wp2_with fail
    refine (hk _).mono ?_
    rintro e w2 ⟨T, b, p1, p2, p3, rfl, hP, hlt, hb2⟩
    have B2 : Below w.heap.size w w2 := (below_step hb2 (by go_grown) (by go_size)).1
    have hsz2 := B2.size
    clear hk
    go_wp2_with fail
    refine (hP _ (by go_grown)).mono ?_
    rintro e w3 ⟨b1, rfl, hv1, hlt1, hb3⟩
    clear hP
    have B3 : Below w.heap.size w w3 := (below_step hb3 (by go_grown) (by go_size)).1
    have hsz3 := B3.size
    go_wp2_with fail
    refine (n65 b1 true a5 _ (by simp; omega) (by simp [go_sem, hv1, hlt1])).mono ?_
    rintro e w4 ⟨b2, rfl, hv2, hlt2, hb4⟩
    have z4 : w3.heap.size < w4.heap.size := by have := hb4.size; simp at this; omega
    have p0 : w4.cell? ⟨w3.heap.size, 0, none⟩ = some (.iface 65 (.pointer (some ⟨b1, 0, none⟩))) := by rw [hb4.cell (p := ⟨w3.heap.size, 0, none⟩) (by simp)]; simp [go_sem]
    have p1 : w4.cell? ⟨w3.heap.size, 1, none⟩ = some (.int .i32 a5) := by rw [hb4.cell (p := ⟨w3.heap.size, 1, none⟩) (by simp)]; simp [go_sem]
    have u1 : w4.cell? ⟨b1, 0, none⟩ = some (.bool true) := by rw [hb4.cell (p := ⟨b1, 0, none⟩) (by simp; omega)]; simp [go_sem, hv1, hlt1]
    have hlt14 : b1 < w4.heap.size := by omega
    have B4 : Below w.heap.size w w4 := (below_step hb4 (by go_grown) (by go_size)).1
    have hsz4 := B4.size
    have hv2 : w4.cell? ⟨b2, 0, none⟩ = some (.bool false) := hv2
    go_wp2_with fail
    refine (n65 b2 false a5 _ (by simp; omega) (by simp [go_sem, hv2, hlt2])).mono ?_
    rintro e w5 ⟨b3, rfl, hv3, hlt3, hb5⟩
    have hv3 : w5.cell? ⟨b3, 0, none⟩ = some (.bool true) := hv3
    have z5 : w4.heap.size < w5.heap.size := by have := hb5.size; simp at this; omega
    have z35 : w3.heap.size < w5.heap.size := by omega
    have r0 : w5.cell? ⟨w3.heap.size, 0, none⟩ = some (.iface 65 (.pointer (some ⟨b1, 0, none⟩))) := by rw [hb5.cell (p := ⟨w3.heap.size, 0, none⟩) (by simp; omega)]; simp [go_sem, p0, z4]
    have r1 : w5.cell? ⟨w3.heap.size, 1, none⟩ = some (.int .i32 a5) := by rw [hb5.cell (p := ⟨w3.heap.size, 1, none⟩) (by simp; omega)]; simp [go_sem, p1, z4]
    have s0 : w5.cell? ⟨w4.heap.size, 0, none⟩ = some (.iface 65 (.pointer (some ⟨b2, 0, none⟩))) := by rw [hb5.cell (p := ⟨w4.heap.size, 0, none⟩) (by simp)]; simp [go_sem]
    have s1 : w5.cell? ⟨w4.heap.size, 1, none⟩ = some (.int .i32 a5) := by rw [hb5.cell (p := ⟨w4.heap.size, 1, none⟩) (by simp)]; simp [go_sem]
    have B5 : Below w.heap.size w w5 := (below_step hb5 (by go_grown) (by go_size)).1
    have x1 : w5.cell? ⟨b1, 0, none⟩ = some (.bool true) := by rw [hb5.cell (p := ⟨b1, 0, none⟩) (by simp; omega)]; simp [go_sem, u1, hlt14]
    have x2 : w5.cell? ⟨b2, 0, none⟩ = some (.bool false) := by rw [hb5.cell (p := ⟨b2, 0, none⟩) (by simp; omega)]; simp [go_sem, hv2, hlt2]
    have hlt15 : b1 < w5.heap.size := by omega
    have hlt25 : b2 < w5.heap.size := by omega
    clear p0 p1 u1 hv1 hv2
    go_wp2_with fail
    refine (HM.out _).mono ?_
    rintro e w6 ⟨rfl, rfl⟩
    go_wp2_with go_in
    go_ret
    exact ⟨rfl, by go_grown⟩
  · have HM := Lib.hid hm
    clear hm
    go_wp2_with fail
    refine (hk _).mono ?_
    rintro e w2 ⟨T, b, p1, p2, p3, rfl, ⟨hP, t, ht, hK⟩, hlt, hb2⟩
    have B2 : Below w.heap.size w w2 := (below_step hb2 (by go_grown) (by go_size)).1
    have hsz2 := B2.size
    have HT := Lib.hid ht
    have HK := Lib.hid hK
    clear hk ht hK
    go_wp2_with fail
    refine (hP _ (by go_grown)).mono ?_
    rintro e w3 ⟨b1, rfl, c0, c1, c2, hn1, hlt1, hb3, cs1, ty1, hh1⟩
    clear hP
    have B23 : Below w2.heap.size w2 w3 := (below_step hb3 (by go_grown) (by go_size)).1
    have B3 : Below w.heap.size w w3 := (below_step hb3 (by go_grown) (by go_size)).1
    have hsz3 := B3.size
    have hsz23 := B23.size
    go_wp2_with fail
    refine (n69 b1 b T t a5 _ w2 (by simp; omega) (by simp [go_sem, c0, hlt1]) (by simp [go_sem, c2, hlt1]) HT.out (by go_grown) HK.out).mono ?_
    rintro e w4 ⟨b2, rfl, d0, d1, d2, hn2, hlt2, hb4, cs2, ty2, hh2⟩
    have hn2 : w3.heap.size + 1 ≤ b2 := by simpa using hn2
    have z4 : w3.heap.size < w4.heap.size := by have := hb4.size; simp at this; omega
    have p0 : w4.cell? ⟨w3.heap.size, 0, none⟩ = some (.iface 69 (.pointer (some ⟨b1, 0, none⟩))) := by rw [hb4.cell (p := ⟨w3.heap.size, 0, none⟩) (by simp)]; simp [go_sem]
    have p1 : w4.cell? ⟨w3.heap.size, 1, none⟩ = some (.int .i32 a5) := by rw [hb4.cell (p := ⟨w3.heap.size, 1, none⟩) (by simp)]; simp [go_sem]
    have u2 : w4.cell? ⟨b1, 2, none⟩ = some (.int .u8 3) := by rw [hb4.cell (p := ⟨b1, 2, none⟩) (by simp; omega)]; simp [go_sem, c2, hlt1]
    have hlt14 : b1 < w4.heap.size := by omega
    have B4 : Below w.heap.size w w4 := (below_step hb4 (by go_grown) (by go_size)).1
    have hsz4 := B4.size
    go_wp2_with fail
    refine (notI b2 b1 a5 a5 _ (by simp; omega) (by simp; omega) (by simp [go_sem, d0, hlt2]) (by simp [go_sem, d1, hlt2]) (by simp [go_sem, d2, hlt2]) (by simp [go_sem, u2, hlt14])).mono ?_
    rintro e w5 ⟨rfl, hb5⟩
    have z5 : w4.heap.size < w5.heap.size := by have := hb5.size; simp at this; omega
    have z35 : w3.heap.size < w5.heap.size := by omega
    have r0 : w5.cell? ⟨w3.heap.size, 0, none⟩ = some (.iface 69 (.pointer (some ⟨b1, 0, none⟩))) := by rw [hb5.cell (p := ⟨w3.heap.size, 0, none⟩) (by simp; omega)]; simp [go_sem, p0, z4]
    have r1 : w5.cell? ⟨w3.heap.size, 1, none⟩ = some (.int .i32 a5) := by rw [hb5.cell (p := ⟨w3.heap.size, 1, none⟩) (by simp; omega)]; simp [go_sem, p1, z4]
    have s0 : w5.cell? ⟨w4.heap.size, 0, none⟩ = some (.iface 69 (.pointer (some ⟨b2, 0, none⟩))) := by rw [hb5.cell (p := ⟨w4.heap.size, 0, none⟩) (by simp)]; simp [go_sem]
    have s1 : w5.cell? ⟨w4.heap.size, 1, none⟩ = some (.int .i32 a5) := by rw [hb5.cell (p := ⟨w4.heap.size, 1, none⟩) (by simp)]; simp [go_sem]
    have B5 : Below w.heap.size w w5 := (below_step hb5 (by go_grown) (by go_size)).1
    have x2 : w5.cell? ⟨b2, 0, none⟩ = some (.iface 69 (.pointer (some ⟨b1, 0, none⟩))) := by rw [hb5.cell (p := ⟨b2, 0, none⟩) (by simp; omega)]; simp [go_sem, d0, hlt2]
    have hlt15 : b1 < w5.heap.size := by omega
    have hlt25 : b2 < w5.heap.size := by omega
    have hne : b1 ≠ b2 := by omega
    have B34 : Below w3.heap.size w3 w4 := (below_step hb4 (by go_grown) (by go_size)).1
    have B45 : Below w4.heap.size w4 w5 := (below_step hb5 (by go_grown) (by go_size)).1
    have H1 : w5.heap[b1]? = some (.cells cs1 ty1 (0, 0)) := (B45.block b1 hlt14).trans ((B34.block b1 hlt1).trans hh1)
    have H2 : w5.heap[b2]? = some (.cells cs2 ty2 (0, 0)) := (B45.block b2 hlt2).trans hh2
    obtain ⟨j72, hj, hjs⟩ : ∃ j, Try.prog.info? 72 = some j ∧ j.size = 5 := by
      have q := info72
      cases e72 : Try.prog.info? 72 with
      | none => rw [e72] at q; cases q
      | some j => rw [e72] at q; exact ⟨j, rfl, by simpa using q⟩
    have hqn : ∀ Y, (binOp .eql 69 (.pointer (some ⟨b1, 0, none⟩)) (.pointer (some ⟨b2, 0, none⟩))).run Try.prog (w5.alloc Y) = .ok (.bool false) (w5.alloc Y) := fun Y =>
      run_eql_ptr_other _ Try.underlying69 hj (by rw [hjs]; decide) (by intro q; injection q with q; exact hne q)
        (((((Below.refl _ _).alloc (Nat.le_refl _) Y : Below w5.heap.size w5 (w5.alloc Y))).block b1 hlt15).trans H1) (((((Below.refl _ _).alloc (Nat.le_refl _) Y : Below w5.heap.size w5 (w5.alloc Y))).block b2 hlt25).trans H2)
    have hqs : ∀ W : World, (binOp .eql 69 (.pointer (some ⟨b1, 0, none⟩)) (.pointer (some ⟨b1, 0, none⟩))).run Try.prog W = .ok (.bool true) W := fun W => run_eql_ptr_same W _ Try.underlying69 hj
    clear H1 H2 hh1 hh2 hj hjs
    clear p0 p1 u2 c0 c1 c2 d0 d1 d2
    go_wp2_with fail
    refine (HM.out _).mono ?_
    rintro e w6 ⟨rfl, rfl⟩
    go_wp2_with go_in
    go_ret
    exact ⟨rfl, by go_grown⟩
end Go.Proofs.Ytfbmadlcjpaddaa.fnNotThriceIsOnce
