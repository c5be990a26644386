/-
  The leaves of FnNotThriceIsOnce and the law's model. No condition.
-/
import Derived.Test.YtfbmadlcjpaddaaNotsB
import Derived.Test.YtfbmadlcjpaddaaLeaf
import Derived.Test.YtfbmadlcjpaddaaMod
namespace Go.Proofs.Ytfbmadlcjpaddaa
open Go.ChangeShapes Go.WideShapes Go.ChangeAt Go.RowKit
set_option linter.unusedVariables false
set_option linter.unusedSimpArgs false
theorem alloc_at {W : World} {o : Obj} {b : Nat} (h : b = W.heap.size) : (W.alloc o).heap[b]? = some o := by subst h; exact Array.getElem?_push_size
def NU2 (d : Value) (l : Int) (w : World) (e : Ending) (w' : World) : Prop := ∃ b, e = .returned (.agg #[.iface 69 (.pointer (some ⟨b, 0, none⟩)), .int .i32 l]) ∧ w'.cell? ⟨b, 0, none⟩ = some d ∧ w'.cell? ⟨b, 1, none⟩ = some (.int .i32 l) ∧ w'.cell? ⟨b, 2, none⟩ = some (.int .u8 3) ∧ w.heap.size ≤ b ∧ b < w'.heap.size ∧ Below w.heap.size w w' ∧ ∃ cs ty, w'.heap[b]? = some (.cells cs ty (0, 0))
set_option maxRecDepth 100000 in
set_option maxHeartbeats 2000000 in
theorem notU2 (T : TypeId) (y : Nat) (l : Int) (w : World) (h : ∀ W, Below w.heap.size w W → Calls Try.prog 13 #[.agg #[.iface T (.pointer (some ⟨y, 0, none⟩)), .int .i32 l]] W (MF W)) : Calls Try.prog 28 #[.agg #[.iface T (.pointer (some ⟨y, 0, none⟩)), .int .i32 l]] w (NU2 (.iface T (.pointer (some ⟨y, 0, none⟩))) l w) := by
  have HK := Lib.hid h
  clear h
  go_enter Try.func28, Try.ntmps28
  go_wp2_with (go_at_call 13; refine (HK.out _ (by go_grown)).mono ?_; rintro e w' ⟨rfl, hb⟩; have zz := hb.size; simp at zz; have zl : w.heap.size + 1 < w'.heap.size := (by omega); have zl0 : w.heap.size < w'.heap.size := (by omega); have hB : Below w.heap.size w w' := (below_step hb (by go_grown) (by go_size)).1; have q0 : w'.cell? ⟨w.heap.size + 1, 0, none⟩ = some .nilIface := (by rw [hb.cell (p := ⟨w.heap.size + 1, 0, none⟩) (by simp)]; simp [go_sem]); have q1 : w'.cell? ⟨w.heap.size + 1, 1, none⟩ = some (.int .i32 0) := (by rw [hb.cell (p := ⟨w.heap.size + 1, 1, none⟩) (by simp)]; simp [go_sem]); have g0 : w'.frozen? ⟨w.heap.size + 1, 0, none⟩ = false := (by rw [hb.frozen (p := ⟨w.heap.size + 1, 0, none⟩) (by simp)]; simp [go_sem]); have g1 : w'.frozen? ⟨w.heap.size + 1, 1, none⟩ = false := (by rw [hb.frozen (p := ⟨w.heap.size + 1, 1, none⟩) (by simp)]; simp [go_sem]); have t0 : w'.cell? ⟨w.heap.size, 0, none⟩ = some (.iface T (.pointer (some ⟨y, 0, none⟩))) := (by rw [hb.cell (p := ⟨w.heap.size, 0, none⟩) (by simp; omega)]; simp [go_sem]); have t1 : w'.cell? ⟨w.heap.size, 1, none⟩ = some (.int .i32 l) := (by rw [hb.cell (p := ⟨w.heap.size, 1, none⟩) (by simp; omega)]; simp [go_sem]))
  exact bodyPost_ret (by simp [results, Try.results28, go_sem, q0, q1, zl, zl0]; rfl) rfl ⟨_, rfl, by simp [go_sem, t0, t1], by simp [go_sem, t0, t1], by simp [go_sem], by (first | omega | (simp; omega)), by go_size, by go_grown, _, _, alloc_at (by simp)⟩
def PS (v : Bool) (l : Int) (T : TypeId) (b : Nat) (w : World) : Prop := ∀ W, Below w.heap.size w W → Calls Try.prog 28 #[.agg #[.iface T (.pointer (some ⟨b, 0, none⟩)), .int .i32 l]] W (NB v l W)
def PW (l : Int) (T : TypeId) (b : Nat) (w : World) : Prop := (∀ W, Below w.heap.size w W → Calls Try.prog 28 #[.agg #[.iface T (.pointer (some ⟨b, 0, none⟩)), .int .i32 l]] W (NU2 (.iface T (.pointer (some ⟨b, 0, none⟩))) l W)) ∧ ∃ t, t ≠ 4 ∧ ∀ W, Below w.heap.size w W → Calls Try.prog 11 #[.iface T (.pointer (some ⟨b, 0, none⟩))] W (Kn t W)
def MkP (P : TypeId → Nat → World → Prop) (a0 : Int) (a1 : Bool) (a2 : Nat) (p : Option Addr) (n c : Nat) (s : ByteArray) (l : Int) : Prop := ∀ w, Calls Try.prog 27 #[.int .u8 a0, .bool a1, .float .f64 a2, .slice p n c, .string s, .int .i32 l] w fun e w' => ∃ T b p1 p2 p3, e = .returned (.tuple #[.agg #[.iface T (.pointer (some ⟨b, 0, none⟩)), .int .i32 l], .pointer p1, .pointer p2, .pointer p3]) ∧ P T b w' ∧ b < w'.heap.size ∧ Below w.heap.size w w'
section
variable {a0 : Int} {a1 : Bool} {a2 : Nat} {p : Option Addr} {n c : Nat} {s : ByteArray} {l : Int}
theorem ofMk {T : TypeId} {P : TypeId → Nat → World → Prop} (h : ∀ w, Calls Try.prog 27 #[.int .u8 a0, .bool a1, .float .f64 a2, .slice p n c, .string s, .int .i32 l] w (Mk T l w)) (hp : ∀ b w, P T b w) : MkP P a0 a1 a2 p n c s l :=
  fun w => (h w).mono (by rintro e w' ⟨b, p1, p2, p3, rfl, hlt, hb⟩; exact ⟨T, b, p1, p2, p3, rfl, hp b w', hlt, hb⟩)
theorem ofMkC {T : TypeId} {v : Value} {P : TypeId → Nat → World → Prop} (h : ∀ w, Calls Try.prog 27 #[.int .u8 a0, .bool a1, .float .f64 a2, .slice p n c, .string s, .int .i32 l] w (MkC T v l w)) (hp : ∀ b w, b < w.heap.size → w.cell? ⟨b, 0, none⟩ = some v → P T b w) : MkP P a0 a1 a2 p n c s l :=
  fun w => (h w).mono (by rintro e w' ⟨b, p1, p2, p3, rfl, hlt, hc, hb⟩; exact ⟨T, b, p1, p2, p3, rfl, hp b w' hlt hc, hlt, hb⟩)
theorem psC {T : TypeId} {v : Value} {x : Bool} (h : ∀ b W, b < W.heap.size → W.cell? ⟨b, 0, none⟩ = some v → Calls Try.prog 13 #[.agg #[.iface T (.pointer (some ⟨b, 0, none⟩)), .int .i32 l]] W (MB x l W)) (b : Nat) (w : World) (hlt : b < w.heap.size) (hc : w.cell? ⟨b, 0, none⟩ = some v) : PS x l T b w :=
  fun W hW => notB T b l x W fun W' hW' => h b W' (Nat.lt_of_lt_of_le hlt (hW.trans (hW'.mono hW.size)).size) (((hW.trans (hW'.mono hW.size)).cell (p := ⟨b, 0, none⟩) hlt).trans hc)
theorem pwC {T : TypeId} {v : Value} {t : Int} (ht : t ≠ 4) (hk : ∀ b W, Calls Try.prog 11 #[.iface T (.pointer (some ⟨b, 0, none⟩))] W (Kn t W)) (h : ∀ b W, b < W.heap.size → W.cell? ⟨b, 0, none⟩ = some v → Calls Try.prog 13 #[.agg #[.iface T (.pointer (some ⟨b, 0, none⟩)), .int .i32 l]] W (MF W)) (b : Nat) (w : World) (hlt : b < w.heap.size) (hc : w.cell? ⟨b, 0, none⟩ = some v) : PW l T b w :=
  ⟨fun W hW => notU2 T b l W fun W' hW' => h b W' (Nat.lt_of_lt_of_le hlt (hW.trans (hW'.mono hW.size)).size) (((hW.trans (hW'.mono hW.size)).cell (p := ⟨b, 0, none⟩) hlt).trans hc), t, ht, fun W _ => hk b W⟩
theorem ps {T : TypeId} {x : Bool} (h : ∀ b W, Calls Try.prog 13 #[.agg #[.iface T (.pointer (some ⟨b, 0, none⟩)), .int .i32 l]] W (MB x l W)) (b : Nat) (w : World) : PS x l T b w := fun W _ => notB T b l x W fun W' _ => h b W'
theorem pw {T : TypeId} {t : Int} (ht : t ≠ 4) (hk : ∀ b W, Calls Try.prog 11 #[.iface T (.pointer (some ⟨b, 0, none⟩))] W (Kn t W)) (h : ∀ b W, Calls Try.prog 13 #[.agg #[.iface T (.pointer (some ⟨b, 0, none⟩)), .int .i32 l]] W (MF W)) (b : Nat) (w : World) : PW l T b w :=
  ⟨fun W _ => notU2 T b l W fun W' _ => h b W', t, ht, fun W _ => hk b W⟩
end
theorem eleven {a0 : Int} (h0 : 0 ≤ a0) : a0 % 11 = 0 ∨ a0 % 11 = 1 ∨ a0 % 11 = 2 ∨ a0 % 11 = 3 ∨ a0 % 11 = 4 ∨ a0 % 11 = 5 ∨ a0 % 11 = 6 ∨ a0 % 11 = 7 ∨ a0 % 11 = 8 ∨ a0 % 11 = 9 ∨ a0 % 11 = 10 := by omega
theorem leaves (a0 : Int) (a1 : Bool) (a2 : Nat) (p : Option Addr) (n c : Nat) (s : ByteArray) (l : Int) (h0 : 0 ≤ a0) : (∃ v, MkP (PS v l) a0 a1 a2 p n c s l ∧ ∀ w, Calls Try.prog 29 #[.int .u8 a0, .bool a1, .float .f64 a2, .slice p n c, .string s] w (Md v true w)) ∨ (MkP (PW l) a0 a1 a2 p n c s l ∧ ∀ w, Calls Try.prog 29 #[.int .u8 a0, .bool a1, .float .f64 a2, .slice p n c, .string s] w (Md false false w)) := by
  rcases eleven h0 with h | h | h | h | h | h | h | h | h | h | h
  · exact .inl ⟨true, ofMk (fun w => mk0 a0 a1 a2 p n c s l w h0 h) (ps fun b W => ms74 b l W), fun w => md0 a0 a1 a2 p n c s w h0 h⟩
  · exact .inl ⟨true, ofMk (fun w => mk1 a0 a1 a2 p n c s l w h0 h) (ps fun b W => ms77 b l W), fun w => md1 a0 a1 a2 p n c s w h0 h⟩
  · exact .inl ⟨!a1, ofMkC (fun w => mk2 a0 a1 a2 p n c s l w h0 h) (psC fun b W g1 g2 => ms65 b a1 l W g1 g2), fun w => md2 a0 a1 a2 p n c s w h0 h⟩
  · have M := fun w => mk3 a0 a1 a2 p n c s l w h0 h
    by_cases hn : Fp.nan a2
    · exact .inl ⟨true, ofMkC M (psC fun b W g1 g2 => ms79b b a2 l W g1 g2 (n_eq (.inl hn)) (n_ne (.inl hn))), fun w => md3a a0 a1 a2 p n c s w h0 h (n_lt (.inl hn)) (n_gt (.inl hn))⟩
    · rcases Int.lt_trichotomy (Fp.ky a2) 0 with hk | hk | hk
      · exact .inl ⟨false, ofMkC M (psC fun b W g1 g2 => ms79c b a2 l W g1 g2 (by rw [f_eq hn zero_nn, ky_zero]; simp; omega) (s_ne hn)), fun w => md3b a0 a1 a2 p n c s w h0 h (by rw [f_lt hn zero_nn, ky_zero]; simp; omega)⟩
      · exact .inl ⟨true, ofMkC M (psC fun b W g1 g2 => ms79a b a2 l W g1 g2 (by rw [f_eq hn zero_nn, ky_zero]; simp; omega)), fun w => md3a a0 a1 a2 p n c s w h0 h (by rw [f_lt hn zero_nn, ky_zero]; simp; omega) (by rw [f_gt hn zero_nn, ky_zero]; simp; omega)⟩
      · exact .inl ⟨false, ofMkC M (psC fun b W g1 g2 => ms79c b a2 l W g1 g2 (by rw [f_eq hn zero_nn, ky_zero]; simp; omega) (s_ne hn)), fun w => md3c a0 a1 a2 p n c s w h0 h (by rw [f_lt hn zero_nn, ky_zero]; simp; omega) (by rw [f_gt hn zero_nn, ky_zero]; simp; omega)⟩
  · exact .inl ⟨((n : Int) == 0), ofMkC (fun w => mk4 a0 a1 a2 p n c s l w h0 h) (psC fun b W g1 g2 => ms82 b p n c l W g1 g2), fun w => md4 a0 a1 a2 p n c s w h0 h⟩
  · have M := fun w => mk5 a0 a1 a2 p n c s l w h0 h
    by_cases hq : (s.toList == [48]) = true
    · exact .inl ⟨true, ofMkC M (psC fun b W g1 g2 => ms58e b s hq l W g1 g2), fun w => md5e a0 a1 a2 p n c s w h0 h hq⟩
    · have hq : (s.toList == [48]) = false := by simpa using hq
      by_cases h2 : s.size < 2
      · exact .inl ⟨false, ofMkC M (psC fun b W g1 g2 => ms58s b s hq h2 l W g1 g2), fun w => md5s a0 a1 a2 p n c s w h0 h hq h2⟩
      · have hz : 0 < s.size := by omega
        by_cases hc : (s[0]'hz).toNat = 48
        · exact .inr ⟨ofMkC M (pwC (t := 7) (by decide) kn58 fun b W g1 g2 => ms58r b s hq hz (by omega) hc l W g1 g2), fun w => md5r a0 a1 a2 p n c s w h0 h hq hz (by omega) hc⟩
        · exact .inl ⟨false, ofMkC M (psC fun b W g1 g2 => ms58d b s hq hz (by omega) _ rfl (by rw [bne_iff_ne]; omega) l W g1 g2), fun w => md5d a0 a1 a2 p n c s w h0 h hq hz (by omega) _ rfl (by rw [beq_eq_false_iff_ne]; omega)⟩
  · exact .inl ⟨false, ofMk (fun w => mk6 a0 a1 a2 p n c s l w h0 h) (ps fun b W => ms136 b l W), fun w => md6 a0 a1 a2 p n c s w h0 h⟩
  · exact .inl ⟨false, ofMk (fun w => mk7 a0 a1 a2 p n c s l w h0 h) (ps fun b W => ms113 b l W), fun w => md7 a0 a1 a2 p n c s w h0 h⟩
  · exact .inl ⟨false, ofMk (fun w => mk8 a0 a1 a2 p n c s l w h0 h) (ps fun b W => ms137 b l W), fun w => md8 a0 a1 a2 p n c s w h0 h⟩
  · exact .inr ⟨ofMk (fun w => mk9 a0 a1 a2 p n c s l w h0 h) (pw (t := 0) (by decide) kn57 fun b W => ms57 b l W), fun w => md9 a0 a1 a2 p n c s w h0 h⟩
  · exact .inr ⟨ofMk (fun w => mk10 a0 a1 a2 p n c s l w h0 h) (pw (t := 0) (by decide) kn59 fun b W => ms59 b l W), fun w => md10 a0 a1 a2 p n c s w h0 h⟩
end Go.Proofs.Ytfbmadlcjpaddaa
