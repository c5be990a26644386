/-
  The contracts of GlobPatternToString and globPartsEqual. No condition.
-/
import Derived.Test.YtocnfapldcjilaaGp
import Derived.Test.YtocnfapldcjilaaBld
import Derived.BigQuiet
namespace Go.Proofs.Ytocnfapldcjilaa
open Go.ChangeShapes Go.WideShapes Go.ChangeAt Go.RowKit
set_option linter.unusedVariables false

/-- The parts lie at block g. -/
def Pt (w : World) (g : Nat) (zs : List ByteArray) (cs : List Int) (n : Nat) : Prop :=
  g < w.heap.size ∧ ∀ i, i < n → w.cell? ⟨g, i * 2, none⟩ = some (.string (Pf zs i)) ∧ w.cell? ⟨g, i * 2 + 1, none⟩ = some (.int .u8 (wv cs n i))
theorem Pt.below {w w' : World} {g : Nat} {zs : List ByteArray} {cs : List Int} {n B : Nat} (h : Pt w g zs cs n) (hb : Below B w w') (hg : g < B) : Pt w' g zs cs n :=
  ⟨Nat.lt_of_lt_of_le h.1 hb.size, fun i hi => ⟨by rw [hb.cell (p := ⟨g, i * 2, none⟩) hg]; exact (h.2 i hi).1, by rw [hb.cell (p := ⟨g, i * 2 + 1, none⟩) hg]; exact (h.2 i hi).2⟩⟩
theorem Pt.own {w : World} {base g cap : Nat} {zs : List ByteArray} {cs : List Int} {n : Nat} (h : w.ownsRow base 32 2 (.slice (some ⟨g, 0, none⟩) n cap) n (pl zs cs n n)) (hg : g < w.heap.size) : Pt w g zs cs n :=
  ⟨hg, fun i hi => ⟨by rw [h.cellAt (i * 2) (by omega)]; exact (pl_at zs cs n n i hi).1, by rw [h.cellAt (i * 2 + 1) (by omega)]; exact (pl_at zs cs n n i hi).2⟩⟩
set_option maxRecDepth 100000 in
set_option maxHeartbeats 4000000 in
theorem equal13 (g1 g2 c1 c2 : Nat) (zs : List ByteArray) (cs : List Int) (n : Nat) (hw : Wf zs cs n) (hn : n ≤ 65536) (w : World) (h1 : Pt w g1 zs cs n) (h2 : Pt w g2 zs cs n) :
    Calls Try.prog 13 #[.slice (some ⟨g1, 0, none⟩) n c1, .slice (some ⟨g2, 0, none⟩) n c2] w fun e w' => e = .returned (.bool true) ∧ Below w.heap.size w w' := by
  have H1 := Lib.hid h1
  have H2 := Lib.hid h2
  have hlt1 := h1.1
  have hlt2 := h2.1
  have HW := Lib.hid hw
  clear h1 h2 hw
  go_enter Try.func13, Try.ntmps13
  go_wp2_with fail
  go_loopw [5] (fun i wr' => ∃ (k : Nat) (wr : World), wr = wr' ∧ i = .int .i64 k ∧ k ≤ n ∧ Hid (Below w.heap.size w wr)) (fun i _ => n - (intOf i).toNat)
  case atStart => exact ⟨0, _, rfl, rfl, Nat.zero_le _, Below.refl _ _⟩
  case round =>
    obtain ⟨k, wr, rfl, rfl, hk, HB⟩ := hrel
    by_cases hlt : k < n
    · obtain ⟨a1, a2⟩ := (H1.out.below HB.out hlt1).2 k hlt
      obtain ⟨b1, b2⟩ := (H2.out.below HB.out hlt2).2 k hlt
      generalize Pf zs k = x at *
      generalize wv cs n k = v at *
      go_wp2_with fail
      go_quiet (fail)
      go_wp2_with fail
      refine ⟨⟨k + 1, _, rfl, by go_num, by omega, ?_⟩, by simp [intOf]; omega⟩
      exact below_drewN HB.out _
    · obtain rfl : k = n := by omega
      go_wp2_with fail
      go_ret
      exact ⟨rfl, HB.out⟩
theorem bc_append (a b : List UInt8) : Lib.byteCells (a ++ b) = Lib.byteCells a ++ Lib.byteCells b := by simp [Lib.byteCells]
theorem bc_len (a : List UInt8) : (Lib.byteCells a).length = a.length := by simp [Lib.byteCells]
theorem varKept {W w2 : World} {b : Nat} {cs : Array Value} (h : Lib.OthersKept 5 (some b) (W.alloc (.cells cs 32)) w2) (hb : W.heap.size ≠ b) (i : Nat) (u : Value) (hu : cs[i]? = some u) : w2.cell? ⟨W.heap.size, i, none⟩ = some u := by
  have q := h W.heap.size (.cells cs 32 (0, 0)) (heap_alloc_new W _) (by simpa using hb) (by intro c fz e; cases e)
  rw [Lib.cell_of_heap q]; exact hu
theorem fw_step (zs : List ByteArray) (cs : List Int) (n k : Nat) : Lib.byteCells (fw zs cs n (k + 1)) = Lib.byteCells (fw zs cs n k) ++ Lib.strCells (Pf zs k) ++ Lib.byteCells (stars (wv cs n k)) := by
  rw [Lib.strCells_eq, ← bc_append, ← bc_append]; simp [fw, pc]
set_option maxRecDepth 100000 in
set_option maxHeartbeats 4000000 in
theorem str12 (g c : Nat) (zs : List ByteArray) (cs : List Int) (n : Nat) (hw : Wf zs cs n) (hn : n ≤ 65536) (hs : sz zs n ≤ 1048576) (w : World) (h1 : Pt w g zs cs n) :
    Calls Try.prog 12 #[.slice (some ⟨g, 0, none⟩) n c] w fun e w' => e = .returned (.string ⟨(fw zs cs n n).toArray⟩) ∧ Below w.heap.size w w' := by
  have H1 := Lib.hid h1
  have hlt1 := h1.1
  have HW := Lib.hid hw
  clear h1 hw
  go_enter Try.func12, Try.ntmps12
  go_wp2_with fail
  go_loopw [9] (fun i wr' => ∃ (k : Nat) (wr : World), wr = wr' ∧ i = .int .i64 k ∧ k ≤ n ∧ Hid (Bld w.heap.size w.heap.size (Lib.byteCells (fw zs cs n k)) wr) ∧ Hid (Below w.heap.size w wr) ∧ w.heap.size < wr.heap.size) (fun i _ => n - (intOf i).toNat)
  case atStart => exact ⟨0, _, rfl, rfl, Nat.zero_le _, bldNew w, (Below.refl _ _).alloc (Nat.le_refl _) _, by simp⟩
  case round =>
    obtain ⟨k, wr, rfl, rfl, hk, HD, HB, hsz⟩ := hrel
    by_cases hlt : k < n
    · obtain ⟨a1, a2⟩ := (H1.out.below HB.out hlt1).2 k hlt
      have hl1 := fw_len HW.out.2 k hk
      have hl2 := sz_mono zs (k + 1) n hlt
      have hx : sz zs (k + 1) = sz zs k + (Pf zs k).size := rfl
      have hv2 := wv_le (HW.out.2 k hlt)
      have hstep := Lib.hid (fw_step zs cs n k)
      have hlen : (Lib.byteCells (fw zs cs n k)).length + (Pf zs k).size ≤ 2000000 := by rw [bc_len]; omega
      clear hl1 hl2 hx
      obtain ⟨x, ex⟩ : ∃ x, x = Pf zs k := ⟨_, rfl⟩
      obtain ⟨v, ev⟩ : ∃ v, v = wv cs n k := ⟨_, rfl⟩
      rw [← ex] at a1 hstep hlen
      rw [← ev] at a2 hstep hv2
      clear ex ev
      go_wp2_with fail
      refine (bldStr w.heap.size w.heap.size _ x _ (bldBelow HD.out ((Below.refl _ wr).alloc (Nat.le_refl _) _)) (by omega) (by have := HB.out.size; simp; omega)).mono ?_
      rintro e w2 ⟨rfl, hB2, hb2, hk2⟩
      have v1 := varKept hk2 (by omega) 1 (.int .u8 v) rfl
      have HD2 := Lib.hid hB2
      have HB2 : Hid (Below w.heap.size w w2) := (HB.out.alloc HB.out.size _).trans hb2
      have hsz2 : w.heap.size < w2.heap.size := by have := hb2.size; simp at this; omega
      clear hB2 hb2 hk2 a1 a2
      have hlen2 : (Lib.byteCells (fw zs cs n k) ++ Lib.strCells x).length ≤ 2000000 := by rw [List.length_append, Lib.strCells_length]; omega
      rcases (show v = 0 ∨ v = 1 ∨ v = 2 by omega) with rfl | rfl | rfl
      · go_wp2_with fail
        refine ⟨⟨k + 1, _, rfl, by go_num, by omega, ?_, HB2.out, hsz2⟩, by simp [intOf]; omega⟩
        refine Lib.hid ?_; rw [hstep.out]; simpa [stars, Lib.byteCells] using HD2.out
      · go_wp2_with fail
        refine (bldByte w.heap.size w.heap.size _ 42 _ HD2.out (by omega) (by omega)).mono ?_
        rintro e w3 ⟨rfl, hB3, hb3, -⟩
        have HD3 := Lib.hid hB3
        have HB3 : Hid (Below w.heap.size w w3) := HB2.out.trans hb3
        have hsz3 : w.heap.size < w3.heap.size := by have := hb3.size; omega
        clear hB3 hb3
        go_wp2_with fail
        refine ⟨⟨k + 1, _, rfl, by go_num, by omega, ?_, HB3.out, hsz3⟩, by simp [intOf]; omega⟩
        refine Lib.hid ?_; rw [hstep.out]; simpa [stars, Lib.byteCells] using HD3.out
      · go_wp2_with fail
        refine (bldStr w.heap.size w.heap.size _ ⟨#[42, 42]⟩ _ HD2.out (by show _ + 2 ≤ _; omega) (by omega)).mono ?_
        rintro e w3 ⟨rfl, hB3, hb3, -⟩
        have HD3 := Lib.hid hB3
        have HB3 : Hid (Below w.heap.size w w3) := HB2.out.trans hb3
        have hsz3 : w.heap.size < w3.heap.size := by have := hb3.size; omega
        clear hB3 hb3
        go_wp2_with fail
        refine ⟨⟨k + 1, _, rfl, by go_num, by omega, ?_, HB3.out, hsz3⟩, by simp [intOf]; omega⟩
        refine Lib.hid ?_; rw [hstep.out]; simpa [stars, Lib.byteCells, Lib.strCells] using HD3.out
    · obtain rfl : k = n := by omega
      go_wp2_with fail
      refine (bldText w.heap.size w.heap.size _ _ HD.out (by omega)).mono ?_
      rintro e w2 ⟨rfl, hb2⟩
      have HB2 : Hid (Below w.heap.size w w2) := HB.out.trans hb2
      clear hb2
      go_wp2_with fail
      go_ret
      exact ⟨rfl, HB2.out⟩
end Go.Proofs.Ytocnfapldcjilaa
