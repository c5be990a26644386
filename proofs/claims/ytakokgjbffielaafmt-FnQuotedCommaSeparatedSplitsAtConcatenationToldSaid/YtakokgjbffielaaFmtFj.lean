/-
  StringArrayToQuotedCommaSeparatedString: what it gives, and its contract. No condition.
-/
import Derived.Test.YtakokgjbffielaaFmtFq
import Derived.Test.YtakokgjbffielaaFmtFs
import Derived.Test.YtakokgjbffielaaFmtBld
namespace Go.Proofs.YtakokgjbffielaaFmt
open Go.ChangeShapes Go.WideShapes Go.ChangeAt Go.RowKit Go.Extern.Stop Go.Stop Go.Extern
set_option linter.unusedVariables false

def qx (x : ByteArray) : List UInt8 := (qs x).data.toList
theorem qx_len (x : ByteArray) : (qx x).length ≤ 10 * x.size + 2 := by
  have := qs_size x
  have e : (qx x).length = (qs x).size := by simp [qx]
  omega
/-- The texts, each after a comma and a blank. -/
def qc : List ByteArray → List UInt8
  | [] => []
  | x :: l => 44 :: 32 :: (qx x ++ qc l)
/-- The quoted texts with commas between. -/
def qt : List ByteArray → List UInt8
  | [] => []
  | x :: l => qx x ++ qc l
theorem qc_app (a b : List ByteArray) : qc (a ++ b) = qc a ++ qc b := by
  induction a with
  | nil => rfl
  | cons x l ih => simp [qc, ih]
theorem qt_app (a b : List ByteArray) (ha : a ≠ []) (hb : b ≠ []) : qt (a ++ b) = qt a ++ [44, 32] ++ qt b := by
  cases a with
  | nil => exact absurd rfl ha
  | cons x l =>
    cases b with
    | nil => exact absurd rfl hb
    | cons y m => simp [qt, qc_app, qc]
theorem qt_snoc (a : List ByteArray) (x : ByteArray) (ha : a ≠ []) : qt (a ++ [x]) = qt a ++ [44, 32] ++ qx x := by
  rw [qt_app a [x] ha (by simp)]
  simp [qt, qc]
theorem qc_len (n : Nat) (l : List ByteArray) (h : ∀ x ∈ l, x.size ≤ n) : (qc l).length ≤ l.length * (10 * n + 4) := by
  induction l with
  | nil => simp [qc]
  | cons x l ih =>
    have h1 := ih (fun y hy => h y (by simp [hy]))
    have h2 := h x (by simp)
    have h3 := qx_len x
    simp only [qc, List.length_cons, List.length_append, Nat.add_mul]
    omega
theorem qt_len (n : Nat) (l : List ByteArray) (h : ∀ x ∈ l, x.size ≤ n) : (qt l).length ≤ l.length * (10 * n + 4) := by
  cases l with
  | nil => simp [qt]
  | cons x l =>
    have h1 := qc_len n l (fun y hy => h y (by simp [hy]))
    have h2 := h x (by simp)
    have h3 := qx_len x
    simp only [qt, List.length_cons, List.length_append, Nat.add_mul]
    omega
theorem take_snoc (zs : List ByteArray) (k : Nat) (h : k < zs.length) : zs.take (k + 1) = zs.take k ++ [zs.getD k ByteArray.empty] := by
  rw [List.take_add_one, List.getD_eq_getElem?_getD, List.getElem?_eq_getElem h]; rfl
theorem qt_take (zs : List ByteArray) (k : Nat) (hk : k ≤ 2097152) (hz : ∀ x ∈ zs, x.size ≤ 1048576) : (qt (zs.take k)).length ≤ 2097152 * 10485764 := by
  have h1 := qt_len 1048576 (zs.take k) (fun y hy => hz y (List.mem_of_mem_take hy))
  have e : (zs.take k).length ≤ k := by rw [List.length_take]; omega
  have h2 : (zs.take k).length * (10 * 1048576 + 4) ≤ 2097152 * (10 * 1048576 + 4) := Nat.mul_le_mul_right _ (by omega)
  exact Nat.le_trans h1 h2
theorem strCells_qs (x : ByteArray) : Lib.strCells (qs x) = Lib.byteCells (qx x) := by
  rw [Lib.strCells_eq]; rfl
theorem byteCells_app (a b : List UInt8) : Lib.byteCells (a ++ b) = Lib.byteCells a ++ Lib.byteCells b := by simp [Lib.byteCells]
theorem byteCells_len (a : List UInt8) : (Lib.byteCells a).length = a.length := by simp [Lib.byteCells]
theorem sep_cells : Lib.strCells (ByteArray.mk #[44, 32]) = Lib.byteCells [44, 32] := by rw [Lib.strCells_eq]
def iOf : Value → Int
  | .int _ i => i
  | _ => 0
set_option maxRecDepth 100000 in
set_option maxHeartbeats 4000000 in
theorem quoted7 (F : Interp) (a : Option Addr) (len cap : Nat) (zs : List ByteArray) (w : World) (hF : F.told.answers w.tape) (h : IsStrs w a len cap zs) (hl : len ≤ 2097152) (hz : ∀ x ∈ zs, x.size ≤ 1048576) :
    Calls Tryf.prog 7 #[.slice a len cap] w fun e w' => e = .returned (.string ⟨(qt zs).toArray⟩) ∧ Below w.heap.size w w' := by
  have HZ := Lib.hid hz
  have HL := Lib.hid h.len
  have HH := Lib.hid h
  have HFF := Lib.hid hF
  clear h hz hF
  go_enter Tryf.func7, Tryf.ntmps7
  go_wp2_with fail
  have hB0 := Lib.hid (bldNew w)
  have hW0 : Hid (Below w.heap.size w (w.alloc (.cells #[.pointer none, .slice none 0 0] 30))) := Lib.hid ((Below.refl _ w).alloc (Nat.le_refl _) _)
  go_loopw [9] (fun i wr => ∃ k : Nat, k ≤ len ∧ i = .int .i64 k ∧ Hid (Bld w.heap.size w.heap.size (Lib.byteCells (qt (zs.take k))) wr) ∧ Hid (Below w.heap.size w wr)) (fun i _ => len - (iOf i).toNat)
  case atStart => exact ⟨0, Nat.zero_le _, rfl, Lib.hid (by rw [List.take_zero]; exact hB0.out), hW0⟩
  case round =>
    clear hB0 hW0
    obtain ⟨k, hk, rfl, hB, hW⟩ := hrel
    by_cases hlt : k < len
    · obtain ⟨b, off, rfl, hb, hcell⟩ := HH.out.at (by omega)
      have hcur : wr.cell? ⟨b, off + k, none⟩ = some (.string (zs.getD k ByteArray.empty)) := by
        rw [hW.out.cell (p := ⟨b, off + k, none⟩) hb]; exact hcell k hlt
      have hxm : zs.getD k ByteArray.empty ∈ zs := by
        have : k < zs.length := by rw [HL.out]; exact hlt
        rw [List.getD_eq_getElem?_getD, List.getElem?_eq_getElem this]; exact List.getElem_mem this
      have hxs := HZ.out _ hxm
      have HT := Lib.hid (take_snoc zs k (by rw [HL.out]; exact hlt))
      clear hcell hxm
      generalize zs.getD k ByteArray.empty = x at *
      have hqn : (qt (zs.take k)).length ≤ 2097152 * 10485764 := qt_take zs k (by omega) HZ.out
      have hqx := qx_len x
      have hws := hW.out.size
      have e0 := byteCells_len (qt (zs.take k))
      have e1 := Lib.hid (byteCells_app (qt (zs.take k)) [44, 32])
      have eqs := qs_size x
      by_cases hk0 : 0 < k
      · have hne : Hid (zs.take k ≠ []) := Lib.hid (by
          intro e
          have := congrArg List.length e
          rw [List.length_take, HL.out] at this
          simp at this
          omega)
        go_wp2_with fail
        refine (bldStr w.heap.size w.heap.size (Lib.byteCells (qt (zs.take k))) ⟨#[44, 32]⟩ wr hB.out ?s3 hws).mono ?_
        case s3 =>
          have : (ByteArray.mk #[44, 32]).size = 2 := rfl
          omega
        rintro _ w2 ⟨rfl, hB2, hb2, -⟩
        have hsp := spr9 F x w2 (by rw [hb2.tape, hW.out.tape]; exact HFF.out) (by omega)
        have hB3 : Hid (Bld w.heap.size w.heap.size (Lib.byteCells (qt (zs.take k) ++ [44, 32])) w2) := Lib.hid (by rw [byteCells_app, ← sep_cells]; exact hB2)
        have hz2 := hb2.size
        have hW2 := Lib.hid (hW.out.trans hb2)
        clear hB2 hb2
        go_wp2_with fail
        refine (bldStr w.heap.size w.heap.size _ (qs x) _ (bldBelow hB3.out (by go_grown)) ?s1 ?s2).mono ?_
        case s1 => rw [byteCells_len, List.length_append, List.length_cons, List.length_cons, List.length_nil]; omega
        case s2 => simp; omega
        rintro _ w3 ⟨rfl, hB4, hb4, -⟩
        go_wp2_with fail
        refine ⟨⟨k + 1, by omega, by go_num, Lib.hid ?_, Lib.hid ?_⟩, by simp [iOf]; omega⟩
        · rw [HT.out, qt_snoc _ _ hne.out, byteCells_app, ← strCells_qs]; exact hB4
        · exact hW2.out.trans (((Below.refl _ w2).alloc (by omega) _).drew.trans hb4)
      · have hsp := spr9 F x wr (by rw [hW.out.tape]; exact HFF.out) (by omega)
        go_wp2_with (go_at_call 8; (with_reducible refine (bldStr w.heap.size w.heap.size _ (qs x) _ (bldBelow hB.out (by go_grown)) (by rw [e0]; omega) (by simp; omega)).mono ?_); rintro _ w2 ⟨rfl, hB2, hb2, -⟩)
        refine ⟨⟨k + 1, by omega, by go_num, Lib.hid ?_, Lib.hid ?_⟩, by simp [iOf]; omega⟩
        · obtain rfl : k = 0 := by omega
          rw [HT.out]
          rw [List.take_zero] at hB2 ⊢
          have e : qt ([] ++ [x]) = qt [] ++ qx x := by simp [qt, qc]
          rw [e, byteCells_app, ← strCells_qs]; exact hB2
        · exact hW.out.trans (((Below.refl _ wr).alloc (by omega) _).drew.trans hb2)
    · have hke : k = len := by omega
      have hB1 : Hid (Bld w.heap.size w.heap.size (Lib.byteCells (qt zs)) wr) := Lib.hid (by
        have := hB.out
        rwa [List.take_of_length_le (by rw [HL.out]; omega)] at this)
      have hws := hW.out.size
      go_wp2_with (go_at_call 10; (with_reducible refine (bldText w.heap.size w.heap.size (qt zs) _ hB1.out hws).mono ?_); rintro _ w2 ⟨rfl, hb2⟩)
      go_ret
      exact ⟨rfl, hW.out.trans hb2⟩
end Go.Proofs.YtakokgjbffielaaFmt
