/-
  FnQuotedCommaSeparatedSplitsAtConcatenation: the walk. No condition.
-/
import Derived.Test.YtakokgjbffielaaFmtFj
import Derived.Lib.FrozenHead2
import Derived.Laws.AppendOwn
namespace Go.Proofs.YtakokgjbffielaaFmt.fnQuotedCommaSeparatedSplitsAtConcatenation
open Go.ChangeShapes Go.WideShapes Go.ChangeAt Go.RowKit Go.Extern.Stop Go.Stop Go.Extern
set_option linter.unusedVariables false

def OwnS (B : Nat) (v : Value) (zs : List ByteArray) (w : World) : Prop := w.ownsRowF B 9 1 v zs.length (zs.map Value.string)
theorem OwnS.lt {B : Nat} {v : Value} {zs : List ByteArray} {w : World} (h : OwnS B v zs w) : ∀ k, v.ownBlock = some k → B ≤ k := by
  intro k hk
  rcases h.2 with ⟨rfl, _⟩ | ⟨g, cap, cur, fz, rfl, hb, hg, _⟩
  · simp [Value.ownBlock] at hk
  · simp [Value.ownBlock] at hk
    subst hk
    exact hb
theorem OwnS.strs {B : Nat} {v : Value} {zs : List ByteArray} {w : World} (h : OwnS B v zs w) (hz : ∀ x ∈ zs, x.size ≤ maxLen) : ∃ a cap, v = .slice a zs.length cap ∧ IsStrs w a zs.length cap zs := by
  rcases h.2 with ⟨rfl, h1⟩ | ⟨g, cap, cur, fz, rfl, hb, hg, _, hnc, hcm, hcs, htake⟩
  · have : zs = [] := List.length_eq_zero_iff.1 h1
    subst this
    exact ⟨none, 0, rfl, ⟨⟨rfl, Nat.le_refl _, Nat.zero_le _, fun _ => rfl, fun h => absurd h (by simp)⟩, by simp⟩⟩
  · refine ⟨some ⟨g, 0, none⟩, cap, rfl, ⟨isSlice_mk hnc hcm (by simp) fun i hi => ?_, hz⟩⟩
    have hadd : (⟨g, 0, none⟩ : Addr).add i = ⟨g, i, none⟩ := by unfold Addr.add; split <;> simp_all
    rw [hadd, cell_of_row w g i cur 9 fz hg, ← Array.getElem?_toList]
    have hs : (zs.map Value.string)[i]? = some ((zs.map Value.string).getD i (.bool false)) := by
      rw [List.getD_eq_getElem?_getD, List.getElem?_eq_getElem (by simpa using hi)]; rfl
    rw [← hs, ← htake, List.getElem?_take, if_pos (by omega)]
theorem mkRow (m : Nat) (hm : m ≤ 8796093022208) : ∀ u : World, (Instr.makeSlice 22 (.int .i64 0) (.int .i64 (m : Int))).run Tryf.prog u =
    .ok (.slice (some ⟨u.heap.size, 0, none⟩) 0 m) (u.alloc (.cells (madeCells #[.string ByteArray.empty] m) 9)) := fun u => by
  obtain ⟨i0, hi, hz0, hz1, hz2⟩ := info_parts cloneStrs_info
  have q := run_make (P := Tryf.prog) u 22 9 i0 (Value.string ByteArray.empty) Tryf.underlying22 hi hz0 .i64 .i64 0 (m : Int) (Int.le_refl _) (by omega) (by rw [hz2]; omega) (by omega)
  simpa [hz1, Value.cells] using q
theorem OwnS.made (u : World) (m B : Nat) (hm : m ≤ 8796093022208) (hB : B ≤ u.heap.size) : OwnS B (.slice (some ⟨u.heap.size, 0, none⟩) 0 m) [] (u.alloc (.cells (madeCells #[.string ByteArray.empty] m) 9)) :=
  World.ownsRowF_of (World.ownsRow_made u _ m hB (by unfold maxLen; omega) (by simp [size_madeCells]))
theorem wp_push {ops : Array Oper} {rest : List Oper} {o : Oper} {a : Act} {Q : Exit → Act → World → Prop} {W : World} {x : ByteArray} (hgd : o.guard = none) (sl xo : Operand)
    (ho : o.op = .call { callee := .builtin .append, args := #[sl, xo], argTypes := #[22, 22] }) (B : Nat) (v : Value) (zs : List ByteArray) (w0 : World)
    (hsl : a.eval sl = v) (hr : OwnS B v zs W) (hb : Below B w0 W) (c g : Nat) (hx : a.eval xo = .slice (some ⟨g, 0, none⟩) 1 c) (hg : g = W.heap.size)
    (hl : zs.length ≤ 2097152) (hB : B ≤ W.heap.size)
    (h : ∀ v' w', Hid (OwnS B v' (zs ++ [x]) w') → Hid (Below B w0 w') → wpList Tryf.prog ops Q rest (a.put o.dst v') w') : wpList Tryf.prog ops Q (o :: rest) a (W.alloc (.cells #[.string x] 9)) := by
  subst hg
  obtain ⟨i0, hi, hz0, hz1, hz2⟩ := info_parts cloneStrs_info
  refine wpList_append_ownF _ hgd sl xo 22 ho B 9 i0 (.string ByteArray.empty) 1 16 Tryf.underlying22 hi hz0 hz1 hz2 rfl (by decide) v zs.length (zs.map Value.string) hsl (World.ownsRowF.alloc hr _) ⟨W.heap.size, 0, none⟩ 1 c [.string x] hx rfl ?_ ?_ (by unfold maxLen; omega) (by omega) (by simp; omega) ?_
  · intro j u hj
    have hadd : (⟨W.heap.size, 0, none⟩ : Addr).add j = ⟨W.heap.size, j, none⟩ := by unfold Addr.add; split <;> simp_all
    rw [hadd, World.cell?_alloc_new, ← Array.getElem?_toList]
    exact hj
  · intro u hu
    simp only [List.mem_singleton] at hu
    subst hu
    rfl
  · intro v' w' h1 h2 _
    refine h v' w' (Lib.hid ?_) (Lib.hid ((hb.alloc hB _).grown h2 (by simp; omega) hr.lt))
    unfold OwnS
    rw [List.length_append, List.map_append]
    exact h1
theorem all_small {zs : List ByteArray} {len : Nat} (hl : zs.length = len) (h : ∀ j, j < len → (zs.getD j ByteArray.empty).size ≤ 1048576) : ∀ x ∈ zs, x.size ≤ 1048576 := by
  intro x hx
  obtain ⟨j, hj, rfl⟩ := List.mem_iff_getElem.1 hx
  have := h j (by omega)
  rw [List.getD_eq_getElem?_getD, List.getElem?_eq_getElem hj] at this
  exact this
theorem q_size (zs : List ByteArray) (h : ∀ x ∈ zs, x.size ≤ 1048576) (hl : zs.length ≤ 2097152) : (⟨(qt zs).toArray⟩ : ByteArray).size ≤ 22000000000000 := by
  have h1 := qt_take zs zs.length hl h
  rw [List.take_length] at h1
  have e : (⟨(qt zs).toArray⟩ : ByteArray).size = (qt zs).length := by simp [ByteArray.size]
  rw [e]
  exact Nat.le_trans h1 (by decide)
theorem q_nil (z : List ByteArray) : qt ([] ++ z) = qt z := rfl
theorem q_cat (a b : List ByteArray) (ha : a.length ≠ 0) (hb : b.length ≠ 0) : (⟨(qt (a ++ b)).toArray⟩ : ByteArray) = ⟨(qt a).toArray⟩ ++ ⟨#[44, 32]⟩ ++ ⟨(qt b).toArray⟩ := by
  rw [qt_app a b (fun e => ha (by rw [e]; rfl)) (fun e => hb (by rw [e]; rfl))]
  apply ByteArray.ext
  simp
def iOf : Value → Int
  | .int _ i => i
  | _ => 0
set_option maxRecDepth 100000 in
set_option maxHeartbeats 8000000 in
theorem walk (F : Interp) (a0 : Option Addr) (len0 cap0 : Nat) (z0 : List ByteArray) (a1 : Option Addr) (len1 cap1 : Nat) (z1 : List ByteArray) (w : World) (w0 : IsStrs w a0 len0 cap0 z0) (w1 : IsStrs w a1 len1 cap1 z1) (hF : F.told.answers w.tape) :
    Calls Tryf.prog 3 #[.slice a0 len0 cap0, .slice a1 len1 cap1] w fun e w' => e = .returned (.bool true) ∧ Below w.heap.size w w' := by
  have HL0 := Lib.hid w0.len
  have HL1 := Lib.hid w1.len
  have HFF := Lib.hid hF
  clear hF
  go_enter Tryf.func3, Tryf.ntmps3
  go_wp2_with fail
  refine (bytes4 a0 len0 cap0 z0 a1 len1 cap1 z1 w w0 w1).mono ?_
  rintro _ _ (⟨rfl, rfl⟩ | ⟨rfl, rfl, hl0, hl1, hs0, hs1⟩)
  · go_wp2_with fail
    go_ret
    exact ⟨rfl, Below.refl _ _⟩
  · have HS0 := Lib.hid (all_small HL0.out hs0)
    have HS1 := Lib.hid (all_small HL1.out hs1)
    clear hs0 hs1
    go_wp2_with fail
    refine (strBytes a0 len0 cap0 z0 w w0 hl0).mono ?_
    rintro _ _ ⟨⟨n0, rfl, hn0⟩, rfl⟩
    go_wp2_with fail
    refine (strBytes a1 len1 cap1 z1 w w1 hl1).mono ?_
    rintro _ _ ⟨⟨n1, rfl, hn1⟩, rfl⟩
    by_cases hsum : 1048576 < n0 + n1
    · go_wp2_with fail
      go_ret
      exact ⟨rfl, Below.refl _ _⟩
    · go_wp2_with fail
      refine (cloneStrs a0 len0 cap0 z0 w w0 (by omega)).mono ?_
      rintro _ wa ⟨c0, rfl, hC0, -, hba⟩
      have HBA := Lib.hid hba
      have HC0 := Lib.hid hC0
      clear hba hC0
      go_wp2_with fail
      refine (cloneStrs a1 len1 cap1 z1 wa (w1.below HBA.out) (by omega)).mono ?_
      rintro _ wb ⟨c1, rfl, hC1, -, hbb⟩
      have hmk := mkRow (len0 + len1) (by omega)
      rw [Int.natCast_add] at hmk
      have HBB := Lib.hid hbb
      have HC1 := Lib.hid hC1
      have HCA := Lib.hid (HC0.out.below HBB.out)
      clear hbb hC1 HC0
      have HM := Lib.hid (OwnS.made wb (len0 + len1) wb.heap.size (by omega) (Nat.le_refl _))
      have HWM : Hid (Below wb.heap.size wb (wb.alloc (.cells (madeCells #[.string ByteArray.empty] (len0 + len1)) 9))) := Lib.hid ((Below.refl _ wb).alloc (Nat.le_refl _) _)
      go_wp2_with fail

      go_loopw [5, 6] (fun v i wr => ∃ k : Nat, k ≤ len0 ∧ i = .int .i64 k ∧ Hid (OwnS wb.heap.size v (z0.take k) wr) ∧ Hid (Below wb.heap.size wb wr)) (fun _ i _ => len0 - (iOf i).toNat)
      case atStart => exact ⟨0, Nat.zero_le _, rfl, Lib.hid HM.out, HWM⟩
      case round =>
        obtain ⟨k, hk, rfl, hO, hW⟩ := hrel
        by_cases hlt : k < len0
        · obtain ⟨b, off, rfl, hb, hcell⟩ := HCA.out.at (by omega)
          have hcur : wr.cell? ⟨b, off + k, none⟩ = some (.string (z0.getD k ByteArray.empty)) := by
            rw [hW.out.cell (p := ⟨b, off + k, none⟩) hb]; exact hcell k hlt
          have HT := Lib.hid (take_snoc z0 k (by rw [HL0.out]; exact hlt))
          clear hcell
          generalize z0.getD k ByteArray.empty = x at *
          have hzl : (z0.take k).length ≤ 2097152 := by
            have := HL0.out
            have := HL0.out
            simp only [List.length_append, List.length_take]
            omega
          have hws := hW.out.size
          go_wp2_with (refine wp_push rfl (.tmp 37) (.tmp 42) rfl wb.heap.size u5 _ wb rfl hO.out hW.out 1 wr.heap.size rfl rfl hzl hws ?_; intro v' wp hO2 hW2)
          refine ⟨⟨k + 1, by omega, by go_num, Lib.hid ?_, hW2⟩, by simp [iOf]; omega⟩
          rw [HT.out]
          first | exact hO2.out | (rw [← List.append_assoc]; exact hO2.out)
        · have hke : k = len0 := by omega
          have hOf : Hid (OwnS wb.heap.size u5 (z0) wr) := Lib.hid (by
            have := hO.out
            rwa [List.take_of_length_le (by rw [HL0.out]; omega)] at this)
          clear hO hke
          clear HM HWM hmk
          go_wp2_with fail

          go_loopw [5, 7] (fun v i wr => ∃ k : Nat, k ≤ len1 ∧ i = .int .i64 k ∧ Hid (OwnS wb.heap.size v (z0 ++ z1.take k) wr) ∧ Hid (Below wb.heap.size wb wr)) (fun _ i _ => len1 - (iOf i).toNat)
          case atStart => exact ⟨0, Nat.zero_le _, rfl, Lib.hid (by rw [List.take_zero, List.append_nil]; exact hOf.out), hW⟩
          case round =>
            obtain ⟨k, hk, rfl, hO, hW⟩ := hrel
            by_cases hlt : k < len1
            · obtain ⟨b, off, rfl, hb, hcell⟩ := HC1.out.at (by omega)
              have hcur : wr.cell? ⟨b, off + k, none⟩ = some (.string (z1.getD k ByteArray.empty)) := by
                rw [hW.out.cell (p := ⟨b, off + k, none⟩) hb]; exact hcell k hlt
              have HT := Lib.hid (take_snoc z1 k (by rw [HL1.out]; exact hlt))
              clear hcell
              generalize z1.getD k ByteArray.empty = x at *
              have hzl : (z0 ++ z1.take k).length ≤ 2097152 := by
                have := HL1.out
                have := HL0.out
                simp only [List.length_append, List.length_take]
                omega
              have hws := hW.out.size
              go_wp2_with (refine wp_push rfl (.tmp 50) (.tmp 55) rfl wb.heap.size u5 _ wb rfl hO.out hW.out 1 wr.heap.size rfl rfl hzl hws ?_; intro v' wp hO2 hW2)
              refine ⟨⟨k + 1, by omega, by go_num, Lib.hid ?_, hW2⟩, by simp [iOf]; omega⟩
              rw [HT.out]
              first | exact hO2.out | (rw [← List.append_assoc]; exact hO2.out)
            · have hke : k = len1 := by omega
              have hOf : Hid (OwnS wb.heap.size u5 (z0 ++ z1) wr) := Lib.hid (by
                have := hO.out
                rwa [List.take_of_length_le (by rw [HL1.out]; omega)] at this)
              clear hO hke

              obtain ⟨ad, cp, hv, hST⟩ := hOf.out.strs (fun x hx => by
                have : x.size ≤ 1048576 := by
                  rcases List.mem_append.1 hx with h | h
                  · exact HS0.out x h
                  · exact HS1.out x h
                unfold maxLen; omega)
              obtain ⟨lz, hlz⟩ : ∃ lz, (z0 ++ z1).length = lz := ⟨_, rfl⟩
              rw [hlz] at hv hST
              subst hv
              have HST := Lib.hid hST
              have hlen : lz ≤ 2097152 := by
                have := HL0.out
                have := HL1.out
                rw [← hlz, List.length_append]; omega
              have HTP : Hid (wr.tape = w.tape) := Lib.hid (by rw [hW.out.tape, HBB.out.tape, HBA.out.tape])
              have HB := Lib.hid (((HBA.out.trans (HBB.out.mono HBA.out.size))).trans (hW.out.mono (Nat.le_trans HBA.out.size HBB.out.size)))
              have HCA2 := Lib.hid (HCA.out.below hW.out)
              have HC12 := Lib.hid (HC1.out.below hW.out)
              clear hST hOf hlz
              go_wp2_with fail
              refine (quoted7 F ad lz cp (z0 ++ z1) wr (by rw [HTP.out]; exact HFF.out) HST.out hlen (fun x hx => by
                  rcases List.mem_append.1 hx with h | h
                  · exact HS0.out x h
                  · exact HS1.out x h)).mono ?_
              rintro _ wx ⟨rfl, hbx⟩
              have HCA3 := Lib.hid (HCA2.out.below hbx)
              have HC13 := Lib.hid (HC12.out.below hbx)
              have HTP2 : Hid (wx.tape = w.tape) := Lib.hid (hbx.tape.trans HTP.out)
              have HB2 := Lib.hid (HB.out.trans (hbx.mono HB.out.size))
              clear hbx
              go_wp2_with fail
              refine (quoted7 F c0 len0 len0 z0 wx (by rw [HTP2.out]; exact HFF.out) HCA3.out (by omega) HS0.out).mono ?_
              rintro _ wy ⟨rfl, hby⟩
              have HC14 := Lib.hid (HC13.out.below hby)
              have HTP3 : Hid (wy.tape = w.tape) := Lib.hid (hby.tape.trans HTP2.out)
              have HB3 := Lib.hid (HB2.out.trans (hby.mono HB2.out.size))
              clear hby
              go_wp2_with fail
              refine (quoted7 F c1 len1 len1 z1 wy (by rw [HTP3.out]; exact HFF.out) HC14.out (by omega) HS1.out).mono ?_
              rintro _ wz ⟨rfl, hbz⟩
              have HTP4 : Hid (wz.tape = w.tape) := Lib.hid (hbz.tape.trans HTP3.out)
              have HB4 := Lib.hid (HB3.out.trans (hbz.mono HB3.out.size))
              clear hbz
              go_wp2_with fail
              refine (quoted7 F none 0 0 [] wz (by rw [HTP4.out]; exact HFF.out) ⟨⟨rfl, Nat.le_refl _, Nat.zero_le _, fun _ => rfl, fun h => absurd h (by omega)⟩, by simp⟩ (by omega) (by simp)).mono ?_
              rintro _ wu ⟨rfl, hbu⟩
              have HB5 := Lib.hid (HB4.out.trans (hbu.mono HB4.out.size))
              clear hbu
              have hnil : (⟨(qt []).toArray⟩ : ByteArray) = ⟨#[]⟩ := rfl
              rw [hnil]
              have hs0 := Lib.hid (q_size z0 HS0.out (by have := HL0.out; omega))
              have hs1 := Lib.hid (q_size z1 HS1.out (by have := HL1.out; omega))
              by_cases h0 : len0 = 0
              · have e : (⟨(qt (z0 ++ z1)).toArray⟩ : ByteArray) = ⟨(qt z1).toArray⟩ := by
                  rw [List.length_eq_zero_iff.1 (HL0.out.trans h0)]; rfl
                rw [e]
                have g0 : ((len0 : Int) == 0) = true := by simp; omega
                clear h0 e
                generalize (⟨(qt z0).toArray⟩ : ByteArray) = q0 at *
                generalize (⟨(qt z1).toArray⟩ : ByteArray) = q1 at *
                go_wp2_with fail
                go_ret
                exact ⟨rfl, HB5.out⟩
              · have g0 : ((len0 : Int) == 0) = false := by simp; omega
                by_cases h1 : len1 = 0
                · have e : (⟨(qt (z0 ++ z1)).toArray⟩ : ByteArray) = ⟨(qt z0).toArray⟩ := by
                    rw [List.length_eq_zero_iff.1 (HL1.out.trans h1), List.append_nil]
                  rw [e]
                  have g1 : ((len1 : Int) == 0) = true := by simp; omega
                  clear h0 h1 e
                  generalize (⟨(qt z0).toArray⟩ : ByteArray) = q0 at *
                  generalize (⟨(qt z1).toArray⟩ : ByteArray) = q1 at *
                  go_wp2_with fail
                  go_ret
                  exact ⟨rfl, HB5.out⟩
                · have g1 : ((len1 : Int) == 0) = false := by simp; omega
                  rw [q_cat z0 z1 (by rw [HL0.out]; exact h0) (by rw [HL1.out]; exact h1)]
                  clear h0 h1
                  generalize (⟨(qt z0).toArray⟩ : ByteArray) = q0 at *
                  generalize (⟨(qt z1).toArray⟩ : ByteArray) = q1 at *
                  obtain ⟨q2, hq2⟩ : ∃ q2, q0 ++ ⟨#[44, 32]⟩ = q2 := ⟨_, rfl⟩
                  obtain ⟨q3, hq3⟩ : ∃ q3, q2 ++ q1 = q3 := ⟨_, rfl⟩
                  have hsz : q2.size = q0.size + 2 := by rw [← hq2, ByteArray.size_append]; rfl
                  have hA2 : ∀ W : World, (Op.stringOp .add q0 ⟨#[44, 32]⟩).run Tryf.prog W = .ok (.string q2) W := fun W => by
                    rw [run_string_add_sum W q0 ⟨#[44, 32]⟩ (by have := hs0.out; show q0.size + 2 ≤ _; omega), hq2]
                  have hA3 : ∀ W : World, (Op.stringOp .add q2 q1).run Tryf.prog W = .ok (.string q3) W := fun W => by
                    rw [run_string_add_sum W q2 q1 (by have := hs0.out; have := hs1.out; omega), hq3]
                  rw [hq2, hq3]
                  clear hq2 hq3 hsz hs0 hs1
                  go_wp2_with fail
                  go_ret
                  exact ⟨rfl, HB5.out⟩
end Go.Proofs.YtakokgjbffielaaFmt.fnQuotedCommaSeparatedSplitsAtConcatenation
