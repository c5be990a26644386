/-
  The contract of the Joiner's Done. No condition.
-/
import Derived.Test.YtakokgjbffielaaDn
import Derived.Deep.OwnRows
namespace Go.Proofs.Ytakokgjbffielaa
open Go.ChangeShapes Go.WideShapes Go.ChangeAt Go.RowKit
set_option linter.unusedVariables false

/-- 'copy(dst, s)' from a string, as one step of a region that draws. -/
theorem step_copy_str {P : Program} {ops : Array Oper} {o : Oper} {a : Act} {w : World} {K : Act → World → Prop} {Q : Exit → Act → World → Prop} {E : Prop} (hgd : o.guard = none) (d s : Operand) (dT sT : TypeId)
    (ho : o.op = .call { callee := .builtin .copy, args := #[d, s], argTypes := #[dT, sT] }) (elem : TypeId) (hu : P.underlying dT = some (.slice elem)) (hsz : (P.info? elem).map (·.size) = some 1)
    (dp : Option Addr) (dLen dCap : Nat) (t : ByteArray) (hd : a.eval d = .slice dp dLen dCap) (hs : a.eval s = .string t)
    (g off : Nat) (cur : List Value) (tt : TypeId) (hg : w.heap[g]? = some (.cells cur.toArray tt (0, 0))) (hle : t.size ≤ dLen)
    (hpos : 0 < t.size → dp = some ⟨g, off, none⟩) (hfit : off + t.size ≤ cur.length) (B : Nat) (w0 : World) (hb : RowKit.Below B w0 w) (hBg : B ≤ g)
    (h : ∀ w', RowKit.Hid (w'.heap[g]? = some (.cells (splice cur off (Lib.byteCells t.data.toList)).toArray tt (0, 0))) → RowKit.Below B w0 w' → K (a.put o.dst (goInt t.size)) w') :
    if Region.wanted o (yielded ops a.tmps) = true then Oper.wp P o a w K Q else E := by
  have hw : Region.wanted o (yielded ops a.tmps) = true := by simp [Region.wanted, hgd]
  rw [if_pos hw]
  have hl : (Lib.byteCells t.data.toList).length = t.size := by rw [Lib.byteCells_length, ← Lib.size_eq]
  by_cases h0 : t.size = 0
  · have hrun := Lib.run_copy_empty_string (P := P) w dT sT o.type elem dp dLen dCap t hu (by rw [hsz]; rfl) h0
    unfold Oper.wp
    simp [execOp, ho, resolve, invoke, builtin, hd, hs, hrun, Result.andThen]
    have e0 : Lib.byteCells t.data.toList = [] := List.eq_nil_of_length_eq_zero (by omega)
    have := h w (show _ = _ by rw [e0]; simpa [splice] using hg) hb
    rw [h0] at this
    exact this
  · obtain rfl := hpos (by omega)
    have hrun := Lib.run_copy_row_string (P := P) w dT sT o.type elem g off dLen dCap t cur.toArray tt hu hsz hg hle (by simpa using hfit)
    unfold Oper.wp
    simp [execOp, ho, resolve, invoke, builtin, hd, hs, hrun, Result.andThen]
    refine h _ (show _ = _ from ?_) (below_setRow hb hBg _)
    have := setRow_heap w g _ (cur.toArray.toList.take off ++ Lib.byteCells t.data.toList ++ cur.toArray.toList.drop (off + t.size)).toArray tt _ hg
    simpa [splice, hl] using this

/-- What Done hands back: a slice that reads as C. -/
def Done (C : List Int) (w : World) (e : Ending) (w' : World) : Prop :=
  ∃ a cap, e = .returned (.slice a C.length cap) ∧ Rd w' w'.heap.size a C.length C ∧ Below w.heap.size w w'
theorem u8info : (Try.prog.info? 5).map (fun i => (i.zero, i.size, i.bytes)) = some (some (Value.int .u8 0), 1, 1) := by kernel_rfl
theorem u8one : (Try.prog.info? 5).map (·.size) = some 1 := by kernel_rfl
/-- An entry's two cells. -/
theorem own_two {α : Type} {f g : α → Value} {w : World} {base e n : Nat} {v : Value} {l : List α} (h : w.ownsRow base e 2 v n (l.flatMap fun x => [f x, g x])) (hn : n = l.length) (k : Nat) (hk : k < l.length) :
    ∃ b cap, v = .slice (some ⟨b, 0, none⟩) n cap ∧ b < w.heap.size ∧ w.cell? ⟨b, k * 2, none⟩ = some (f l[k]) ∧ w.cell? ⟨b, k * 2 + 1, none⟩ = some (g l[k]) := by
  obtain ⟨b, cap, rfl, _, hlt⟩ := h.form (by omega)
  obtain ⟨q1, q2⟩ := flat2 f g l k hk
  refine ⟨b, cap, rfl, hlt, ?_, ?_⟩
  · rw [h.cellAt (k * 2) (by omega), q1]
  · rw [h.cellAt (k * 2 + 1) (by omega), q2]
theorem JS.one {base B D : Nat} {C : List Int} {e : BE} {v1 v2 : Value} {lb : Nat} {w : World} (h : JS base B D C [] [e] v1 v2 lb w) : e.off = 0 ∧ e.len = C.length ∧ e.zs = C := by
  obtain ⟨⟨f1, f2⟩, r1, r2⟩ := h.fit2 e (by simp)
  have c : ∀ i, i < C.length → e.off ≤ i ∧ i < e.off + e.len := fun i hi => by
    rcases h.cover i hi with ⟨x, hx, _⟩ | ⟨x, hx, q⟩
    · cases hx
    · rw [List.mem_singleton.1 hx] at q; exact q
  have h0 : e.off = 0 := by
    by_cases q : 0 < C.length
    · have := c 0 q; omega
    · omega
  have hl : e.len = C.length := by
    by_cases q : 0 < C.length
    · have := c (C.length - 1) (by omega); omega
    · omega
  refine ⟨h0, hl, List.ext_getElem (by omega) fun i h1 h2 => ?_⟩
  have := f2 i h1
  rw [h0, Nat.zero_add] at this
  simpa [List.getD_eq_getElem?_getD, List.getElem?_eq_getElem h1, List.getElem?_eq_getElem h2] using this.symm

set_option maxRecDepth 100000 in
set_option maxHeartbeats 3200000 in
theorem doneFast {base B D : Nat} {C : List Int} {e : BE} {v1 v2 : Value} {lb : Nat} {w : World} (h : JS base B D C [] [e] v1 v2 lb w) (hD : D ≤ w.heap.size) (hC : C.length ≤ 16777216) :
    Calls Try.prog 12 #[.pointer (some ⟨B, 0, none⟩)] w (Done C w) := by
  obtain ⟨h0, hl, hz⟩ := h.one
  obtain ⟨b2, c2, rfl, lb2, q1, q2⟩ := own_two (f := fun e : BE => .slice e.a e.len e.cap) (g := fun e : BE => .int .u32 e.off) h.own2 rfl 0 (by simp)
  obtain ⟨p1, c1, rfl⟩ := own_form h.own1
  have hrd := (h.fit2 e (by simp)).2
  obtain ⟨a, len, cap, off, zs⟩ := e
  dsimp only at h0 hl hz
  subst hz h0 hl
  have k0 : w.cell? ⟨B, 0, none⟩ = some (.slice p1 0 c1) := h.blk.cell 0
  have k1 : w.cell? ⟨B, 1, none⟩ = some (.slice (some ⟨b2, 0, none⟩) 1 c2) := h.blk.cell 1
  simp at q1 q2
  have HRD := Lib.hid hrd
  clear hrd h
  go_enter Try.func12, Try.ntmps12
  go_wp2
  go_ret
  exact ⟨a, cap, rfl, HRD.out.more hD, Below.refl _ _⟩

set_option maxRecDepth 100000 in
set_option maxHeartbeats 6400000 in
theorem doneB {base B D : Nat} {C : List Int} {ss : List (ByteArray × Nat)} {bs : List BE} {v1 v2 : Value} {lb : Nat} {w : World} (h : JS base B D C ss bs v1 v2 lb w) (hD : D ≤ w.heap.size) (hC : C.length ≤ 16777216) (hs1 : ss.length ≤ 16777216) (hs2 : bs.length ≤ 16777216) (h1 : 0 < ss.length) :
    Calls Try.prog 12 #[.pointer (some ⟨B, 0, none⟩)] w (Done C w) := by
  have hmk := fun W : World => run_make_row' (P := Try.prog) 33 5 (.int .u8 0) 1 Try.underlying33 u8info rfl .u32 .u32 C.length (by omega) (by omega) W
  have hbk0 : (w.alloc (.cells (madeCells #[.int .u8 0] C.length) 5)).heap[w.heap.size]? = some (.cells (madeCells #[.int .u8 0] C.length).toList.toArray 5 (0, 0)) := heap_alloc_new w _
  have hlen0 : (madeCells #[.int .u8 0] C.length).toList.length = C.length := by simp [size_madeCells]
  have hO0 : Okay C (madeCells #[.int .u8 0] C.length).toList (fun i => ∃ e ∈ ss.take 0, e.2 ≤ i ∧ i < e.2 + e.1.size) := ⟨hlen0, fun i _ q => by simp at q⟩
  have hbel0 : Below w.heap.size w (w.alloc (.cells (madeCells #[.int .u8 0] C.length) 5)) := (Below.refl _ _).alloc (Nat.le_refl _) _
  obtain ⟨p1, c1, rfl⟩ := own_form h.own1
  obtain ⟨p2, c2, rfl⟩ := own_form h.own2
  have k0 : w.cell? ⟨B, 0, none⟩ = some (.slice p1 ss.length c1) := h.blk.cell 0
  have k1 : w.cell? ⟨B, 1, none⟩ = some (.slice p2 bs.length c2) := h.blk.cell 1
  have k2 : w.cell? ⟨B, 2, none⟩ = some (.int .u32 (C.length : Int)) := h.blk.cell 2
  have lB := h.blk.lt
  have HBK := Lib.hid hbk0
  have HLEN := Lib.hid hlen0
  have HO := Lib.hid hO0
  have HBEL := Lib.hid hbel0
  have H := Lib.hid h
  clear hbk0 hlen0 hO0 hbel0 h
  have t1 : ((ss.length : Int) == 0) = false := by rw [beq_eq_false_iff_ne]; omega
  have t2 : (ss.length == 0) = false := by rw [beq_eq_false_iff_ne]; omega
  have t3 : ss ≠ [] := by rintro rfl; simp at h1
  have t4 := Lib.hid t3
  clear t3
  go_enter Try.func12, Try.ntmps12
  go_wp2
  go_loopw [49] (fun i wr => ∃ k : Nat, k ≤ ss.length ∧ i = .int .i64 k ∧ Below w.heap.size w wr ∧ ∃ buf, wr.heap[w.heap.size]? = some (.cells buf.toArray 5 (0, 0)) ∧ Okay C buf (fun i => ∃ e ∈ ss.take k, e.2 ≤ i ∧ i < e.2 + e.1.size)) (fun i _ => ss.length - (intOf i).toNat)
  case atStart => exact ⟨0, Nat.zero_le _, rfl, HBEL.out, _, HBK.out, HO.out⟩
  case round =>
    clear HBK HLEN HO HBEL hmk
    obtain ⟨k, hk, rfl, hbel, buf, hbk, hok⟩ := hrel
    have HBK := Lib.hid hbk
    have HOK := Lib.hid hok
    clear hbk hok
    by_cases hlt : k < ss.length
    · obtain ⟨b1, c1', e1, lb1, q1, q2⟩ := own_two (f := fun e : ByteArray × Nat => .string e.1) (g := fun e : ByteArray × Nat => .int .u32 e.2) H.out.own1 rfl k hlt
      cases e1
      have hmem : ss[k] ∈ ss := List.getElem_mem hlt
      have hfit := H.out.fit1 _ hmem
      have htk : ss.take (k + 1) = ss.take k ++ [ss[k]] := by rw [List.take_succ_eq_append_getElem hlt]
      have HFIT := Lib.hid hfit
      have HTK := Lib.hid htk
      have r1 : wr.cell? ⟨b1, k * 2, none⟩ = some (.string ss[k].1) := (hbel.cell (p := ⟨b1, k * 2, none⟩) lb1).trans q1
      have r2 : wr.cell? ⟨b1, k * 2 + 1, none⟩ = some (.int .u32 ss[k].2) := (hbel.cell (p := ⟨b1, k * 2 + 1, none⟩) lb1).trans q2
      have hle : ss[k].2 + ss[k].1.size ≤ C.length := by have := hfit.1; rwa [bl_len] at this
      generalize ss[k] = x at *
      obtain ⟨t, off⟩ := x
      dsimp only at r1 r2 hle
      clear q1 q2 hfit htk hmem
      have b0 : (0 : Int) ≤ (off : Int) := Int.natCast_nonneg _
      have b1' : (off : Int) ≤ (C.length : Int) := by omega
      have hbel2 := Lib.hid ((hbel.alloc hbel.size (.cells #[.string t, .int .u32 off] 52)).drew)
      have hsz := hbel.size
      have HBK2 : Hid ((wr.alloc (.cells #[.string t, .int .u32 off] 52)).drew.heap[w.heap.size]? = some (.cells buf.toArray 5 (0, 0))) := (Below.heap_alloc _ _ _ (Array.getElem?_eq_some_iff.1 HBK.out).1).trans HBK.out
      go_wp2
      go_region_law (refine step_copy_str (by rfl) _ _ _ _ (by rfl) 5 Try.underlying33 u8one _ _ _ t (by rfl) (by rfl) w.heap.size off buf 5 HBK2.out (by omega) (fun q => by first | rfl | (rw [if_neg (by omega)]) | (simp; omega)) (by rw [HOK.out.1]; exact hle) w.heap.size w hbel2.out (Nat.le_refl _) ?_; intro wq hq1 hq2)
      all_goals
        go_wp2
        refine ⟨⟨k + 1, by omega, by go_num, hq2, _, hq1.out, ?_⟩, by simp [intOf]; omega⟩
        rw [bl_cells]
        refine HOK.out.splice HFIT.out _ ?_
        rw [HTK.out, bl_len]
        rintro i ⟨e, he, q⟩
        rcases List.mem_append.1 he with he | he
        · exact .inl ⟨e, he, q⟩
        · rw [List.mem_singleton.1 he] at q; exact .inr q
    · have hkn : ss.take k = ss := List.take_of_length_le (by omega)
      have hO2 : Okay C buf (fun i => (∃ e ∈ ss, e.2 ≤ i ∧ i < e.2 + e.1.size) ∨ ∃ e ∈ bs.take 0, e.off ≤ i ∧ i < e.off + e.len) := by
        refine ⟨HOK.out.1, fun i hi q => ?_⟩
        rcases q with q | q
        · exact HOK.out.2 i hi (by rw [hkn]; exact q)
        · simp at q
      have HO2 := Lib.hid hO2
      clear hO2 hkn HOK
      have k1' : wr.cell? ⟨B, 1, none⟩ = some (.slice p2 bs.length c2) := (hbel.cell (p := ⟨B, 1, none⟩) lB).trans k1
      have HB0 := Lib.hid hbel
      clear hbel
      go_wp2
      go_loopw [66] (fun i wr => ∃ k : Nat, k ≤ bs.length ∧ i = .int .i64 k ∧ Below w.heap.size w wr ∧ ∃ buf, wr.heap[w.heap.size]? = some (.cells buf.toArray 5 (0, 0)) ∧ Okay C buf (fun i => (∃ e ∈ ss, e.2 ≤ i ∧ i < e.2 + e.1.size) ∨ ∃ e ∈ bs.take k, e.off ≤ i ∧ i < e.off + e.len)) (fun i _ => bs.length - (intOf i).toNat)
      case atStart => exact ⟨0, Nat.zero_le _, rfl, HB0.out, _, HBK.out, HO2.out⟩
      case round =>
        clear HBK HO2 HB0 k1' hlt hk
        obtain ⟨k, hk, rfl, hbel, buf, hbk, hok⟩ := hrel
        have HBK := Lib.hid hbk
        have HOK := Lib.hid hok
        clear hbk hok
        by_cases hlt : k < bs.length
        · obtain ⟨b1, c1', e1, lb1, q1, q2⟩ := own_two (f := fun e : BE => .slice e.a e.len e.cap) (g := fun e : BE => .int .u32 e.off) H.out.own2 rfl k hlt
          cases e1
          have hmem : bs[k] ∈ bs := List.getElem_mem hlt
          have hfit := (H.out.fit2 _ hmem).1
          have hrd := (H.out.fit2 _ hmem).2
          have htk : bs.take (k + 1) = bs.take k ++ [bs[k]] := by rw [List.take_succ_eq_append_getElem hlt]
          have HFIT := Lib.hid hfit
          have HRD := Lib.hid hrd
          have HTK := Lib.hid htk
          have r1 : wr.cell? ⟨b1, k * 2, none⟩ = some (.slice bs[k].a bs[k].len bs[k].cap) := (hbel.cell (p := ⟨b1, k * 2, none⟩) lb1).trans q1
          have r2 : wr.cell? ⟨b1, k * 2 + 1, none⟩ = some (.int .u32 bs[k].off) := (hbel.cell (p := ⟨b1, k * 2 + 1, none⟩) lb1).trans q2
          have hle : bs[k].off + bs[k].len ≤ C.length := by have := hfit.1; rwa [hrd.1] at this
          generalize bs[k] = x at *
          obtain ⟨sa, len, cap, off, zs⟩ := x
          dsimp only at r1 r2 hle
          clear q1 q2 hfit htk hmem hrd
          have b0 : (0 : Int) ≤ (off : Int) := Int.natCast_nonneg _
          have b1' : (off : Int) ≤ (C.length : Int) := by omega
          have hbel2 := Lib.hid ((hbel.alloc hbel.size (.cells #[.slice sa len cap, .int .u32 off] 50)).drew)
          have hsz := hbel.size
          have HBK2 : Hid ((wr.alloc (.cells #[.slice sa len cap, .int .u32 off] 50)).drew.heap[w.heap.size]? = some (.cells buf.toArray 5 (0, 0))) := (Below.heap_alloc _ _ _ (Array.getElem?_eq_some_iff.1 HBK.out).1).trans HBK.out
          have HSRC : Hid (0 < (zs.map (Value.int .u8)).length → ∃ ad, sa = some ad ∧ ∀ j v, (zs.map (Value.int .u8))[j]? = some v → (wr.alloc (.cells #[.slice sa len cap, .int .u32 off] 50)).drew.cell? (ad.add j) = some v) := by
            intro h0
            have hz := HRD.out.1
            rw [List.length_map] at h0
            obtain ⟨b, o, e, hb, _, hc⟩ := HRD.out.2 (by dsimp only at hz ⊢; omega)
            refine ⟨⟨b, o, none⟩, e, fun j v hj => ?_⟩
            have hjl : j < zs.length := by
              false_or_by_contra
              rename_i q
              rw [List.getElem?_eq_none (by simp; omega)] at hj
              cases hj
            rw [Addr.add_lit, hbel2.out.cell (p := ⟨b, o + j, none⟩) (by show b < w.heap.size; omega), hc j (by dsimp only at hz ⊢; omega)]
            simp [List.getElem?_eq_getElem hjl] at hj
            rw [← hj, List.getD_eq_getElem?_getD, List.getElem?_eq_getElem hjl]; rfl
          have HZ : Hid ((zs.map (Value.int .u8)).length = len) := by show _ = _; rw [List.length_map]; exact HRD.out.1
          have HMIN : Hid (Nat.min len (C.length - off) = len) := Nat.min_eq_left (by omega)
          go_wp2
          go_region_law (refine step_copy_splice (by rfl) _ _ _ _ (by rfl) 5 Try.underlying33 u8one _ _ _ _ _ _ (by rfl) (by rfl) w.heap.size off buf 5 HBK2.out (zs.map (Value.int .u8)) (HZ.out.trans HMIN.out.symm) (fun q => ⟨by first | rfl | (rw [if_neg (by have := HZ.out; omega)]) | (simp; have := HZ.out; omega), HSRC.out q⟩) (by rw [HZ.out, HOK.out.1]; exact hle) (fun v hv => by obtain ⟨z, _, rfl⟩ := List.mem_map.1 hv; rfl) w.heap.size w hbel2.out (Nat.le_refl _) ?_; intro wq hq1 hq2)
          all_goals
            go_wp2
            refine ⟨⟨k + 1, by omega, by go_num, hq2, _, hq1.out, ?_⟩, by simp [intOf]; omega⟩
            refine HOK.out.splice HFIT.out _ ?_
            rw [HTK.out]
            have hz := HRD.out.1
            rintro i (q | ⟨e, he, q⟩)
            · exact .inl (.inl q)
            · rcases List.mem_append.1 he with he | he
              · exact .inl (.inr ⟨e, he, q⟩)
              · rw [List.mem_singleton.1 he] at q; dsimp only at q ⊢; rw [hz]; exact .inr q
        · have hkn : bs.take k = bs := List.take_of_length_le (by omega)
          have HRES : Hid (Rd wr wr.heap.size (some ⟨w.heap.size, 0, none⟩) C.length C) := by
            refine ⟨rfl, fun _ => ⟨w.heap.size, 0, rfl, (Array.getElem?_eq_some_iff.1 HBK.out).1, ⟨_, _, HBK.out⟩, fun i hi => ?_⟩⟩
            rw [Nat.zero_add, cell_of_row wr w.heap.size i _ 5 (0, 0) HBK.out]
            have := HOK.out.2 i hi (by rw [hkn]; exact H.out.cover i hi)
            simpa using this
          go_wp2
          go_ret
          exact ⟨_, _, rfl, HRES.out, hbel⟩

set_option maxRecDepth 100000 in
set_option maxHeartbeats 6400000 in
theorem doneC {base B D : Nat} {C : List Int} {bs : List BE} {v1 v2 : Value} {lb : Nat} {w : World} (h : JS base B D C [] bs v1 v2 lb w) (hD : D ≤ w.heap.size) (hC : C.length ≤ 16777216) (hs2 : bs.length ≤ 16777216) (h1 : bs.length ≠ 1) :
    Calls Try.prog 12 #[.pointer (some ⟨B, 0, none⟩)] w (Done C w) := by
  obtain ⟨ss, hss⟩ : ∃ ss : List (ByteArray × Nat), ss = [] := ⟨_, rfl⟩
  rw [← hss] at h
  have hs1 : ss.length ≤ 16777216 := by rw [hss]; simp
  have hs0 : ((ss.length : Int) == 0) = true := by rw [hss]; simp
  have hs3 : (ss.length == 0) = true := by rw [hss]; simp
  clear hss
  have hmk := fun W : World => run_make_row' (P := Try.prog) 33 5 (.int .u8 0) 1 Try.underlying33 u8info rfl .u32 .u32 C.length (by omega) (by omega) W
  have hbk0 : (w.alloc (.cells (madeCells #[.int .u8 0] C.length) 5)).heap[w.heap.size]? = some (.cells (madeCells #[.int .u8 0] C.length).toList.toArray 5 (0, 0)) := heap_alloc_new w _
  have hlen0 : (madeCells #[.int .u8 0] C.length).toList.length = C.length := by simp [size_madeCells]
  have hO0 : Okay C (madeCells #[.int .u8 0] C.length).toList (fun i => ∃ e ∈ ss.take 0, e.2 ≤ i ∧ i < e.2 + e.1.size) := ⟨hlen0, fun i _ q => by simp at q⟩
  have hbel0 : Below w.heap.size w (w.alloc (.cells (madeCells #[.int .u8 0] C.length) 5)) := (Below.refl _ _).alloc (Nat.le_refl _) _
  obtain ⟨p1, c1, rfl⟩ := own_form h.own1
  obtain ⟨p2, c2, rfl⟩ := own_form h.own2
  have k0 : w.cell? ⟨B, 0, none⟩ = some (.slice p1 ss.length c1) := h.blk.cell 0
  have k1 : w.cell? ⟨B, 1, none⟩ = some (.slice p2 bs.length c2) := h.blk.cell 1
  have k2 : w.cell? ⟨B, 2, none⟩ = some (.int .u32 (C.length : Int)) := h.blk.cell 2
  have lB := h.blk.lt
  have HBK := Lib.hid hbk0
  have HLEN := Lib.hid hlen0
  have HO := Lib.hid hO0
  have HBEL := Lib.hid hbel0
  have H := Lib.hid h
  clear hbk0 hlen0 hO0 hbel0 h
  have t1 : ((bs.length : Int) == 1) = false := by rw [beq_eq_false_iff_ne]; omega
  have t2 : (bs.length == 1) = false := by rw [beq_eq_false_iff_ne]; omega
  go_enter Try.func12, Try.ntmps12
  go_wp2
  go_loopw [49] (fun i wr => ∃ k : Nat, k ≤ ss.length ∧ i = .int .i64 k ∧ Below w.heap.size w wr ∧ ∃ buf, wr.heap[w.heap.size]? = some (.cells buf.toArray 5 (0, 0)) ∧ Okay C buf (fun i => ∃ e ∈ ss.take k, e.2 ≤ i ∧ i < e.2 + e.1.size)) (fun i _ => ss.length - (intOf i).toNat)
  case atStart => exact ⟨0, Nat.zero_le _, rfl, HBEL.out, _, HBK.out, HO.out⟩
  case round =>
    clear HBK HLEN HO HBEL hmk
    obtain ⟨k, hk, rfl, hbel, buf, hbk, hok⟩ := hrel
    have HBK := Lib.hid hbk
    have HOK := Lib.hid hok
    clear hbk hok
    by_cases hlt : k < ss.length
    · obtain ⟨b1, c1', e1, lb1, q1, q2⟩ := own_two (f := fun e : ByteArray × Nat => .string e.1) (g := fun e : ByteArray × Nat => .int .u32 e.2) H.out.own1 rfl k hlt
      cases e1
      have hmem : ss[k] ∈ ss := List.getElem_mem hlt
      have hfit := H.out.fit1 _ hmem
      have htk : ss.take (k + 1) = ss.take k ++ [ss[k]] := by rw [List.take_succ_eq_append_getElem hlt]
      have HFIT := Lib.hid hfit
      have HTK := Lib.hid htk
      have r1 : wr.cell? ⟨b1, k * 2, none⟩ = some (.string ss[k].1) := (hbel.cell (p := ⟨b1, k * 2, none⟩) lb1).trans q1
      have r2 : wr.cell? ⟨b1, k * 2 + 1, none⟩ = some (.int .u32 ss[k].2) := (hbel.cell (p := ⟨b1, k * 2 + 1, none⟩) lb1).trans q2
      have hle : ss[k].2 + ss[k].1.size ≤ C.length := by have := hfit.1; rwa [bl_len] at this
      generalize ss[k] = x at *
      obtain ⟨t, off⟩ := x
      dsimp only at r1 r2 hle
      clear q1 q2 hfit htk hmem
      have b0 : (0 : Int) ≤ (off : Int) := Int.natCast_nonneg _
      have b1' : (off : Int) ≤ (C.length : Int) := by omega
      have hbel2 := Lib.hid ((hbel.alloc hbel.size (.cells #[.string t, .int .u32 off] 52)).drew)
      have hsz := hbel.size
      have HBK2 : Hid ((wr.alloc (.cells #[.string t, .int .u32 off] 52)).drew.heap[w.heap.size]? = some (.cells buf.toArray 5 (0, 0))) := (Below.heap_alloc _ _ _ (Array.getElem?_eq_some_iff.1 HBK.out).1).trans HBK.out
      go_wp2
      go_region_law (refine step_copy_str (by rfl) _ _ _ _ (by rfl) 5 Try.underlying33 u8one _ _ _ t (by rfl) (by rfl) w.heap.size off buf 5 HBK2.out (by omega) (fun q => by first | rfl | (rw [if_neg (by omega)]) | (simp; omega)) (by rw [HOK.out.1]; exact hle) w.heap.size w hbel2.out (Nat.le_refl _) ?_; intro wq hq1 hq2)
      all_goals
        go_wp2
        refine ⟨⟨k + 1, by omega, by go_num, hq2, _, hq1.out, ?_⟩, by simp [intOf]; omega⟩
        rw [bl_cells]
        refine HOK.out.splice HFIT.out _ ?_
        rw [HTK.out, bl_len]
        rintro i ⟨e, he, q⟩
        rcases List.mem_append.1 he with he | he
        · exact .inl ⟨e, he, q⟩
        · rw [List.mem_singleton.1 he] at q; exact .inr q
    · have hkn : ss.take k = ss := List.take_of_length_le (by omega)
      have hO2 : Okay C buf (fun i => (∃ e ∈ ss, e.2 ≤ i ∧ i < e.2 + e.1.size) ∨ ∃ e ∈ bs.take 0, e.off ≤ i ∧ i < e.off + e.len) := by
        refine ⟨HOK.out.1, fun i hi q => ?_⟩
        rcases q with q | q
        · exact HOK.out.2 i hi (by rw [hkn]; exact q)
        · simp at q
      have HO2 := Lib.hid hO2
      clear hO2 hkn HOK
      have k1' : wr.cell? ⟨B, 1, none⟩ = some (.slice p2 bs.length c2) := (hbel.cell (p := ⟨B, 1, none⟩) lB).trans k1
      have HB0 := Lib.hid hbel
      clear hbel
      go_wp2
      go_loopw [66] (fun i wr => ∃ k : Nat, k ≤ bs.length ∧ i = .int .i64 k ∧ Below w.heap.size w wr ∧ ∃ buf, wr.heap[w.heap.size]? = some (.cells buf.toArray 5 (0, 0)) ∧ Okay C buf (fun i => (∃ e ∈ ss, e.2 ≤ i ∧ i < e.2 + e.1.size) ∨ ∃ e ∈ bs.take k, e.off ≤ i ∧ i < e.off + e.len)) (fun i _ => bs.length - (intOf i).toNat)
      case atStart => exact ⟨0, Nat.zero_le _, rfl, HB0.out, _, HBK.out, HO2.out⟩
      case round =>
        clear HBK HO2 HB0 k1' hlt hk
        obtain ⟨k, hk, rfl, hbel, buf, hbk, hok⟩ := hrel
        have HBK := Lib.hid hbk
        have HOK := Lib.hid hok
        clear hbk hok
        by_cases hlt : k < bs.length
        · obtain ⟨b1, c1', e1, lb1, q1, q2⟩ := own_two (f := fun e : BE => .slice e.a e.len e.cap) (g := fun e : BE => .int .u32 e.off) H.out.own2 rfl k hlt
          cases e1
          have hmem : bs[k] ∈ bs := List.getElem_mem hlt
          have hfit := (H.out.fit2 _ hmem).1
          have hrd := (H.out.fit2 _ hmem).2
          have htk : bs.take (k + 1) = bs.take k ++ [bs[k]] := by rw [List.take_succ_eq_append_getElem hlt]
          have HFIT := Lib.hid hfit
          have HRD := Lib.hid hrd
          have HTK := Lib.hid htk
          have r1 : wr.cell? ⟨b1, k * 2, none⟩ = some (.slice bs[k].a bs[k].len bs[k].cap) := (hbel.cell (p := ⟨b1, k * 2, none⟩) lb1).trans q1
          have r2 : wr.cell? ⟨b1, k * 2 + 1, none⟩ = some (.int .u32 bs[k].off) := (hbel.cell (p := ⟨b1, k * 2 + 1, none⟩) lb1).trans q2
          have hle : bs[k].off + bs[k].len ≤ C.length := by have := hfit.1; rwa [hrd.1] at this
          generalize bs[k] = x at *
          obtain ⟨sa, len, cap, off, zs⟩ := x
          dsimp only at r1 r2 hle
          clear q1 q2 hfit htk hmem hrd
          have b0 : (0 : Int) ≤ (off : Int) := Int.natCast_nonneg _
          have b1' : (off : Int) ≤ (C.length : Int) := by omega
          have hbel2 := Lib.hid ((hbel.alloc hbel.size (.cells #[.slice sa len cap, .int .u32 off] 50)).drew)
          have hsz := hbel.size
          have HBK2 : Hid ((wr.alloc (.cells #[.slice sa len cap, .int .u32 off] 50)).drew.heap[w.heap.size]? = some (.cells buf.toArray 5 (0, 0))) := (Below.heap_alloc _ _ _ (Array.getElem?_eq_some_iff.1 HBK.out).1).trans HBK.out
          have HSRC : Hid (0 < (zs.map (Value.int .u8)).length → ∃ ad, sa = some ad ∧ ∀ j v, (zs.map (Value.int .u8))[j]? = some v → (wr.alloc (.cells #[.slice sa len cap, .int .u32 off] 50)).drew.cell? (ad.add j) = some v) := by
            intro h0
            have hz := HRD.out.1
            rw [List.length_map] at h0
            obtain ⟨b, o, e, hb, _, hc⟩ := HRD.out.2 (by dsimp only at hz ⊢; omega)
            refine ⟨⟨b, o, none⟩, e, fun j v hj => ?_⟩
            have hjl : j < zs.length := by
              false_or_by_contra
              rename_i q
              rw [List.getElem?_eq_none (by simp; omega)] at hj
              cases hj
            rw [Addr.add_lit, hbel2.out.cell (p := ⟨b, o + j, none⟩) (by show b < w.heap.size; omega), hc j (by dsimp only at hz ⊢; omega)]
            simp [List.getElem?_eq_getElem hjl] at hj
            rw [← hj, List.getD_eq_getElem?_getD, List.getElem?_eq_getElem hjl]; rfl
          have HZ : Hid ((zs.map (Value.int .u8)).length = len) := by show _ = _; rw [List.length_map]; exact HRD.out.1
          have HMIN : Hid (Nat.min len (C.length - off) = len) := Nat.min_eq_left (by omega)
          go_wp2
          go_region_law (refine step_copy_splice (by rfl) _ _ _ _ (by rfl) 5 Try.underlying33 u8one _ _ _ _ _ _ (by rfl) (by rfl) w.heap.size off buf 5 HBK2.out (zs.map (Value.int .u8)) (HZ.out.trans HMIN.out.symm) (fun q => ⟨by first | rfl | (rw [if_neg (by have := HZ.out; omega)]) | (simp; have := HZ.out; omega), HSRC.out q⟩) (by rw [HZ.out, HOK.out.1]; exact hle) (fun v hv => by obtain ⟨z, _, rfl⟩ := List.mem_map.1 hv; rfl) w.heap.size w hbel2.out (Nat.le_refl _) ?_; intro wq hq1 hq2)
          all_goals
            go_wp2
            refine ⟨⟨k + 1, by omega, by go_num, hq2, _, hq1.out, ?_⟩, by simp [intOf]; omega⟩
            refine HOK.out.splice HFIT.out _ ?_
            rw [HTK.out]
            have hz := HRD.out.1
            rintro i (q | ⟨e, he, q⟩)
            · exact .inl (.inl q)
            · rcases List.mem_append.1 he with he | he
              · exact .inl (.inr ⟨e, he, q⟩)
              · rw [List.mem_singleton.1 he] at q; dsimp only at q ⊢; rw [hz]; exact .inr q
        · have hkn : bs.take k = bs := List.take_of_length_le (by omega)
          have HRES : Hid (Rd wr wr.heap.size (some ⟨w.heap.size, 0, none⟩) C.length C) := by
            refine ⟨rfl, fun _ => ⟨w.heap.size, 0, rfl, (Array.getElem?_eq_some_iff.1 HBK.out).1, ⟨_, _, HBK.out⟩, fun i hi => ?_⟩⟩
            rw [Nat.zero_add, cell_of_row wr w.heap.size i _ 5 (0, 0) HBK.out]
            have := HOK.out.2 i hi (by rw [hkn]; exact H.out.cover i hi)
            simpa using this
          go_wp2
          go_ret
          exact ⟨_, _, rfl, HRES.out, hbel⟩
theorem JS.done {base B D : Nat} {C : List Int} {ss : List (ByteArray × Nat)} {bs : List BE} {v1 v2 : Value} {lb : Nat} {w : World} (h : JS base B D C ss bs v1 v2 lb w) (hD : D ≤ w.heap.size) (hC : C.length ≤ 16777216) (hs1 : ss.length ≤ 16777216) (hs2 : bs.length ≤ 16777216) :
    Calls Try.prog 12 #[.pointer (some ⟨B, 0, none⟩)] w (Done C w) := by
  by_cases h1 : 0 < ss.length
  · exact doneB h hD hC hs1 hs2 h1
  · obtain rfl : ss = [] := List.eq_nil_of_length_eq_zero (by omega)
    by_cases h2 : bs.length = 1
    · obtain ⟨e, rfl⟩ := List.length_eq_one_iff.1 h2
      exact doneFast h hD hC
    · exact doneC h hD hC hs2 h2
end Go.Proofs.Ytakokgjbffielaa
