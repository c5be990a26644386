/-
  The contract of EnsureValidIdentifier. No condition.
-/
import Derived.Test.YtlgdojbojlbehaaOwn
import Derived.Test.YtlgdojbojlbehaaProg
import Derived.WalkSmall
import Derived.Laws.RangeAny
import Derived.Laws.OwnMore
import Derived.Lib.OthersKept
import Derived.Lib.SlBytesRow
import Derived.Lib.Strings
namespace Go.Proofs.Ytlgdojbojlbehaa
open Go.ChangeShapes Go.WideShapes Go.ChangeAt Go.RowKit
set_option linter.unusedVariables false

/-- Is the rune kept, the text so far being 'out'? -/
def kept (out : List Nat) (c : Nat) : Bool := (decide (97 ≤ c) && decide (c ≤ 122)) || (decide (65 ≤ c) && decide (c ≤ 90)) || (!out.isEmpty && decide (48 ≤ c) && decide (c ≤ 57))
def step (st : List Nat × Bool) (c : Nat) : List Nat × Bool :=
  if kept st.1 c then (if st.2 then st.1 ++ [95, c] else st.1 ++ [c], false) else (st.1, st.2 || !st.1.isEmpty)
def runs (s : ByteArray) : Nat → Nat → List Nat × Bool → List Nat × Bool
  | 0, _, st => st
  | b + 1, pos, st => if pos < s.size then runs s b (pos + (Utf8.decode s pos).2) (step st (Utf8.decode s pos).1) else st
def res (s : ByteArray) : List Nat := (runs s s.size 0 ([], false)).1
def text (l : List Nat) : ByteArray := if l = [] then ⟨#[95]⟩ else ⟨(l.map Nat.toUInt8).toArray⟩
theorem width_pos (s : ByteArray) (pos : Nat) (h : pos < s.size) : 1 ≤ (Utf8.decode s pos).2 := by
  by_cases ha : (s[pos]'h).toNat < 128
  · rw [decode_ascii s pos h ha]
    exact Nat.le_refl _
  · exact (decode_high s pos h (by omega)).2
theorem width_le (s : ByteArray) (pos : Nat) : (Utf8.decode s pos).2 ≤ 4 := by
  unfold Utf8.decode
  simp only
  repeat' split
  all_goals simp
theorem runs_end (s : ByteArray) (b pos : Nat) (st : List Nat × Bool) (h : ¬ pos < s.size) : runs s b pos st = st := by
  cases b with
  | zero => rfl
  | succ b => simp [runs, h]

/-! ### The plain law -/
/-- Folding the bytes of 'out' gives 'out' again. -/
structure Fixed (st : List Nat × Bool) : Prop where
  again : st.1.foldl step ([], false) = (st.1, false)
  gap : st.2 = true → st.1 ≠ []
  ascii : ∀ c ∈ st.1, c < 128
theorem kept_lt {out : List Nat} {c : Nat} (h : kept out c = true) : c < 128 := by
  unfold kept at h
  simp at h
  omega
theorem Fixed.step {st : List Nat × Bool} (h : Fixed st) (c : Nat) : Fixed (step st c) := by
  unfold Ytlgdojbojlbehaa.step
  by_cases hk : kept st.1 c = true
  · rw [if_pos hk]
    by_cases hg : st.2 = true
    · rw [if_pos hg]
      have hne := h.gap hg
      have he : st.1.isEmpty = false := by simpa using hne
      refine ⟨?_, (fun q => by cases q), fun x hx => ?_⟩
      · show (st.1 ++ [95, c]).foldl _ _ = (st.1 ++ [95, c], false)
        rw [List.foldl_append, h.again]
        simp only [List.foldl_cons, List.foldl_nil]
        have e1 : Ytlgdojbojlbehaa.step (st.1, false) 95 = (st.1, true) := by
          unfold Ytlgdojbojlbehaa.step kept
          simp [he]
        rw [e1]
        unfold Ytlgdojbojlbehaa.step
        simp [hk]
      · have hx' : x ∈ st.1 ++ [95, c] := hx
        simp at hx'
        rcases hx' with hx' | rfl | rfl
        · exact h.ascii x hx'
        · omega
        · exact kept_lt hk
    · rw [if_neg hg]
      refine ⟨?_, (fun q => by cases q), fun x hx => ?_⟩
      · show (st.1 ++ [c]).foldl _ _ = (st.1 ++ [c], false)
        rw [List.foldl_append, h.again]
        simp only [List.foldl_cons, List.foldl_nil]
        unfold Ytlgdojbojlbehaa.step
        simp [hk]
      · have hx' : x ∈ st.1 ++ [c] := hx
        simp at hx'
        rcases hx' with hx' | rfl
        · exact h.ascii x hx'
        · exact kept_lt hk
  · rw [if_neg hk]
    refine ⟨h.again, fun q => ?_, h.ascii⟩
    simp at q
    rcases q with q | q
    · exact h.gap q
    · exact q
theorem Fixed.runs {s : ByteArray} : ∀ (b pos : Nat) {st : List Nat × Bool}, Fixed st → Fixed (runs s b pos st)
  | 0, _, _, h => h
  | b + 1, pos, st, h => by
    unfold Ytlgdojbojlbehaa.runs
    split
    · exact Fixed.runs b _ (h.step _)
    · exact h
theorem Fixed.start : Fixed ([], false) := ⟨rfl, (fun q => by cases q), (fun c hc => by cases hc)⟩
theorem size_list (l : List UInt8) : (⟨l.toArray⟩ : ByteArray).size = l.length := rfl
/-- A text of ASCII bytes is folded byte by byte. -/
theorem runs_ascii (l : List Nat) (hl : ∀ c ∈ l, c < 128) : ∀ (b pos : Nat) (st : List Nat × Bool), l.length ≤ pos + b →
    runs ⟨(l.map Nat.toUInt8).toArray⟩ b pos st = (l.drop pos).foldl step st
  | 0, pos, st, h => by rw [List.drop_eq_nil_of_le (by omega)]; rfl
  | b + 1, pos, st, h => by
    unfold runs
    by_cases hp : pos < l.length
    · have hps : pos < (⟨(l.map Nat.toUInt8).toArray⟩ : ByteArray).size := by rw [size_list, List.length_map]; exact hp
      have hc : (⟨(l.map Nat.toUInt8).toArray⟩ : ByteArray)[pos]'hps = (l[pos]).toUInt8 := by
        show ((l.map Nat.toUInt8).toArray)[pos]'_ = _
        simp
      have h128 := hl l[pos] (List.getElem_mem hp)
      have hn : ((l[pos]).toUInt8).toNat = l[pos] := by simp; omega
      have hd := decode_ascii (⟨(l.map Nat.toUInt8).toArray⟩ : ByteArray) pos hps (by rw [hc, hn]; exact h128)
      rw [if_pos hps, hd, hc, hn, runs_ascii l hl b (pos + 1) _ (by omega), List.drop_eq_getElem_cons hp]
      rfl
    · rw [if_neg (by rw [size_list, List.length_map]; exact hp), List.drop_eq_nil_of_le (by omega)]
      rfl
theorem res_text (s : ByteArray) : text (res (text (res s))) = text (res s) := by
  have F := Fixed.runs (s := s) s.size 0 Fixed.start
  have e0 : (runs s s.size 0 ([], false)).1 = res s := rfl
  obtain ⟨h1, h2, h3⟩ := F
  rw [e0] at h1 h3
  generalize res s = l at *
  by_cases hl : l = []
  · subst hl
    rfl
  · have et : text l = ⟨(l.map Nat.toUInt8).toArray⟩ := if_neg hl
    have er : res (text l) = l := by
      unfold res
      rw [et, size_list, List.length_map, runs_ascii l h3 _ _ _ (by omega), List.drop_zero, h1]
    rw [er]
theorem step_len (st : List Nat × Bool) (c : Nat) : (step st c).1.length ≤ st.1.length + 2 := by
  unfold step
  split
  · split <;> simp
  · simp
/-! ### The walk -/
def u8s (l : List Nat) : List Value := l.map fun b : Nat => .int .u8 (b : Int)
structure LI (w wr : World) (K : Nat) (s : ByteArray) (pos : Nat) (v : Value) (out : List Nat) : Prop where
  iter : wr.heap[K]? = some (.stringIter s pos)
  own : wr.ownsRow w.heap.size 5 1 v out.length (u8s out)
  below : Below w.heap.size w wr
  hK : w.heap.size ≤ K
theorem LI.next {w wr : World} {K : Nat} {s : ByteArray} {pos : Nat} {v : Value} {out : List Nat} (h : LI w wr K s pos v out) (pos' : Nat) : LI w (wr.iterAt K s pos') K s pos' v out where
  iter := Lib.iterAt_heap _ _ _ _ _ h.iter
  own := by
    obtain ⟨h1, h2⟩ := h.own
    refine ⟨h1, ?_⟩
    rcases h2 with h0 | ⟨g, cap, cur, hv, hb, hg, rest⟩
    · exact .inl h0
    · refine .inr ⟨g, cap, cur, hv, hb, ?_, rest⟩
      rw [Lib.iterAt_other _ _ _ _ _ (fun e => by subst e; rw [h.iter] at hg; cases hg)]
      exact hg
  below := Lib.below_iterAt h.below h.hK s pos'
  hK := h.hK
theorem LI.form {w wr : World} {K : Nat} {s : ByteArray} {pos : Nat} {v : Value} {out : List Nat} (h : LI w wr K s pos v out) : ∃ p cap, v = .slice p out.length cap := by
  rcases h.own.2 with ⟨rfl, h0⟩ | ⟨g, cap, cur, rfl, _⟩
  · exact ⟨none, 0, by rw [h0]⟩
  · exact ⟨_, cap, rfl⟩
theorem LI.alloc {w wr : World} {K : Nat} {s : ByteArray} {pos : Nat} {v : Value} {out : List Nat} (h : LI w wr K s pos v out) (o : Obj) : LI w (wr.alloc o) K s pos v out where
  iter := by
    have hlt : K < wr.heap.size := (Array.getElem?_eq_some_iff.1 h.iter).1
    rw [Below.heap_alloc wr o K hlt]; exact h.iter
  own := h.own.alloc o
  below := h.below.alloc h.below.size o
  hK := h.hK
theorem LI.app {w wr w1 : World} {K : Nat} {s : ByteArray} {pos : Nat} {v v' : Value} {out : List Nat} {c : Nat} (h : LI w wr K s pos v out)
    (hown : w1.ownsRow w.heap.size 5 1 v' (out.length + 1) (u8s out ++ [.int .u8 c])) (hg : (wr.alloc (.cells #[.int .u8 c] 5)).grownBy w1 v.ownBlock) : LI w w1 K s pos v' (out ++ [c]) where
  iter := by
    have hlt : K < (wr.alloc (.cells #[.int .u8 c] 5)).heap.size := (Array.getElem?_eq_some_iff.1 (h.alloc (.cells #[.int .u8 c] 5)).iter).1
    rw [hg.block K hlt (fun e => ?_)]
    · exact (h.alloc _).iter
    · rcases h.own.2 with ⟨rfl, _⟩ | ⟨g, cap, cur, rfl, hb, hh, rest⟩
      · simp [Value.ownBlock] at e
      · simp only [Value.ownBlock, Option.some.injEq] at e
        subst e
        rw [h.iter] at hh
        cases hh
  own := by
    have e1 : (out ++ [c]).length = out.length + 1 := by simp
    have e2 : u8s (out ++ [c]) = u8s out ++ [.int .u8 c] := by simp [u8s]
    rw [e1, e2]; exact hown
  below := (h.alloc (.cells #[.int .u8 c] 5)).below.grown hg (h.alloc (.cells #[.int .u8 c] 5)).below.size (fun k hk => by
    rcases h.own.2 with ⟨rfl, _⟩ | ⟨g, cap, cur, rfl, hb, rest⟩
    · simp [Value.ownBlock] at hk
    · simp only [Value.ownBlock, Option.some.injEq] at hk
      omega)
  hK := h.hK
theorem info5 : (Try.prog.info? 5).map (fun i => (i.zero, i.size, i.bytes)) = some (some (Value.int .u8 0), 1, 1) := by kernel_rfl
theorem oneAt (W : World) (v : Value) : ∀ j u, [v][j]? = some u → (W.alloc (.cells #[v] 5)).cell? ((⟨W.heap.size, 0, none⟩ : Addr).add j) = some u := by
  intro j u hj
  have : j = 0 := by
    false_or_by_contra
    rename_i q
    rw [List.getElem?_eq_none (by simp; omega)] at hj
    cases hj
  subst this
  simp at hj
  subst hj
  rw [Addr.add_lit]
  simp [go_sem]
theorem LI.start (w : World) (s : ByteArray) : LI w ((w.alloc (.cells #[] 5)).iter s 0) (w.heap.size + 1) s 0 (.slice (some ⟨w.heap.size, 0, none⟩) 0 0) [] where
  iter := by
    have := World.iter_heap (w.alloc (.cells #[] 5)) s 0
    rwa [show (w.alloc (.cells #[] 5)).heap.size = w.heap.size + 1 by simp] at this
  own := by
    refine ⟨rfl, .inr ⟨w.heap.size, 0, #[], rfl, Nat.le_refl _, ?_, Nat.le_refl _, Nat.zero_le _, rfl, by simp [u8s]⟩⟩
    unfold World.iter
    rw [Below.heap_alloc _ _ _ (by simp)]
    exact heap_alloc_new w _
  below := ((Below.refl _ w).alloc (Nat.le_refl _) _).alloc (by simp) _
  hK := by omega
theorem kept_digit {out : List Nat} {c : Nat} (h : 0 < out.length ∧ 48 ≤ c ∧ c ≤ 57) : kept out c = true := by
  cases out with
  | nil => simp at h
  | cons a l => unfold kept; simp; omega
theorem kept_no {out : List Nat} {c : Nat} (h1 : ¬ (97 ≤ c ∧ c ≤ 122)) (h2 : ¬ (65 ≤ c ∧ c ≤ 90)) (h3 : ¬ (0 < out.length ∧ 48 ≤ c ∧ c ≤ 57)) : kept out c = false := by
  cases out with
  | nil => unfold kept; simp; omega
  | cons a l => simp only [List.length_cons] at h3; unfold kept; simp; omega
theorem step_kept {out : List Nat} {c : Nat} (h : kept out c = true) : step (out, false) c = (out ++ [c], false) := by unfold step; simp [h]
theorem step_kept_gap {out : List Nat} {c : Nat} (h : kept out c = true) : step (out, true) c = (out ++ [95] ++ [c], false) := by unfold step; simp [h]
theorem step_not_some {out : List Nat} {gap : Bool} {c : Nat} (h : kept out c = false) (h0 : out ≠ []) : step (out, gap) c = (out, true) := by unfold step; simp [h, h0]
theorem step_not_nil {out : List Nat} {gap : Bool} {c : Nat} (h : kept out c = false) (h0 : out = []) : step (out, gap) c = (out, gap) := by subst h0; unfold step; simp [h]
theorem conv_own {w wr : World} {K : Nat} {s : ByteArray} {pos : Nat} {p : Option Addr} {cap : Nat} {out : List Nat} (h : LI w wr K s pos (.slice p out.length cap) out) (h0 : 0 < out.length) (ha : ∀ c ∈ out, c < 128) :
    (convert 27 9 (.slice p out.length cap)).run Try.prog wr = .ok (.string ⟨(out.map Nat.toUInt8).toArray⟩) wr ∧ p = p := by
  have ho := h.own
  have hg : ∃ g, p = some ⟨g, 0, none⟩ := by
    rcases ho.2 with ⟨_, q⟩ | ⟨g, cap', cur, hv, _⟩
    · omega
    · injection hv with hp hl hc
      exact ⟨g, hp⟩
  obtain ⟨g, rfl⟩ := hg
  have hb : Lib.Bytes wr g 0 ⟨(out.map Nat.toUInt8).toArray⟩ := fun i hi => by
    have hi' : i < out.length := by simpa [size_list] using hi
    have e1 : (⟨(out.map Nat.toUInt8).toArray⟩ : ByteArray)[i] = (out[i]).toUInt8 := by
      show ((out.map Nat.toUInt8).toArray)[i]'_ = _
      simp
    have hc := ha out[i] (List.getElem_mem hi')
    have hn : ((out[i]).toUInt8).toNat = out[i] := by simp; omega
    rw [e1, Nat.zero_add, ho.cellAt i (by omega), hn]
    unfold u8s
    rw [List.getElem?_map, List.getElem?_eq_getElem hi']
    rfl
  have q := Lib.run_convert_window (P := Try.prog) wr 27 5 9 Try.underlying27 Try.underlying5 Try.underlying9 g 0 _ hb 0 out.length cap (by simp [size_list])
  refine ⟨?_, rfl⟩
  have e2 : (⟨(out.map Nat.toUInt8).toArray⟩ : ByteArray).extract 0 (0 + out.length) = ⟨(out.map Nat.toUInt8).toArray⟩ := by
    refine ByteArray.ext (Array.toList_inj.1 ?_)
    rw [Lib.extract_data, List.drop_zero, List.take_of_length_le]
    simp
  rw [e2] at q
  exact q
set_option maxRecDepth 100000 in
set_option maxHeartbeats 4000000 in
theorem ensure8 (s : ByteArray) (hs : s.size ≤ 4194304) (w : World) :
    Calls Try.prog 8 #[.string s] w fun e w' => e = .returned (.string (text (res s))) ∧ Below w.heap.size w w' := by
  obtain ⟨i0, hi, hz0, hz1, hz2⟩ := info_parts info5
  have HI := Lib.hid hi
  have HZ0 := Lib.hid hz0
  have HZ1 := Lib.hid hz1
  have HZ2 := Lib.hid hz2
  have HST := Lib.hid (LI.start w s)
  clear hi hz0 hz1 hz2
  go_enter Try.func8, Try.ntmps8
  go_wp2
  go_loopw [3, 4] (fun v g wr => ∃ (pos b : Nat) (out : List Nat) (gap : Bool), LI w wr (w.heap.size + 1) s pos v out ∧ g = .bool gap ∧ runs s b pos (out, gap) = runs s s.size 0 ([], false) ∧ s.size ≤ pos + b ∧ out.length ≤ 2 * pos ∧ pos ≤ s.size + 4) (fun _ _ wr => s.size - wr.iterPos (w.heap.size + 1))
  case atStart => exact ⟨0, s.size, [], false, HST.out, rfl, rfl, by omega, Nat.le_refl _, by omega⟩
  case round =>
    clear HST
    obtain ⟨pos, b, out, gap, hLI, rfl, hrun, hb, hlen, hps⟩ := hrel
    have HR := Lib.hid hrun
    have HLI := Lib.hid hLI
    have hip := iterPos_of hLI.iter
    have HIP := Lib.hid hip
    clear hrun hip
    by_cases hp : pos < s.size
    · have hnx := fun ty => Lib.run_next_any_at (P := Try.prog) wr (w.heap.size + 1) s pos ty hLI.iter hp
      have hw1 := width_pos s pos hp
      have hc1 := decode_le s pos
      have hLI2 := hLI.next (pos + (Utf8.decode s pos).2)
      have HS : Hid (∃ b', b = b' + 1 ∧ runs s b' (pos + (Utf8.decode s pos).2) (step (out, gap) (Utf8.decode s pos).1) = runs s s.size 0 ([], false)) := by
        cases b with
        | zero => omega
        | succ b' => exact ⟨b', rfl, by rw [← HR.out]; conv => rhs; unfold runs; rw [if_pos hp]⟩
      obtain ⟨wi, hwi⟩ : ∃ wi, wi = wr.iterAt (w.heap.size + 1) s (pos + (Utf8.decode s pos).2) := ⟨_, rfl⟩
      rw [← hwi] at hLI2
      simp only [← hwi] at hnx
      have hw4 := width_le s pos
      generalize (Utf8.decode s pos).2 = wd at *
      generalize (Utf8.decode s pos).1 = c at *
      obtain ⟨p, cap, rfl⟩ := hLI.form
      clear hLI hwi HR
      by_cases k1 : 97 ≤ c ∧ c ≤ 122
      · have hcl : c < 128 := by omega
        have hk : kept out c = true := by unfold kept; simp; omega
        obtain ⟨b', rfl, hrun'⟩ := HS.out
        cases gap
        · rw [step_kept hk] at hrun'
          have HRUN := Lib.hid hrun'
          clear hrun' HS hk
          go_wp2_with (first
            | (refine wpList_append_own _ rfl (.tmp 44) (.tmp 47) 27 rfl w.heap.size 5 i0 (.int .u8 0) 1 1 Try.underlying27 HI.out HZ0.out HZ1.out HZ2.out rfl (by omega) (.slice p out.length cap) out.length (u8s out) rfl (hLI2.alloc _).own ⟨wi.heap.size, 0, none⟩ 1 1 [.int .u8 (c : Int)] rfl rfl (oneAt wi _) (by simp [Value.oneCell']) (by unfold maxLen; omega) (by omega) (Nat.le_trans hLI2.below.size (by simp)) ?_; intro v2 w2 hown2 hg2 _; have hLI4 := hLI2.app hown2 hg2; clear hown2 hg2))
          exact ⟨⟨pos + wd, b', out ++ [c], false, hLI4, rfl, HRUN.out, by omega, by simp; omega, by omega⟩, by rw [iterPos_of hLI4.iter, HIP.out]; omega⟩
        · rw [step_kept_gap hk] at hrun'
          have HRUN := Lib.hid hrun'
          clear hrun' HS hk
          go_wp2_with (first
            | (refine wpList_append_own _ rfl (.tmp 41) (.tmp 42) 27 rfl w.heap.size 5 i0 (.int .u8 0) 1 1 Try.underlying27 HI.out HZ0.out HZ1.out HZ2.out rfl (by omega) (.slice p out.length cap) out.length (u8s out) rfl (hLI2.alloc _).own ⟨wi.heap.size, 0, none⟩ 1 1 [.int .u8 ((95 : Nat) : Int)] rfl rfl (oneAt wi _) (by simp [Value.oneCell']) (by unfold maxLen; omega) (by omega) (Nat.le_trans hLI2.below.size (by simp)) ?_; intro v1 w1 hown1 hg1 _; have hLI3 := hLI2.app hown1 hg1; clear hown1 hg1)
            | (refine wpList_append_own _ rfl (.tmp 44) (.tmp 47) 27 rfl w.heap.size 5 i0 (.int .u8 0) 1 1 Try.underlying27 HI.out HZ0.out HZ1.out HZ2.out rfl (by omega) v1 (out ++ [95]).length (u8s (out ++ [95])) rfl (hLI3.alloc _).own ⟨w1.heap.size, 0, none⟩ 1 1 [.int .u8 (c : Int)] rfl rfl (oneAt w1 _) (by simp [Value.oneCell']) (by unfold maxLen; simp; omega) (by simp; omega) (Nat.le_trans hLI3.below.size (by simp)) ?_; intro v2 w2 hown2 hg2 _; have hLI4 := hLI3.app hown2 hg2; clear hown2 hg2))
          exact ⟨⟨pos + wd, b', out ++ [95] ++ [c], false, hLI4, rfl, HRUN.out, by omega, by simp; omega, by omega⟩, by rw [iterPos_of hLI4.iter, HIP.out]; omega⟩
      by_cases k2 : 65 ≤ c ∧ c ≤ 90
      · have hcl : c < 128 := by omega
        have hk : kept out c = true := by unfold kept; simp; omega
        obtain ⟨b', rfl, hrun'⟩ := HS.out
        cases gap
        · rw [step_kept hk] at hrun'
          have HRUN := Lib.hid hrun'
          clear hrun' HS hk
          go_wp2_with (first
            | (refine wpList_append_own _ rfl (.tmp 44) (.tmp 47) 27 rfl w.heap.size 5 i0 (.int .u8 0) 1 1 Try.underlying27 HI.out HZ0.out HZ1.out HZ2.out rfl (by omega) (.slice p out.length cap) out.length (u8s out) rfl (hLI2.alloc _).own ⟨wi.heap.size, 0, none⟩ 1 1 [.int .u8 (c : Int)] rfl rfl (oneAt wi _) (by simp [Value.oneCell']) (by unfold maxLen; omega) (by omega) (Nat.le_trans hLI2.below.size (by simp)) ?_; intro v2 w2 hown2 hg2 _; have hLI4 := hLI2.app hown2 hg2; clear hown2 hg2))
          exact ⟨⟨pos + wd, b', out ++ [c], false, hLI4, rfl, HRUN.out, by omega, by simp; omega, by omega⟩, by rw [iterPos_of hLI4.iter, HIP.out]; omega⟩
        · rw [step_kept_gap hk] at hrun'
          have HRUN := Lib.hid hrun'
          clear hrun' HS hk
          go_wp2_with (first
            | (refine wpList_append_own _ rfl (.tmp 41) (.tmp 42) 27 rfl w.heap.size 5 i0 (.int .u8 0) 1 1 Try.underlying27 HI.out HZ0.out HZ1.out HZ2.out rfl (by omega) (.slice p out.length cap) out.length (u8s out) rfl (hLI2.alloc _).own ⟨wi.heap.size, 0, none⟩ 1 1 [.int .u8 ((95 : Nat) : Int)] rfl rfl (oneAt wi _) (by simp [Value.oneCell']) (by unfold maxLen; omega) (by omega) (Nat.le_trans hLI2.below.size (by simp)) ?_; intro v1 w1 hown1 hg1 _; have hLI3 := hLI2.app hown1 hg1; clear hown1 hg1)
            | (refine wpList_append_own _ rfl (.tmp 44) (.tmp 47) 27 rfl w.heap.size 5 i0 (.int .u8 0) 1 1 Try.underlying27 HI.out HZ0.out HZ1.out HZ2.out rfl (by omega) v1 (out ++ [95]).length (u8s (out ++ [95])) rfl (hLI3.alloc _).own ⟨w1.heap.size, 0, none⟩ 1 1 [.int .u8 (c : Int)] rfl rfl (oneAt w1 _) (by simp [Value.oneCell']) (by unfold maxLen; simp; omega) (by simp; omega) (Nat.le_trans hLI3.below.size (by simp)) ?_; intro v2 w2 hown2 hg2 _; have hLI4 := hLI3.app hown2 hg2; clear hown2 hg2))
          exact ⟨⟨pos + wd, b', out ++ [95] ++ [c], false, hLI4, rfl, HRUN.out, by omega, by simp; omega, by omega⟩, by rw [iterPos_of hLI4.iter, HIP.out]; omega⟩
      by_cases k3 : 0 < out.length ∧ 48 ≤ c ∧ c ≤ 57
      · have hcl : c < 128 := by omega
        have hk : kept out c = true := kept_digit k3
        obtain ⟨b', rfl, hrun'⟩ := HS.out
        cases gap
        · rw [step_kept hk] at hrun'
          have HRUN := Lib.hid hrun'
          clear hrun' HS hk
          go_wp2_with (first
            | (refine wpList_append_own _ rfl (.tmp 44) (.tmp 47) 27 rfl w.heap.size 5 i0 (.int .u8 0) 1 1 Try.underlying27 HI.out HZ0.out HZ1.out HZ2.out rfl (by omega) (.slice p out.length cap) out.length (u8s out) rfl (hLI2.alloc _).own ⟨wi.heap.size, 0, none⟩ 1 1 [.int .u8 (c : Int)] rfl rfl (oneAt wi _) (by simp [Value.oneCell']) (by unfold maxLen; omega) (by omega) (Nat.le_trans hLI2.below.size (by simp)) ?_; intro v2 w2 hown2 hg2 _; have hLI4 := hLI2.app hown2 hg2; clear hown2 hg2))
          exact ⟨⟨pos + wd, b', out ++ [c], false, hLI4, rfl, HRUN.out, by omega, by simp; omega, by omega⟩, by rw [iterPos_of hLI4.iter, HIP.out]; omega⟩
        · rw [step_kept_gap hk] at hrun'
          have HRUN := Lib.hid hrun'
          clear hrun' HS hk
          go_wp2_with (first
            | (refine wpList_append_own _ rfl (.tmp 41) (.tmp 42) 27 rfl w.heap.size 5 i0 (.int .u8 0) 1 1 Try.underlying27 HI.out HZ0.out HZ1.out HZ2.out rfl (by omega) (.slice p out.length cap) out.length (u8s out) rfl (hLI2.alloc _).own ⟨wi.heap.size, 0, none⟩ 1 1 [.int .u8 ((95 : Nat) : Int)] rfl rfl (oneAt wi _) (by simp [Value.oneCell']) (by unfold maxLen; omega) (by omega) (Nat.le_trans hLI2.below.size (by simp)) ?_; intro v1 w1 hown1 hg1 _; have hLI3 := hLI2.app hown1 hg1; clear hown1 hg1)
            | (refine wpList_append_own _ rfl (.tmp 44) (.tmp 47) 27 rfl w.heap.size 5 i0 (.int .u8 0) 1 1 Try.underlying27 HI.out HZ0.out HZ1.out HZ2.out rfl (by omega) v1 (out ++ [95]).length (u8s (out ++ [95])) rfl (hLI3.alloc _).own ⟨w1.heap.size, 0, none⟩ 1 1 [.int .u8 (c : Int)] rfl rfl (oneAt w1 _) (by simp [Value.oneCell']) (by unfold maxLen; simp; omega) (by simp; omega) (Nat.le_trans hLI3.below.size (by simp)) ?_; intro v2 w2 hown2 hg2 _; have hLI4 := hLI3.app hown2 hg2; clear hown2 hg2))
          exact ⟨⟨pos + wd, b', out ++ [95] ++ [c], false, hLI4, rfl, HRUN.out, by omega, by simp; omega, by omega⟩, by rw [iterPos_of hLI4.iter, HIP.out]; omega⟩
      have hk : kept out c = false := kept_no k1 k2 k3
      obtain ⟨b', rfl, hrun'⟩ := HS.out
      by_cases h0 : 0 < out.length
      · have hne : out ≠ [] := by intro q; rw [q] at h0; simp at h0
        rw [step_not_some hk hne] at hrun'
        have HRUN := Lib.hid hrun'
        clear hrun' HS hk hne
        go_wp2
        all_goals first
          | (exfalso; omega)
          | exact ⟨⟨pos + wd, b', out, true, hLI2, rfl, HRUN.out, by omega, by omega, by omega⟩, by rw [iterPos_of hLI2.iter, HIP.out]; omega⟩
      · have hne : out = [] := List.eq_nil_of_length_eq_zero (by omega)
        rw [step_not_nil hk hne] at hrun'
        have HRUN := Lib.hid hrun'
        clear hrun' HS hk hne
        go_wp2
        all_goals first
          | (exfalso; omega)
          | exact ⟨⟨pos + wd, b', out, gap, hLI2, rfl, HRUN.out, by omega, by omega, by omega⟩, by rw [iterPos_of hLI2.iter, HIP.out]; omega⟩
    · have hnx := fun ty => Lib.run_next_end_at (P := Try.prog) wr (w.heap.size + 1) s pos ty hLI.iter hp
      have hres : res s = out := by unfold res; rw [← HR.out, runs_end s b pos _ hp]
      have HRES := Lib.hid hres
      have hbel := hLI.below
      have hf := Lib.hid (Fixed.runs (s := s) s.size 0 Fixed.start)
      have hasc : Hid (∀ c ∈ out, c < 128) := by rw [← hres]; exact hf.out.ascii
      obtain ⟨p, cap, rfl⟩ := hLI.form
      by_cases h0 : out = []
      · subst h0
        clear hLI HLI HR hres hf hasc
        go_wp2
        go_ret
        exact ⟨by rw [HRES.out]; rfl, hbel⟩
      · have hpos : 0 < out.length := by
          rcases Nat.eq_zero_or_pos out.length with q | q
          · exact absurd (List.eq_nil_of_length_eq_zero q) h0
          · exact q
        have hcv := (conv_own hLI hpos hasc.out).1
        have HT : Hid (text (res s) = ⟨(out.map Nat.toUInt8).toArray⟩) := by show _ = _; rw [hres]; exact if_neg h0
        clear hLI HLI HR hres hf hasc h0
        go_wp2
        go_ret
        exact ⟨by rw [HT.out]; rfl, hbel⟩
end Go.Proofs.Ytlgdojbojlbehaa
