/-
  What the law FnJoinerMixedScriptDoneIsConcat does, for every input. No condition.
-/
import Derived.Test.YtakokgjbffielaaDo
import Derived.Test.YtakokgjbffielaaRw
import Derived.Laws.BytesArg
import Derived.Deep.DeepCutAuto
import Derived.Laws.BytesString
import Derived.Lib.BufferRead
import Derived.Lib.SlBytesRow
namespace Go.Proofs.Ytakokgjbffielaa.fnJoinerMixedScriptDoneIsConcat
open Go.ChangeShapes Go.WideShapes Go.ChangeAt Go.RowKit
set_option linter.unusedVariables false

/-- A text of the call's own. -/
def OwnT (w : World) (base : Nat) (v : Value) (C : List Int) : Prop := w.ownsRow base 5 1 v C.length (C.map (Value.int .u8))
theorem OwnT.rd {w : World} {base : Nat} {v : Value} {C : List Int} (h : OwnT w base v C) : ∃ a cap, v = .slice a C.length cap ∧ Rd w w.heap.size a C.length C := by
  obtain ⟨a, cap, rfl⟩ := own_form h
  refine ⟨a, cap, rfl, rfl, fun h0 => ?_⟩
  rcases h.2 with ⟨_, q⟩ | ⟨g, cap', cur, e, _, hh, _⟩
  · omega
  · cases e
    refine ⟨g, 0, rfl, (Array.getElem?_eq_some_iff.1 hh).1, ⟨_, _, hh⟩, fun i hi => ?_⟩
    rw [Nat.zero_add, World.ownsRow.cellAt h i (by omega)]
    simp [List.getD_eq_getElem?_getD, List.getElem?_eq_getElem hi]
theorem oneNew (W : World) (v : Value) : ∀ j u, [v][j]? = some u → (W.alloc (.cells #[v] 5)).cell? ((⟨W.heap.size, 0, none⟩ : Addr).add j) = some u := by
  intro j u hj
  have : j = 0 := by
    false_or_by_contra
    rename_i q
    rw [List.getElem?_eq_none (by simp; omega)] at hj
    cases hj
  subst this
  simp at hj
  subst hj
  rw [Addr.add_lit]
  simp [go_sem]
theorem OwnT.app {w wr w1 : World} {v v' : Value} {C : List Int} {c : Int} (h : OwnT wr w.heap.size v C) (hb : Below w.heap.size w wr)
    (hown : w1.ownsRow w.heap.size 5 1 v' (C.length + 1) (C.map (Value.int .u8) ++ [.int .u8 c])) (hg : (wr.alloc (.cells #[.int .u8 c] 5)).grownBy w1 v.ownBlock) : OwnT w1 w.heap.size v' (C ++ [c]) ∧ Below w.heap.size w w1 := by
  refine ⟨by unfold OwnT; simpa using hown, (hb.alloc hb.size _).grown hg (hb.alloc hb.size (.cells #[.int .u8 c] 5)).size (fun k hk => (own_lt h k hk).1)⟩
theorem quietBelow (w : World) (n : Nat) : Below w.heap.size w (w.drewN n) := ⟨rfl, rfl, rfl, Nat.le_refl _, fun _ _ => rfl⟩
set_option maxRecDepth 100000 in
set_option maxHeartbeats 2000000 in
theorem equalSame (a b : Option Addr) (D D' len len' ca cb : Nat) (C : List Int) (w : World) (ha : Rd w D a len C) (hb : Rd w D' b len' C) (hl : len ≤ 16777216) :
    Calls Try.prog 21 #[.slice a len ca, .slice b len' cb] w fun e w' => e = .returned (.bool true) ∧ Below w.heap.size w w' := by
  obtain rfl : len = len' := ha.1.symm.trans hb.1
  have HA := Lib.hid ha
  have HB := Lib.hid hb
  clear ha hb
  have hw0 : Hid (∃ n, w = w.drewN n) := ⟨0, rfl⟩
  go_enter Try.func21, Try.ntmps21
  go_wp2
  go_loopw [5] (fun i wr => Hid (∃ n, wr = w.drewN n) ∧ ∃ k : Nat, k ≤ len ∧ i = .int .i64 k) (fun i _ => len - (intOf i).toNat)
  case atStart => exact ⟨hw0, 0, Nat.zero_le _, rfl⟩
  case round =>
    obtain ⟨hwr, k, hk, rfl⟩ := hrel
    obtain ⟨n, hn⟩ := hwr.out
    subst hn
    clear hwr hw0
    by_cases hlt : k < len
    · obtain ⟨b1, o1, rfl, _, _, h1⟩ := HA.out.2 (by omega)
      obtain ⟨b2, o2, rfl, _, _, h2⟩ := HB.out.2 (by omega)
      have c1 := h1 k hlt
      have c2 := h2 k hlt
      generalize C.getD k 0 = z at c1 c2
      clear h1 h2
      have i0 : (0 : Int) ≤ (k : Int) := Int.natCast_nonneg _
      have i1 : (k : Int) < (len : Int) := by omega
      go_wp2
      go_quiet (fail)
      go_wp2
      exact ⟨⟨⟨_, rfl⟩, k + 1, by omega, by go_num⟩, by simp [intOf]; omega⟩
    · go_wp2
      go_ret
      exact ⟨rfl, quietBelow w n⟩

def catR (rs : List Row) : List Int := rs.flatMap (·.zs)
theorem catR_succ (rs : List Row) (k : Nat) (r : Row) (h : rs[k]? = some r) : catR (rs.take (k + 1)) = catR (rs.take k) ++ r.zs := by
  obtain ⟨hk, e⟩ := List.getElem?_eq_some_iff.1 h
  unfold catR
  rw [List.take_succ_eq_append_getElem hk, List.flatMap_append, e]
  simp
theorem catR_take_le (rs : List Row) (k : Nat) : (catR (rs.take k)).length ≤ (catR rs).length := by
  have : catR rs = catR (rs.take k) ++ catR (rs.drop k) := by unfold catR; rw [← List.flatMap_append, List.take_append_drop]
  rw [this]; simp
theorem row_small {k : IntKind} {w : World} {a : Option Addr} {len cap : Nat} {zs : List Int} (h : IsInts k w a len cap zs) : len ≤ 9223372036854775807 ∧ zs.length = len := by
  have h1 := h.1.1
  have h2 := h.1.2.1
  have h3 := h.1.2.2.1
  unfold maxLen at h3
  rw [List.length_map] at h1
  exact ⟨by omega, h1⟩
theorem cloneBools_info : (Try.prog.info? 4).map (fun i => (i.zero, i.size, i.bytes)) = some (some (Value.bool false), 1, 1) := by kernel_rfl
set_option maxRecDepth 100000 in
set_option maxHeartbeats 1000000 in
theorem cloneBools (a : Option Addr) (len cap : Nat) (zs : List Bool) (w : World) (h : IsBools w a len cap zs) (hl : len ≤ 4194304) :
    Calls Try.prog 16 #[.slice a len cap] w (Copied (fun w' a' l c => IsBools w' a' l c zs) a len w) := by
  obtain ⟨i0, hi, hz0, hz1, hz2⟩ := info_parts cloneBools_info
  have hnil := fun (W : World) (p : Option Addr) (n c n' c' : Nat) => Lib.run_eql_slice_nil (P := Try.prog) W 23 4 p n c n' c' Try.underlying23
  obtain ⟨h1, h2, hm, h4, h5⟩ := h
  rw [List.length_map] at h1
  cases a with
  | none =>
    obtain rfl : cap = 0 := h4 rfl
    obtain rfl : len = 0 := by omega
    obtain rfl : zs = [] := by simpa using h1
    clear h1 h2 hm h4 h5
    go_enter Try.func16, Try.ntmps16
    go_wp2
    go_ret
    exact ⟨none, 0, rfl, ⟨rfl, Nat.le_refl _, Nat.zero_le _, fun _ => rfl, fun h => absurd h (by omega)⟩, Iff.rfl, Below.refl _ _⟩
  | some x =>
    have hmk : ∀ u : World, (Instr.makeSlice 23 (.int .i64 (len : Int)) (.int .i64 (len : Int))).run Try.prog u =
        .ok (.slice (some ⟨u.heap.size, 0, none⟩) len len) (u.alloc (.cells (madeCells (Value.bool false).cells len) 4)) := fun u => by
      have q := run_make (P := Try.prog) u 23 4 i0 (Value.bool false) Try.underlying23 hi hz0 .i64 .i64 (len : Int) (len : Int) (by omega) (Int.le_refl _) (by rw [hz2]; omega) (by omega)
      simpa [hz1] using q
    have S0 := Cl.start w len (Value.bool false) 4 (zs.map Value.bool)
    have HS := Lib.hid h5
    have HM := Lib.hid hm
    have HL := Lib.hid h1
    skip
    clear h1 h4 h5 hm hi hz0 hz1 hz2
    go_enter Try.func16, Try.ntmps16
    go_wp2
    go_loopw [4] (fun i wr => ∃ k : Nat, k ≤ len ∧ i = .int .i64 k ∧ Cl w wr len k (zs.map Value.bool)) (fun i _ => len - (intOf i).toNat)
    case atStart => exact ⟨0, Nat.zero_le _, rfl, S0⟩
    case round =>
      clear S0 hmk hnil
      obtain ⟨k, hk, rfl, hc⟩ := hrel
      by_cases hlt : k < len
      · obtain ⟨b, off, e, hb, hcell⟩ := HS.out (by omega)
        cases e
        have hv := hcell k hlt
        rw [getD_map_bool _ _ (by rw [HL.out]; exact hlt)] at hv
        have hcur : wr.cell? ⟨b, off + k, none⟩ = some (.bool (zs.getD k false)) := by rw [hc.below.cell (p := ⟨b, off + k, none⟩) hb]; exact hv
        obtain ⟨u, hu⟩ := hc.some k hlt
        have hf := hc.free k
        have hst := hc.step hlt (.bool (zs.getD k false)) (by rw [getD_map_bool _ _ (by rw [HL.out]; exact hlt)])
        have HST := Lib.hid hst
        clear hst hcell hv hc HS
        go_wp2
        refine ⟨⟨k + 1, by omega, by go_num, ?_⟩, by simp [intOf]; omega⟩
        have q := HST.out
        rw [List.getD_eq_getElem?_getD] at q
        exact q
      · have : k = len := by omega
        subst this
        go_wp2
        go_ret
        have hs := hc.isSlice (by rw [List.length_map]; exact HL.out) (by have := HM.out; omega)
        exact ⟨_, _, rfl, hs, by simp, hc.below⟩
/-- A new row of n cells, the first k of them told. -/
structure Nr (T : TypeId) (w wr : World) (n k : Nat) (val : Nat → Value) : Prop where
  below : Below w.heap.size w wr
  blk : ∃ cs, Bk wr w.heap.size T cs ∧ cs.size = n ∧ ∀ j, j < k → cs[j]? = some (val j)
theorem Nr.start (T : TypeId) (w : World) (n : Nat) (z : Value) (val : Nat → Value) : Nr T w (w.alloc (.cells (madeCells #[z] n) T)) n 0 val where
  below := (Below.refl _ _).alloc (Nat.le_refl _) _
  blk := ⟨_, Bk.mk w T _, size_madeCells _ _, fun j hj => absurd hj (by omega)⟩
theorem Nr.step {T : TypeId} {w wr : World} {n k : Nat} {val : Nat → Value} (h : Nr T w wr n k val) (hk : k < n) : Nr T w (wr.setCell ⟨w.heap.size, k, none⟩ (val k)) n (k + 1) val where
  below := h.below.setCell (Nat.le_refl _) _
  blk := by
    obtain ⟨cs, h1, h2, h3⟩ := h.blk
    refine ⟨_, h1.set k _, by simpa using h2, fun j hj => ?_⟩
    by_cases e : j = k
    · subst e; simp [h2, hk]
    · rw [Array.getElem?_setIfInBounds]; simp [Ne.symm e]; exact h3 j (by omega)
theorem Nr.cell {T : TypeId} {w wr : World} {n k : Nat} {val : Nat → Value} (h : Nr T w wr n k val) (j : Nat) (hj : j < n) : ∃ v, wr.cell? ⟨w.heap.size, j, none⟩ = some v := by
  obtain ⟨cs, h1, h2, _⟩ := h.blk
  exact ⟨cs[j], by rw [h1.cell j, Array.getElem?_eq_getElem]⟩
theorem Nr.free {T : TypeId} {w wr : World} {n k : Nat} {val : Nat → Value} (h : Nr T w wr n k val) (j : Nat) : wr.frozen? ⟨w.heap.size, j, none⟩ = false := by
  obtain ⟨cs, h1, _, _⟩ := h.blk
  exact h1.free j
theorem Nr.done {T : TypeId} {w wr : World} {n k : Nat} {val : Nat → Value} (h : Nr T w wr n k val) (j : Nat) (hj : j < k) : wr.cell? ⟨w.heap.size, j, none⟩ = some (val j) := by
  obtain ⟨cs, h1, _, h3⟩ := h.blk
  rw [h1.cell j]; exact h3 j hj
theorem Nr.lt {T : TypeId} {w wr : World} {n k : Nat} {val : Nat → Value} (h : Nr T w wr n k val) : w.heap.size < wr.heap.size := by
  obtain ⟨cs, h1, _, _⟩ := h.blk
  exact h1.lt
theorem Nr.later {T : TypeId} {w wr w' : World} {n k : Nat} {val : Nat → Value} (h : Nr T w wr n k val) (hb : Below wr.heap.size wr w') : Nr T w w' n k val where
  below := h.below.trans (hb.mono h.below.size)
  blk := by
    obtain ⟨cs, h1, h2, h3⟩ := h.blk
    exact ⟨cs, h1.below hb h1.lt, h2, h3⟩
theorem Nr.congr {T : TypeId} {w wr : World} {n k : Nat} {val val' : Nat → Value} (h : Nr T w wr n k val) (e : ∀ j, j < k → val' j = val j) : Nr T w wr n k val' where
  below := h.below
  blk := by
    obtain ⟨cs, h1, h2, h3⟩ := h.blk
    exact ⟨cs, h1, h2, fun j hj => by rw [e j hj]; exact h3 j hj⟩
def Clb (len : Nat) (zs : List Int) (w : World) (e : Ending) (w' : World) : Prop := ∃ a cap, e = .returned (.slice a len cap) ∧ Rd w' w'.heap.size a len zs ∧ Below w.heap.size w w'
set_option maxRecDepth 100000 in
set_option maxHeartbeats 1000000 in
theorem cloneBytes (a : Option Addr) (len cap : Nat) (zs : List Int) (w : World) (h : IsInts .u8 w a len cap zs) (hl : len ≤ 4194304) :
    Calls Try.prog 26 #[.slice a len cap] w (Clb len zs w) := by
  have hnil := fun (W : World) (p : Option Addr) (n c n' c' : Nat) => Lib.run_eql_slice_nil (P := Try.prog) W 33 5 p n c n' c' Try.underlying33
  obtain ⟨_, hzl⟩ := row_small h
  cases a with
  | none =>
    obtain rfl : cap = 0 := h.1.2.2.2.1 rfl
    obtain rfl : len = 0 := by have := h.1.2.1; omega
    obtain rfl : zs = [] := List.eq_nil_of_length_eq_zero hzl
    clear h hzl
    go_enter Try.func26, Try.ntmps26
    go_wp2
    go_ret
    exact ⟨none, 0, rfl, ⟨rfl, fun q => absurd q (by omega)⟩, Below.refl _ _⟩
  | some x =>
    have hmk := fun W : World => run_make_row' (P := Try.prog) 33 5 (.int .u8 0) 1 Try.underlying33 u8info rfl .i64 .i64 len (by omega) (by omega) W
    have HST := Lib.hid (Nr.start 5 w len (.int .u8 0) (fun j => .int .u8 (zs.getD j 0)))
    have HH := Lib.hid h
    have HZL := Lib.hid hzl
    clear h hzl
    go_enter Try.func26, Try.ntmps26
    go_wp2
    go_loopw [4] (fun i wr => ∃ k : Nat, k ≤ len ∧ i = .int .i64 k ∧ Nr 5 w wr len k (fun j => .int .u8 (zs.getD j 0))) (fun i _ => len - (intOf i).toNat)
    case atStart => exact ⟨0, Nat.zero_le _, rfl, HST.out⟩
    case round =>
      clear HST hmk hnil
      obtain ⟨k, hk, rfl, hc⟩ := hrel
      by_cases hlt : k < len
      · obtain ⟨b, off, e, hb, hcell⟩ := HH.out.at (by omega)
        cases e
        have hcur : wr.cell? ⟨b, off + k, none⟩ = some (.int .u8 (zs.getD k 0)) := (hc.below.cell (p := ⟨b, off + k, none⟩) hb).trans (hcell k hlt)
        obtain ⟨u, hu⟩ := hc.cell k hlt
        have hf := hc.free k
        have HST := Lib.hid (hc.step hlt)
        clear hcell hc
        generalize hz : zs.getD k 0 = z at *
        have HZ := Lib.hid hz
        clear hz
        go_wp2
        refine ⟨⟨k + 1, by omega, by go_num, ?_⟩, by simp [intOf]; omega⟩
        exact HST.out
      · obtain rfl : k = len := by omega
        have HRD : Hid (Rd wr wr.heap.size (some ⟨w.heap.size, 0, none⟩) k zs) := by
          obtain ⟨cs, h1, h2, h3⟩ := hc.blk
          exact ⟨HZL.out, fun _ => ⟨w.heap.size, 0, rfl, hc.lt, ⟨cs, _, h1⟩, fun i hi => by rw [Nat.zero_add]; exact hc.done i hi⟩⟩
        have HB := Lib.hid hc.below
        clear hc
        go_wp2
        go_ret
        exact ⟨_, _, rfl, HRD.out, HB.out⟩

def AnyB (w : World) (e : Ending) (w' : World) : Prop := ∃ b, e = .returned (.bool b) ∧ w = w'
set_option maxRecDepth 100000 in
set_option maxHeartbeats 2000000 in
theorem bytes (a0 : Option Addr) (len0 cap0 : Nat) (z0 : List Row) (a1 : Option Addr) (len1 cap1 : Nat) (w : World) (w0 : IsRows .u8 w a0 len0 cap0 z0) (m1 : len1 ≤ 9223372036854775807) :
    Calls Try.prog 13 #[.slice a0 len0 cap0, .slice a1 len1 cap1] w (AnyB w) := by
  have m0 : len0 ≤ 9223372036854775807 := by have := w0.1.2.1; have := w0.1.2.2.1; unfold maxLen at this; omega
  have W0 := Lib.hid w0
  clear w0
  by_cases h0 : len0 ≤ 1048576
  · go_enter Try.func13, Try.ntmps13
    go_wp2
    go_loopw [5, 6] (fun t i wr => w = wr ∧ ∃ k n : Nat, k ≤ len0 ∧ i = .int .i64 k ∧ t = .int .i64 n ∧ n ≤ 1048576) (fun _ i _ => len0 - (intOf i).toNat)
    case atStart => exact ⟨by trivial, 0, len0, Nat.zero_le _, rfl, rfl, by omega⟩
    case round =>
      obtain ⟨rfl, k, n, hk, rfl, rfl, hn⟩ := hrel
      by_cases hlt : k < len0
      · obtain ⟨b, off, r, rfl, hb, hr, hcur, hints⟩ := W0.out.at k hlt
        obtain ⟨hsm, _⟩ := row_small hints
        obtain ⟨ra, rl, rc, rz⟩ := r
        dsimp only at hcur hsm
        clear hr hints
        by_cases hx : rl ≤ 1048576
        · by_cases hx2 : n + rl ≤ 1048576
          · go_wp2
            exact ⟨⟨by trivial, k + 1, n + rl, by omega, by go_num, by go_num, hx2⟩, by simp [intOf]; omega⟩
          · go_wp2
            go_ret
            exact ⟨_, rfl, rfl⟩
        · go_wp2
          go_ret
          exact ⟨_, rfl, rfl⟩
      · by_cases h1 : len1 ≤ 1048576
        · by_cases h2 : n + len1 ≤ 1048576
          · go_wp2
            go_ret
            exact ⟨_, rfl, rfl⟩
          · go_wp2
            go_ret
            exact ⟨_, rfl, rfl⟩
        · go_wp2
          go_ret
          exact ⟨_, rfl, rfl⟩
  · go_enter Try.func13, Try.ntmps13
    go_wp2
    go_ret
    exact ⟨_, rfl, rfl⟩

def Size (z0 : List Row) (w : World) (e : Ending) (w' : World) : Prop :=
  (∃ n : Int, e = .returned (.int .i64 n) ∧ w = w' ∧ 1048576 < n) ∨ (∃ n : Nat, e = .returned (.int .i64 n) ∧ w = w' ∧ n ≤ 1048576 ∧ (catR z0).length ≤ 1048576)
set_option maxRecDepth 100000 in
set_option maxHeartbeats 2000000 in
theorem listSize (a0 : Option Addr) (len0 cap0 : Nat) (z0 : List Row) (a1 : Option Addr) (len1 cap1 : Nat) (w : World) (w0 : IsRows .u8 w a0 len0 cap0 z0) (h0 : len0 ≤ 65536) (h1 : len1 ≤ 65536) :
    Calls Try.prog 14 #[.slice a0 len0 cap0, .slice a1 len1 cap1] w (Size z0 w) := by
  have W0 := Lib.hid w0
  have hzl := Lib.hid w0.len
  clear w0
  go_enter Try.func14, Try.ntmps14
  go_wp2
  go_loopw [5, 6] (fun t i wr => w = wr ∧ ∃ k n : Nat, k ≤ len0 ∧ i = .int .i64 k ∧ t = .int .i64 n ∧ n ≤ 1048576 ∧ (catR (z0.take k)).length ≤ n) (fun _ i _ => len0 - (intOf i).toNat)
  case atStart => exact ⟨by trivial, 0, 48 + len1, Nat.zero_le _, rfl, by go_num, by omega, by simp [catR]⟩
  case round =>
    obtain ⟨rfl, k, n, hk, rfl, rfl, hn, hc⟩ := hrel
    by_cases hlt : k < len0
    · obtain ⟨b, off, r, rfl, hb, hr, hcur, hints⟩ := W0.out.at k hlt
      obtain ⟨hsm, hzs⟩ := row_small hints
      have hq := catR_succ z0 k r hr
      have HQ := Lib.hid hq
      have HZ := Lib.hid hzs
      obtain ⟨ra, rl, rc, rz⟩ := r
      dsimp only at hcur hsm
      clear hr hints hq hzs
      by_cases hx : rl ≤ 1048576
      · obtain ⟨m, hm⟩ : ∃ m : Nat, m = n + (rl + 24) := ⟨_, rfl⟩
        have hm' : (n : Int) + ((rl : Int) + 24) = (m : Int) := by omega
        have HM := Lib.hid hm
        clear hm
        by_cases hx2 : m ≤ 1048576
        · go_wp2
          refine ⟨⟨by trivial, k + 1, m, by omega, by go_num, rfl, hx2, ?_⟩, by simp [intOf]; omega⟩
          have h1 := HZ.out
          have h2 := HM.out
          rw [HQ.out, List.length_append]
          dsimp only at h1 ⊢
          omega
        · go_wp2
          go_ret
          exact .inl ⟨_, rfl, rfl, by decide⟩
      · go_wp2
        go_ret
        exact .inl ⟨_, rfl, rfl, by decide⟩
    · have HC : Hid ((catR z0).length ≤ 1048576) := by
        show _ ≤ _
        rw [List.take_of_length_le (by rw [hzl.out]; omega)] at hc
        omega
      clear hc
      go_wp2
      go_ret
      exact .inr ⟨n, rfl, rfl, hn, HC.out⟩

/-- Rows of bytes of the call's own. -/
structure Cr (w wr : World) (len k : Nat) (rs rs' : List Row) : Prop where
  num : rs'.length = k
  same : rs'.map (·.zs) = (rs.take k).map (·.zs)
  rd : ∀ r ∈ rs', Rd wr wr.heap.size r.a r.len r.zs
  row : Nr 33 w wr len k (fun j => (rs'.map Row.val).getD j (.bool false))
theorem Cr.step {w wr w1 : World} {len k : Nat} {rs rs' : List Row} (h : Cr w wr len k rs rs') (hk : k < len) (r r' : Row) (hr : rs[k]? = some r) (hz : r'.zs = r.zs) (hb : Below wr.heap.size wr w1) (hR : Rd w1 w1.heap.size r'.a r'.len r'.zs) :
    Cr w (w1.setCell ⟨w.heap.size, k, none⟩ r'.val) len (k + 1) rs (rs' ++ [r']) where
  num := by simp [h.num]
  same := by
    obtain ⟨hkk, e⟩ := List.getElem?_eq_some_iff.1 hr
    rw [List.take_succ_eq_append_getElem hkk, List.map_append, List.map_append, h.same, e]
    simp [hz]
  rd := by
    obtain ⟨cs, h1, _, _⟩ := (h.row.later hb).blk
    have key : ∀ {a : Option Addr} {n : Nat} {zs : List Int}, Rd w1 w1.heap.size a n zs → Rd (w1.setCell ⟨w.heap.size, k, none⟩ r'.val) (w1.setCell ⟨w.heap.size, k, none⟩ r'.val).heap.size a n zs := fun q => by
      have q2 := q.kept (w' := w1.setCell ⟨w.heap.size, k, none⟩ r'.val) fun b cs' fr _ hh => Below.heap_setCell _ _ _ _ (ne_of_types hh h1 (by decide))
      simpa using q2
    intro x hx
    rcases List.mem_append.1 hx with hx | hx
    · exact key (((h.rd x hx).kept fun b cs' fr hlt hh => hb.block b hlt).more hb.size)
    · rw [List.mem_singleton.1 hx]; exact key hR
  row := by
    have h2 := (h.row.later hb).congr (val' := fun j => ((rs' ++ [r']).map Row.val).getD j (.bool false)) (fun j hj => by
      simp [List.getD_eq_getElem?_getD, List.getElem?_append_left, h.num, hj])
    have h3 := h2.step hk
    have e : ((rs' ++ [r']).map Row.val).getD k (.bool false) = r'.val := by simp [List.getD_eq_getElem?_getD, h.num]
    rw [e] at h3
    exact h3
def Clr (len : Nat) (rs : List Row) (w : World) (e : Ending) (w' : World) : Prop := ∃ (a : Option Addr) (cap : Nat) (rs' : List Row), e = .returned (.slice a len cap) ∧ rs'.length = len ∧ rs'.map (·.zs) = rs.map (·.zs) ∧ (∀ r ∈ rs', Rd w' w'.heap.size r.a r.len r.zs) ∧
  (0 < len → ∃ b, a = some ⟨b, 0, none⟩ ∧ b < w'.heap.size ∧ ∀ j, j < len → w'.cell? ⟨b, j, none⟩ = some ((rs'.map Row.val).getD j (.bool false))) ∧ Below w.heap.size w w'
theorem sliceinfo : (Try.prog.info? 33).map (fun i => (i.zero, i.size, i.bytes)) = some (some (Value.slice none 0 0), 1, 24) := by kernel_rfl
theorem row_le (rs : List Row) (k : Nat) (r : Row) (h : rs[k]? = some r) : r.zs.length ≤ (catR rs).length := by
  have h1 := catR_succ rs k r h
  have h2 := catR_take_le rs (k + 1)
  rw [h1, List.length_append] at h2
  omega
set_option maxRecDepth 100000 in
set_option maxHeartbeats 2000000 in
theorem cloneList (a : Option Addr) (len cap : Nat) (rs : List Row) (w : World) (h : IsRows .u8 w a len cap rs) (hl : len ≤ 65536) (hC : (catR rs).length ≤ 1048576) :
    Calls Try.prog 15 #[.slice a len cap] w (Clr len rs w) := by
  have hnil := fun (W : World) (p : Option Addr) (n c n' c' : Nat) => Lib.run_eql_slice_nil (P := Try.prog) W 37 33 p n c n' c' Try.underlying37
  have hzl := h.len
  cases a with
  | none =>
    obtain rfl : cap = 0 := h.1.2.2.2.1 rfl
    obtain rfl : len = 0 := by have := h.1.2.1; omega
    obtain rfl : rs = [] := List.eq_nil_of_length_eq_zero hzl
    clear h hzl
    go_enter Try.func15, Try.ntmps15
    go_wp2
    go_ret
    exact ⟨none, 0, [], rfl, rfl, rfl, by simp, fun q => absurd q (by omega), Below.refl _ _⟩
  | some x =>
    have hmk := fun W : World => run_make_row' (P := Try.prog) 37 33 (.slice none 0 0) 24 Try.underlying37 sliceinfo rfl .i64 .i64 len (by omega) (by omega) W
    have HST : Hid (Cr w (w.alloc (.cells (madeCells #[.slice none 0 0] len) 33)) len 0 rs []) := ⟨rfl, by simp, by simp, Nr.start 33 w len (.slice none 0 0) _⟩
    have HH := Lib.hid h
    have HZL := Lib.hid hzl
    clear h hzl
    go_enter Try.func15, Try.ntmps15
    go_wp2
    go_loopw [4] (fun i wr => ∃ (k : Nat) (rs' : List Row), k ≤ len ∧ i = .int .i64 k ∧ Cr w wr len k rs rs') (fun i _ => len - (intOf i).toNat)
    case atStart => exact ⟨0, [], Nat.zero_le _, rfl, HST.out⟩
    case round =>
      clear HST hmk hnil
      obtain ⟨k, rs', hk, rfl, hc⟩ := hrel
      by_cases hlt : k < len
      · obtain ⟨b, off, r, e, hb, hr, hcur0, hints0⟩ := HH.out.at k hlt
        cases e
        have hcur : wr.cell? ⟨b, off + k, none⟩ = some (.slice r.a r.len r.cap) := (hc.row.below.cell (p := ⟨b, off + k, none⟩) hb).trans hcur0
        have hints : IsInts .u8 wr r.a r.len r.cap r.zs := ⟨hints0.1.below hc.row.below, hints0.2⟩
        have hrl := row_le rs k r hr
        have hzz := (row_small hints).2
        have HR := Lib.hid hr
        have HI := Lib.hid hints
        have HC := Lib.hid hc
        obtain ⟨ra, rl, rc, rz⟩ := r
        dsimp only at hcur hrl hzz
        have hrl2 : rl ≤ 1048576 := by omega
        clear hcur0 hints0 hints hr hc hrl hzz
        go_wp2_with (first | (go_at_call 26; (with_reducible refine (cloneBytes ra rl rc rz wr HI.out (by omega)).mono ?_); rintro _ w1 ⟨a', c', rfl, hR, hb1⟩; obtain ⟨u, hu⟩ := (HC.out.row.later hb1).cell k hlt; have hf := (HC.out.row.later hb1).free k; have HN := Lib.hid (HC.out.step hlt _ ⟨a', rl, c', rz⟩ HR.out rfl hb1 hR); clear hR hb1))
        exact ⟨⟨k + 1, _, by omega, by go_num, HN.out⟩, by simp [intOf]; omega⟩
      · obtain rfl : k = len := by omega
        have HB := Lib.hid hc.row.below
        have HC := Lib.hid hc
        clear hc
        go_wp2
        go_ret
        refine ⟨_, _, rs', rfl, HC.out.num, ?_, HC.out.rd, fun _ => ⟨w.heap.size, rfl, HC.out.row.lt, fun j hj => HC.out.row.done j hj⟩, HB.out⟩
        rw [HC.out.same, List.take_of_length_le (by rw [HZL.out]; omega)]

/-- The bytes of a list of numbers. -/
def strOf (zs : List Int) : ByteArray := ⟨(zs.map fun z => UInt8.ofNat z.toNat).toArray⟩
theorem strOf_size (zs : List Int) : (strOf zs).size = zs.length := by show ((zs.map _).toArray).size = _; simp
theorem bl_strOf (zs : List Int) (h : ∀ z ∈ zs, (Lit.int .u8 z).wf = true) : bl (strOf zs) = zs := by
  unfold bl strOf
  simp only [List.map_map]
  conv => rhs; rw [← List.map_id zs]
  apply List.map_congr_left
  intro z hz
  obtain ⟨x, rfl, hx⟩ := nat_u8 (h z hz)
  simp
  omega
theorem toStr {w : World} {D : Nat} {a : Option Addr} {len : Nat} {zs : List Int} (h : Rd w D a len zs) (hw : ∀ z ∈ zs, (Lit.int .u8 z).wf = true) (cap : Nat) :
    (convert 33 9 (.slice a len cap)).run Try.prog w = .ok (.string (strOf zs)) w := by
  by_cases h0 : 0 < len
  · obtain ⟨b, off, rfl, _, _, hc⟩ := h.2 h0
    have hB : Lib.Bytes w b off (strOf zs) := fun i hi => by
      have hi' : i < zs.length := by rwa [strOf_size] at hi
      rw [hc i (by rw [← h.1]; exact hi')]
      have := getD_bl (strOf zs) i hi
      rw [bl_strOf zs hw] at this
      rw [this]
    have := Lib.run_convert_whole (P := Try.prog) w 33 5 9 Try.underlying33 Try.underlying5 Try.underlying9 b off (strOf zs) hB cap
    rwa [strOf_size, h.1] at this
  · obtain rfl : len = 0 := by omega
    obtain rfl : zs = [] := List.eq_nil_of_length_eq_zero h.1
    rw [run_convert_bytes_string w 33 9 5 a 0 cap Try.underlying33 Try.underlying5 Try.underlying9]
    cases a with
    | none => simp [Conv.bytesToString]; rfl
    | some x =>
      have := run_bytesToString (P := Try.prog) w x 0 cap [] (by simp [loadCells, loadCellsFrom])
      rw [this]; rfl
set_option maxRecDepth 100000 in
theorem kind (a : Option Addr) (len cap : Nat) (z : List Bool) (w : World) (h : IsBools w a len cap z) (k : Nat) (hk : k ≤ 65536) (hl : len ≤ 65536) :
    Calls Try.prog 17 #[.slice a len cap, .int .i64 k] w (AnyB w) := by
  by_cases hlt : k < len
  · obtain ⟨b1, off1, rfl, hb1, hcell1⟩ := h.2.2.2.2 (by omega)
    have hzl : z.length = len := by have := h.1; rwa [List.length_map] at this
    have hcur := hcell1 k hlt
    rw [getD_map_bool _ _ (by omega)] at hcur
    generalize z.getD k false = b at hcur
    clear h hcell1
    go_enter Try.func17, Try.ntmps17
    go_wp2
    go_ret
    exact ⟨_, rfl, rfl⟩
  · clear h
    go_enter Try.func17, Try.ntmps17
    go_wp2
    go_ret
    exact ⟨_, rfl, rfl⟩
set_option maxRecDepth 100000 in
theorem length (B C : Nat) (v1 v2 lb : Value) (w : World) (h : Bk w B 30 #[v1, v2, .int .u32 C, lb]) :
    Calls Try.prog 20 #[.pointer (some ⟨B, 0, none⟩)] w fun e w' => e = .returned (.int .u32 C) ∧ w = w' := by
  have k2 : w.cell? ⟨B, 2, none⟩ = some (.int .u32 C) := h.cell 2
  clear h
  go_enter Try.func20, Try.ntmps20
  go_wp2
  go_ret
  exact ⟨rfl, rfl⟩
/-- The state of the law's loop: the Joiner and the text that is to be met. -/
structure St (wc : World) (n : Nat) (C C' : List Int) (v : Value) (wr : World) : Prop where
  below : Below wc.heap.size wc wr
  text : OwnT wr wc.heap.size v C'
  join : ∃ ss bs v1 v2 lb, JS wc.heap.size wc.heap.size wc.heap.size C ss bs v1 v2 lb wr ∧ ss.length + bs.length = n
theorem St.add {wc wr w' : World} {n : Nat} {C zs : List Int} {v : Value} {ss' : List (ByteArray × Nat)} {bs' : List BE} {v1 v2 : Value} {lb : Nat} (hb : Below wc.heap.size wc wr) (ht : OwnT wr wc.heap.size v C)
    (hJ : JS wc.heap.size wc.heap.size wc.heap.size (C ++ zs) ss' bs' v1 v2 lb w') (hn : ss'.length + bs'.length = n) (hf : Fr (Own3 wc.heap.size wr) wr w') : St wc n (C ++ zs) C v w' where
  below := hb.trans (hf.below hb.size fun k hk => by rintro ⟨_, _, _, _, q⟩; omega)
  text := own_fr ht hf (fun g hg => by
    rintro ⟨cs, t, hh, ht', _⟩
    exact own_ne ht hh (by rcases ht' with rfl | rfl | rfl <;> decide) hg)
  join := ⟨_, _, _, _, _, hJ, hn⟩
theorem St.addS {wc wr w' : World} {n : Nat} {C zs : List Int} {v : Value} {ss : List (ByteArray × Nat)} {bs : List BE} {v2 : Value} {e : Ending} (hS : St wc n C C v wr) (hn : ss.length + bs.length = n) (hw : ∀ z ∈ zs, (Lit.int .u8 z).wf = true)
    (h : JAddS wc.heap.size wc.heap.size wc.heap.size C ss bs v2 (strOf zs) wr e w') : e = .returned (.tuple #[]) ∧ St wc (n + 1) (C ++ zs) C v w' := by
  obtain ⟨rfl, v1', lb', hJ', hfr⟩ := h
  rw [bl_strOf zs hw] at hJ'
  exact ⟨rfl, St.add hS.below hS.text hJ' (by simp; omega) hfr⟩
theorem St.addB {wc wr w' : World} {n : Nat} {C zs : List Int} {v : Value} {ss : List (ByteArray × Nat)} {bs : List BE} {v1 : Value} {a : Option Addr} {len cap : Nat} {e : Ending} (hS : St wc n C C v wr) (hn : ss.length + bs.length = n)
    (h : JAddB wc.heap.size wc.heap.size wc.heap.size C ss bs v1 a len cap zs wr e w') : e = .returned (.tuple #[]) ∧ St wc (n + 1) (C ++ zs) C v w' := by
  obtain ⟨rfl, v1', lb', hJ', hfr⟩ := h
  exact ⟨rfl, St.add hS.below hS.text hJ' (by simp; omega) hfr⟩
theorem St.push {wc wr w1 : World} {n : Nat} {C C' : List Int} {v v' : Value} {c : Int} (h : St wc n C C' v wr)
    (hown : w1.ownsRow wc.heap.size 5 1 v' (C'.length + 1) (C'.map (Value.int .u8) ++ [.int .u8 c])) (hg : (wr.alloc (.cells #[.int .u8 c] 5)).grownBy w1 v.ownBlock) : St wc n C (C' ++ [c]) v' w1 where
  below := (h.text.app h.below hown hg).2
  text := (h.text.app h.below hown hg).1
  join := by
    obtain ⟨ss, bs, v1, v2, lb, hJ, hn⟩ := h.join
    refine ⟨ss, bs, v1, v2, lb, hJ.kept (S := fun k => v.ownBlock = some k) (((Fr.refl _ wr).alloc _).grown hg (fun k hk _ => hk)) fun b cs t fr hh ht q => ?_, hn⟩
    rcases ht with rfl | rfl | rfl | ⟨rfl, hlt⟩
    · exact own_ne h.text hh (by decide) q
    · exact own_ne h.text hh (by decide) q
    · exact own_ne h.text hh (by decide) q
    · have := (own_lt h.text b q).1; omega

theorem clr_at {wc wr : World} {len : Nat} {a : Option Addr} {rs : List Row} (hl : rs.length = len) (h : 0 < len → ∃ b, a = some ⟨b, 0, none⟩ ∧ b < wc.heap.size ∧ ∀ j, j < len → wc.cell? ⟨b, j, none⟩ = some ((rs.map Row.val).getD j (.bool false))) (hb : Below wc.heap.size wc wr) (k : Nat) (hk : k < len) :
    ∃ b r, a = some ⟨b, 0, none⟩ ∧ rs[k]? = some r ∧ wr.cell? ⟨b, k, none⟩ = some (.slice r.a r.len r.cap) := by
  obtain ⟨b, e, hlt, hc⟩ := h (by omega)
  have hk' : k < rs.length := by omega
  refine ⟨b, rs[k], e, List.getElem?_eq_getElem hk', ?_⟩
  rw [hb.cell (p := ⟨b, k, none⟩) hlt, hc k hk]
  simp [List.getD_eq_getElem?_getD, List.getElem?_eq_getElem hk', Row.val]
theorem St.start (wc : World) : St wc 0 [] [] (.slice (some ⟨wc.heap.size + 1, 0, none⟩) 0 0) ((wc.alloc (.cells #[.slice none 0 0, .slice none 0 0, .int .u32 0, .int .u8 0] 30)).alloc (.cells #[] 5)) where
  below := ((Below.refl _ _).alloc (Nat.le_refl _) _).alloc (by simp) _
  text := by
    refine ⟨rfl, .inr ⟨wc.heap.size + 1, 0, #[], rfl, by omega, ?_, Nat.le_refl _, Nat.zero_le _, rfl, by simp⟩⟩
    have := heap_alloc_new (wc.alloc (.cells #[.slice none 0 0, .slice none 0 0, .int .u32 0, .int .u8 0] 30)) (.cells #[] 5)
    simpa using this
  join := ⟨[], [], _, _, 0, (JS.start wc wc.heap.size).kept ((Fr.refl (fun _ => False) _).alloc _) (fun _ _ _ _ _ _ q => q), rfl⟩
theorem IsBools.below {w w' : World} {a : Option Addr} {len cap : Nat} {z : List Bool} (h : IsBools w a len cap z) (hb : Below w.heap.size w w') : IsBools w' a len cap z := IsSlice.below h hb
theorem catR_same {rs rs' : List Row} (h : rs'.map (·.zs) = rs.map (·.zs)) : catR rs' = catR rs := by
  unfold catR
  rw [List.flatMap_def, List.flatMap_def, h]
theorem zs_wf {rs rs' : List Row} (h : rs'.map (·.zs) = rs.map (·.zs)) (hw : ∀ r ∈ rs, ∀ z ∈ r.zs, (Lit.int .u8 z).wf = true) : ∀ r ∈ rs', ∀ z ∈ r.zs, (Lit.int .u8 z).wf = true := by
  intro r hr
  have : r.zs ∈ rs'.map (·.zs) := List.mem_map.2 ⟨r, hr, rfl⟩
  rw [h] at this
  obtain ⟨q, hq, e⟩ := List.mem_map.1 this
  rw [← e]; exact hw q hq
theorem wf_nat {zs : List Int} (h : ∀ z ∈ zs, (Lit.int .u8 z).wf = true) : ∀ z ∈ zs, ∃ n : Nat, z = n := fun z hz => by
  obtain ⟨x, e, _⟩ := nat_u8 (h z hz)
  exact ⟨x, e⟩

set_option maxRecDepth 100000 in
set_option maxHeartbeats 6000000 in
theorem walk (a0 : Option Addr) (len0 cap0 : Nat) (z0 : List Row) (a1 : Option Addr) (len1 cap1 : Nat) (z1 : List Bool) (w : World) (w0 : IsRows .u8 w a0 len0 cap0 z0) (w1 : IsBools w a1 len1 cap1 z1) :
    Calls Try.prog 4 #[.slice a0 len0 cap0, .slice a1 len1 cap1] w fun e w' => e = .returned (.bool true) ∧ Below w.heap.size w w' := by
  have m0 : len0 ≤ 9223372036854775807 := by have := w0.1.2.1; have := w0.1.2.2.1; unfold maxLen at this; omega
  have m1 : len1 ≤ 9223372036854775807 := by have := w1.2.1; have := w1.2.2.1; unfold maxLen at this; omega
  obtain ⟨i0, hi, hz0, hz1, hz2⟩ := info_parts u8info
  have HI := Lib.hid hi
  have HZ0 := Lib.hid hz0
  have HZ1 := Lib.hid hz1
  have HZ2 := Lib.hid hz2
  clear hi hz0 hz1 hz2
  by_cases hl0 : len0 ≤ 65536
  · by_cases hl1 : len1 ≤ 65536
    · go_enter Try.func4, Try.ntmps4
      go_wp2_with (first
        | (go_at_call 13; (with_reducible refine (bytes a0 len0 cap0 z0 a1 len1 cap1 w w0 m1).mono ?_); rintro _ _ ⟨b, rfl, rfl⟩)
        | (go_at_call 14; (with_reducible refine (listSize a0 len0 cap0 z0 a1 len1 cap1 w w0 hl0 hl1).mono ?_); rintro _ _ (⟨n, rfl, rfl, hn⟩ | ⟨n, rfl, rfl, hn, hC⟩))
        | (go_at_call 15; (with_reducible refine (cloneList a0 len0 cap0 z0 w w0 hl0 hC).mono ?_); rintro _ wa ⟨a2, cap2, rs, rfl, hrl, hrs, hrd, hrc, hba⟩)
        | (go_at_call 16; (with_reducible refine (cloneBools a1 len1 cap1 z1 wa (IsBools.below w1 hba) (by omega)).mono ?_); rintro _ wc ⟨a3, cap3, rfl, hB3, _, hbc⟩; have HST := Lib.hid (St.start wc)))
      all_goals first
        | (go_ret; exact ⟨rfl, Below.refl _ _⟩)
        | skip
      have hCs : catR rs = catR z0 := catR_same hrs
      have hwf := zs_wf hrs (fun r hr => (w0.2 r hr).2)
      have HCS := Lib.hid hCs
      have HWF := Lib.hid hwf
      have HRC := Lib.hid hrc
      have HRD := Lib.hid hrd
      have HRL := Lib.hid hrl
      have HBC := Lib.hid hbc
      have HBA := Lib.hid hba
      have HB3 := Lib.hid hB3
      have hC2 : (catR rs).length ≤ 1048576 := by rw [hCs]; exact hC
      clear hCs hwf hrc hrd hrl hbc hba hB3 hrs w0 w1
      go_loopw [6, 7] (fun v i wr => ∃ k : Nat, k ≤ len0 ∧ i = .int .i64 k ∧ St wc k (catR (rs.take k)) (catR (rs.take k)) v wr) (fun _ i _ => len0 - (intOf i).toNat)
      case atStart => exact ⟨0, Nat.zero_le _, rfl, HST.out⟩
      case round =>
        clear HST
        obtain ⟨k, hk, rfl, hst⟩ := hrel
        have HS := Lib.hid hst
        clear hst
        by_cases hlt : k < len0
        · have hbr : Below wa.heap.size wa wr := HBC.out.trans (HS.out.below.mono HBC.out.size)
          obtain ⟨b2, r, rfl, hr, hcur⟩ := clr_at HRL.out HRC.out hbr k hlt
          have hmem : r ∈ rs := List.mem_of_getElem? hr
          have HRd : Hid (Rd wr wc.heap.size r.a r.len r.zs) := ((HRD.out r hmem).kept fun b' cs fr hlt hh => hbr.block b' hlt).more HBC.out.size
          have HW := Lib.hid (HWF.out r hmem)
          have hsuc := catR_succ rs k r hr
          have hle := row_le rs k r hr
          have htl := catR_take_le rs k
          have htl2 := catR_take_le rs (k + 1)
          have hrz := HRd.out.1
          have hkb := Lib.hid (IsBools.below HB3.out HS.out.below)
          generalize catR (rs.take k) = C0 at *
          rw [hsuc, List.length_append] at htl2
          have HSUC := Lib.hid hsuc
          obtain ⟨ra, rl, rc, rz⟩ := r
          dsimp only at hcur hle htl2 hrz
          have hx : rl ≤ 1048576 := by omega
          have hx2 : C0.length + rl ≤ 1048576 := by omega
          have HRZ := Lib.hid hrz
          have hC0 : C0.length ≤ 16777216 := by omega
          obtain ⟨ss, bs, v1, v2, lb, hJ, hsb⟩ := HS.out.join
          have n1 : ss.length ≤ 1048576 := by omega
          have n2 : bs.length ≤ 1048576 := by omega
          have HJ := Lib.hid hJ
          have HSB := Lib.hid hsb
          have hstr := toStr (cap := rc) HRd.out HW.out
          have hss : (strOf rz).size ≤ 1048576 := by rw [strOf_size]; omega
          have HBL := Lib.hid (bl_strOf rz HW.out)
          clear hsuc hle htl2 hr hmem hbr hrz hJ hsb
          obtain ⟨wo, rfl⟩ : ∃ wo : World, wo = wr := ⟨_, rfl⟩
          go_wp2_with (first
            | (go_at_call 17; (with_reducible refine (kind _ _ _ z1 wo hkb.out k (by omega) hl1).mono ?_); rintro _ _ ⟨b', rfl, rfl⟩)
            | (go_at_call 18; go_loud ((with_reducible refine (HJ.out.addS n1 (strOf rz) hss hC0).mono ?_); rintro _ wx hq; obtain ⟨rfl, hA⟩ := St.addS HS.out HSB.out HW.out hq; have HA := Lib.hid hA; clear hq hA))
            | (go_at_call 19; go_loud ((with_reducible refine (HJ.out.addB n2 ra rl rc rz HRd.out (wf_nat HW.out) hx hC0).mono ?_); rintro _ wx hq; obtain ⟨rfl, hA⟩ := St.addB HS.out HSB.out hq; have HA := Lib.hid hA; clear hq hA)))
          all_goals
            clear HJ HSB hstr hkb n1 n2
            go_loopw [6, 9] (fun v i wr => ∃ j : Nat, j ≤ rl ∧ i = .int .i64 j ∧ St wc (k + 1) (C0 ++ rz) (C0 ++ rz.take j) v wr) (fun _ i _ => rl - (intOf i).toNat)
            case atStart => exact ⟨0, Nat.zero_le _, rfl, by simpa using HA.out⟩
            case round =>
              clear HA
              obtain ⟨j, hj, rfl, hst⟩ := hrel
              by_cases hlt2 : j < rl
              · have hjz : j < rz.length := by rw [HRZ.out]; exact hlt2
                have htk : rz.take (j + 1) = rz.take j ++ [rz.getD j 0] := by
                  rw [List.take_succ_eq_append_getElem hjz, List.getD_eq_getElem?_getD, List.getElem?_eq_getElem hjz]; rfl
                have HTK := Lib.hid htk
                obtain ⟨b3, o3, rfl, hb3, _, hc3⟩ := HRd.out.2 (by show 0 < rl; omega)
                have hcur3 : wr.cell? ⟨b3, o3 + j, none⟩ = some (.int .u8 (rz.getD j 0)) := (hst.below.cell (p := ⟨b3, o3 + j, none⟩) hb3).trans ((HS.out.below.cell (p := ⟨b3, o3 + j, none⟩) hb3).symm.trans (hc3 j hlt2))
                have hlen : (C0 ++ rz.take j).length ≤ 1048576 := by simp; omega
                obtain ⟨p, cap, hv⟩ := own_form hst.text
                subst hv
                have HT := Lib.hid hst
                have hsz := hst.below.size
                clear htk hst hc3
                generalize hCC : C0 ++ rz.take j = C1 at *
                have HCC := Lib.hid hCC
                generalize hgz : rz.getD j 0 = z at *
                clear hCC
                go_wp2_with (refine wpList_append_own _ rfl (.tmp 55) (.tmp 60) 33 rfl wc.heap.size 5 i0 (.int .u8 0) 1 1 Try.underlying33 HI.out HZ0.out HZ1.out HZ2.out rfl (by omega) (.slice p C1.length cap) C1.length (C1.map (Value.int .u8)) rfl (HT.out.text.alloc _) ⟨wr.heap.size, 0, none⟩ 1 1 [.int .u8 z] rfl rfl (oneNew wr _) (by simp [Value.oneCell']) (by unfold maxLen; omega) (by omega) (by simp; omega) ?_; intro v' w1 hown' hg' _; have hA := HT.out.push hown' hg'; clear hown' hg')
                refine ⟨⟨j + 1, by omega, by go_num, ?_⟩, by simp [intOf]; omega⟩
                rw [HTK.out, ← List.append_assoc, HCC.out]
                exact hA
              · obtain rfl : j = rl := by omega
                rw [List.take_of_length_le (by rw [HRZ.out]; omega)] at hst
                obtain ⟨p, cap, hv⟩ := own_form hst.text
                subst hv
                obtain ⟨ss', bs', v1', v2', lb', hJ', hsb'⟩ := hst.join
                have HL := Lib.hid (length wc.heap.size (C0 ++ rz).length v1' v2' _ wr hJ'.blk)
                have hlen : (C0 ++ rz).length ≤ 1048576 := by rw [List.length_append, HRZ.out]; omega
                have HT : Hid (St wc (k + 1) (catR (rs.take (k + 1))) (catR (rs.take (k + 1))) (.slice p (C0 ++ rz).length cap) wr) := by
                  show St _ _ _ _ _ _
                  rw [HSUC.out]
                  exact hst
                clear hst hJ' hsb'
                generalize (C0 ++ rz).length = n' at *
                go_wp2_with (first | (go_at_call 20; (with_reducible refine HL.out.mono ?_); rintro _ _ ⟨rfl, rfl⟩))
                exact ⟨⟨k + 1, by omega, by go_num, HT.out⟩, by simp [intOf]; omega⟩
        · obtain rfl : k = len0 := by omega
          rw [List.take_of_length_le (by rw [HRL.out]; omega)] at HS
          obtain ⟨p, cap, hv, hR⟩ := HS.out.text.rd
          subst hv
          obtain ⟨ss', bs', v1', v2', lb', hJ', hsb'⟩ := HS.out.join
          have HJ := Lib.hid hJ'
          have HR := Lib.hid hR
          have n1 : ss'.length ≤ 16777216 := by omega
          have n2 : bs'.length ≤ 16777216 := by omega
          have hC3 : (catR rs).length ≤ 16777216 := by omega
          have HBR := Lib.hid HS.out.below
          have hsz := HBR.out.size
          clear hJ' hsb' hR
          go_wp2_with (first
            | (go_at_call 12; (with_reducible refine (HJ.out.done hsz hC3 n1 n2).mono ?_); rintro _ we ⟨a5, cap5, rfl, hR5, hbe⟩; have HR5 := Lib.hid hR5; have HBE := Lib.hid hbe; have HR6 := Lib.hid (HR.out.kept fun b' cs fr hlt hh => hbe.block b' hlt); clear hR5 hbe)
            | (go_at_call 21; (with_reducible refine (equalSame _ _ _ _ _ _ _ _ _ we HR5.out HR6.out hC3).mono ?_); rintro _ wf ⟨rfl, hbf⟩))
          go_ret
          refine ⟨rfl, ?_⟩
          have h1 := HBA.out.trans (HBC.out.mono HBA.out.size)
          have h2 := h1.trans (HBR.out.mono h1.size)
          have h3 := h2.trans (HBE.out.mono h2.size)
          exact h3.trans (hbf.mono h3.size)
    · go_enter Try.func4, Try.ntmps4
      go_wp2_with (first
        | (go_at_call 13; (with_reducible refine (bytes a0 len0 cap0 z0 a1 len1 cap1 w w0 m1).mono ?_); rintro _ _ ⟨b, rfl, rfl⟩))
      all_goals (go_ret; exact ⟨rfl, Below.refl _ _⟩)
  · go_enter Try.func4, Try.ntmps4
    go_wp2_with (first
      | (go_at_call 13; (with_reducible refine (bytes a0 len0 cap0 z0 a1 len1 cap1 w w0 m1).mono ?_); rintro _ _ ⟨b, rfl, rfl⟩))
    all_goals (go_ret; exact ⟨rfl, Below.refl _ _⟩)
end Go.Proofs.Ytakokgjbffielaa.fnJoinerMixedScriptDoneIsConcat
