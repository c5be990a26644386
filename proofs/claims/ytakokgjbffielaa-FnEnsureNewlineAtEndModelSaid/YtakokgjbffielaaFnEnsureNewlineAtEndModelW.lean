/-
  What the law FnEnsureNewlineAtEndModel does, for every input. No condition.
-/
import Derived.Test.YtakokgjbffielaaDo
import Derived.Test.YtakokgjbffielaaStrs
import Derived.Lib.ConvBytes
namespace Go.Proofs.Ytakokgjbffielaa.fnEnsureNewlineAtEndModel
open Go.ChangeShapes Go.WideShapes Go.ChangeAt Go.RowKit
set_option linter.unusedVariables false

def catL (zs : List ByteArray) : List Int := zs.flatMap bl
theorem catL_succ (zs : List ByteArray) (k : Nat) (h : k < zs.length) : catL (zs.take (k + 1)) = catL (zs.take k) ++ bl (zs.getD k ByteArray.empty) := by
  unfold catL
  rw [List.take_succ_eq_append_getElem h, List.getD_eq_getElem?_getD, List.getElem?_eq_getElem h, List.flatMap_append]
  simp
theorem catL_len_succ (zs : List ByteArray) (k : Nat) (h : k < zs.length) : (catL (zs.take (k + 1))).length = (catL (zs.take k)).length + (zs.getD k ByteArray.empty).size := by
  rw [catL_succ zs k h, List.length_append, bl_len]
theorem catL_take_le (zs : List ByteArray) (k : Nat) : (catL (zs.take k)).length ≤ (catL zs).length := by
  have : catL zs = catL (zs.take k) ++ catL (zs.drop k) := by unfold catL; rw [← List.flatMap_append, List.take_append_drop]
  rw [this]; simp
theorem piece_le (zs : List ByteArray) (k : Nat) (h : k < zs.length) : (zs.getD k ByteArray.empty).size ≤ (catL zs).length := by
  have h1 := catL_len_succ zs k h
  have h2 := catL_take_le zs (k + 1)
  omega

set_option maxRecDepth 100000 in
set_option maxHeartbeats 2000000 in
theorem bytes (a0 : Option Addr) (len0 cap0 : Nat) (z0 : List ByteArray) (a1 : Option Addr) (len1 cap1 : Nat) (w : World) (w0 : IsStrs w a0 len0 cap0 z0) (m1 : len1 ≤ 9223372036854775807) :
    Calls Try.prog 6 #[.slice a0 len0 cap0, .slice a1 len1 cap1] w fun e w' => ∃ b, e = .returned (.bool b) ∧ w = w' := by
  have m0 : len0 ≤ 9223372036854775807 := by have := w0.1.2.1; have := w0.1.2.2.1; unfold maxLen at this; omega
  have W0 := Lib.hid w0
  clear w0
  by_cases h0 : len0 ≤ 1048576
  · go_enter Try.func6, Try.ntmps6
    go_wp2
    go_loopw [5, 6] (fun t i wr => w = wr ∧ ∃ k n : Nat, k ≤ len0 ∧ i = .int .i64 k ∧ t = .int .i64 n ∧ n ≤ 1048576) (fun _ i _ => len0 - (intOf i).toNat)
    case atStart => exact ⟨by trivial, 0, len0, Nat.zero_le _, rfl, rfl, by omega⟩
    case round =>
      obtain ⟨rfl, k, n, hk, rfl, rfl, hn⟩ := hrel
      by_cases hlt : k < len0
      · obtain ⟨b, off, rfl, hb, hcell⟩ := W0.out.at (by omega)
        have hcur := hcell k hlt
        have hsm := W0.out.small k
        generalize z0.getD k ByteArray.empty = x at *
        clear hcell
        by_cases hx : x.size ≤ 1048576
        · by_cases hx2 : n + x.size ≤ 1048576
          · go_wp2
            exact ⟨⟨by trivial, k + 1, n + x.size, by omega, by go_num, by go_num, hx2⟩, by simp [intOf]; omega⟩
          · go_wp2
            go_ret
            exact ⟨_, rfl, rfl⟩
        · go_wp2
          go_ret
          exact ⟨_, rfl, rfl⟩
      · by_cases h1 : len1 ≤ 1048576
        · by_cases h2 : n + len1 ≤ 1048576
          · go_wp2
            go_ret
            exact ⟨_, rfl, rfl⟩
          · go_wp2
            go_ret
            exact ⟨_, rfl, rfl⟩
        · go_wp2
          go_ret
          exact ⟨_, rfl, rfl⟩
  · go_enter Try.func6, Try.ntmps6
    go_wp2
    go_ret
    exact ⟨_, rfl, rfl⟩

def Big (z0 : List ByteArray) (len0 len1 : Nat) (w : World) (e : Ending) (w' : World) : Prop :=
  (e = .returned (.bool true) ∧ w = w') ∨ (e = .returned (.bool false) ∧ w = w' ∧ len0 ≤ 65536 ∧ len1 ≤ 65536 ∧ (catL z0).length ≤ 1048576)
set_option maxRecDepth 100000 in
set_option maxHeartbeats 2000000 in
theorem tooBig (a0 : Option Addr) (len0 cap0 : Nat) (z0 : List ByteArray) (a1 : Option Addr) (len1 cap1 : Nat) (w : World) (w0 : IsStrs w a0 len0 cap0 z0) (m1 : len1 ≤ 9223372036854775807) :
    Calls Try.prog 7 #[.slice a0 len0 cap0, .slice a1 len1 cap1, .int .i64 1048576] w (Big z0 len0 len1 w) := by
  have m0 : len0 ≤ 9223372036854775807 := by have := w0.1.2.1; have := w0.1.2.2.1; unfold maxLen at this; omega
  have W0 := Lib.hid w0
  have hzl := Lib.hid w0.len
  clear w0
  by_cases h0 : len0 ≤ 65536
  · by_cases h1 : len1 ≤ 65536
    · by_cases h2 : len1 + 16 * len0 ≤ 1048576
      · go_enter Try.func7, Try.ntmps7
        go_wp2
        go_loopw [7, 8] (fun t i wr => w = wr ∧ ∃ k n : Nat, k ≤ len0 ∧ i = .int .i64 k ∧ t = .int .i64 n ∧ n ≤ 1048576 ∧ (catL (z0.take k)).length ≤ n) (fun _ i _ => len0 - (intOf i).toNat)
        case atStart => exact ⟨by trivial, 0, len1 + 16 * len0, Nat.zero_le _, rfl, by go_num, by omega, by simp [catL]⟩
        case round =>
          obtain ⟨rfl, k, n, hk, rfl, rfl, hn, hc⟩ := hrel
          by_cases hlt : k < len0
          · obtain ⟨b, off, rfl, hb, hcell⟩ := W0.out.at (by omega)
            have hcur := hcell k hlt
            have hsm := W0.out.small k
            have hq := catL_len_succ z0 k (by rw [hzl.out]; exact hlt)
            generalize z0.getD k ByteArray.empty = x at *
            have HQ := Lib.hid hq
            clear hcell hq
            by_cases hx : x.size ≤ 1048576
            · by_cases hx2 : n + x.size ≤ 1048576
              · go_wp2
                exact ⟨⟨by trivial, k + 1, n + x.size, by omega, by go_num, by go_num, hx2, by rw [HQ.out]; omega⟩, by simp [intOf]; omega⟩
              · go_wp2
                go_ret
                exact .inl ⟨rfl, rfl⟩
            · go_wp2
              go_ret
              exact .inl ⟨rfl, rfl⟩
          · have HC : Hid ((catL z0).length ≤ 1048576) := by
              show _ ≤ _
              rw [List.take_of_length_le (by rw [hzl.out]; omega)] at hc
              omega
            clear hc
            go_wp2
            go_ret
            exact .inr ⟨rfl, rfl, h0, h1, HC.out⟩
      · go_enter Try.func7, Try.ntmps7
        go_wp2
        go_ret
        exact .inl ⟨rfl, rfl⟩
    · go_enter Try.func7, Try.ntmps7
      go_wp2
      go_ret
      exact .inl ⟨rfl, rfl⟩
  · go_enter Try.func7, Try.ntmps7
    go_wp2
    go_ret
    exact .inl ⟨rfl, rfl⟩

/-- '[]byte(s)'. -/
theorem toBytes (s : ByteArray) (w : World) : ∃ cap wb, (convert 9 33 (.string s)).run Try.prog w = .ok (.slice (some ⟨w.heap.size, 0, none⟩) s.size cap) wb ∧ Fr (fun _ => False) w wb ∧ Rd wb wb.heap.size (some ⟨w.heap.size, 0, none⟩) s.size (bl s) := by
  refine ⟨_, _, Lib.run_convert_string_bytes (P := Try.prog) w 9 33 5 s Try.underlying9 Try.underlying33 Try.underlying5, ⟨?_, ?_, ?_, ?_, fun k hk _ => Lib.bytesWorld_at_old w 5 s k hk⟩, bl_len s, fun h0 => ⟨w.heap.size, 0, rfl, ?_, ⟨_, _, Lib.bytesWorld_at_new w 5 s⟩, fun i hi => ?_⟩⟩
  · simp [Lib.bytesWorld, World.freeze, World.alloc, World.drew, -World.alloc_eq, -World.drew_eq]
  · simp [Lib.bytesWorld, World.freeze, World.alloc, World.drew, -World.alloc_eq, -World.drew_eq]
  · simp [Lib.bytesWorld, World.freeze, World.alloc, World.drew, -World.alloc_eq, -World.drew_eq]
  · rw [Lib.bytesWorld_size]; omega
  · rw [Lib.bytesWorld_size]; omega
  · rw [Nat.zero_add, Lib.bytesWorld_cell w 5 s i hi, getD_bl s i hi]
    have h' : i < s.data.toList.length := by simpa using hi
    rw [List.getD_eq_getElem?_getD, List.getElem?_eq_getElem h']
    rfl

/-- What zzBuild leaves. -/
def Built (w : World) (B n : Nat) (C : List Int) (wr : World) : Prop := ∃ ss bs v1 v2 lb, JS w.heap.size B wr.heap.size C ss bs v1 v2 lb wr ∧ ss.length + bs.length = n ∧ Below w.heap.size w wr
theorem Built.addS {w wr w' : World} {B n : Nat} {C : List Int} {ss : List (ByteArray × Nat)} {bs : List BE} {v2 : Value} {s : ByteArray} {e : Ending} (hbel : Below w.heap.size w wr) (hn : ss.length + bs.length = n) (h : JAddS w.heap.size B wr.heap.size C ss bs v2 s wr e w') : e = .returned (.tuple #[]) ∧ Built w B (n + 1) (C ++ bl s) w' := by
  obtain ⟨rfl, v1, lb, hJ, hfr⟩ := h
  refine ⟨rfl, _, _, _, _, _, hJ.more hfr.size, by simp; omega, hbel.trans (hfr.below hbel.size fun k hk => ?_)⟩
  rintro ⟨cs, t, _, _, hb⟩
  omega
theorem Built.addB {w wr w' : World} {B n : Nat} {C zs : List Int} {ss : List (ByteArray × Nat)} {bs : List BE} {v1 : Value} {a : Option Addr} {len cap : Nat} {e : Ending} (hbel : Below w.heap.size w wr) (hn : ss.length + bs.length = n) (h : JAddB w.heap.size B wr.heap.size C ss bs v1 a len cap zs wr e w') : e = .returned (.tuple #[]) ∧ Built w B (n + 1) (C ++ zs) w' := by
  obtain ⟨rfl, v2, lb, hJ, hfr⟩ := h
  refine ⟨rfl, _, _, _, _, _, hJ.more hfr.size, by simp; omega, hbel.trans (hfr.below hbel.size fun k hk => ?_)⟩
  rintro ⟨cs, t, _, _, hb⟩
  omega
theorem bl_nat (s : ByteArray) : ∀ z ∈ bl s, ∃ n : Nat, z = n := by
  intro z hz
  obtain ⟨c, _, rfl⟩ := List.mem_map.1 hz
  exact ⟨_, rfl⟩

set_option maxRecDepth 100000 in
set_option maxHeartbeats 4000000 in
theorem build (a0 : Option Addr) (len0 cap0 : Nat) (z0 : List ByteArray) (a1 : Option Addr) (len1 cap1 : Nat) (z1 : List Bool) (w : World) (w0 : IsStrs w a0 len0 cap0 z0) (w1 : IsBools w a1 len1 cap1 z1) (B : Nat) (wx : World) (hbx : Built w B 0 [] wx)
    (h0 : len0 ≤ 65536) (h1 : len1 ≤ 65536) (hC : (catL z0).length ≤ 1048576) :
    Calls Try.prog 8 #[.pointer (some ⟨B, 0, none⟩), .slice a0 len0 cap0, .slice a1 len1 cap1] wx fun e w' => e = .returned (.tuple #[]) ∧ Built w B len0 (catL z0) w' := by
  have hzl := Lib.hid w0.len
  have W0 := Lib.hid w0
  have W1 := Lib.hid w1
  have HBX := Lib.hid hbx
  clear w0 w1 hbx
  go_enter Try.func8, Try.ntmps8
  go_wp2
  go_loopw [6] (fun i wr => ∃ k : Nat, k ≤ len0 ∧ i = .int .i64 k ∧ Built w B k (catL (z0.take k)) wr) (fun i _ => len0 - (intOf i).toNat)
  case atStart => exact ⟨0, Nat.zero_le _, rfl, HBX.out⟩
  case round =>
    obtain ⟨k, hk, rfl, ss, bs, v1, v2, lb, hJ, hsb, hbel⟩ := hrel
    by_cases hlt : k < len0
    · obtain ⟨b, off, rfl, hb, hcell⟩ := W0.out.at (by omega)
      have hcur : wr.cell? ⟨b, off + k, none⟩ = some (.string (z0.getD k ByteArray.empty)) := (hbel.cell (p := ⟨b, off + k, none⟩) hb).trans (hcell k hlt)
      have hsuc := catL_succ z0 k (by rw [hzl.out]; exact hlt)
      have hpl := piece_le z0 k (by rw [hzl.out]; exact hlt)
      have htl := catL_take_le z0 k
      generalize z0.getD k ByteArray.empty = x at *
      have HSUC := Lib.hid hsuc
      have HJ := Lib.hid hJ
      have HSB := Lib.hid hsb
      have n1 : ss.length ≤ 1048576 := by omega
      have n2 : bs.length ≤ 1048576 := by omega
      clear hsuc hJ hcell hsb
      by_cases hkind : k < len1 ∧ z1.getD k false = true
      · obtain ⟨hk1, hkt⟩ := hkind
        obtain ⟨b1, off1, rfl, hb1, hcell1⟩ := W1.out.2.2.2.2 (by omega)
        have hz1l : z1.length = len1 := by have := W1.out.1; rwa [List.length_map] at this
        have hcur1 : wr.cell? ⟨b1, off1 + k, none⟩ = some (.bool true) := by
          rw [hbel.cell (p := ⟨b1, off1 + k, none⟩) hb1, hcell1 k hk1, getD_map_bool _ _ (by omega), hkt]
        obtain ⟨cap, wb, hconv, hfb, hrd⟩ := toBytes x wr
        have HFB := Lib.hid hfb
        have HRD := Lib.hid hrd
        have HJ2 : Hid (JS w.heap.size B wb.heap.size (catL (z0.take k)) ss bs v1 v2 lb wb) := (HJ.out.kept hfb (fun _ _ _ _ _ _ q => q)).more hfb.size
        have HBEL2 : Hid (Below w.heap.size w wb) := hbel.trans (hfb.below hbel.size fun _ _ q => q)
        have HBEL := Lib.hid hbel
        clear hfb hrd hcell1 hbel
        go_wp2_with (first | (go_at_call 19; (with_reducible refine (HJ2.out.addB n2 _ _ _ (bl x) HRD.out (bl_nat x) (by omega) (by omega)).mono ?_); rintro e w' hA; obtain ⟨rfl, hA2⟩ := Built.addB HBEL2.out HSB.out hA; clear hA))
        exact ⟨⟨k + 1, by omega, by go_num, by rw [HSUC.out]; exact hA2⟩, by simp [intOf]; omega⟩
      · by_cases hk1 : k < len1
        · obtain ⟨b1, off1, rfl, hb1, hcell1⟩ := W1.out.2.2.2.2 (by omega)
          have hz1l : z1.length = len1 := by have := W1.out.1; rwa [List.length_map] at this
          have hkf : z1.getD k false = false := by
            cases q : z1.getD k false
            · rfl
            · exact absurd ⟨hk1, q⟩ hkind
          have hcur1 : wr.cell? ⟨b1, off1 + k, none⟩ = some (.bool false) := by
            rw [hbel.cell (p := ⟨b1, off1 + k, none⟩) hb1, hcell1 k hk1, getD_map_bool _ _ (by omega), hkf]
          have HBEL := Lib.hid hbel
          clear hcell1 hbel hkind hkf
          go_wp2_with (first | (go_at_call 18; (with_reducible refine (HJ.out.addS n1 x (by omega) (by omega)).mono ?_); rintro e w' hA; obtain ⟨rfl, hA2⟩ := Built.addS HBEL.out HSB.out hA; clear hA))
          exact ⟨⟨k + 1, by omega, by go_num, by rw [HSUC.out]; exact hA2⟩, by simp [intOf]; omega⟩
        · have HBEL := Lib.hid hbel
          clear hbel hkind
          go_wp2_with (first | (go_at_call 18; (with_reducible refine (HJ.out.addS n1 x (by omega) (by omega)).mono ?_); rintro e w' hA; obtain ⟨rfl, hA2⟩ := Built.addS HBEL.out HSB.out hA; clear hA))
          exact ⟨⟨k + 1, by omega, by go_num, by rw [HSUC.out]; exact hA2⟩, by simp [intOf]; omega⟩
    · have HR : Hid (Built w B len0 (catL z0) wr) := by
        obtain rfl : k = len0 := by omega
        rw [List.take_of_length_le (by rw [hzl.out]; omega)] at hJ
        exact ⟨ss, bs, v1, v2, lb, hJ, hsb, hbel⟩
      clear hJ hsb hbel
      go_wp2
      go_end0
      exact ⟨rfl, HR.out⟩

def nl (C : List Int) : List Int := if 0 < C.length ∧ C.getD (C.length - 1) 0 ≠ 10 then C ++ [10] else C
theorem bl_nl : bl ⟨#[10]⟩ = [10] := rfl
set_option maxRecDepth 100000 in
set_option maxHeartbeats 2000000 in
theorem ensure (w : World) (B n : Nat) (C : List Int) (wr : World) (hb : Built w B n C wr) (hn : n ≤ 65536) (hC : C.length ≤ 1048576) :
    Calls Try.prog 9 #[.pointer (some ⟨B, 0, none⟩)] wr fun e w' => e = .returned (.tuple #[]) ∧ ∃ m, m ≤ n + 1 ∧ Built w B m (nl C) w' := by
  obtain ⟨ss, bs, v1, v2, lb, hJ, hsb, hbel⟩ := hb
  have k2 : wr.cell? ⟨B, 2, none⟩ = some (.int .u32 (C.length : Int)) := hJ.blk.cell 2
  have k3 : wr.cell? ⟨B, 3, none⟩ = some (.int .u8 (lb : Int)) := hJ.blk.cell 3
  have hlast := hJ.last
  by_cases h0 : 0 < C.length
  · by_cases h1 : lb = 10
    · have HN : Hid (nl C = C) := by show _ = _; unfold nl; rw [if_neg (by rintro ⟨_, q⟩; rw [← hlast h0, h1] at q; exact q rfl)]
      subst h1
      have HR : Hid (Built w B n C wr) := ⟨ss, bs, v1, v2, 10, hJ, hsb, hbel⟩
      clear hlast hJ hsb hbel
      go_enter Try.func9, Try.ntmps9
      go_wp2
      go_end0
      exact ⟨rfl, n, by omega, by rw [HN.out]; exact HR.out⟩
    · have HN : Hid (nl C = C ++ [10]) := by show _ = _; unfold nl; rw [if_pos ⟨h0, by rw [← hlast h0]; omega⟩]
      have t1 : ((lb : Int) != 10) = true := by simp; omega
      have n1 : ss.length ≤ 1048576 := by omega
      have HJ := Lib.hid hJ
      have HSB := Lib.hid hsb
      have HBEL := Lib.hid hbel
      clear hlast hJ hsb hbel
      go_enter Try.func9, Try.ntmps9
      go_wp2_with (first | (go_at_call 18; (with_reducible refine (HJ.out.addS n1 ⟨#[10]⟩ (by decide) (by omega)).mono ?_); rintro e w' hA; obtain ⟨rfl, hA2⟩ := Built.addS HBEL.out HSB.out hA; clear hA))
      go_end0
      exact ⟨rfl, n + 1, by omega, by rw [HN.out, ← bl_nl]; exact hA2⟩
  · have HN : Hid (nl C = C) := by show _ = _; unfold nl; rw [if_neg (by omega)]
    have HR : Hid (Built w B n C wr) := ⟨ss, bs, v1, v2, lb, hJ, hsb, hbel⟩
    clear hlast hJ hsb hbel
    go_enter Try.func9, Try.ntmps9
    go_wp2
    go_end0
    exact ⟨rfl, n, by omega, by rw [HN.out]; exact HR.out⟩

/-- A text of the call's own. -/
def OwnT (w : World) (base : Nat) (v : Value) (C : List Int) : Prop := w.ownsRow base 5 1 v C.length (C.map (Value.int .u8))
theorem OwnT.rd {w : World} {base : Nat} {v : Value} {C : List Int} (h : OwnT w base v C) : ∃ a cap, v = .slice a C.length cap ∧ Rd w w.heap.size a C.length C := by
  obtain ⟨a, cap, rfl⟩ := own_form h
  refine ⟨a, cap, rfl, rfl, fun h0 => ?_⟩
  rcases h.2 with ⟨_, q⟩ | ⟨g, cap', cur, e, _, hh, _⟩
  · omega
  · cases e
    refine ⟨g, 0, rfl, (Array.getElem?_eq_some_iff.1 hh).1, ⟨_, _, hh⟩, fun i hi => ?_⟩
    rw [Nat.zero_add, World.ownsRow.cellAt h i (by omega)]
    simp [List.getD_eq_getElem?_getD, List.getElem?_eq_getElem hi]
theorem oneNew (W : World) (v : Value) : ∀ j u, [v][j]? = some u → (W.alloc (.cells #[v] 5)).cell? ((⟨W.heap.size, 0, none⟩ : Addr).add j) = some u := by
  intro j u hj
  have : j = 0 := by
    false_or_by_contra
    rename_i q
    rw [List.getElem?_eq_none (by simp; omega)] at hj
    cases hj
  subst this
  simp at hj
  subst hj
  rw [Addr.add_lit]
  simp [go_sem]
theorem OwnT.app {w wr w1 : World} {v v' : Value} {C : List Int} {c : Int} (h : OwnT wr w.heap.size v C) (hb : Below w.heap.size w wr)
    (hown : w1.ownsRow w.heap.size 5 1 v' (C.length + 1) (C.map (Value.int .u8) ++ [.int .u8 c])) (hg : (wr.alloc (.cells #[.int .u8 c] 5)).grownBy w1 v.ownBlock) : OwnT w1 w.heap.size v' (C ++ [c]) ∧ Below w.heap.size w w1 := by
  refine ⟨by unfold OwnT; simpa using hown, (hb.alloc hb.size _).grown hg (hb.alloc hb.size (.cells #[.int .u8 c] 5)).size (fun k hk => (own_lt h k hk).1)⟩
theorem take_bl (x : ByteArray) (k : Nat) (h : k < x.size) : (bl x).take (k + 1) = (bl x).take k ++ [(x[k].toNat : Int)] := by
  rw [List.take_succ_eq_append_getElem (by rw [bl_len]; exact h)]
  congr 2
  have := getD_bl x k h
  rw [List.getD_eq_getElem?_getD, List.getElem?_eq_getElem (by rw [bl_len]; exact h)] at this
  simpa using this
def Concat (C : List Int) (w : World) (e : Ending) (w' : World) : Prop := ∃ v, e = .returned v ∧ OwnT w' w.heap.size v C ∧ Below w.heap.size w w'
set_option maxRecDepth 100000 in
set_option maxHeartbeats 4000000 in
theorem concat (a0 : Option Addr) (len0 cap0 : Nat) (z0 : List ByteArray) (w : World) (w0 : IsStrs w a0 len0 cap0 z0) (h0 : len0 ≤ 65536) (hC : (catL z0).length ≤ 1048576) :
    Calls Try.prog 10 #[.slice a0 len0 cap0] w (Concat (catL z0) w) := by
  have hzl := Lib.hid w0.len
  have W0 := Lib.hid w0
  clear w0
  obtain ⟨i0, hi, hz0, hz1, hz2⟩ := info_parts u8info
  have HI := Lib.hid hi
  have HZ0 := Lib.hid hz0
  have HZ1 := Lib.hid hz1
  have HZ2 := Lib.hid hz2
  clear hi hz0 hz1 hz2
  have hmk : ∀ u : World, (Instr.makeSlice 33 (.int .i64 0) (.int .i64 0)).run Try.prog u = .ok (.slice (some ⟨u.heap.size, 0, none⟩) 0 0) (u.alloc (.cells #[] 5)) := fun u => by kernel_rfl
  have HST : Hid (OwnT (w.alloc (.cells #[] 5)) w.heap.size (.slice (some ⟨w.heap.size, 0, none⟩) 0 0) []) := ⟨rfl, .inr ⟨w.heap.size, 0, #[], rfl, Nat.le_refl _, heap_alloc_new w _, Nat.le_refl _, Nat.zero_le _, rfl, by simp⟩⟩
  have HB0 : Hid (Below w.heap.size w (w.alloc (.cells #[] 5))) := (Below.refl _ _).alloc (Nat.le_refl _) _
  go_enter Try.func10, Try.ntmps10
  go_wp2
  go_loopw [3, 4] (fun v i wr => ∃ k : Nat, k ≤ len0 ∧ i = .int .i64 k ∧ OwnT wr w.heap.size v (catL (z0.take k)) ∧ Below w.heap.size w wr) (fun _ i _ => len0 - (intOf i).toNat)
  case atStart => exact ⟨0, Nat.zero_le _, rfl, HST.out, HB0.out⟩
  case round =>
    clear HST HB0 hmk
    obtain ⟨k, hk, rfl, hown, hbel⟩ := hrel
    by_cases hlt : k < len0
    · obtain ⟨b, off, rfl, hb, hcell⟩ := W0.out.at (by omega)
      have hcur : wr.cell? ⟨b, off + k, none⟩ = some (.string (z0.getD k ByteArray.empty)) := (hbel.cell (p := ⟨b, off + k, none⟩) hb).trans (hcell k hlt)
      have hsuc := catL_succ z0 k (by rw [hzl.out]; exact hlt)
      have hpl := piece_le z0 k (by rw [hzl.out]; exact hlt)
      have htl := catL_take_le z0 k
      have htl2 := catL_take_le z0 (k + 1)
      generalize z0.getD k ByteArray.empty = x at *
      have hsz : (catL (z0.take k)).length + x.size ≤ 1048576 := by rw [hsuc, List.length_append, bl_len] at htl2; omega
      have HSUC := Lib.hid hsuc
      generalize catL (z0.take k) = C0 at *
      have HOWN := Lib.hid hown
      have HBEL := Lib.hid hbel
      clear hsuc hcell htl2 hown hbel
      obtain ⟨wo, rfl⟩ : ∃ wo : World, wo = wr := ⟨_, rfl⟩
      go_wp2
      go_loopw [3, 6] (fun v i wr => ∃ j : Nat, j ≤ x.size ∧ i = .int .i64 j ∧ OwnT wr w.heap.size v (C0 ++ (bl x).take j) ∧ Below w.heap.size w wr) (fun _ i _ => x.size - (intOf i).toNat)
      case atStart => exact ⟨0, Nat.zero_le _, rfl, by simpa using HOWN.out, HBEL.out⟩
      case round =>
        clear HOWN HBEL
        obtain ⟨j, hj, rfl, hown, hbel⟩ := hrel
        by_cases hlt2 : j < x.size
        · have htk := take_bl x j hlt2
          have HTK := Lib.hid htk
          have hlen : (C0 ++ (bl x).take j).length ≤ 1048576 := by simp [bl_len]; omega
          obtain ⟨p, cap, hv⟩ := own_form hown
          subst hv
          have HOWN := Lib.hid hown
          have HBEL := Lib.hid hbel
          have HSZ := Lib.hid hbel.size
          clear htk hown hbel
          generalize hCC : C0 ++ (bl x).take j = C1 at *
          have HCC := Lib.hid hCC
          clear hCC
          go_wp2_with (refine wpList_append_own _ rfl (.tmp 24) (.tmp 28) 33 rfl w.heap.size 5 i0 (.int .u8 0) 1 1 Try.underlying33 HI.out HZ0.out HZ1.out HZ2.out rfl (by omega) (.slice p C1.length cap) C1.length (C1.map (Value.int .u8)) rfl (HOWN.out.alloc _) ⟨wr.heap.size, 0, none⟩ 1 1 [.int .u8 (x[j].toNat : Int)] rfl rfl (oneNew wr _) (by simp [Value.oneCell']) (by unfold maxLen; omega) (by omega) (by have := HSZ.out; simp; omega) ?_; intro v' w1 hown' hg' _; obtain ⟨hA, hB⟩ := HOWN.out.app HBEL.out hown' hg'; clear hown' hg')
          refine ⟨⟨j + 1, by omega, by go_num, ?_, hB⟩, by simp [intOf]; omega⟩
          rw [HTK.out, ← List.append_assoc, HCC.out]
          exact hA
        · obtain rfl : j = x.size := by omega
          rw [List.take_of_length_le (by rw [bl_len]; omega), ← HSUC.out] at hown
          have HOWN := Lib.hid hown
          have HBEL := Lib.hid hbel
          clear hown hbel
          go_wp2
          exact ⟨⟨k + 1, by omega, by go_num, HOWN.out, HBEL.out⟩, by simp [intOf]; omega⟩
    · rw [List.take_of_length_le (by rw [hzl.out]; omega)] at hown
      have HR := Lib.hid hown
      clear hown
      go_wp2
      go_ret
      exact ⟨_, rfl, HR.out, hbel⟩

theorem quietBelow (w : World) (n : Nat) : Below w.heap.size w (w.drewN n) := ⟨rfl, rfl, rfl, Nat.le_refl _, fun _ _ => rfl⟩
set_option maxRecDepth 100000 in
set_option maxHeartbeats 2000000 in
theorem equalSame (a b : Option Addr) (D D' len len' ca cb : Nat) (C : List Int) (w : World) (ha : Rd w D a len C) (hb : Rd w D' b len' C) (hl : len ≤ 16777216) :
    Calls Try.prog 11 #[.slice a len ca, .slice b len' cb] w fun e w' => e = .returned (.bool true) ∧ Below w.heap.size w w' := by
  obtain rfl : len = len' := ha.1.symm.trans hb.1
  have HA := Lib.hid ha
  have HB := Lib.hid hb
  clear ha hb
  have hw0 : Hid (∃ n, w = w.drewN n) := ⟨0, rfl⟩
  go_enter Try.func11, Try.ntmps11
  go_wp2
  go_loopw [5] (fun i wr => Hid (∃ n, wr = w.drewN n) ∧ ∃ k : Nat, k ≤ len ∧ i = .int .i64 k) (fun i _ => len - (intOf i).toNat)
  case atStart => exact ⟨hw0, 0, Nat.zero_le _, rfl⟩
  case round =>
    obtain ⟨hwr, k, hk, rfl⟩ := hrel
    obtain ⟨n, hn⟩ := hwr.out
    subst hn
    clear hwr hw0
    by_cases hlt : k < len
    · obtain ⟨b1, o1, rfl, _, _, h1⟩ := HA.out.2 (by omega)
      obtain ⟨b2, o2, rfl, _, _, h2⟩ := HB.out.2 (by omega)
      have c1 := h1 k hlt
      have c2 := h2 k hlt
      generalize C.getD k 0 = z at c1 c2
      clear h1 h2
      have i0 : (0 : Int) ≤ (k : Int) := Int.natCast_nonneg _
      have i1 : (k : Int) < (len : Int) := by omega
      go_wp2
      go_quiet (fail)
      go_wp2
      exact ⟨⟨⟨_, rfl⟩, k + 1, by omega, by go_num⟩, by simp [intOf]; omega⟩
    · go_wp2
      go_ret
      exact ⟨rfl, quietBelow w n⟩

theorem nl_len (C : List Int) : (nl C).length ≤ C.length + 1 := by unfold nl; split <;> simp
theorem startBuilt (w : World) : Built w w.heap.size 0 [] (w.alloc (.cells #[.slice none 0 0, .slice none 0 0, .int .u32 0, .int .u8 0] 30)) :=
  ⟨[], [], _, _, 0, JS.start w _, rfl, (Below.refl _ _).alloc (Nat.le_refl _) _⟩
theorem Built.bel {w wb : World} {B m : Nat} {C : List Int} (h : Built w B m C wb) : Below w.heap.size w wb := by
  obtain ⟨_, _, _, _, _, _, _, h⟩ := h
  exact h
theorem Built.later {w wb wc : World} {B m : Nat} {C : List Int} (h : Built w B m C wb) (hb : Below wb.heap.size wb wc) : Built w B m C wc := by
  obtain ⟨ss, bs, v1, v2, lb, hJ, hsb, hbel⟩ := h
  refine ⟨ss, bs, v1, v2, lb, (hJ.kept (Fr.ofBelow hb) fun b cs t fr hh _ => ?_).more hb.size, hsb, hbel.trans (hb.mono hbel.size)⟩
  have := (Array.getElem?_eq_some_iff.1 hh).1
  omega
theorem Built.done {w wb : World} {B m : Nat} {C : List Int} (h : Built w B m C wb) (hm : m ≤ 16777216) (hC : C.length ≤ 16777216) : Calls Try.prog 12 #[.pointer (some ⟨B, 0, none⟩)] wb (Done C wb) := by
  obtain ⟨ss, bs, v1, v2, lb, hJ, hsb, hbel⟩ := h
  exact hJ.done (Nat.le_refl _) hC (by omega) (by omega)
theorem Rd.below {w w' : World} {a : Option Addr} {len : Nat} {zs : List Int} (h : Rd w w.heap.size a len zs) (hb : Below w.heap.size w w') : Rd w' w.heap.size a len zs := h.kept fun b cs fr hlt hh => hb.block b hlt
/-- The three ways of the last unit. -/
theorem lastCase {w : World} {base : Nat} {v : Value} {C : List Int} (h : OwnT w base v C) (hC : ∀ z ∈ C, ∃ n : Nat, z = n) :
    (∃ p cap, v = .slice p 0 cap ∧ Rd w w.heap.size p 0 C ∧ nl C = C) ∨ (∃ g cap, v = .slice (some ⟨g, 0, none⟩) C.length cap ∧ Rd w w.heap.size (some ⟨g, 0, none⟩) C.length C ∧ 0 < C.length ∧ ((w.cell? ⟨g, C.length - 1, none⟩ = some (.int .u8 10) ∧ nl C = C) ∨ (∃ z : Nat, w.cell? ⟨g, C.length - 1, none⟩ = some (.int .u8 (z : Int)) ∧ ((z : Int) != 10) = true ∧ nl C = C ++ [10]))) := by
  by_cases h0 : 0 < C.length
  · obtain ⟨g, cap, rfl, _, _⟩ := h.form h0
    obtain ⟨p', cap', e', hR⟩ := h.rd
    cases e'
    refine .inr ⟨g, cap, rfl, hR, h0, ?_⟩
    have hc := World.ownsRow.cellAt h (C.length - 1) (by omega)
    rw [List.getElem?_map, List.getElem?_eq_getElem (show C.length - 1 < C.length by omega)] at hc
    obtain ⟨z, hz⟩ := hC _ (List.getElem_mem (show C.length - 1 < C.length by omega))
    have hg : C.getD (C.length - 1) 0 = (z : Int) := by rw [List.getD_eq_getElem?_getD, List.getElem?_eq_getElem (show C.length - 1 < C.length by omega)]; exact hz
    rw [hz] at hc
    by_cases h1 : z = 10
    · subst h1
      exact .inl ⟨hc, by unfold nl; rw [if_neg (by rw [hg]; simp)]⟩
    · exact .inr ⟨z, hc, by simp; omega, by unfold nl; rw [if_pos ⟨h0, by rw [hg]; omega⟩]⟩
  · obtain ⟨p, cap, rfl⟩ := own_form h
    have e : C.length = 0 := by omega
    exact .inl ⟨p, cap, by rw [e], ⟨e, fun q => absurd q (by omega)⟩, by unfold nl; rw [if_neg (by omega)]⟩
theorem catL_nat (zs : List ByteArray) : ∀ z ∈ catL zs, ∃ n : Nat, z = n := by
  intro z hz
  obtain ⟨x, _, hx⟩ := List.mem_flatMap.1 hz
  exact bl_nat x z hx
set_option maxRecDepth 100000 in
set_option maxHeartbeats 4000000 in
theorem walk (a0 : Option Addr) (len0 cap0 : Nat) (z0 : List ByteArray) (a1 : Option Addr) (len1 cap1 : Nat) (z1 : List Bool) (w : World) (w0 : IsStrs w a0 len0 cap0 z0) (w1 : IsBools w a1 len1 cap1 z1) :
    Calls Try.prog 3 #[.slice a0 len0 cap0, .slice a1 len1 cap1] w fun e w' => e = .returned (.bool true) ∧ Below w.heap.size w w' := by
  have m1 : len1 ≤ 9223372036854775807 := by have := w1.2.1; have := w1.2.2.1; unfold maxLen at this; omega
  obtain ⟨i0, hi, hz0, hz1, hz2⟩ := info_parts u8info
  have HI := Lib.hid hi
  have HZ0 := Lib.hid hz0
  have HZ1 := Lib.hid hz1
  have HZ2 := Lib.hid hz2
  clear hi hz0 hz1 hz2
  have HST := Lib.hid (startBuilt w)
  go_enter Try.func3, Try.ntmps3
  go_wp2_with (first
    | (go_at_call 6; (with_reducible refine (bytes a0 len0 cap0 z0 a1 len1 cap1 w w0 m1).mono ?_); rintro _ _ ⟨b, rfl, rfl⟩)
    | (go_at_call 7; (with_reducible refine (tooBig a0 len0 cap0 z0 a1 len1 cap1 w w0 m1).mono ?_); rintro _ _ (⟨rfl, rfl⟩ | ⟨rfl, rfl, hl0, hl1, hC⟩))
    | (go_at_call 8; (with_reducible refine (build a0 len0 cap0 z0 a1 len1 cap1 z1 w w0 w1 _ _ HST.out hl0 hl1 hC).mono ?_); rintro _ wa ⟨rfl, hA⟩)
    | (go_at_call 9; (with_reducible refine (ensure w _ _ _ wa hA hl0 hC).mono ?_); rintro _ wb ⟨rfl, m, hm, hB⟩)
    | (go_at_call 10; (with_reducible refine (concat a0 len0 cap0 z0 wb (w0.below hB.bel) hl0 hC).mono ?_); rintro _ wc ⟨v, rfl, hO, hbc⟩; have HO := Lib.hid hO; have HBC := Lib.hid hbc; have HBL := Lib.hid (hB.later hbc); rcases lastCase hO (catL_nat z0) with ⟨p, cap, rfl, hR, hnl⟩ | ⟨g, cap, rfl, hR, hpos, ⟨hcl, hnl⟩ | ⟨z, hcl, hz, hnl⟩⟩ <;> (have HNL := Lib.hid hnl; have HR := Lib.hid hR; clear hnl hO hbc hR))
    | (refine wpList_append_own _ rfl (.tmp 32) (.tmp 33) 33 rfl wb.heap.size 5 i0 (.int .u8 0) 1 1 Try.underlying33 HI.out HZ0.out HZ1.out HZ2.out rfl (by omega) (.slice (some ⟨g, 0, none⟩) (catL z0).length cap) (catL z0).length ((catL z0).map (Value.int .u8)) rfl (HO.out.alloc _) ⟨wc.heap.size, 0, none⟩ 1 1 [.int .u8 10] rfl rfl (oneNew wc _) (by simp [Value.oneCell']) (by unfold maxLen; omega) (by omega) (by have := HBC.out.size; simp; omega) ?_; intro v' wd hown' hg' _; obtain ⟨hA2, hB2⟩ := HO.out.app HBC.out hown' hg'; rw [← HNL.out] at hA2; obtain ⟨p2, cap2, rfl, hR2⟩ := hA2.rd; have HR2 := Lib.hid hR2; have HBL2 := Lib.hid (hB.later hB2); have HBD := Lib.hid hB2; clear hown' hg' hA2 hB2 hR2)
    | (go_at_call 12; (with_reducible refine (HBL.out.done (by omega) (Nat.le_trans (nl_len _) (by omega))).mono ?_); rintro _ we ⟨a3, cap3, rfl, hR3, hbe⟩; have HR3 := Lib.hid hR3; have HBE := Lib.hid hbe; have HR4 := Lib.hid (Rd.below HR.out hbe); clear hR3 hbe)
    | (go_at_call 12; (with_reducible refine (HBL2.out.done (by omega) (Nat.le_trans (nl_len _) (by omega))).mono ?_); rintro _ we ⟨a3, cap3, rfl, hR3, hbe⟩; have HR3 := Lib.hid hR3; have HBE := Lib.hid hbe; have HR5 := Lib.hid (Rd.below HR2.out hbe); clear hR3 hbe)
    | (go_at_call 11; (with_reducible refine (equalSame _ _ _ _ _ _ _ _ _ we HR3.out (by rw [HNL.out]; exact HR4.out) (Nat.le_trans (nl_len _) (by omega))).mono ?_); rintro _ wf ⟨rfl, hbf⟩)
    | (go_at_call 11; (with_reducible refine (equalSame _ _ _ _ _ _ _ _ _ we HR3.out HR5.out (Nat.le_trans (nl_len _) (by omega))).mono ?_); rintro _ wf ⟨rfl, hbf⟩))
  all_goals first
    | (go_ret; exact ⟨rfl, Below.refl _ _⟩)
    | (go_ret
       refine ⟨rfl, ?_⟩
       have h1 := hB.bel.trans (HBD.out.mono hB.bel.size)
       have h2 := h1.trans (HBE.out.mono h1.size)
       exact h2.trans (hbf.mono h2.size))
    | (go_ret
       refine ⟨rfl, ?_⟩
       have h1 := hB.bel.trans (HBC.out.mono hB.bel.size)
       have h2 := h1.trans (HBE.out.mono h1.size)
       exact h2.trans (hbf.mono h2.size))
end Go.Proofs.Ytakokgjbffielaa.fnEnsureNewlineAtEndModel
