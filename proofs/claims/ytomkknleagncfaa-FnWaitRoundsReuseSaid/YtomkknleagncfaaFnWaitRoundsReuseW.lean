/-
  The law FnWaitRoundsReuse's walk. No condition.
-/
import Derived.Test.YtomkknleagncfaaSend
namespace Go.Proofs.Ytomkknleagncfaa.fnWaitRoundsReuse
open Go.ChangeShapes Go.WideShapes Go.ChangeAt Go.RowKit
set_option linter.unusedVariables false

theorem cloneU16_info : (Try.prog.info? 30).map (fun i => (i.zero, i.size, i.bytes)) = some (some (Value.int .u16 0), 1, 2) := by kernel_rfl
set_option maxRecDepth 100000 in
set_option maxHeartbeats 1000000 in
theorem cloneU16 (a : Option Addr) (len cap : Nat) (zs : List Int) (w : World) (h : IsInts .u16 w a len cap zs) (hl : len ≤ 4194304) :
    Calls Try.prog 11 #[.slice a len cap] w (Copied (fun w' a' l c => IsInts .u16 w' a' l c zs) a len w) := by
  obtain ⟨i0, hi, hz0, hz1, hz2⟩ := info_parts cloneU16_info
  have hnil := fun (W : World) (p : Option Addr) (n c n' c' : Nat) => Lib.run_eql_slice_nil (P := Try.prog) W 28 30 p n c n' c' Try.underlying28
  obtain ⟨⟨h1, h2, hm, h4, h5⟩, hw⟩ := h
  rw [List.length_map] at h1
  cases a with
  | none =>
    obtain rfl : cap = 0 := h4 rfl
    obtain rfl : len = 0 := by omega
    obtain rfl : zs = [] := by simpa using h1
    clear h1 h2 hm h4 h5 hw
    go_enter Try.func11, Try.ntmps11
    go_wp2
    go_ret
    exact ⟨none, 0, rfl, ⟨⟨rfl, Nat.le_refl _, Nat.zero_le _, fun _ => rfl, fun h => absurd h (by omega)⟩, by simp⟩, Iff.rfl, Below.refl _ _⟩
  | some x =>
    have hmk : ∀ u : World, (Instr.makeSlice 28 (.int .i64 (len : Int)) (.int .i64 (len : Int))).run Try.prog u =
        .ok (.slice (some ⟨u.heap.size, 0, none⟩) len len) (u.alloc (.cells (madeCells (Value.int .u16 0).cells len) 30)) := fun u => by
      have q := run_make (P := Try.prog) u 28 30 i0 (Value.int .u16 0) Try.underlying28 hi hz0 .i64 .i64 (len : Int) (len : Int) (by omega) (Int.le_refl _) (by rw [hz2]; omega) (by omega)
      simpa [hz1] using q
    have S0 := Cl.start w len (Value.int .u16 0) 30 (zs.map (Value.int .u16))
    have HS := Lib.hid h5
    have HM := Lib.hid hm
    have HL := Lib.hid h1
    have HW := Lib.hid hw
    clear h1 h4 h5 hm hi hz0 hz1 hz2 hw
    go_enter Try.func11, Try.ntmps11
    go_wp2
    go_loopw [4] (fun i wr => ∃ k : Nat, k ≤ len ∧ i = .int .i64 k ∧ Cl w wr len k (zs.map (Value.int .u16))) (fun i _ => len - (intOf i).toNat)
    case atStart => exact ⟨0, Nat.zero_le _, rfl, S0⟩
    case round =>
      clear S0 hmk hnil
      obtain ⟨k, hk, rfl, hc⟩ := hrel
      by_cases hlt : k < len
      · obtain ⟨b, off, e, hb, hcell⟩ := HS.out (by omega)
        cases e
        have hv := hcell k hlt
        rw [getD_map_int _ _ _ (by rw [HL.out]; exact hlt)] at hv
        have hcur : wr.cell? ⟨b, off + k, none⟩ = some (.int .u16 (zs.getD k 0)) := by rw [hc.below.cell (p := ⟨b, off + k, none⟩) hb]; exact hv
        obtain ⟨u, hu⟩ := hc.some k hlt
        have hf := hc.free k
        have hst := hc.step hlt (.int .u16 (zs.getD k 0)) (by rw [getD_map_int _ _ _ (by rw [HL.out]; exact hlt)])
        have HST := Lib.hid hst
        clear hst hcell hv hc HS
        go_wp2
        refine ⟨⟨k + 1, by omega, by go_num, ?_⟩, by simp [intOf]; omega⟩
        have q := HST.out
        rw [List.getD_eq_getElem?_getD] at q
        exact q
      · have : k = len := by omega
        subst this
        go_wp2
        go_ret
        have hs := hc.isSlice (by rw [List.length_map]; exact HL.out) (by have := HM.out; omega)
        exact ⟨_, _, rfl, ⟨hs, HW.out⟩, by simp, hc.below⟩

theorem TG.setChan {w : World} {p c : Nat} {n : Int} {buf : Array Value} {s r : Nat} (h : TG w p c n buf s r) (buf' : Array Value) (s' r' : Nat) : TG (w.setChan c 1 buf' false s' r' false) p c n buf' s' r' where
  st := by
    have h1 := h.st
    have h2 := h.ch
    have hne : c ≠ p := fun e => by rw [e, h1] at h2; cases h2
    simp only [World.setChan]
    rw [Array.getElem?_setIfInBounds_ne hne]
    exact h1
  ch := Conc.heap_setChan _ _ _ _ _ _ _ _ (Array.getElem?_eq_some_iff.1 h.ch).1
/-- What lies in the channel when the counter is m. -/
def bufOf (m : Int) : Array Value := if m = 0 then #[.agg #[]] else #[]
def Moved (p c : Nat) (m : Int) (buf : Array Value) (w : World) (e : Ending) (w' : World) : Prop :=
  e = .returned (.tuple #[]) ∧ (∃ s r, TG w' p c m buf s r) ∧ ∀ B, B ≤ p → B ≤ c → Below B w w'
theorem addAny (p c : Nat) (n d m : Int) (hm : n + d = m) (s r : Nat) (w : World) (h : TG w p c n #[] s r) (h1 : 0 ≤ m) (h2 : m ≤ 2147483647) :
    Calls Try.prog 7 #[.pointer (some ⟨p, 0, none⟩), .int .i32 d] w (Moved p c m (bufOf m) w) := by
  by_cases h0 : m = 0
  · refine (addZero p c n d (hm.trans h0) s r w h).mono fun e w' q => ?_
    obtain ⟨q1, rfl⟩ := q
    unfold bufOf
    rw [if_pos h0, h0]
    exact ⟨q1, ⟨s + 1, r, TG.setChan (h.set 0) #[.agg #[]] (s + 1) r⟩, fun B hB hC => Conc.below_setChan ((Below.refl _ w).setCell (p := ⟨p, 0, none⟩) hB _) hC _ _ _ _ _ _⟩
  · subst hm
    refine (add7 p c n d #[] s r w h (by omega) h2).mono fun e w' q => ?_
    obtain ⟨q1, rfl⟩ := q
    unfold bufOf
    rw [if_neg h0]
    exact ⟨q1, ⟨s, r, h.set _⟩, fun B hB hC => (Below.refl _ w).setCell (p := ⟨p, 0, none⟩) hB _⟩
theorem done12 (p c : Nat) (n m : Int) (hm : n - 1 = m) (s r : Nat) (w : World) (h : TG w p c n #[] s r) (h1 : 0 ≤ m) (h2 : m ≤ 2147483647) :
    Calls Try.prog 12 #[.pointer (some ⟨p, 0, none⟩)] w (Moved p c m (bufOf m) w) := by
  have H := Lib.hid (addAny p c n (-1) m (by omega) s r w h h1 h2)
  clear hm
  go_enter Try.func12, Try.ntmps12
  go_wp2_with (go_at_call 7; (with_reducible refine H.out.mono ?_); rintro _ wa ⟨rfl, hG, hb⟩)
  go_end0
  exact ⟨rfl, hG, hb⟩
theorem waitAny (p c : Nat) (s r : Nat) (w : World) (h : TG w p c 0 #[.agg #[]] s r) :
    Calls Try.prog 13 #[.pointer (some ⟨p, 0, none⟩)] w (Moved p c 0 #[] w) := by
  refine (wait13 p c 0 s r w h).mono fun e w' q => ?_
  obtain ⟨q1, rfl⟩ := q
  exact ⟨q1, ⟨s, r + 1, TG.setChan h #[] s (r + 1)⟩, fun B hB hC => Conc.below_setChan (Below.refl _ w) hC _ _ _ _ _ _⟩
theorem bytes10 (a : Option Addr) (len cap : Nat) (w : World) (h : len ≤ 9223372036854775807) :
    Calls Try.prog 10 #[.slice a len cap] w fun e w' => ((e = .returned (.bool false)) ∨ (e = .returned (.bool true) ∧ len ≤ 1048576)) ∧ w = w' := by
  by_cases h1 : len ≤ 1048576
  · go_enter Try.func10, Try.ntmps10
    go_wp2
    go_ret
    exact ⟨.inr ⟨rfl, h1⟩, rfl⟩
  · go_enter Try.func10, Try.ntmps10
    go_wp2
    go_ret
    exact ⟨.inl rfl, rfl⟩
def NewG (w : World) (e : Ending) (w' : World) : Prop := ∃ p c, e = .returned (.pointer (some ⟨p, 0, none⟩)) ∧ TG w' p c 0 #[] 0 0 ∧ Below w.heap.size w w' ∧ w.heap.size ≤ p ∧ w.heap.size ≤ c
theorem makeG (w : World) : Calls Try.prog 6 #[] w (NewG w) := make6 w
/-- At the head of a round: the group is as fresh, the copy is as it was. -/
def Rd (w wa wr : World) (p c : Nat) : Prop := (∃ s r, TG wr p c 0 #[] s r) ∧ Below wa.heap.size wa wr ∧ Below w.heap.size w wr
/-- In the round, x - j being left. -/
def In (w wa wr : World) (p c : Nat) (m : Int) : Prop := (∃ s r, TG wr p c m (bufOf m) s r) ∧ Below wa.heap.size wa wr ∧ Below w.heap.size w wr
theorem In.next {w wa wr w' : World} {p c : Nat} {m m' : Int} {e : Ending} (h : In w wa wr p c m) (hm : Moved p c m' (bufOf m') wr e w') (hp : wa.heap.size ≤ p) (hc : wa.heap.size ≤ c) (hw : w.heap.size ≤ wa.heap.size) : In w wa w' p c m' :=
  ⟨hm.2.1, h.2.1.trans (hm.2.2 _ hp hc), h.2.2.trans (hm.2.2 _ (by omega) (by omega))⟩
theorem Rd.next {w wa wr w' : World} {p c : Nat} {m' : Int} {e : Ending} (h : Rd w wa wr p c) (hm : Moved p c m' (bufOf m') wr e w') (hp : wa.heap.size ≤ p) (hc : wa.heap.size ≤ c) (hw : w.heap.size ≤ wa.heap.size) : In w wa w' p c m' :=
  ⟨hm.2.1, h.2.1.trans (hm.2.2 _ hp hc), h.2.2.trans (hm.2.2 _ (by omega) (by omega))⟩
theorem In.back {w wa wr w' : World} {p c : Nat} {m : Int} {e : Ending} (h : In w wa wr p c m) (hm : Moved p c 0 #[] wr e w') (hp : wa.heap.size ≤ p) (hc : wa.heap.size ≤ c) (hw : w.heap.size ≤ wa.heap.size) : Rd w wa w' p c :=
  ⟨hm.2.1, h.2.1.trans (hm.2.2 _ hp hc), h.2.2.trans (hm.2.2 _ (by omega) (by omega))⟩
set_option maxRecDepth 100000 in
set_option maxHeartbeats 2000000 in
theorem walk (a0 : Option Addr) (len0 cap0 : Nat) (z0 : List Int) (w : World) (w0 : IsInts .u16 w a0 len0 cap0 z0) :
    Calls Try.prog 4 #[.slice a0 len0 cap0] w fun e w' => e = .returned (.bool true) ∧ Below w.heap.size w w' := by
  have m0 : len0 ≤ 9223372036854775807 := by have := w0.1.2.1; have := w0.1.2.2.1; unfold maxLen at this; omega
  have W0 := Lib.hid w0
  have HB := Lib.hid (bytes10 a0 len0 cap0 w m0)
  clear w0
  go_enter Try.func4, Try.ntmps4
  go_wp2_with (first
    | (go_at_call 10; (with_reducible refine HB.out.mono ?_); rintro _ _ ⟨rfl | ⟨rfl, hl⟩, rfl⟩))
  · go_ret
    exact ⟨rfl, Below.refl _ _⟩
  · go_ret
    exact ⟨rfl, Below.refl _ _⟩
  · clear HB
    go_loopw [3, 4] (fun t i wr => w = wr ∧ ∃ k n : Nat, k ≤ len0 ∧ i = .int .i64 k ∧ t = .int .i64 n ∧ n ≤ 65535 * k) (fun _ i _ => len0 - (intOf i).toNat)
    case atStart => exact ⟨by trivial, 0, 0, Nat.zero_le _, rfl, rfl, by omega⟩
    case round =>
      obtain ⟨rfl, k, n, hk, rfl, rfl, hn⟩ := hrel
      by_cases hlt : k < len0
      · obtain ⟨b, off, rfl, hb, hcell⟩ := W0.out.at (by omega)
        have hcur := hcell k hlt
        obtain ⟨x, hx, hx2⟩ := nat_u16 (W0.out.wf k hlt)
        rw [hx] at hcur
        clear hcell hx
        go_wp2
        exact ⟨⟨by trivial, k + 1, n + x, by omega, by go_num, by go_num, by omega⟩, by simp [intOf]; omega⟩
      · have : k = len0 := by omega
        subst this
        by_cases hn2 : n ≤ 1048576
        · go_wp2_with (first
            | (go_at_call 11; (with_reducible refine (cloneU16 a0 k cap0 z0 w W0.out (by omega)).mono ?_); rintro _ wa ⟨a', cap', rfl, hC, _, hwa⟩)
            | (go_at_call 6; (with_reducible refine (makeG wa).mono ?_); rintro _ wb ⟨p, c, rfl, hG, hwb, hp, hc⟩))
          have hws := hwa.size
          have HC := Lib.hid hC
          have HRD : Hid (Rd w wa wb p c) := ⟨⟨0, 0, hG⟩, hwb, hwa.trans (hwb.mono hwa.size)⟩
          clear hC hG hwa hwb
          go_loopw [6] (fun i wr => Rd w wa wr p c ∧ ∃ j : Nat, j ≤ k ∧ i = .int .i64 j) (fun i _ => k - (intOf i).toNat)
          case atStart => exact ⟨HRD.out, 0, Nat.zero_le _, rfl⟩
          case round =>
            clear HRD
            obtain ⟨hR, j, hj, rfl⟩ := hrel
            by_cases hjl : j < k
            · have hCr : IsInts .u16 wr a' k cap' z0 := ⟨HC.out.1.below hR.2.1, HC.out.2⟩
              obtain ⟨b, off, rfl, hb, hcell⟩ := hCr.at (by omega)
              have hcur := hcell j hjl
              obtain ⟨x, hx, hx2⟩ := nat_u16 (hCr.wf j hjl)
              rw [hx] at hcur
              obtain ⟨s, r, hG⟩ := hR.1
              have HA := Lib.hid (addAny p c 0 (x : Int) (x : Int) (by omega) s r wr hG (by omega) (by omega))
              clear hcell hx hCr hG
              go_wp2_with (go_at_call 7; (with_reducible refine HA.out.mono ?_); intro _ wc hM; have hI := hR.next hM hp hc hws; obtain ⟨rfl, _, _⟩ := hM)
              clear HA
              obtain ⟨wo, hwo⟩ : ∃ wo : World, wo = wr := ⟨_, rfl⟩
              clear hwo
              go_loopw [8] (fun q wr => ∃ y : Nat, y ≤ x ∧ q = .int .i32 y ∧ In w wa wr p c ((x : Int) - y)) (fun q _ => x - (intOf q).toNat)
              case atStart => exact ⟨0, Nat.zero_le _, rfl, by simpa using hI⟩
              case round =>
                obtain ⟨y, hy, rfl, hI2⟩ := hrel
                by_cases hyl : y < x
                · obtain ⟨s2, r2, hG2⟩ := hI2.1
                  rw [show bufOf ((x : Int) - y) = #[] by unfold bufOf; rw [if_neg (by omega)]] at hG2
                  have HD := Lib.hid (done12 p c _ ((x : Int) - (y + 1 : Nat)) (by omega) s2 r2 _ hG2 (by omega) (by omega))
                  clear hG2
                  go_wp2_with (go_at_call 12; (with_reducible refine HD.out.mono ?_); intro _ wd hM2; have hI3 := hI2.next hM2 hp hc hws; obtain ⟨rfl, _, _⟩ := hM2)
                  exact ⟨⟨y + 1, by omega, by go_num, hI3⟩, by simp [intOf]; omega⟩
                · have : y = x := by omega
                  subst this
                  rw [Int.sub_self] at hI2
                  obtain ⟨s2, r2, hG2⟩ := hI2.1
                  rw [show bufOf 0 = #[.agg #[]] from rfl] at hG2
                  have HP := Lib.hid (pending9 p c 0 #[.agg #[]] s2 r2 _ hG2)
                  have HW := Lib.hid (waitAny p c s2 r2 _ hG2)
                  clear hG2
                  go_wp2_with (first
                    | (go_at_call 9; (with_reducible refine HP.out.mono ?_); rintro _ _ ⟨rfl, rfl⟩)
                    | (go_at_call 13; (with_reducible refine HW.out.mono ?_); intro _ we hM2; have hR2 := hI2.back hM2 hp hc hws; obtain ⟨rfl, _, _⟩ := hM2; obtain ⟨s3, r3, hG3⟩ := hR2.1)
                    | (go_at_call 8; (with_reducible refine (counter8 p c 0 #[] s3 r3 _ hG3).mono ?_); rintro _ _ ⟨rfl, rfl⟩)
                    | (go_at_call 9; (with_reducible refine (pending9 p c 0 #[] s3 r3 _ hG3).mono ?_); rintro _ _ ⟨rfl, rfl⟩))
                  exact ⟨⟨hR2, j + 1, by omega, by go_num⟩, by simp [intOf]; omega⟩
            · have : j = k := by omega
              subst this
              go_wp2
              go_ret
              exact ⟨rfl, hR.2.2⟩
        · go_wp2
          go_ret
          exact ⟨rfl, Below.refl _ _⟩
end Go.Proofs.Ytomkknleagncfaa.fnWaitRoundsReuse
