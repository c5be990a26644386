/-
  The contract of b3IsTree. No condition.
-/
import Derived.Test.YtfbmadlcjpaddaaTrr
namespace Go.Proofs.Ytfbmadlcjpaddaa
open Go.ChangeShapes Go.WideShapes Go.ChangeAt Go.RowKit
set_option linter.unusedVariables false

def jOf : Value → Int
  | .int _ i => i
  | _ => 0
theorem pInfo {P : Program} {T : TypeId} {z : Value} {s b : Nat} (h : (P.info? T).map (fun i => (i.zero, i.size, i.bytes)) = some (some z, s, b)) : ∃ i, P.info? T = some i ∧ i.zero = some z ∧ i.size = s ∧ i.bytes = b := by
  obtain ⟨i, hi, e⟩ := Option.map_eq_some_iff.1 h
  simp at e
  exact ⟨i, hi, e.1, e.2.1, e.2.2⟩
theorem mkB (len : Nat) (hl : len ≤ 4194304) : ∀ u : World, (Instr.makeSlice 138 (.int .i64 (len : Int)) (.int .i64 (len : Int))).run Try.prog u =
        .ok (.slice (some ⟨u.heap.size, 0, none⟩) len len) (u.alloc (.cells (madeCells (Value.bool false).cells len) 4)) := fun u => by
  obtain ⟨i0, hi, hz0, hz1, hz2⟩ := pInfo (show (Try.prog.info? 4).map (fun i => (i.zero, i.size, i.bytes)) = some (some (Value.bool false), 1, 1) by kernel_rfl)
  have q := run_make (P := Try.prog) u 138 4 i0 (Value.bool false) Try.underlying138 hi hz0 .i64 .i64 (len : Int) (len : Int) (by omega) (Int.le_refl _) (by rw [hz2]; omega) (by omega)
  simpa [hz1] using q
theorem made_bool (len j : Nat) (h : j < len) : (madeCells (Value.bool false).cells len)[j]? = some (.bool false) := by
  simp [madeCells, Value.cells, h, Nat.mod_one]
theorem us_start (w : World) (n : Nat) : Us w (w.alloc (.cells (madeCells (Value.bool false).cells n) 4)) n := by
  refine ⟨(Below.refl _ _).alloc (Nat.le_refl _) _, by simp, fun j => by simp [go_sem], fun j hj => ⟨false, ?_⟩⟩
  rw [World.cell?_alloc_new]
  exact made_bool n j hj
set_option maxRecDepth 100000 in
set_option maxHeartbeats 8000000 in
theorem tree16 (a : Option Addr) (len cap : Nat) (w : World) (h : IsNods w a len cap) (hl : len ≤ 4096) (h0 : 0 < len) :
    Calls Try.prog 16 #[.slice a len cap] w fun e w' => (∃ v, e = .returned (.bool v)) ∧ Below w.heap.size w w' := by
  have hmk := mkB len (by omega)
  obtain ⟨b, off, rfl, hb, hc⟩ := h.2.2.2 h0
  have HC := Lib.hid hc
  have HS := Lib.hid (us_start w len)
  clear h hc
  go_enter Try.func16, Try.ntmps16
  go_wp2_with fail
  clear hmk
  go_loopw [5] (fun i wr => ∃ k : Nat, k ≤ len ∧ i = .int .i64 k ∧ Us w wr len) (fun i _ => len - (jOf i).toNat)
  case atStart => exact ⟨0, Nat.zero_le _, rfl, HS.out⟩
  case round =>
    clear HS
    obtain ⟨i, hi, rfl, us⟩ := hrel
    by_cases hlt : i < len
    · obtain ⟨k, op, f, c, a1, a2, a3, nd⟩ := HC.out i hlt
      have n0 := nd.below us.below hb
      have d0 := n0.k0; have d1 := n0.k1; have d2 := n0.k2; have d3 := n0.k3; have d4 := n0.k4; have d5 := n0.k5; have d6 := n0.k6
      have HU := Lib.hid us
      have HND := Lib.hid nd
      clear us n0 nd
      go_wp2_with (go_at_call 36; (with_reducible refine (arity36 k HND.out.rk _).mono ?_); rintro _ _ ⟨⟨m, rfl, hm⟩, rfl⟩)
      clear d0 d1 d2 d3 d4 d5 d6
      go_loopw [7] (fun j wr => ∃ p : Nat, p ≤ m ∧ j = .int .i64 p ∧ Us w wr len) (fun j _ => m - (jOf j).toNat)
      case atStart => exact ⟨0, Nat.zero_le _, rfl, HU.out⟩
      case round =>
        clear HU
        obtain ⟨p, hp, rfl, us⟩ := hrel
        by_cases hlp : p < m
        · have n0 := HND.out.below us.below hb
          have d0 := n0.k0; have d1 := n0.k1; have d2 := n0.k2; have d3 := n0.k3; have d4 := n0.k4; have d5 := n0.k5; have d6 := n0.k6
          have HU := Lib.hid us
          have H37 := fun W => Lib.hid (child37 k op f c a1 a2 a3 p W HND.out.r1 HND.out.r2 HND.out.r3)
          unfold nodV at H37
          clear us n0
          go_wp2_with (go_at_call 37; (with_reducible refine (H37 _).out.mono ?_); rintro _ wx ⟨⟨x, rfl, x1, x2⟩, hbx⟩; have HU2 := Lib.hid (HU.out.of_below hbx); have HB2 := Lib.hid HU2.out.below; obtain ⟨bb, hbb⟩ : ∃ bb, bb = decide ((i : Int) < x ∧ x < len) := ⟨_, rfl⟩; have H38 := Lib.hid (fun W => ok38 len i x hl (by omega) ⟨x1, x2⟩ bb hbb W); clear hbx)
          refine (H38.out _).mono ?_
          rintro _ _ ⟨rfl, rfl⟩
          clear H38 H37 d0 d1 d2 d3 d4 d5 d6 HU
          cases bb
          · clear hbb
            go_wp2_with fail
            exact ⟨⟨p + 1, by omega, by go_num, HU2.out⟩, by simp [jOf]; omega⟩
          · obtain ⟨hx1, hx2⟩ := of_decide_eq_true hbb.symm
            obtain ⟨q, rfl⟩ : ∃ q : Nat, x = q := ⟨x.toNat, by omega⟩
            have hq : q < len := by omega
            obtain ⟨v, hv⟩ := HU2.out.some q hq
            have hf := HU2.out.free q
            have HST := Lib.hid (HU2.out.step hq)
            clear hbb
            cases v
            · go_wp2_with fail
              exact ⟨⟨p + 1, by omega, by go_num, HST.out⟩, by simp [jOf]; omega⟩
            · go_wp2_with fail
              go_ret
              exact ⟨⟨_, rfl⟩, HB2.out⟩
        · have : p = m := by omega
          subst this
          have HU := Lib.hid us
          clear us
          go_wp2_with fail
          exact ⟨⟨i + 1, by omega, by go_num, HU.out⟩, by simp [jOf]; omega⟩
    · have : i = len := by omega
      subst this
      go_wp2_with fail
      go_ret
      exact ⟨⟨_, rfl⟩, us.below⟩
end Go.Proofs.Ytfbmadlcjpaddaa
