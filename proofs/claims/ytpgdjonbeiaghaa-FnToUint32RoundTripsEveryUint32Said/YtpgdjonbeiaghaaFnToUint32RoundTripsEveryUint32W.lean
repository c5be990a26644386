/-
  The law FnToUint32RoundTripsEveryUint32's walk. No condition.
-/
import Derived.Test.YtpgdjonbeiaghaaInt32
namespace Go.Proofs.Ytpgdjonbeiaghaa.fnToUint32RoundTripsEveryUint32
open Go.ChangeShapes Go.WideShapes Go.ChangeAt Go.RowKit
set_option linter.unusedVariables false

theorem i32_iw {n : Int} (h : n.natAbs ≤ 9007199254740992) : i32of (Fp.iw n) = IntKind.i32.wrap n := by
  unfold i32of
  rw [if_pos (Fp.iw_fin h), Fp.tr_of_sv (Fp.iw_sv' h)]
theorem iw_lt (n : Int) : Fp.iw n < 18446744073709551616 := f64_range (floatOfInt_wf .f64 n)
theorem iw_4g : Fp.iw 4294967296 = 4751297606875873280 := by decide
theorem toU (n : Int) (h : n.natAbs ≤ 9007199254740992) (u : Int) (hu : n % 4294967296 = u) (w : World) : Calls Try.prog 8 #[.float .f64 (Fp.iw n)] w fun e w' => e = .returned (.int .u32 u) ∧ Below w.heap.size w w' := by
  refine (toUint32 (Fp.iw n) (iw_lt n) w).mono fun e w' q => ⟨?_, q.2⟩
  rw [q.1, i32_iw h]
  congr 2
  rw [IntKind.wrap_u32, IntKind.wrap_i32]; omega
theorem toI (n : Int) (h : n.natAbs ≤ 9007199254740992) (w : World) : Calls Try.prog 6 #[.float .f64 (Fp.iw n)] w fun e w' => e = .returned (.int .i32 (wrap32 n)) ∧ Below w.heap.size w w' := by
  refine (toInt32 (Fp.iw n) (iw_lt n) w).mono fun e w' q => ⟨?_, q.2⟩
  rw [q.1, i32_iw h]
  congr 2
  rw [IntKind.wrap_i32]; unfold wrap32; omega
set_option maxRecDepth 100000 in
set_option maxHeartbeats 1000000 in
theorem walk (a0 : Int) (w : World) (w0 : (Lit.int .u32 a0).wf = true) :
    Calls Try.prog 4 #[.int .u32 a0] w fun e w' => e = .returned (.bool true) ∧ Below w.heap.size w w' := by
  obtain ⟨h0, h1⟩ := u32_range w0
  have s1 : floatBits .sub .f64 (floatOfInt .f64 a0) 4751297606875873280 = some (Fp.iw (a0 - 4294967296)) := by
    rw [← iw_4g]; exact Fp.iw_sub (by omega) (by omega)
  have s2 : floatBits .add .f64 (floatOfInt .f64 a0) 4751297606875873280 = some (Fp.iw (a0 + 4294967296)) := by
    rw [← iw_4g]; exact Fp.iw_add (by omega) (by omega)
  have r1 := fun (t : TypeId) (W : World) => run_float_arith (P := Try.prog) W .sub t .f64 _ _ _ s1
  have r2 := fun (t : TypeId) (W : World) => run_float_arith (P := Try.prog) W .add t .f64 _ _ _ s2
  have H1 := Lib.hid (fun W => toU a0 (by omega) a0 (by omega) W)
  have H2 := Lib.hid (fun W => toU (a0 - 4294967296) (by omega) a0 (by omega) W)
  have H3 := Lib.hid (fun W => toU (a0 + 4294967296) (by omega) a0 (by omega) W)
  have H4 := Lib.hid (fun W => toI a0 (by omega) W)
  rw [show Fp.iw a0 = floatOfInt .f64 a0 from rfl] at H1 H4
  clear s1 s2 w0
  generalize Fp.iw (a0 - 4294967296) = z2 at *
  generalize Fp.iw (a0 + 4294967296) = z3 at *
  go_enter Try.func4, Try.ntmps4
  go_wp2_with (first
    | (go_at_call 8; (with_reducible refine (H1.out _).mono ?_); rintro _ wa ⟨rfl, hb1⟩)
    | (go_at_call 8; (with_reducible refine (H2.out _).mono ?_); rintro _ wb ⟨rfl, hb2⟩)
    | (go_at_call 8; (with_reducible refine (H3.out _).mono ?_); rintro _ wc ⟨rfl, hb3⟩)
    | (go_at_call 6; (with_reducible refine (H4.out _).mono ?_); rintro _ wd ⟨rfl, hb4⟩))
  go_ret
  have k1 := hb1.trans (hb2.mono hb1.size)
  have k2 := k1.trans (hb3.mono k1.size)
  exact ⟨rfl, k2.trans (hb4.mono k2.size)⟩
end Go.Proofs.Ytpgdjonbeiaghaa.fnToUint32RoundTripsEveryUint32
