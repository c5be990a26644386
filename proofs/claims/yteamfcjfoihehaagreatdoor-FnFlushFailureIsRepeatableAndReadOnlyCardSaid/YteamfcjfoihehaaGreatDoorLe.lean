/-
  msgMatches. No condition.
-/
import Derived.Test.YteamfcjfoihehaaGreatDoorLd
import Derived.Deep.QuietTactic
import Derived.BigQuiet
namespace Go.Proofs.YteamfcjfoihehaaGreatDoor
open Go.ChangeShapes Go.WideShapes Go.ChangeAt Go.RowKit
open Go.MuLone
set_option linter.unusedVariables false

set_option maxRecDepth 100000 in
set_option maxHeartbeats 8000000 in
theorem matches13 {base Bd c : Nat} {p : Option Addr} {what ind : ByteArray} {ns : List ByteArray} {w : World} (h : Db base Bd what ind ns (.slice p ns.length c) w) (a : Option Addr) (len cap : Nat) (hl : ns.length = len) (hS : IsStrs w a len cap ns) (hlm : len ≤ 65536) :
    Calls Tryz.prog 13 #[.agg (msg (.slice p ns.length c) what).toArray, .int .u8 4, .string what, .slice a len cap] w fun e w' => e = .returned (.bool true) ∧ Below w.heap.size w w' := by
  have hb0 : Below w.heap.size w (w.alloc (.cells (msg (.slice p ns.length c) what).toArray 48)) := by go_grown
  have HD := Lib.hid (h.below hb0)
  have HS := Lib.hid (hS.below hb0)
  have HB0 := Lib.hid hb0
  have hbk := Bk.mk w 48 (msg (.slice p ns.length c) what).toArray
  clear h hS hb0
  have HL := Lib.hid hl
  rw [hl] at HD HB0 HS hbk ⊢
  clear hl
  unfold msg at *
  have c0 : (w.alloc (.cells [Value.slice p len c, .string ⟨#[]⟩, .nilIface, .pointer none, .string what, .bool false, .int .u8 4, .int .u8 0].toArray 48)).cell? ⟨w.heap.size, 0, none⟩ = some (.slice p len c) := hbk.cell 0
  go_enter Tryz.func13, Tryz.ntmps13
  go_wp2_with fail
  generalize hw0 : (w.alloc (.cells #[Value.slice p len c, .string ⟨#[]⟩, .nilIface, .pointer none, .string what, .bool false, .int .u8 4, .int .u8 0] 48)) = wx at *
  have hwx0 : ∃ m, wx = wx.drewN m := ⟨0, rfl⟩
  have HW0 := Lib.hid hwx0
  have hle : w.heap.size < wx.heap.size := by rw [← hw0]; simp
  clear hw0 hwx0 hbk
  go_loopw [9] (fun i wr => Hid (∃ m, wr = wx.drewN m) ∧ ∃ k : Nat, k ≤ len ∧ i = .int .i64 k) (fun i _ => len - (intOf i).toNat)
  case atStart => exact ⟨HW0, 0, Nat.zero_le _, rfl⟩
  case round =>
    clear HW0
    obtain ⟨hwr, k, hk, rfl⟩ := hrel
    obtain ⟨m, hm⟩ := hwr.out
    subst hm
    clear hwr
    by_cases hlt : k < len
    · obtain ⟨g, cap', e, hg, h0, h1, h2, h3⟩ := HD.out.at k (by rw [HL.out]; exact hlt)
      obtain ⟨b, off, rfl, hb, hcell⟩ := HS.out.at (by omega)
      have hs2 : wx.cell? ⟨b, off + k, none⟩ = some (.string (ns.getD k ByteArray.empty)) := hcell k hlt
      have hx : ns[k]'(by rw [HL.out]; exact hlt) = ns.getD k ByteArray.empty := by
        rw [List.getD_eq_getElem?_getD, List.getElem?_eq_getElem (by rw [HL.out]; exact hlt)]; rfl
      rw [hx] at h2
      rw [HL.out] at e
      cases e
      clear hcell hx h0
      generalize ns.getD k ByteArray.empty = x at *
      have i0 : (0 : Int) ≤ (k : Int) := Int.natCast_nonneg _
      have i1 : (k : Int) < (len : Int) := by omega
      go_wp2
      go_quiet (fail)
      go_wp2
      exact ⟨⟨⟨_, rfl⟩, k + 1, by omega, by go_num⟩, by simp [intOf]; omega⟩
    · go_wp2
      go_ret
      exact ⟨rfl, HB0.out.trans ⟨rfl, rfl, rfl, Nat.le_refl _, fun _ _ => rfl⟩⟩
end Go.Proofs.YteamfcjfoihehaaGreatDoor
