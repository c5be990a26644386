/-
  The log's Done: a stable sort of two messages without a place. No condition.
-/
import Derived.Test.YteamfcjfoihehaaGreatDoorLc
import Derived.LoopN
namespace Go.Proofs.YteamfcjfoihehaaGreatDoor
open Go.ChangeShapes Go.WideShapes Go.ChangeAt Go.RowKit
open Go.MuLone
set_option linter.unusedVariables false

/-- Two messages in a row of memory. -/
def Two (g : Nat) (p q : Option Addr) (l c m d : Nat) (t u : ByteArray) (w : World) : Prop :=
  g < w.heap.size ∧ ∀ j x, (msg (.slice p l c) t ++ msg (.slice q m d) u)[j]? = some x → w.cell? ⟨g, j, none⟩ = some x
theorem Two.below {g l c m d : Nat} {p q : Option Addr} {t u : ByteArray} {w w' : World} (h : Two g p q l c m d t u w) (hb : Below w.heap.size w w') : Two g p q l c m d t u w' :=
  ⟨Nat.lt_of_lt_of_le h.1 hb.size, fun j x hx => (hb.cell (p := ⟨g, j, none⟩) h.1).trans (h.2 j x hx)⟩
set_option maxRecDepth 100000 in
set_option maxHeartbeats 4000000 in
theorem less {g cap l c m d : Nat} {p q : Option Addr} {t u : ByteArray} {w : World} (h : Two g p q l c m d t u w) :
    Calls Tryz.prog 99 #[.slice (some ⟨g, 0, none⟩) 2 cap, .int .i64 1, .int .i64 0] w fun e w' => e = .returned (.bool false) ∧ Below w.heap.size w w' := by
  have hsn := fun (W : World) (a : Addr) (m : Mode) => run_store Tryz.prog W a .nilIface m rfl
  have c0 : w.cell? ⟨g, 0, none⟩ = some (.slice p l c) := h.2 0 _ rfl
  have c1 : w.cell? ⟨g, 1, none⟩ = some (.string ⟨#[]⟩) := h.2 1 _ rfl
  have c2 : w.cell? ⟨g, 2, none⟩ = some .nilIface := h.2 2 _ rfl
  have c3 : w.cell? ⟨g, 3, none⟩ = some (.pointer none) := h.2 3 _ rfl
  have c4 : w.cell? ⟨g, 4, none⟩ = some (.string t) := h.2 4 _ rfl
  have c5 : w.cell? ⟨g, 5, none⟩ = some (.bool false) := h.2 5 _ rfl
  have c6 : w.cell? ⟨g, 6, none⟩ = some (.int .u8 4) := h.2 6 _ rfl
  have c7 : w.cell? ⟨g, 7, none⟩ = some (.int .u8 0) := h.2 7 _ rfl
  have d0 : w.cell? ⟨g, 8, none⟩ = some (.slice q m d) := h.2 8 _ rfl
  have d1 : w.cell? ⟨g, 9, none⟩ = some (.string ⟨#[]⟩) := h.2 9 _ rfl
  have d2 : w.cell? ⟨g, 10, none⟩ = some .nilIface := h.2 10 _ rfl
  have d3 : w.cell? ⟨g, 11, none⟩ = some (.pointer none) := h.2 11 _ rfl
  have d4 : w.cell? ⟨g, 12, none⟩ = some (.string u) := h.2 12 _ rfl
  have d5 : w.cell? ⟨g, 13, none⟩ = some (.bool false) := h.2 13 _ rfl
  have d6 : w.cell? ⟨g, 14, none⟩ = some (.int .u8 4) := h.2 14 _ rfl
  have d7 : w.cell? ⟨g, 15, none⟩ = some (.int .u8 0) := h.2 15 _ rfl
  have hg := h.1
  have hg1 : g < w.heap.size + 1 := by omega
  clear h
  go_enter Tryz.func99, Tryz.ntmps99
  go_wp2_with fail
  go_ret
  exact ⟨rfl, by go_grown⟩
set_option maxRecDepth 100000 in
theorem len2 (v : Option Addr) (n cap : Nat) (w : World) : Calls Tryz.prog 98 #[.slice v n cap] w fun e w' => e = .returned (.int .i64 n) ∧ w = w' := by
  go_enter Tryz.func98, Tryz.ntmps98
  go_wp2
  go_ret
  exact ⟨rfl, rfl⟩
set_option maxRecDepth 100000 in
set_option maxHeartbeats 4000000 in
theorem insertion {g cap l c m d : Nat} {p q : Option Addr} {t u : ByteArray} {w : World} (h : Two g p q l c m d t u w) :
    Calls Tryz.prog 40 #[.iface 134 (.slice (some ⟨g, 0, none⟩) 2 cap), .int .i64 0, .int .i64 2] w fun e w' => e = .returned (.tuple #[]) ∧ Below w.heap.size w w' := by
  have H := Lib.hid h
  clear h
  go_enter Tryz.func40, Tryz.ntmps40
  go_wp2_with fail
  go_loopw [6] (fun i wr => (i = .int .i64 1 ∨ i = .int .i64 2) ∧ Below w.heap.size w wr) (fun i _ => match i with | .int _ k => 2 - k.toNat | _ => 0)
  case atStart => exact ⟨.inl rfl, Below.refl _ _⟩
  case round =>
    obtain ⟨hi, hb⟩ := hrel
    have HB := Lib.hid hb
    clear hb
    rcases hi with rfl | rfl
    · go_wp2_with fail
      go_loopw [7] (fun j wr => j = .int .i64 1 ∧ Below w.heap.size w wr) (fun _ _ => 0)
      case atStart => exact ⟨rfl, HB.out⟩
      case round =>
        obtain ⟨rfl, hb⟩ := hrel
        have HB2 := Lib.hid hb
        clear hb
        go_wp2_with fail
        refine (less (H.out.below HB2.out)).mono ?_
        rintro _ wy ⟨rfl, hby⟩
        go_wp2_with fail
        exact ⟨⟨.inr rfl, HB2.out.trans (hby.mono HB2.out.size)⟩, by decide⟩
    · go_wp2_with fail
      go_end0
      exact ⟨rfl, HB.out⟩
set_option maxRecDepth 100000 in
set_option maxHeartbeats 4000000 in
theorem stable {g cap l c m d : Nat} {p q : Option Addr} {t u : ByteArray} {w : World} (h : Two g p q l c m d t u w) :
    Calls Tryz.prog 29 #[.iface 134 (.slice (some ⟨g, 0, none⟩) 2 cap), .int .i64 2] w fun e w' => e = .returned (.tuple #[]) ∧ Below w.heap.size w w' := by
  have H := Lib.hid h
  clear h
  go_enter Tryz.func29, Tryz.ntmps29
  go_wp2_with fail
  go_loopw [5, 6] (fun a b wr => a = .int .i64 0 ∧ b = .int .i64 20 ∧ w = wr) (fun _ _ _ => 0)
  case atStart => exact ⟨rfl, rfl, rfl⟩
  case round =>
    obtain ⟨rfl, rfl, rfl⟩ := hrel
    go_wp2_with fail
    refine (insertion H.out).mono ?_
    rintro _ wy ⟨rfl, hby⟩
    go_wp2_with fail
    go_loopw [4] (fun a wr => a = .int .i64 20 ∧ wy = wr) (fun _ _ => 0)
    case atStart => exact ⟨rfl, rfl⟩
    case round =>
      obtain ⟨rfl, rfl⟩ := hrel
      go_wp2_with fail
      go_end0
      exact ⟨rfl, hby⟩
set_option maxRecDepth 100000 in
theorem sort25 {g cap l c m d : Nat} {p q : Option Addr} {t u : ByteArray} {w : World} (h : Two g p q l c m d t u w) :
    Calls Tryz.prog 25 #[.iface 134 (.slice (some ⟨g, 0, none⟩) 2 cap)] w fun e w' => e = .returned (.tuple #[]) ∧ Below w.heap.size w w' := by
  have H := Lib.hid h
  clear h
  go_enter Tryz.func25, Tryz.ntmps25
  go_wp2_with fail
  refine (len2 _ _ _ _).mono ?_
  rintro _ _ ⟨rfl, rfl⟩
  go_wp2_with fail
  refine (stable H.out).mono ?_
  rintro _ wy ⟨rfl, hby⟩
  go_wp2_with fail
  go_end0
  exact ⟨rfl, hby⟩
theorem Lg.two {base K M X H l c m d : Nat} {s : Int} {v : Value} {p q : Option Addr} {t u : ByteArray} {w : World} (h : Lg base K M X H s v (msg (.slice p l c) t ++ msg (.slice q m d) u) 2 w) :
    ∃ g cap, v = .slice (some ⟨g, 0, none⟩) 2 cap ∧ Two g p q l c m d t u w := by
  obtain ⟨g, cap, rfl, _, hlt⟩ := h.own.form (by omega)
  refine ⟨g, cap, rfl, hlt, fun j x hx => ?_⟩
  have hj : j < 16 := by
    have := (List.getElem?_eq_some_iff.1 hx).1
    simpa [msg] using this
  rw [h.own.cellAt j (by omega)]
  exact hx
set_option maxRecDepth 100000 in
set_option maxHeartbeats 4000000 in
theorem done24 {base K M X H l c m d : Nat} {v : Value} {p q : Option Addr} {t u : ByteArray} {w : World} (h : Lg base K M X H 0 v (msg (.slice p l c) t ++ msg (.slice q m d) u) 2 w) :
    Calls Tryz.prog 24 #[.pointer (some ⟨X, 0, none⟩), .pointer (some ⟨M, 0, none⟩)] w
      fun e w' => e = .returned v ∧ Lg base K M X H 0 v (msg (.slice p l c) t ++ msg (.slice q m d) u) 2 w' ∧ Fr (fun k => k = X) w w' := by
  have HL := Lib.hid (h.setX 1)
  have hF := (Fr.refl (fun k => k = X) w).setCell (p := ⟨X, 0, none⟩) (fun _ => rfl) (.int .i32 1)
  have HF := Lib.hid hF
  have xc : w.cell? ⟨X, 0, none⟩ = some (.int .i32 0) := h.x.cell 0
  have xf := h.x.free 0
  clear h hF
  go_enter_defers Tryz.func24, Tryz.ntmps24
  go_wp2_with fail
  refine (lock_free Tryz.muLib ⟨X, 0, none⟩ _ xc xf).mono ?_
  rintro _ _ ⟨rfl, rfl⟩
  clear xc xf
  generalize w.setCell ⟨X, 0, none⟩ (.int .i32 1) = wl at *
  obtain ⟨g, cap, rfl, hT⟩ := HL.out.two
  have mc : wl.cell? ⟨M, 0, none⟩ = some (.slice (some ⟨g, 0, none⟩) 2 cap) := HL.out.m.cell 0
  have HT := Lib.hid hT
  clear hT
  go_wp2_with fail
  refine (sort25 HT.out).mono ?_
  rintro _ wy ⟨rfl, hby⟩
  have HLY := Lib.hid (HL.out.below hby)
  have mcy : wy.cell? ⟨M, 0, none⟩ = some (.slice (some ⟨g, 0, none⟩) 2 cap) := HLY.out.m.cell 0
  clear mc
  go_wp2_with fail
  refine leaves_cons (f := 21) (args := #[.pointer (some ⟨X, 0, none⟩)]) (by simp) (by simp [go_sem]) ?_
  refine (unlock_deferred Tryz.muLib ⟨X, 0, none⟩ .returning _ (HLY.out.x.cell 0) (HLY.out.x.free 0)).mono ?_
  rintro e u' w'' ⟨rfl, rfl, rfl⟩
  refine ⟨_, results_tmp rfl _ _ _, rfl, HLY.out.setX 0, ?_⟩
  exact (HF.out.trans' (Fr.ofBelow' (S := fun k => k = X) hby (fun k h1 h2 => absurd h1 (by omega))) (fun i _ q => q)).setCell (p := ⟨X, 0, none⟩) (fun _ => rfl) _
set_option maxRecDepth 100000 in
set_option maxHeartbeats 4000000 in
theorem logged {base K M X H R Bd l c m d : Nat} {lvl : Int} {v : Value} {p q : Option Addr} {t u : ByteArray} {w : World} (h : Lg base K M X H 0 v (msg (.slice p l c) t ++ msg (.slice q m d) u) 2 w) (hR : Rs R K M X H lvl w) :
    Calls Tryz.prog 12 #[qryV R Bd] w fun e w' => e = .returned v ∧ Lg base K M X H 0 v (msg (.slice p l c) t ++ msg (.slice q m d) u) 2 w' ∧ Fr (fun k => k = X) w w' := by
  obtain ⟨cs, hk, r0, r1, r2, r3, r4, r5⟩ := hR
  have lk := hk.lt
  have l1 : R < w.heap.size + 1 := by omega
  have e3 : w.cell? ⟨R, 4, none⟩ = some (.func (.func 24) #[] #[.pointer (some ⟨X, 0, none⟩), .pointer (some ⟨M, 0, none⟩)]) := (hk.cell 4).trans r3
  have hb0 : Below w.heap.size w (w.alloc (.cells #[.pointer (some ⟨R, 0, none⟩), .pointer none, .pointer (some ⟨Bd, 0, none⟩), .int .u8 0] 33)) := by go_grown
  have HL := Lib.hid (h.below hb0)
  obtain ⟨pv, cv, hv⟩ := own_form h.own
  subst hv
  clear h hk r0 r1 r2 r3 r4 r5
  unfold qryV
  go_enter Tryz.func12, Tryz.ntmps12
  go_wp2_with fail
  refine (done24 HL.out).mono ?_
  rintro _ wy ⟨rfl, hLY, hFY⟩
  go_wp2_with fail
  go_ret
  exact ⟨rfl, hLY, (Fr.ofBelow' hb0 (fun k h1 h2 => absurd h1 (by omega))).trans hFY⟩
end Go.Proofs.YteamfcjfoihehaaGreatDoor
