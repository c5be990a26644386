/-
  AddID. No condition.
-/
import Derived.Test.YtlgdojbojlbehaaFmtLu
import Derived.Deep.RegionHeld3
import Derived.RegionTactic
namespace Go.Proofs.YtlgdojbojlbehaaFmt
open Go.ChangeShapes Go.WideShapes Go.ChangeAt Go.RowKit
open Go.MuLone
set_option linter.unusedVariables false

def logV (K M X H : Nat) : Value := .agg #[.func (.func 11) #[] #[.pointer (some ⟨K, 0, none⟩), .pointer (some ⟨X, 0, none⟩), .pointer (some ⟨H, 0, none⟩), .pointer (some ⟨M, 0, none⟩)], .func (.func 14) #[] #[.pointer (some ⟨X, 0, none⟩), .pointer (some ⟨H, 0, none⟩)], .func (.func 15) #[] #[.pointer (some ⟨X, 0, none⟩), .pointer (some ⟨M, 0, none⟩)], .func (.func 16) #[] #[.pointer (some ⟨X, 0, none⟩), .pointer (some ⟨M, 0, none⟩)], .int .i8 3, .map none]
theorem fr_cell {S : Nat → Prop} {w w' : World} (h : Fr S w w') (p : Addr) (hp : p.block < w.heap.size) (hs : ¬ S p.block) : w'.cell? p = w.cell? p := by
  unfold World.cell?
  rw [h.block p.block hp hs]
theorem Lg.fr72 {base K M X H n T : Nat} {s : Int} {v : Value} {ms : List Value} {w w' : World} {cs : Array Value} (h : Lg base K M X H s v ms n w) (hT : Bk w T 72 cs) (hF : Fr (fun k => k = T) w w') : Lg base K M X H s v ms n w' :=
  h.kept hF (by
    rintro b c t fr hh _ ht rfl
    have e := hh.symm.trans hT
    have : t = 72 := by simpa using congrArg (fun o => match o with | some (Obj.cells _ t _) => t | _ => 0) e
    subst this
    unfold lgT at ht
    simp at ht)
def Added (base K M X H n : Nat) (w : World) (e : Ending) (w' : World) : Prop :=
  e = .returned (.tuple #[]) ∧ (∃ v' ms', Lg base K M X H 0 v' ms' (n + 1) w') ∧ Below base w w' ∧ ∀ g t cs, t = 33 ∨ t = 23 ∨ t = 69 → Bk w g t cs → Bk w' g t cs
set_option maxRecDepth 100000 in
set_option maxHeartbeats 8000000 in
theorem addID {base K M X H n T : Nat} {v : Value} {ms : List Value} {w : World} (h : Lg base K M X H 0 v ms n w) (hT : Bk w T 72 (trkCells false)) (hTb : base ≤ T) (t : ByteArray) (hn : n ≤ 65536) (hbB : base ≤ w.heap.size) :
    Calls Tryf.prog 21 #[logV K M X H, .int .u8 66, .int .u8 1, .pointer (some ⟨T, 0, none⟩), .agg #[.int .i32 0, .int .i32 0], .string t] w (Added base K M X H n w) := by
  have HL := Lib.hid h
  have HT := Lib.hid hT
  have hl := hT.lt
  clear h hT
  unfold logV
  go_enter Tryf.func21, Tryf.ntmps21
  go_wp2_with fail
  refine (allow _).mono ?_
  rintro _ _ ⟨rfl, rfl⟩
  go_wp2_with fail
  have hsn := fun (W : World) (a : Addr) (m : Mode) => run_store Tryf.prog W a .nilIface m rfl
  have hne : w.heap.size ≠ T := by omega
  go_region_with (first
    | (go_at_call 27; (with_reducible refine (msgData T t _ (HT.out.below (by go_grown : Below w.heap.size w _) hl)).mono ?_); rintro _ wm ⟨lo, rfl, hFm⟩; have hWM : Fr (fun k => k = T) w wm := (Fr.ofBelow' (S := fun k => k = T) (by go_grown : Below w.heap.size w _) (fun k h1 h2 => absurd h1 (by omega))).trans hFm; have hwz := hWM.size; have q : wm.cell? ⟨w.heap.size, 0, none⟩ = some (.func (.func 11) #[] #[.pointer (some ⟨K, 0, none⟩), .pointer (some ⟨X, 0, none⟩), .pointer (some ⟨H, 0, none⟩), .pointer (some ⟨M, 0, none⟩)]) := (fr_cell hFm ⟨w.heap.size, 0, none⟩ (by simp; omega) hne).trans (by simp [go_sem]))
    | (go_at_call 11; (refine (addMsg (HL.out.fr72 HT.out hWM) lo t hn (by omega)).mono ?_); rintro _ wz hM; obtain ⟨rfl, hM2⟩ := hM))
  all_goals
    go_end0
    obtain ⟨v2, hL2, hF2⟩ := hM2
    refine ⟨rfl, ⟨v2, _, hL2⟩, ?_⟩
    have h1 : Below base w wm := hWM.below hbB (by rintro k hk rfl; omega)
    have hLm := HL.out.fr72 HT.out hWM
    have h2 : Below base wm wz := hF2.below (by omega) (by
      rintro k hk (rfl | rfl | q)
      · have := hLm.bm; omega
      · have := hLm.bx; omega
      · have := (own_lt hLm.own k q).1; omega)
    refine ⟨h1.trans h2, ?_⟩
    rintro g tt cs htt hb
    have hT0 := HT.out
    have hb1 := hb.fr hWM (by
      rintro rfl
      exact ne_of_types (w := w) (t := tt) (t' := 72) hb hT0 (by rcases htt with rfl | rfl | rfl <;> decide) rfl)
    exact hb1.fr hF2 (by
      rintro (rfl | rfl | q)
      · exact ne_of_types (w := wm) (t := tt) (t' := 53) hb1 hLm.m (by rcases htt with rfl | rfl | rfl <;> decide) rfl
      · exact ne_of_types (w := wm) (t := tt) (t' := 59) hb1 hLm.x (by rcases htt with rfl | rfl | rfl <;> decide) rfl
      · exact own_ne hLm.own hb1 (by rcases htt with rfl | rfl | rfl <;> decide) q)
end Go.Proofs.YtlgdojbojlbehaaFmt
