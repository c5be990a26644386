/-
  The log's AddMsg. No condition.
-/
import Derived.Test.YtlgdojbojlbehaaFmtLg
import Derived.Laws.EntriesVeiled
namespace Go.Proofs.YtlgdojbojlbehaaFmt
open Go.ChangeShapes Go.WideShapes Go.ChangeAt Go.RowKit
open Go.MuLone
set_option linter.unusedVariables false

theorem info_parts {P : Program} {T : TypeId} {z : Value} {s b : Nat} (h : (P.info? T).map (fun i => (i.zero, i.size, i.bytes)) = some (some z, s, b)) : ∃ i, P.info? T = some i ∧ i.zero = some z ∧ i.size = s ∧ i.bytes = b := by
  obtain ⟨i, hi, e⟩ := Option.map_eq_some_iff.1 h
  simp at e
  exact ⟨i, hi, e.1, e.2.1, e.2.2⟩
theorem info66 : (Tryf.prog.info? 66).map (fun i => (i.zero, i.size, i.bytes)) = some (some (.agg #[.slice none 0 0, .string ByteArray.empty, .nilIface, .pointer none, .string ByteArray.empty, .bool false, .int .u8 0, .int .u8 0]), 8, 96) := by kernel_rfl
/-- A message's eight cells. -/
def msg (lo : Option Addr) (t : ByteArray) : List Value := [.slice none 0 0, .string ⟨#[]⟩, .nilIface, .pointer lo, .string t, .bool false, .int .u8 1, .int .u8 66]
theorem newsM (w : World) (nv : Option Addr) (t : ByteArray) : ∀ j u, (msg nv t)[j]? = some u → (w.alloc (.cells (msg nv t).toArray 66)).cell? ((⟨w.heap.size, 0, none⟩ : Addr).add j) = some u := World.news_of_block (cs := (msg nv t).toArray) (t := 66) (fr := (0, 0)) (heap_alloc_new w _)
theorem oneM (p : Option Addr) (t : ByteArray) : ∀ u ∈ msg p t, u.oneCell' = true := by simp [msg, Value.oneCell']
theorem Lg.end {base K M X H n cap gg : Nat} {s : Int} {v : Value} {ms : List Value} {w w1 : World} {nv : Option Addr} {t : ByteArray} (h : Lg base K M X H s v ms n w) (hown1 : w1.ownsRow base 66 8 (.slice (some ⟨gg, 0, none⟩) (n + 1) cap) (n + 1) (ms ++ msg nv t))
    (hgrow : (w.alloc (.cells (msg nv t).toArray 66)).grownBy w1 v.ownBlock) :
    Lg base K M X H s (.slice (some ⟨gg, 0, none⟩) (n + 1) cap) (ms ++ msg nv t) (n + 1) (w1.setCell ⟨M, 0, none⟩ (.slice (some ⟨gg, 0, none⟩) (n + 1) cap)) ∧ Fr (fun k => k = M ∨ v.ownBlock = some k) w (w1.setCell ⟨M, 0, none⟩ (.slice (some ⟨gg, 0, none⟩) (n + 1) cap)) := by
  have am : v.ownBlock ≠ some M := own_ne h.own h.m (by decide)
  have ak : v.ownBlock ≠ some K := own_ne h.own h.k (by decide)
  have ax : v.ownBlock ≠ some X := own_ne h.own h.x (by decide)
  have ah : v.ownBlock ≠ some H := own_ne h.own h.h (by decide)
  refine ⟨⟨?_, ?_, ?_, ?_, ?_, h.bk, h.bm, h.bx, h.bh⟩, (((Fr.refl _ w).alloc _).grown hgrow (fun k hk _ => .inr hk)).setCell (p := ⟨M, 0, none⟩) (fun _ => .inl rfl) _⟩
  · exact ((h.k.alloc _).grown hgrow (Ne.symm ak)).far (p := ⟨M, 0, none⟩) (ne_of_types (w := w) (t := 35) (t' := 53) h.k h.m (by decide)) _
  · exact ((h.m.alloc _).grown hgrow (Ne.symm am)).set 0 _
  · exact ((h.x.alloc _).grown hgrow (Ne.symm ax)).far (p := ⟨M, 0, none⟩) (ne_of_types (w := w) (t := 59) (t' := 53) h.x h.m (by decide)) _
  · exact ((h.h.alloc _).grown hgrow (Ne.symm ah)).far (p := ⟨M, 0, none⟩) (ne_of_types (w := w) (t := 4) (t' := 53) h.h h.m (by decide)) _
  · exact own_fr hown1 ((Fr.refl (fun k => k = M) _).setCell (p := ⟨M, 0, none⟩) (fun _ => rfl) _) (by rintro g hg rfl; exact own_ne hown1 ((h.m.alloc _).grown hgrow (Ne.symm am)) (by decide) hg)
set_option maxRecDepth 100000 in
set_option maxHeartbeats 4000000 in
theorem addMsg {base K M X H n : Nat} {v : Value} {ms : List Value} {w : World} (h : Lg base K M X H 0 v ms n w) (p : Option Addr) (t : ByteArray) (hn : n ≤ 65536) (hbB : base ≤ w.heap.size) :
    Calls Tryf.prog 11 #[.agg (msg p t).toArray, .pointer (some ⟨K, 0, none⟩), .pointer (some ⟨X, 0, none⟩), .pointer (some ⟨H, 0, none⟩), .pointer (some ⟨M, 0, none⟩)] w
      fun e w' => e = .returned (.tuple #[]) ∧ ∃ v', Lg base K M X H 0 v' (ms ++ msg p t) (n + 1) w' ∧ Fr (fun k => k = M ∨ k = X ∨ v.ownBlock = some k) w w' := by
  have hA := h.below (((Below.refl _ w).alloc (Nat.le_refl _) (.cells (msg p t).toArray 66)))
  have hFA := (Fr.refl (fun k => k = M ∨ k = X ∨ v.ownBlock = some k) w).alloc (.cells (msg p t).toArray 66)
  have kc : (w.alloc (.cells (msg p t).toArray 66)).cell? ⟨K, 0, none⟩ = some (.int .u8 1) := hA.k.cell 0
  have xc : (w.alloc (.cells (msg p t).toArray 66)).cell? ⟨X, 0, none⟩ = some (.int .i32 0) := hA.x.cell 0
  have xf := hA.x.free 0
  have mb := Bk.mk w 66 (msg p t).toArray
  have xne : w.heap.size ≠ X := by have := h.x.lt; omega
  have HA := Lib.hid hA
  have HFA := Lib.hid hFA
  clear hA hFA h
  unfold msg at *
  go_enter_defers Tryf.func11, Tryf.ntmps11
  go_wp2_with fail
  refine (lock_free Tryf.muLib ⟨X, 0, none⟩ _ xc xf).mono ?_
  rintro _ _ ⟨rfl, rfl⟩
  have HL := Lib.hid (HA.out.setX 1)
  have HFL := Lib.hid (HFA.out.setCell (p := ⟨X, 0, none⟩) (fun _ => .inr (.inl rfl)) (.int .i32 1))
  have mb2 := mb.far (p := ⟨X, 0, none⟩) xne (.int .i32 1)
  have hsz2 : w.heap.size < ((w.alloc (.cells #[Value.slice none 0 0, .string ⟨#[]⟩, .nilIface, .pointer p, .string t, .bool false, .int .u8 1, .int .u8 66] 66)).setCell ⟨X, 0, none⟩ (.int .i32 1)).heap.size := mb2.lt
  clear mb kc xc xf HFA HA
  generalize ((w.alloc (.cells #[Value.slice none 0 0, .string ⟨#[]⟩, .nilIface, .pointer p, .string t, .bool false, .int .u8 1, .int .u8 66] 66)).setCell ⟨X, 0, none⟩ (.int .i32 1)) = wl at *
  have m0 : wl.cell? ⟨w.heap.size, 0, none⟩ = some (.slice none 0 0) := mb2.cell 0
  have m1 : wl.cell? ⟨w.heap.size, 1, none⟩ = some (.string ⟨#[]⟩) := mb2.cell 1
  have m2 : wl.cell? ⟨w.heap.size, 2, none⟩ = some .nilIface := mb2.cell 2
  have m3 : wl.cell? ⟨w.heap.size, 3, none⟩ = some (.pointer p) := mb2.cell 3
  have m4 : wl.cell? ⟨w.heap.size, 4, none⟩ = some (.string t) := mb2.cell 4
  have m5 : wl.cell? ⟨w.heap.size, 5, none⟩ = some (.bool false) := mb2.cell 5
  have m6 : wl.cell? ⟨w.heap.size, 6, none⟩ = some (.int .u8 1) := mb2.cell 6
  have m7 : wl.cell? ⟨w.heap.size, 7, none⟩ = some (.int .u8 66) := mb2.cell 7
  have mc : wl.cell? ⟨M, 0, none⟩ = some v := HL.out.m.cell 0
  have mf := HL.out.m.free 0
  have ml := HL.out.m.lt
  have am : v.ownBlock ≠ some M := own_ne HL.out.own HL.out.m (by decide)
  obtain ⟨i0, hi0, hz0, hz1, hz2⟩ := info_parts info66
  have HI := Lib.hid hi0
  have HZ0 := Lib.hid hz0
  have HZ1 := Lib.hid hz1
  have HZ2 := Lib.hid hz2
  have hsw := HFL.out.size
  clear hi0 hz0 hz1 hz2 mb2
  have b1 : n + 1 ≤ maxLen := by unfold maxLen; omega
  have b2 : (n + 1) * 96 ≤ 140737488355328 := by omega
  have b3 : ∀ o, base ≤ (wl.alloc o).heap.size := fun o => by simp; omega
  have b4 : ∀ o, (wl.alloc o).heap.size = wl.heap.size + 1 := fun o => by simp
  obtain ⟨pv, cv, hv⟩ := own_form HL.out.own
  have hsn := fun (W : World) (a : Addr) (m : Mode) => run_store Tryf.prog W a .nilIface m rfl
  subst hv
  go_wp2_with (at_builtin; (refine wpList_append_lies (wl.alloc (.cells (msg p t).toArray 66)) rfl (.tmp 22) (.tmp 24) 53 rfl base 66 i0 (.agg #[.slice none 0 0, .string ByteArray.empty, .nilIface, .pointer none, .string ByteArray.empty, .bool false, .int .u8 0, .int .u8 0]) 8 96 Tryf.underlying53 HI.out HZ0.out HZ1.out HZ2.out rfl (by omega) (.slice pv n cv) n ms rfl (HL.out.own.alloc _) ⟨wl.heap.size, 0, none⟩ 1 1 (msg p t) rfl rfl (newsM wl _ t) (oneM p t) (by decide) b1 b2 (b3 _) (wl.heap.size + 1) (b4 _) ?_; intro gg cap w1 hown1 hgrow hat hlt; have q0 := (hgrow.cell_far ⟨M, 0, none⟩ (by simp; omega) (Ne.symm am)).trans ((World.cell?_alloc_past (w := wl) _ M 0 ml).trans mc); have q1 := (hgrow.frozen_far ⟨M, 0, none⟩ (by simp; omega) (Ne.symm am)).trans ((World.frozen?_alloc_past (w := wl) _ M 0 ml).trans mf); have HE := Lib.hid (HL.out.end hown1 hgrow); clear hown1 hgrow))
  refine leaves_cons (f := 13) (args := #[.pointer (some ⟨X, 0, none⟩)]) (by simp) (by simp [go_sem]) ?_
  refine (unlock_deferred Tryf.muLib ⟨X, 0, none⟩ .returning _ (HE.out.1.x.cell 0) (HE.out.1.x.free 0)).mono ?_
  rintro e u' w'' ⟨rfl, rfl, rfl⟩
  refine ⟨_, results_none rfl _ _ _, rfl, _, HE.out.1.setX 0, ?_⟩
  exact (HFL.out.trans' HE.out.2 (fun i _ q => by rcases q with q | q; exact .inl q; exact .inr (.inr q))).setCell (p := ⟨X, 0, none⟩) (fun _ => .inr (.inl rfl)) _
end Go.Proofs.YtlgdojbojlbehaaFmt
