/-
  The model and the wrapper. No condition.
-/
import Derived.Test.YtlgdojbojlbehaaFmtLx
import Derived.Test.YtlgdojbojlbehaaFmtLs
namespace Go.Proofs.YtlgdojbojlbehaaFmt
open Go.ChangeShapes Go.WideShapes Go.ChangeAt Go.RowKit Go.Extern.Stop Go.Stop Go.Extern
open Go.MuLone
set_option linter.unusedVariables false

set_option maxRecDepth 100000 in
set_option maxHeartbeats 8000000 in
theorem wrap5 (F : Interp) {w : World} (hF : F.told.answers w.tape) (t : ByteArray) (ht : t.size ≤ 1048576) :
    Calls Tryf.prog 5 #[.string t] w fun e w' => (∃ n tr, e = .returned (.tuple #[.bool (acc t.size (cB t 0) (cB t 1) (cB t 2)), .int .i64 n, .pointer tr])) ∧ Below w.heap.size w w' := by
  have HFF := Lib.hid hF
  clear hF
  obtain ⟨b, hb⟩ : ∃ b, b = acc t.size (cB t 0) (cB t 1) (cB t 2) := ⟨_, rfl⟩
  rw [← hb]
  have HBb := Lib.hid hb
  clear hb
  go_enter Tryf.func5, Tryf.ntmps5
  go_wp2_with fail
  refine (newDefer w).mono ?_
  rintro _ w1 ⟨K, M, X, H, rfl, hL, hb1⟩
  unfold fAdd fHas fPeek fDone
  have HB1 := Lib.hid hb1
  have hz1 := hb1.size
  clear hb1
  have HL := Lib.hid hL
  clear hL
  go_wp2_with fail
  have e0 : ∀ (W : World) (o : Obj), (W.alloc o).heap.size = W.heap.size + 1 := fun W o => by simp
  have hbQ := Bk.mk w1 33 #[.func (.func 11) #[] #[.pointer (some ⟨K, 0, none⟩), .pointer (some ⟨X, 0, none⟩), .pointer (some ⟨H, 0, none⟩), .pointer (some ⟨M, 0, none⟩)], .func (.func 14) #[] #[.pointer (some ⟨X, 0, none⟩), .pointer (some ⟨H, 0, none⟩)], .func (.func 15) #[] #[.pointer (some ⟨X, 0, none⟩), .pointer (some ⟨M, 0, none⟩)], .func (.func 16) #[] #[.pointer (some ⟨X, 0, none⟩), .pointer (some ⟨M, 0, none⟩)], .int .i8 3, .map none]
  have hbS := Bk.mk (w1.alloc (.cells #[.func (.func 11) #[] #[.pointer (some ⟨K, 0, none⟩), .pointer (some ⟨X, 0, none⟩), .pointer (some ⟨H, 0, none⟩), .pointer (some ⟨M, 0, none⟩)], .func (.func 14) #[] #[.pointer (some ⟨X, 0, none⟩), .pointer (some ⟨H, 0, none⟩)], .func (.func 15) #[] #[.pointer (some ⟨X, 0, none⟩), .pointer (some ⟨M, 0, none⟩)], .func (.func 16) #[] #[.pointer (some ⟨X, 0, none⟩), .pointer (some ⟨M, 0, none⟩)], .int .i8 3, .map none] 33)) 45 srcCells
  rw [e0] at hbS
  have hbP := Bk.mk ((w1.alloc (.cells #[.func (.func 11) #[] #[.pointer (some ⟨K, 0, none⟩), .pointer (some ⟨X, 0, none⟩), .pointer (some ⟨H, 0, none⟩), .pointer (some ⟨M, 0, none⟩)], .func (.func 14) #[] #[.pointer (some ⟨X, 0, none⟩), .pointer (some ⟨H, 0, none⟩)], .func (.func 15) #[] #[.pointer (some ⟨X, 0, none⟩), .pointer (some ⟨M, 0, none⟩)], .func (.func 16) #[] #[.pointer (some ⟨X, 0, none⟩), .pointer (some ⟨M, 0, none⟩)], .int .i8 3, .map none] 33)).alloc (.cells srcCells 45)) 23 #[.pointer none]
  rw [e0, e0] at hbP
  have hbq : Below w1.heap.size w1 (((w1.alloc (.cells #[.func (.func 11) #[] #[.pointer (some ⟨K, 0, none⟩), .pointer (some ⟨X, 0, none⟩), .pointer (some ⟨H, 0, none⟩), .pointer (some ⟨M, 0, none⟩)], .func (.func 14) #[] #[.pointer (some ⟨X, 0, none⟩), .pointer (some ⟨H, 0, none⟩)], .func (.func 15) #[] #[.pointer (some ⟨X, 0, none⟩), .pointer (some ⟨M, 0, none⟩)], .func (.func 16) #[] #[.pointer (some ⟨X, 0, none⟩), .pointer (some ⟨M, 0, none⟩)], .int .i8 3, .map none] 33)).alloc (.cells srcCells 45)).alloc (.cells #[.pointer none] 23)) := by go_grown
  have hLq := Lib.hid (HL.out.below hbq)
  have hBq := Lib.hid (HB1.out.trans (hbq.mono hz1))
  have hbQ2 := (hbQ.alloc (.cells srcCells 45)).alloc (.cells #[.pointer none] 23)
  have hbS2 := hbS.alloc (.cells #[.pointer none] 23)
  clear hbQ hbS e0 hbq
  unfold srcCells at *
  generalize hwq : (((w1.alloc (.cells #[.func (.func 11) #[] #[.pointer (some ⟨K, 0, none⟩), .pointer (some ⟨X, 0, none⟩), .pointer (some ⟨H, 0, none⟩), .pointer (some ⟨M, 0, none⟩)], .func (.func 14) #[] #[.pointer (some ⟨X, 0, none⟩), .pointer (some ⟨H, 0, none⟩)], .func (.func 15) #[] #[.pointer (some ⟨X, 0, none⟩), .pointer (some ⟨M, 0, none⟩)], .func (.func 16) #[] #[.pointer (some ⟨X, 0, none⟩), .pointer (some ⟨M, 0, none⟩)], .int .i8 3, .map none] 33)).alloc (.cells #[Value.string ⟨#[]⟩, .string ⟨#[]⟩, .string ⟨#[]⟩, .string ⟨#[]⟩, .string ⟨#[]⟩, .string ⟨#[]⟩, .string ⟨#[]⟩, .string ⟨#[]⟩, .int .u8 0, .int .u32 0] 45)).alloc (.cells #[.pointer none] 23)) = wq at *
  clear hwq
  have hbS3 : Bk wq (w1.heap.size + 1) 45 srcCells := hbS2
  have HV := valid8 F (base := w.heap.size) (by rw [hBq.out.tape]; exact HFF.out) hLq.out hbS3 hbP (by omega) hBq.out.size t ht
  rw [← HBb.out] at HV
  refine HV.mono ?_
  clear HV
  rintro _ w8 ⟨rfl, ⟨v', ms', n', hn', hL8⟩, hB8, ⟨tr, hP8⟩, hK8⟩
  have hq8 := hK8 _ _ hbQ2
  have q3 : w8.cell? ⟨w1.heap.size, 3, none⟩ = some (.func (.func 16) #[] #[.pointer (some ⟨X, 0, none⟩), .pointer (some ⟨M, 0, none⟩)]) := hq8.cell 3
  have lq := hq8.lt
  have HL8 := Lib.hid hL8
  have hz8 := hB8.size
  have hzq := hBq.out.size
  have HB8 := Lib.hid (hBq.out.trans hB8)
  clear hL8 hB8 hK8 hq8 hbQ2 hbS2 hbS3 hbP hLq
  have HP8 := Lib.hid hP8
  have HX8 := Lib.hid HL8.out.x
  have HXB := Lib.hid HL8.out.bx
  have pc : w8.cell? ⟨w1.heap.size + 1 + 1, 0, none⟩ = some (.pointer tr) := hP8.cell 0
  have lp := hP8.lt
  clear hP8
  go_wp2_with fail
  go_region_with (go_at_call 16; refine (done16 (HL8.out.below (by go_grown)) hn' (by simp; omega)).mono ?_; rintro _ w9 ⟨⟨pp, cc, rfl⟩, hF9⟩; have pc9 : w9.cell? ⟨w1.heap.size + 1 + 1, 0, none⟩ = some (.pointer tr) := (fr_cell hF9 ⟨w1.heap.size + 1 + 1, 0, none⟩ (by simp; omega) (by intro e; exact ne_of_types (w := w8) (t := 23) (t' := 59) HP8.out HX8.out (by decide) e)).trans (by simp [go_sem, pc]))
  all_goals
    go_wp2_with fail
    refine bodyPost_ret (v := .tuple #[.bool b, .int .i64 n', .pointer tr]) (by simp [results, Tryf.results5, go_sem]) rfl ?_
    exact ⟨⟨_, _, rfl⟩, (HB8.out.trans ((by go_grown : Below w8.heap.size w8 _).mono (by omega))).trans (hF9.below (by simp; omega) (by rintro k hk rfl; have := HXB.out; omega))⟩
end Go.Proofs.YtlgdojbojlbehaaFmt
