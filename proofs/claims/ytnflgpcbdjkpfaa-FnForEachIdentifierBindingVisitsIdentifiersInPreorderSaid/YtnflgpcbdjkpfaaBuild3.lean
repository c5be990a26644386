/-
  The contract of zzBuildBinding: objects, and all. No condition.
-/
import Derived.Test.YtnflgpcbdjkpfaaBuild
namespace Go.Proofs.Ytnflgpcbdjkpfaa
open Go.ChangeShapes Go.WideShapes Go.ChangeAt Go.RowKit
set_option linter.unusedVariables false
set_option linter.unusedSimpArgs false

set_option maxRecDepth 100000 in
set_option maxHeartbeats 16000000 in
theorem build3 (code : Nat → Nat) (n : Nat) (a : Option Addr) (cap f : Nat) (hn : n ≤ 65536) (ih : BuildOk code n a cap f) (pos : Nat) (w : World) (hc : Code w a n code) (hp : pos < n) (hf : n ≤ pos + (f + 1)) (h0 : code pos % 4 = 3) : Calls Try.prog 7 #[.slice a n cap, .int .i64 (pos : Int)] w (BuiltB code n (f + 1) pos w) := by
  obtain ⟨b, off, rfl, hlt, hcell⟩ := hc.at_ (by omega)
  have hcur := hcell pos hp
  have hlt2 := hc.lt pos hp
  have HG : Hid (goF code n (f + 1) pos = kidsF (goF code n f) n (ar (code pos)) (pos + 1)) := by show _ = _; unfold goF; rw [if_neg (by omega), if_neg (by omega)]
  have HND := Lib.hid (fun p (hp : p < n) (hq : n ≤ p + f) => node_of code n f p hp hq)
  have har : ar (code pos) ≤ 3 := by unfold ar; split <;> omega
  have HAR := Lib.hid (arity (code pos) hlt2)
  generalize code pos = c at *
  generalize ar c = d at *
  have e4 : ((c : Int) % 4) = 3 := by omega
  have IH := Lib.hid ih
  have HC := Lib.hid hc
  have HST := Lib.hid (LS.start 66 11 itemO w pos)
  obtain ⟨i0, hi, hz0, hz1, hz2⟩ := info_parts info66
  have HI := Lib.hid hi
  have HZ0 := Lib.hid hz0
  have HZ1 := Lib.hid hz1
  have HZ2 := Lib.hid hz2
  clear hcell hc h0 ih hi hz0 hz1 hz2
  go_enter Try.func7, Try.ntmps7
  go_wp2
  go_loopw [8, 13, 14] (fun s8 s9 s10 wr => ∃ (k next : Nat) (kids : List (Bd × List Nat)), k ≤ d ∧ s10 = .int .i64 k ∧ s8 = .int .i64 next ∧ pos + 1 ≤ next ∧ next ≤ n ∧ kids.length = k ∧ LS 66 11 itemO w wr pos kids s9 ∧
      kidsF (goF code n f) n d (pos + 1) = (kids.flatMap (·.2) ++ (kidsF (goF code n f) n (d - k) next).1, (kidsF (goF code n f) n (d - k) next).2)) (fun _ _ s10 _ => d - (intOf s10).toNat)
  case atStart => exact ⟨0, pos + 1, [], Nat.zero_le _, rfl, by go_num, Nat.le_refl _, by omega, rfl, HST.out, by simp⟩
  case round =>
    clear HST e4
    obtain ⟨k, next, kids, hk, rfl, rfl, hn1, hn2, hkl, hls, hrest⟩ := hrel
    have HLS := Lib.hid hls
    have HREST := Lib.hid hrest
    have HKL := Lib.hid hkl
    clear hls hrest hkl
    by_cases hgo : k < d ∧ next < n
    · obtain ⟨hkd, hnn⟩ := hgo
      have HN := Lib.hid (HND.out next hnn (by omega))
      have HK : Hid (kidsF (goF code n f) n (d - k) next = ((goF code n f next).1 ++ (kidsF (goF code n f) n (d - (k + 1)) (goF code n f next).2).1, (kidsF (goF code n f) n (d - (k + 1)) (goF code n f next).2).2)) := by
        show _ = _
        rw [show d - k = (d - (k + 1)) + 1 by omega]
        conv => lhs; unfold kidsF
        rw [if_pos hnn]
      have hng := HN.out.gt
      have hnl := HN.out.le
      have HC2 := Lib.hid (HC.out.below HLS.out.below)
      obtain ⟨p9, c9, hv9⟩ := own_form HLS.out.own
      have HIC := Lib.hid (IH.out next wr HC2.out hnn (by omega))
      unfold BuiltB at HIC
      generalize hgn : goF code n f next = gn at *
      obtain ⟨ln, after⟩ := gn
      dsimp only at hng hnl
      have HGN := Lib.hid hgn
      clear hgn
      subst hv9
      have hkk : kids.length ≤ 3 := by rw [HKL.out]; omega
      go_wp2_with (first
        | (go_at_call 14; (with_reducible refine (HAR.out wr).mono ?_); rintro _ _ ⟨rfl, rfl⟩)
        | (go_at_call 7; (with_reducible refine HIC.out.mono ?_); rintro _ w1 ⟨T, q, rfl, htr, hb1⟩; have HTR := Lib.hid htr; have HB1 := Lib.hid hb1; have HL1 := Lib.hid (HLS.out.later hb1); clear htr hb1)
        | (refine wpList_append_lies ((w1.alloc (.cells #[.iface T q, .int .i32 (next : Int)] 30)).alloc (.cells (itemO ⟨T, q, next⟩).toArray 66)) rfl (.tmp 46) (.tmp 51) 64 rfl w.heap.size 66 i0 (.agg #[.nilIface, .int .i32 0, .nilIface, .int .i32 0, .nilIface, .int .i32 0, .int .i32 0, .int .i32 0, .bool false, .bool false, .bool false]) 11 88 Try.underlying64 HI.out HZ0.out HZ1.out HZ2.out rfl (by decide) (.slice p9 kids.length c9) kids.length (kids.flatMap fun k => itemO k.1) rfl ((HL1.out.own.alloc _).alloc _) ⟨w1.heap.size + 1, 0, none⟩ 1 1 (itemO ⟨T, q, next⟩) rfl rfl (newsI w1 _ 66 (itemO ⟨T, q, next⟩)) (one3 ⟨T, q, next⟩) (by decide) (by unfold maxLen; omega) (by omega) (by have := HLS.out.below.size; have := HB1.out.size; simp; omega) (w1.heap.size + 1 + 1) (by simp) ?_; intro g cap' w4 hown hgr hat hlt4; have HNX := Lib.hid (HLS.out.step HB1.out HTR.out (.inr rfl) hown hgr hat); clear hown hgr hat))
      refine ⟨⟨k + 1, after, _, by omega, by go_num, rfl, by omega, by omega, by simp [HKL.out], HNX.out, ?_⟩, by simp [intOf]; omega⟩
      have e1 := HREST.out
      rw [HK.out] at e1
      rw [e1]
      simp
    · have HX : Hid ((goF code n (f + 1) pos).1 = kids.flatMap (·.2) ∧ (goF code n (f + 1) pos).2 = next) := by
        have e1 := HREST.out
        have e2 : kidsF (goF code n f) n (d - k) next = ([], next) := by
          cases hd : d - k with
          | zero => rfl
          | succ m => unfold kidsF; rw [if_neg (by omega)]
        rw [e2] at e1
        show _ ∧ _
        rw [HG.out, e1]
        exact ⟨by simp, rfl⟩
      obtain ⟨p9, c9, hv9⟩ := own_form HLS.out.own
      subst hv9
      have r0 : wr.cell? ⟨w.heap.size, 0, none⟩ = some .nilIface := HLS.out.res.cell 0
      have r1 : wr.cell? ⟨w.heap.size, 1, none⟩ = some (.int .i32 0) := HLS.out.res.cell 1
      have f0 := HLS.out.res.free 0
      have f1 := HLS.out.res.free 1
      have lc : wr.cell? ⟨w.heap.size + 1, 0, none⟩ = some (.int .i32 (pos : Int)) := HLS.out.loc.cell 0
      have lr := HLS.out.res.lt
      have ll := HLS.out.loc.lt
      have HB0 : Hid (Below w.heap.size w (((wr.setCell ⟨w.heap.size, 0, none⟩ (.iface 67 (.pointer (some ⟨wr.heap.size, 0, none⟩)))).setCell ⟨w.heap.size, 1, none⟩ (.int .i32 (pos : Int))).alloc (.cells #[.slice p9 kids.length c9, .int .i32 0, .bool false] 69))) := ((HLS.out.below.setCell (Nat.le_refl _) _).setCell (Nat.le_refl _) _).alloc (by simpa using HLS.out.below.size) _
      by_cases hkd : k < d
      · have hnn : ¬ next < n := fun q => hgo ⟨hkd, q⟩
        clear hgo
        go_wp2_with (first | (go_at_call 14; (with_reducible refine (HAR.out wr).mono ?_); rintro _ _ ⟨rfl, rfl⟩))
        refine bodyPost_ret (v := .tuple #[.agg #[.iface 67 (.pointer (some ⟨wr.heap.size, 0, none⟩)), .int .i32 (pos : Int)], .int .i64 (next : Int)]) (by simp [results, Try.results7, go_sem, World.cell?_alloc_past, World.cell?_setCell_other, World.cell?_setCell_same _ _ _ r0, World.cell?_setCell_same _ _ _ r1, r0, r1, lr]; try rfl) rfl ⟨67, .pointer (some ⟨wr.heap.size, 0, none⟩), by rw [HX.out.2], by rw [HX.out.1]; exact HLS.out.finish3 (by rw [HKL.out]; omega), HB0.out⟩
      · clear hgo
        go_wp2_with (first | (go_at_call 14; (with_reducible refine (HAR.out wr).mono ?_); rintro _ _ ⟨rfl, rfl⟩))
        refine bodyPost_ret (v := .tuple #[.agg #[.iface 67 (.pointer (some ⟨wr.heap.size, 0, none⟩)), .int .i32 (pos : Int)], .int .i64 (next : Int)]) (by simp [results, Try.results7, go_sem, World.cell?_alloc_past, World.cell?_setCell_other, World.cell?_setCell_same _ _ _ r0, World.cell?_setCell_same _ _ _ r1, r0, r1, lr]; try rfl) rfl ⟨67, .pointer (some ⟨wr.heap.size, 0, none⟩), by rw [HX.out.2], by rw [HX.out.1]; exact HLS.out.finish3 (by rw [HKL.out]; omega), HB0.out⟩
theorem build (code : Nat → Nat) (n : Nat) (a : Option Addr) (cap : Nat) (hn : n ≤ 65536) : ∀ f, BuildOk code n a cap f
  | 0 => fun pos w hc hp hf => by omega
  | f + 1 => fun pos w hc hp hf => by
    have h4 : code pos % 4 = 0 ∨ code pos % 4 = 1 ∨ code pos % 4 = 2 ∨ code pos % 4 = 3 := by omega
    rcases h4 with h | h | h | h
    · exact build0 code n a cap f hn pos w hc hp h
    · exact build1 code n a cap f hn pos w hc hp h
    · exact build2 code n a cap f hn (build code n a cap hn f) pos w hc hp hf h
    · exact build3 code n a cap f hn (build code n a cap hn f) pos w hc hp hf h
end Go.Proofs.Ytnflgpcbdjkpfaa
