/-
  What the law FnStringArraysEqualIsEquivalenceAndLengthSensitive does, for every input. No condition.
-/
import Derived.Test.YtakokgjbffielaaStrs
import Derived.ArgAppend
import Derived.Laws.OwnMore
namespace Go.Proofs.Ytakokgjbffielaa.fnStringArraysEqualIsEquivalenceAndLengthSensitive
open Go.ChangeShapes Go.WideShapes Go.ChangeAt Go.RowKit
set_option linter.unusedVariables false

theorem arraysSame (a b : Option Addr) (la ca lb cb : Nat) (za : List ByteArray) (w : World) (ha : IsStrs w a la ca za) (hb : IsStrs w b lb cb za) (hla : la ≤ 4194304) (hlb : lb ≤ 4194304) :
    Calls Try.prog 25 #[.slice a la ca, .slice b lb cb] w fun e w' => e = .returned (.bool true) ∧ w = w' :=
  (arraysEq a b la ca lb cb za za w ha hb hla hlb).mono fun _ _ q => ⟨by rw [q.1, decide_eq_true rfl], q.2.symm⟩
theorem arraysDiff (a b : Option Addr) (la ca lb cb : Nat) (za zb : List ByteArray) (w : World) (ha : IsStrs w a la ca za) (hb : IsStrs w b lb cb zb) (hla : la ≤ 4194304) (hlb : lb ≤ 4194304) (hn : la ≠ lb) :
    Calls Try.prog 25 #[.slice a la ca, .slice b lb cb] w fun e w' => e = .returned (.bool false) ∧ w = w' :=
  (arraysEq a b la ca lb cb za zb w ha hb hla hlb).mono fun _ _ q => ⟨by rw [q.1, decide_eq_false (fun q => hn (by rw [← ha.len, ← hb.len, q]))], q.2.symm⟩
theorem arraysD (a b : Option Addr) (la ca lb cb : Nat) (za zb : List ByteArray) (w : World) (d : Bool) (hd : decide (za = zb) = d) (ha : IsStrs w a la ca za) (hb : IsStrs w b lb cb zb) (hla : la ≤ 4194304) (hlb : lb ≤ 4194304) :
    Calls Try.prog 25 #[.slice a la ca, .slice b lb cb] w fun e w' => e = .returned (.bool d) ∧ w = w' :=
  (arraysEq a b la ca lb cb za zb w ha hb hla hlb).mono fun _ _ q => ⟨by rw [q.1, hd], q.2.symm⟩
theorem strB (a : Option Addr) (len cap : Nat) (zs : List ByteArray) (w : World) (h : IsStrs w a len cap zs) (hl : len ≤ 1048576) :
    Calls Try.prog 23 #[.slice a len cap] w fun e w' => (∃ n : Nat, e = .returned (.int .i64 n) ∧ n ≤ 1048577) ∧ w = w' := (strBytes a len cap zs w h hl).mono fun _ _ q => ⟨q.1, q.2.symm⟩
theorem nilStrs (w : World) : IsStrs w none 0 0 [] := ⟨⟨rfl, Nat.le_refl _, Nat.zero_le _, fun _ => rfl, fun h => absurd h (by omega)⟩, by simp⟩
theorem emptyStrs (w : World) (a : Addr) : IsStrs w (some a) 0 0 [] := ⟨⟨rfl, Nat.le_refl _, Nat.zero_le _, by simp, fun h => absurd h (by omega)⟩, by simp⟩
theorem ofOwns {w w' : World} {v : Value} {n : Nat} {zs : List ByteArray} (h : w'.ownsRow w.heap.size 9 1 v (n + 1) (zs.map Value.string)) (hz : ∀ s ∈ zs, s.size ≤ maxLen) :
    ∃ g cap, v = .slice (some ⟨g, 0, none⟩) (n + 1) cap ∧ IsStrs w' (some ⟨g, 0, none⟩) (n + 1) cap zs := by
  have h0 := h
  obtain ⟨hl, h | ⟨g, cap, cur, rfl, hg, hh, hn, hm, hs, ht⟩⟩ := h
  · omega
  · refine ⟨g, cap, rfl, ⟨by simpa using hl, hn, hm, by simp, fun _ => ⟨g, 0, rfl, ?_, fun i hi => ?_⟩⟩, hz⟩
    · false_or_by_contra
      rename_i hb
      rw [Array.getElem?_eq_none (Nat.le_of_not_lt hb)] at hh
      cases hh
    · have hi2 : i < (zs.map Value.string).length := by omega
      rw [Nat.zero_add, h0.cellAt i (by omega), List.getD_eq_getElem?_getD, List.getElem?_eq_getElem hi2]
      rfl
theorem strsHead {w : World} {a : Option Addr} {len cap : Nat} {zs : List ByteArray} (h : IsStrs w a len cap zs) : len = 0 ∨ ∃ b o x, a = some ⟨b, o, none⟩ ∧ x.size ≤ maxLen ∧ b < w.heap.size ∧ w.cell? ⟨b, o, none⟩ = some (.string x) := by
  by_cases h0 : len = 0
  · exact .inl h0
  · obtain ⟨b, o, e, hb, hc⟩ := h.at (by omega)
    exact .inr ⟨b, o, zs.getD 0 ByteArray.empty, e, h.small 0, hb, hc 0 (by omega)⟩
theorem strsHolds {w : World} {a : Option Addr} {len cap : Nat} {zs : List ByteArray} (h : IsStrs w a len cap zs) : ∀ b, a = some b → ∀ j u, (zs.map Value.string)[j]? = some u → w.cell? (b.add j) = some u := by
  rintro b rfl j u hj
  have hj2 : j < zs.length := by
    false_or_by_contra
    rename_i q
    rw [List.getElem?_eq_none (by simp; omega)] at hj
    cases hj
  have hl := h.len
  obtain ⟨b', o, e, hb, hc⟩ := h.at (by omega)
  cases e
  rw [Addr.add_lit, hc j (by omega)]
  simp [List.getElem?_map, List.getElem?_eq_getElem hj2] at hj
  rw [← hj, List.getD_eq_getElem?_getD, List.getElem?_eq_getElem hj2]; rfl
theorem oneCellAt (w : World) (v : Value) : ∀ j u, [v][j]? = some u → (w.alloc (.cells #[v] 9)).cell? ((⟨w.heap.size, 0, none⟩ : Addr).add j) = some u := by
  intro j u hj
  have : j = 0 := by
    false_or_by_contra
    rename_i q
    rw [List.getElem?_eq_none (by simp; omega)] at hj
    cases hj
  subst this
  simp at hj
  subst hj
  rw [Addr.add_lit]
  simp [go_sem]
theorem appFacts {W w' : World} {v' : Value} {n : Nat} {zs : List ByteArray} {x : ByteArray} (hown : w'.ownsRow W.heap.size 9 1 v' (n + 1) (zs.map Value.string ++ [.string x])) (hgr : W.grownBy w' none) (hz : ∀ s ∈ zs, s.size ≤ maxLen) (hx : x.size ≤ maxLen) :
    (∃ g cap, v' = .slice (some ⟨g, 0, none⟩) (n + 1) cap ∧ IsStrs w' (some ⟨g, 0, none⟩) (n + 1) cap (zs ++ [x])) ∧ Below W.heap.size W w' := by
  refine ⟨ofOwns (w := W) (zs := zs ++ [x]) (by simpa using hown) (fun s hs => ?_), (Below.refl _ _).grown hgr (Nat.le_refl _) (by simp)⟩
  rcases List.mem_append.1 hs with q | q
  · exact hz s q
  · rw [List.mem_singleton.1 q]; exact hx
theorem info9 : (Try.prog.info? 9).map (fun i => (i.zero, i.size, i.bytes)) = some (some (Value.string ByteArray.empty), 1, 16) := by kernel_rfl

set_option maxRecDepth 100000 in
set_option maxHeartbeats 2000000 in
theorem bytes (a0 : Option Addr) (len0 cap0 : Nat) (z0 : List ByteArray) (a1 : Option Addr) (len1 cap1 : Nat) (z1 : List ByteArray) (w : World) (w0 : IsStrs w a0 len0 cap0 z0) (w1 : IsStrs w a1 len1 cap1 z1) :
    Calls Try.prog 22 #[.slice a0 len0 cap0, .slice a1 len1 cap1] w fun e w' => (e = .returned (.bool false) ∧ w = w') ∨ (e = .returned (.bool true) ∧ w = w' ∧ len0 ≤ 1048576 ∧ len1 ≤ 1048576) := by
  have m0 : len0 ≤ 9223372036854775807 := by have := w0.1.2.1; have := w0.1.2.2.1; unfold maxLen at this; omega
  have m1 : len1 ≤ 9223372036854775807 := by have := w1.1.2.1; have := w1.1.2.2.1; unfold maxLen at this; omega
  have W0 := Lib.hid w0
  have W1 := Lib.hid w1
  clear w0 w1
  by_cases h0 : len0 ≤ 1048576
  · go_enter Try.func22, Try.ntmps22
    go_wp2
    go_loopw [5, 6] (fun t i wr => w = wr ∧ ∃ k n : Nat, k ≤ len0 ∧ i = .int .i64 k ∧ t = .int .i64 n ∧ n ≤ 1048576) (fun _ i _ => len0 - (intOf i).toNat)
    case atStart => exact ⟨by trivial, 0, len0, Nat.zero_le _, rfl, rfl, by omega⟩
    case round =>
      obtain ⟨rfl, k, n, hk, rfl, rfl, hn⟩ := hrel
      by_cases hlt : k < len0
      · obtain ⟨b, off, rfl, hb, hcell⟩ := W0.out.at (by omega)
        have hcur := hcell k hlt
        have hsm := W0.out.small k
        generalize z0.getD k ByteArray.empty = x at *
        clear hcell
        by_cases hx : x.size ≤ 1048576
        · by_cases hx2 : n + x.size ≤ 1048576
          · go_wp2
            exact ⟨⟨by trivial, k + 1, n + x.size, by omega, by go_num, by go_num, hx2⟩, by simp [intOf]; omega⟩
          · go_wp2
            go_ret
            exact .inl ⟨rfl, rfl⟩
        · go_wp2
          go_ret
          exact .inl ⟨rfl, rfl⟩
      · have : k = len0 := by omega
        subst this
        by_cases h1 : len1 ≤ 1048576
        · by_cases h2 : n + len1 ≤ 1048576
          · go_wp2
            go_loopw [5, 7] (fun t i wr => w = wr ∧ ∃ k n : Nat, k ≤ len1 ∧ i = .int .i64 k ∧ t = .int .i64 n ∧ n ≤ 1048576) (fun _ i _ => len1 - (intOf i).toNat)
            case atStart => exact ⟨by trivial, 0, n + len1, Nat.zero_le _, rfl, by go_num, by omega⟩
            case round =>
              obtain ⟨rfl, j, m, hj, rfl, rfl, hm⟩ := hrel
              by_cases hlt2 : j < len1
              · obtain ⟨b, off, rfl, hb, hcell⟩ := W1.out.at (by omega)
                have hcur := hcell j hlt2
                have hsm := W1.out.small j
                generalize z1.getD j ByteArray.empty = x at *
                clear hcell
                by_cases hx : x.size ≤ 1048576
                · by_cases hx2 : m + x.size ≤ 1048576
                  · go_wp2
                    exact ⟨⟨by trivial, j + 1, m + x.size, by omega, by go_num, by go_num, hx2⟩, by simp [intOf]; omega⟩
                  · go_wp2
                    go_ret
                    exact .inl ⟨rfl, rfl⟩
                · go_wp2
                  go_ret
                  exact .inl ⟨rfl, rfl⟩
              · have : j = len1 := by omega
                subst this
                go_wp2
                go_ret
                exact .inr ⟨rfl, rfl, h0, h1⟩
          · go_wp2
            go_ret
            exact .inl ⟨rfl, rfl⟩
        · go_wp2
          go_ret
          exact .inl ⟨rfl, rfl⟩
  · go_enter Try.func22, Try.ntmps22
    go_wp2
    go_ret
    exact .inl ⟨rfl, rfl⟩
set_option maxRecDepth 100000 in
set_option maxHeartbeats 4000000 in
theorem walk (a0 : Option Addr) (len0 cap0 : Nat) (z0 : List ByteArray) (a1 : Option Addr) (len1 cap1 : Nat) (z1 : List ByteArray) (w : World) (w0 : IsStrs w a0 len0 cap0 z0) (w1 : IsStrs w a1 len1 cap1 z1) :
    Calls Try.prog 5 #[.slice a0 len0 cap0, .slice a1 len1 cap1] w fun e w' => e = .returned (.bool true) ∧ Below w.heap.size w w' := by
  obtain ⟨d, hd1, hd2⟩ : ∃ d : Bool, decide (z0 = z1) = d ∧ decide (z1 = z0) = d := ⟨decide (z0 = z1), rfl, by
    by_cases h : z0 = z1
    · subst h; simp
    · have h' : ¬ z1 = z0 := fun q => h q.symm
      simp [h, h']⟩
  have D1 := Lib.hid hd1
  have D2 := Lib.hid hd2
  clear hd1 hd2
  go_enter Try.func5, Try.ntmps5
  obtain ⟨i0, hi, hz0, hz1, hz2⟩ := info_parts info9
  have HI := Lib.hid hi
  have HZ0 := Lib.hid hz0
  have HZ1 := Lib.hid hz1
  have HZ2 := Lib.hid hz2
  clear hi hz0 hz1 hz2
  go_wp2_with (first
    | (go_at_call 22; (with_reducible refine (bytes a0 len0 cap0 z0 a1 len1 cap1 z1 w w0 w1).mono ?_); rintro _ _ (⟨rfl, rfl⟩ | ⟨rfl, rfl, hb0, hb1⟩))
    | (go_at_call 23; (with_reducible refine (strB a0 len0 cap0 z0 w w0 hb0).mono ?_); rintro _ _ ⟨⟨n0, rfl, hn0⟩, rfl⟩)
    | (go_at_call 23; (with_reducible refine (strB a1 len1 cap1 z1 w w1 hb1).mono ?_); rintro _ _ ⟨⟨n1, rfl, hn1⟩, rfl⟩)
    | (go_at_call 24; (with_reducible refine (cloneStrs a0 len0 cap0 z0 w w0 (by omega)).mono ?_); rintro _ wa ⟨a2, rfl, hA, _, hwa⟩; have w1' := w1.below hwa)
    | (go_at_call 24; (with_reducible refine (cloneStrs a1 len1 cap1 z1 wa w1' (by omega)).mono ?_); rintro _ wb ⟨a3, rfl, hB, _, hwb⟩; have hA2 := hA.below hwb; rcases strsHead hB with rfl | ⟨b3, o3, x3, rfl, hx3, hb3, hc3⟩)
    | (go_at_call 25; (with_reducible refine (arraysD a2 _ len0 len0 _ _ z0 z1 wb d D1.out hA2 hB (by omega) (by omega)).mono ?_); rintro _ _ ⟨rfl, rfl⟩)
    | (go_at_call 25; (with_reducible refine (arraysD _ a2 _ _ len0 len0 z1 z0 wb d D2.out hB hA2 (by omega) (by omega)).mono ?_); rintro _ _ ⟨rfl, rfl⟩)
    | (go_at_call 25; (with_reducible refine (arraysSame a2 a2 len0 len0 len0 len0 z0 wb hA2 hA2 (by omega) (by omega)).mono ?_); rintro _ _ ⟨rfl, rfl⟩)
    | (go_at_call 24; (with_reducible refine (cloneStrs a2 len0 len0 z0 wb hA2 (by omega)).mono ?_); rintro _ wc ⟨a4, rfl, hC, _, hwc⟩; have hA3 := hA2.below hwc; have hB3 := hB.below hwc; try (have hc4 := (hwc.cell (p := ⟨b3, o3, none⟩) hb3).trans hc3))
    | (go_at_call 25; (with_reducible refine (arraysSame a2 a4 len0 len0 len0 len0 z0 wc hA3 hC (by omega) (by omega)).mono ?_); rintro _ _ ⟨rfl, rfl⟩)
    | (go_at_call 25; (with_reducible refine (arraysSame a4 a2 len0 len0 len0 len0 z0 wc hC hA3 (by omega) (by omega)).mono ?_); rintro _ _ ⟨rfl, rfl⟩)
    | (go_at_call 24; (with_reducible refine (cloneStrs a2 len0 len0 z0 wc hA3 (by omega)).mono ?_); rintro _ wd ⟨a5, rfl, hE, hnn, hwd⟩; have hA4 := hA3.below hwd)
    | (refine wpList_append_grows _ rfl (.tmp 52) (.tmp 54) 22 rfl 9 i0 (.string ByteArray.empty) 1 16 Try.underlying22 HI.out HZ0.out HZ1.out HZ2.out rfl (by omega) a5 len0 len0 (z0.map Value.string) rfl (fun q => ⟨hE.1.2.2.2.1 q, hE.1.2.2.2.1 q⟩) (by rw [List.length_map, hE.len]; omega) (strsHolds (hE.below ((Below.refl _ _).alloc (Nat.le_refl _) _))) ⟨wd.heap.size, 0, none⟩ 1 1 [.string x3] rfl rfl (oneCellAt wd _) (by simp [Value.oneCell']) (by omega) (by unfold maxLen; omega) (by omega) ?_
       intro v' we hown hgr
       obtain ⟨⟨g, cap6, rfl, hL⟩, hwe⟩ := appFacts hown hgr hE.2 hx3
       have hA5 := (hA4.below ((Below.refl _ wd).alloc (Nat.le_refl _) _)).below hwe)
    | (refine wpList_append_grows _ rfl (.tmp 52) (.tmp 54) 22 rfl 9 i0 (.string ByteArray.empty) 1 16 Try.underlying22 HI.out HZ0.out HZ1.out HZ2.out rfl (by omega) a5 len0 len0 (z0.map Value.string) rfl (fun q => ⟨hE.1.2.2.2.1 q, hE.1.2.2.2.1 q⟩) (by rw [List.length_map, hE.len]; omega) (strsHolds (hE.below ((Below.refl _ _).alloc (Nat.le_refl _) _))) ⟨wd.heap.size, 0, none⟩ 1 1 [.string ⟨#[]⟩] rfl rfl (oneCellAt wd _) (by simp [Value.oneCell']) (by omega) (by unfold maxLen; omega) (by omega) ?_
       intro v' we hown hgr
       obtain ⟨⟨g, cap6, rfl, hL⟩, hwe⟩ := appFacts hown hgr hE.2 (Nat.zero_le _)
       have hA5 := (hA4.below ((Below.refl _ wd).alloc (Nat.le_refl _) _)).below hwe)
    | (go_at_call 25; (with_reducible refine (arraysDiff a2 _ len0 len0 (len0 + 1) cap6 z0 _ we hA5 hL (by omega) (by omega) (by omega)).mono ?_); rintro _ _ ⟨rfl, rfl⟩)
    | (go_at_call 25; (with_reducible refine (arraysDiff _ a2 (len0 + 1) cap6 len0 len0 _ z0 we hL hA5 (by omega) (by omega) (by omega)).mono ?_); rintro _ _ ⟨rfl, rfl⟩)
    | (go_at_call 25; (with_reducible refine (arraysSame none _ 0 0 0 0 [] _ (nilStrs _) (emptyStrs _ _) (by omega) (by omega)).mono ?_); rintro _ _ ⟨rfl, rfl⟩))
  all_goals first
    | (go_ret; exact ⟨rfl, Below.refl _ _⟩)
    | (go_ret
       refine ⟨rfl, ?_⟩
       have h1 := hwa.trans (hwb.mono hwa.size)
       have h2 := h1.trans (hwc.mono h1.size)
       have h3 := h2.trans (hwd.mono h2.size)
       have h4 := h3.alloc h3.size (.cells #[.string x3] 9)
       have h5 := h4.trans (hwe.mono h4.size)
       exact h5.alloc h5.size _)
    | (go_ret
       refine ⟨rfl, ?_⟩
       have h1 := hwa.trans (hwb.mono hwa.size)
       have h2 := h1.trans (hwc.mono h1.size)
       have h3 := h2.trans (hwd.mono h2.size)
       have h4 := h3.alloc h3.size (.cells #[.string ⟨#[]⟩] 9)
       have h5 := h4.trans (hwe.mono h4.size)
       exact h5.alloc h5.size _)
end Go.Proofs.Ytakokgjbffielaa.fnStringArraysEqualIsEquivalenceAndLengthSensitive
