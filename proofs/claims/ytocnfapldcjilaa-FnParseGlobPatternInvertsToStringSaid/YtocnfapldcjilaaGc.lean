/-
  Contracts of the copies and of globWellFormed. No condition.
-/
import Derived.Test.YtocnfapldcjilaaGs
namespace Go.Proofs.Ytocnfapldcjilaa
open Go.ChangeShapes Go.WideShapes Go.ChangeAt Go.RowKit
set_option linter.unusedVariables false

theorem cl7_info : (Try.prog.info? 9).map (fun i => (i.zero, i.size, i.bytes)) = some (some (Value.string ByteArray.empty), 1, 16) := by kernel_rfl
set_option maxRecDepth 100000 in
set_option maxHeartbeats 1000000 in
theorem cl7 (a : Option Addr) (len cap : Nat) (zs : List ByteArray) (w : World) (h : IsStrs w a len cap zs) (hl : len ≤ 4194304) :
    Calls Try.prog 7 #[.slice a len cap] w (Copied (fun w' a' l c => IsStrs w' a' l c zs) a len w) := by
  obtain ⟨i0, hi, hz0, hz1, hz2⟩ := info_parts cl7_info
  have hnil := fun (W : World) (p : Option Addr) (n c n' c' : Nat) => Lib.run_eql_slice_nil (P := Try.prog) W 22 9 p n c n' c' Try.underlying22
  obtain ⟨⟨h1, h2, hm, h4, h5⟩, hw⟩ := h
  rw [List.length_map] at h1
  cases a with
  | none =>
    obtain rfl : cap = 0 := h4 rfl
    obtain rfl : len = 0 := by omega
    obtain rfl : zs = [] := by simpa using h1
    clear h1 h2 hm h4 h5 hw
    go_enter Try.func7, Try.ntmps7
    go_wp2
    go_ret
    exact ⟨none, 0, rfl, ⟨⟨rfl, Nat.le_refl _, Nat.zero_le _, fun _ => rfl, fun h => absurd h (by omega)⟩, by simp⟩, Iff.rfl, Below.refl _ _⟩
  | some x =>
    have hmk : ∀ u : World, (Instr.makeSlice 22 (.int .i64 (len : Int)) (.int .i64 (len : Int))).run Try.prog u =
        .ok (.slice (some ⟨u.heap.size, 0, none⟩) len len) (u.alloc (.cells (madeCells (Value.string ByteArray.empty).cells len) 9)) := fun u => by
      have q := run_make (P := Try.prog) u 22 9 i0 (Value.string ByteArray.empty) Try.underlying22 hi hz0 .i64 .i64 (len : Int) (len : Int) (by omega) (Int.le_refl _) (by rw [hz2]; omega) (by omega)
      simpa [hz1] using q
    have S0 := Cl.start w len (Value.string ByteArray.empty) 9 (zs.map Value.string)
    have HS := Lib.hid h5
    have HM := Lib.hid hm
    have HL := Lib.hid h1
    have HW := Lib.hid hw
    clear h1 h4 h5 hm hi hz0 hz1 hz2 hw
    go_enter Try.func7, Try.ntmps7
    go_wp2
    go_loopw [4] (fun i wr => ∃ k : Nat, k ≤ len ∧ i = .int .i64 k ∧ Cl w wr len k (zs.map Value.string)) (fun i _ => len - (intOf i).toNat)
    case atStart => exact ⟨0, Nat.zero_le _, rfl, S0⟩
    case round =>
      clear S0 hmk hnil
      obtain ⟨k, hk, rfl, hc⟩ := hrel
      by_cases hlt : k < len
      · obtain ⟨b, off, e, hb, hcell⟩ := HS.out (by omega)
        cases e
        have hv := hcell k hlt
        rw [getD_map_str _ _ (by rw [HL.out]; exact hlt)] at hv
        have hcur : wr.cell? ⟨b, off + k, none⟩ = some (.string (zs.getD k ByteArray.empty)) := by rw [hc.below.cell (p := ⟨b, off + k, none⟩) hb]; exact hv
        obtain ⟨u, hu⟩ := hc.some k hlt
        have hf := hc.free k
        have hst := hc.step hlt (.string (zs.getD k ByteArray.empty)) (by rw [getD_map_str _ _ (by rw [HL.out]; exact hlt)])
        have HST := Lib.hid hst
        clear hst hcell hv hc HS
        go_wp2
        refine ⟨⟨k + 1, by omega, by go_num, ?_⟩, by simp [intOf]; omega⟩
        have q := HST.out
        rw [List.getD_eq_getElem?_getD] at q
        exact q
      · have : k = len := by omega
        subst this
        go_wp2
        go_ret
        have hs := hc.isSlice (by rw [List.length_map]; exact HL.out) (by have := HM.out; omega)
        exact ⟨_, _, rfl, ⟨hs, HW.out⟩, by simp, hc.below⟩
theorem cl8_info : (Try.prog.info? 5).map (fun i => (i.zero, i.size, i.bytes)) = some (some (Value.int .u8 0), 1, 1) := by kernel_rfl
set_option maxRecDepth 100000 in
set_option maxHeartbeats 1000000 in
theorem cl8 (a : Option Addr) (len cap : Nat) (zs : List Int) (w : World) (h : IsInts .u8 w a len cap zs) (hl : len ≤ 4194304) :
    Calls Try.prog 8 #[.slice a len cap] w (Copied (fun w' a' l c => IsInts .u8 w' a' l c zs) a len w) := by
  obtain ⟨i0, hi, hz0, hz1, hz2⟩ := info_parts cl8_info
  have hnil := fun (W : World) (p : Option Addr) (n c n' c' : Nat) => Lib.run_eql_slice_nil (P := Try.prog) W 23 5 p n c n' c' Try.underlying23
  obtain ⟨⟨h1, h2, hm, h4, h5⟩, hw⟩ := h
  rw [List.length_map] at h1
  cases a with
  | none =>
    obtain rfl : cap = 0 := h4 rfl
    obtain rfl : len = 0 := by omega
    obtain rfl : zs = [] := by simpa using h1
    clear h1 h2 hm h4 h5 hw
    go_enter Try.func8, Try.ntmps8
    go_wp2
    go_ret
    exact ⟨none, 0, rfl, ⟨⟨rfl, Nat.le_refl _, Nat.zero_le _, fun _ => rfl, fun h => absurd h (by omega)⟩, by simp⟩, Iff.rfl, Below.refl _ _⟩
  | some x =>
    have hmk : ∀ u : World, (Instr.makeSlice 23 (.int .i64 (len : Int)) (.int .i64 (len : Int))).run Try.prog u =
        .ok (.slice (some ⟨u.heap.size, 0, none⟩) len len) (u.alloc (.cells (madeCells (Value.int .u8 0).cells len) 5)) := fun u => by
      have q := run_make (P := Try.prog) u 23 5 i0 (Value.int .u8 0) Try.underlying23 hi hz0 .i64 .i64 (len : Int) (len : Int) (by omega) (Int.le_refl _) (by rw [hz2]; omega) (by omega)
      simpa [hz1] using q
    have S0 := Cl.start w len (Value.int .u8 0) 5 (zs.map (Value.int .u8))
    have HS := Lib.hid h5
    have HM := Lib.hid hm
    have HL := Lib.hid h1
    have HW := Lib.hid hw
    clear h1 h4 h5 hm hi hz0 hz1 hz2 hw
    go_enter Try.func8, Try.ntmps8
    go_wp2
    go_loopw [4] (fun i wr => ∃ k : Nat, k ≤ len ∧ i = .int .i64 k ∧ Cl w wr len k (zs.map (Value.int .u8))) (fun i _ => len - (intOf i).toNat)
    case atStart => exact ⟨0, Nat.zero_le _, rfl, S0⟩
    case round =>
      clear S0 hmk hnil
      obtain ⟨k, hk, rfl, hc⟩ := hrel
      by_cases hlt : k < len
      · obtain ⟨b, off, e, hb, hcell⟩ := HS.out (by omega)
        cases e
        have hv := hcell k hlt
        rw [getD_map_int _ _ _ (by rw [HL.out]; exact hlt)] at hv
        have hcur : wr.cell? ⟨b, off + k, none⟩ = some (.int .u8 (zs.getD k 0)) := by rw [hc.below.cell (p := ⟨b, off + k, none⟩) hb]; exact hv
        obtain ⟨u, hu⟩ := hc.some k hlt
        have hf := hc.free k
        have hst := hc.step hlt (.int .u8 (zs.getD k 0)) (by rw [getD_map_int _ _ _ (by rw [HL.out]; exact hlt)])
        have HST := Lib.hid hst
        clear hst hcell hv hc HS
        go_wp2
        refine ⟨⟨k + 1, by omega, by go_num, ?_⟩, by simp [intOf]; omega⟩
        have q := HST.out
        rw [List.getD_eq_getElem?_getD] at q
        exact q
      · have : k = len := by omega
        subst this
        go_wp2
        go_ret
        have hs := hc.isSlice (by rw [List.length_map]; exact HL.out) (by have := HM.out; omega)
        exact ⟨_, _, rfl, ⟨hs, HW.out⟩, by simp, hc.below⟩
/-- The i-th prefix, the i-th wildcard. -/
def Pf (zs : List ByteArray) (i : Nat) : ByteArray := zs.getD i ByteArray.empty
def Wd (cs : List Int) (i : Nat) : Int := cs.getD i 0
def Sl (b : Nat) : Prop := b = 47 ∨ b = 92
structure Good (zs : List ByteArray) (cs : List Int) (n i : Nat) : Prop where
  star : ∀ k, k < (Pf zs i).size → B (Pf zs i) k ≠ 42
  wild : i + 1 < n → Wd cs i = 1 ∨ Wd cs i = 2
  ne : i + 1 < n → 1 ≤ i → 0 < (Pf zs i).size
  pre : i + 1 < n → Wd cs i = 2 → 0 < (Pf zs i).size → Sl (B (Pf zs i) ((Pf zs i).size - 1))
  nxt : i + 1 < n → Wd cs i = 2 → 0 < (Pf zs (i + 1)).size → Sl (B (Pf zs (i + 1)) 0)
def Wf (zs : List ByteArray) (cs : List Int) (n : Nat) : Prop := 0 < n ∧ ∀ i, i < n → Good zs cs n i
theorem Wf.more {zs : List ByteArray} {cs : List Int} {n k : Nat} (h : ∀ i, i < k → Good zs cs n i) (g : Good zs cs n k) : ∀ i, i < k + 1 → Good zs cs n i := fun i hi => by
  by_cases e : i = k
  · subst e; exact g
  · exact h i (by omega)
/-- What the test says. -/
def WPost (zs : List ByteArray) (cs : List Int) (n : Nat) (w : World) (e : Ending) (w' : World) : Prop := (∃ v : Bool, e = .returned (.bool v) ∧ (v = true → Wf zs cs n)) ∧ w' = w
theorem size_zero {x : ByteArray} (h : ¬ 0 < x.size) : x = ⟨#[]⟩ := ba_ext (by
  have : x.data.toList.length = 0 := by rw [len_tl]; omega
  rw [List.eq_nil_of_length_eq_zero this])
theorem empty_t {x : ByteArray} (h : ¬ 0 < x.size) : x.toList.isEmpty = true := by rw [size_zero h, tl]; rfl
theorem empty_f {x : ByteArray} (h : 0 < x.size) : x.toList.isEmpty = false := by
  have : x.toList ≠ [] := fun e => by
    have := congrArg List.length e
    rw [tl, len_tl] at this
    simp only [List.length_nil] at this; omega
  simpa using this
set_option maxRecDepth 100000 in
set_option maxHeartbeats 4000000 in
theorem well10 (a c : Option Addr) (len cap len2 cap2 n : Nat) (zs : List ByteArray) (cs : List Int) (w : World) (h : IsStrs w a len cap zs) (h2 : IsInts .u8 w c len2 cap2 cs) (hn : n ≤ len) (hn2 : n ≤ len2) (hl : n ≤ 65536) :
    Calls Try.prog 10 #[.slice a len cap, .slice c len2 cap2, .int .i64 n] w (WPost zs cs n w) := by
  have HH := Lib.hid h
  have HC := Lib.hid h2
  clear h h2
  by_cases hn0 : n = 0
  · subst hn0
    go_enter Try.func10, Try.ntmps10
    go_wp2
    go_ret
    exact ⟨⟨false, rfl, by simp⟩, rfl⟩
  · have c0 : ((n : Int) == 0) = false := by simp; omega
    go_enter Try.func10, Try.ntmps10
    go_wp2
    clear c0
    go_loopw [7] (fun i wr => w = wr ∧ ∃ k : Nat, k ≤ n ∧ i = .int .i64 k ∧ Hid (∀ j, j < k → Good zs cs n j)) (fun i _ => n - (intOf i).toNat)
    case atStart => exact ⟨by trivial, 0, Nat.zero_le _, rfl, fun j hj => absurd hj (by omega)⟩
    case round =>
      obtain ⟨rfl, k, hk, rfl, HG⟩ := hrel
      by_cases hlt : k < n
      · obtain ⟨b, off, rfl, hb, hcell⟩ := HH.out.at (by omega)
        have hcur := hcell k (by omega)
        have hsm := HH.out.small k
        obtain ⟨x, hx⟩ : ∃ x, x = Pf zs k := ⟨_, rfl⟩
        unfold Pf at hx
        rw [← hx] at hcur hsm
        have HX := Lib.hid hx
        have HS := Lib.hid hcell
        clear hcell hx
        go_wp2
        go_loop [9] (fun j => ∃ q : Nat, j = .int .i64 q ∧ q ≤ x.size ∧ Hid (∀ r, r < q → B x r ≠ 42)) (fun j => x.size - (intOf j).toNat)
        case atStart => exact ⟨0, rfl, Nat.zero_le _, fun r hr => absurd hr (by omega)⟩
        case round =>
          obtain ⟨q, rfl, hq, HR⟩ := hrel
          by_cases hqx : q < x.size
          · have hat := B_at x q hqx
            have HX2 : B x q ≠ 42 → Hid (∀ r, r < q + 1 → B x r ≠ 42) := fun hh r hr => by
              by_cases e : r = q
              · subst e; exact hh
              · exact HR.out r (by omega)
            generalize B x q = v at *
            by_cases hv : v = 42
            · subst hv
              go_wp2
              go_ret
              exact ⟨⟨false, rfl, by simp⟩, rfl⟩
            · have c1 : ((v : Int) == 42) = false := by simp; omega
              have HX3 := HX2 hv
              clear HX2 HR hv
              go_wp2
              go_round
              case rel => exact ⟨q + 1, by go_num, by omega, HX3⟩
              case measure => simp [intOf]; omega
          · obtain rfl : q = x.size := by omega
            have HSt : Hid (∀ r, r < (Pf zs k).size → B (Pf zs k) r ≠ 42) := by
              unfold Pf; rw [← HX.out]; exact HR.out
            clear hqx HR
            by_cases hlast : k + 1 = n
            · have HGo : Hid (∀ j, j < n → Good zs cs n j) := by
                rw [← hlast]
                exact Wf.more (by rw [hlast]; exact HG.out) ⟨HSt.out, fun h => absurd h (by omega), fun h => absurd h (by omega), fun h => absurd h (by omega), fun h => absurd h (by omega)⟩
              have c2 : ((k : Int) == (n : Int) - 1) = true := by simp; omega
              clear HG HSt
              go_wp2
              go_ret
              exact ⟨⟨true, rfl, fun _ => ⟨by omega, HGo.out⟩⟩, rfl⟩
            · have hk1 : k + 1 < n := by omega
              have c2 : ((k : Int) == (n : Int) - 1) = false := by simp; omega
              obtain ⟨b2, off2, rfl, hb2, hcell2⟩ := HC.out.at (by omega)
              have hcur2 := hcell2 k (by omega)
              have hwf := HC.out.wf k (by omega)
              obtain ⟨y, hy⟩ : ∃ y, y = Wd cs k := ⟨_, rfl⟩
              unfold Wd at hy
              rw [← hy] at hcur2 hwf
              obtain ⟨v, rfl, hv8⟩ := nat_u8 hwf
              have HY : Hid (Wd cs k = (v : Int)) := by unfold Wd; exact hy.symm
              have HXp : Hid (Pf zs k = x) := by unfold Pf; exact HX.out.symm
              clear hcell2 hy hwf HX
              by_cases hv : v = 1 ∨ v = 2
              · by_cases hne : 1 ≤ k ∧ x.size = 0
                · obtain ⟨h1k, hx0⟩ := hne
                  have e0 := empty_t (x := x) (by omega)
                  rcases hv with rfl | rfl
                  · go_wp2
                    go_ret
                    exact ⟨⟨false, rfl, by simp⟩, rfl⟩
                  · go_wp2
                    go_ret
                    exact ⟨⟨false, rfl, by simp⟩, rfl⟩
                · have HNe : Hid (1 ≤ k → 0 < x.size) := fun h1 => by omega
                  by_cases hv1 : v = 1
                  · subst hv1
                    have HZ : Hid (∀ i, i < k + 1 → Good zs cs n i) := Wf.more HG.out ⟨HSt.out, fun _ => .inl HY.out, fun _ h1 => by rw [HXp.out]; exact HNe.out h1, fun _ h => (by rw [HY.out] at h; exact absurd h (by decide)), fun _ h => (by rw [HY.out] at h; exact absurd h (by decide))⟩
                    clear HG HSt HY HXp
                    by_cases hk0 : 1 ≤ k
                    · have ex := empty_f (HNe.out hk0)
                      clear hne HNe
                      go_wp2
                      exact ⟨⟨by trivial, k + 1, by omega, by go_num, HZ⟩, by simp [intOf]; omega⟩
                    · clear hne HNe
                      go_wp2
                      exact ⟨⟨by trivial, k + 1, by omega, by go_num, HZ⟩, by simp [intOf]; omega⟩
                  · obtain rfl : v = 2 := by omega
                    clear hv hv1
                    by_cases hx0 : 0 < x.size
                    · have ex := empty_f hx0
                      clear hne
                      obtain ⟨m, hm⟩ : ∃ m, x.size = m + 1 := ⟨x.size - 1, by omega⟩
                      have hat := B_at x m (by omega)
                      have HPr : Hid (Sl (B x m) → (0 < x.size → Sl (B x (x.size - 1)))) := fun q _ => by rw [hm]; exact q
                      generalize B x m = v at *
                      by_cases hs : v = 47 ∨ v = 92
                      · have HPre := Lib.hid (HPr.out hs)
                        have hd1 : isSl v = true := decide_eq_true hs
                        clear HPr hs
                        have hcur3 := HS.out (k + 1) (by omega)
                        have hsm3 := HH.out.small (k + 1)
                        obtain ⟨y, hy⟩ : ∃ y, y = Pf zs (k + 1) := ⟨_, rfl⟩
                        unfold Pf at hy
                        rw [← hy] at hcur3 hsm3
                        have HYp : Hid (Pf zs (k + 1) = y) := by unfold Pf; exact hy.symm
                        clear hy
                        by_cases hy0 : 0 < y.size
                        · have ey := empty_f hy0
                          have haty := B_at y 0 hy0
                          have HZ : Hid (Sl (B y 0) → ∀ i, i < k + 1 → Good zs cs n i) := fun q => Wf.more HG.out ⟨HSt.out, fun _ => .inr HY.out, fun _ h1 => by rw [HXp.out]; exact HNe.out h1, fun _ _ hp => by rw [HXp.out] at hp ⊢; exact HPre.out hp, fun _ _ _ => by rw [HYp.out]; exact q⟩
                          clear HG HSt HY HXp HPre HYp
                          generalize B y 0 = r at *
                          by_cases hr : r = 47 ∨ r = 92
                          · have HZ2 := Lib.hid (HZ.out hr)
                            clear HZ
                            have hd : isSl r = true := decide_eq_true hr
                            clear hr
                            go_wp2_with (go_at_call 18; (with_reducible refine (slash18 _ _).mono ?_); rintro e w' ⟨rfl, rfl⟩)
                            all_goals exact ⟨⟨by trivial, k + 1, by omega, by go_num, HZ2⟩, by simp [intOf]; omega⟩
                          · clear HZ
                            have hd : isSl r = false := decide_eq_false hr
                            clear hr
                            go_wp2_with (go_at_call 18; (with_reducible refine (slash18 _ _).mono ?_); rintro e w' ⟨rfl, rfl⟩)
                            all_goals go_ret
                            all_goals exact ⟨⟨false, rfl, by simp⟩, rfl⟩
                        · have ey := empty_t hy0
                          have HZ : Hid (∀ i, i < k + 1 → Good zs cs n i) := Wf.more HG.out ⟨HSt.out, fun _ => .inr HY.out, fun _ h1 => by rw [HXp.out]; exact HNe.out h1, fun _ _ hp => by rw [HXp.out] at hp ⊢; exact HPre.out hp, fun _ _ h => absurd (by rw [HYp.out] at h; exact h) hy0⟩
                          clear HG HSt HY HXp HPre HYp hy0
                          go_wp2_with (go_at_call 18; (with_reducible refine (slash18 _ _).mono ?_); rintro e w' ⟨rfl, rfl⟩)
                          all_goals exact ⟨⟨by trivial, k + 1, by omega, by go_num, HZ⟩, by simp [intOf]; omega⟩
                      · have hd1 : isSl v = false := decide_eq_false hs
                        clear HPr hs HG HSt HY HXp
                        go_wp2_with (go_at_call 18; (with_reducible refine (slash18 _ _).mono ?_); rintro e w' ⟨rfl, rfl⟩)
                        all_goals go_ret
                        all_goals exact ⟨⟨false, rfl, by simp⟩, rfl⟩
                    · have hk0 : ¬ 1 ≤ k := by omega
                      have ex := empty_t hx0
                      have HPre : Hid (0 < x.size → Sl (B x (x.size - 1))) := fun h => absurd h hx0
                      clear hne hx0
                      have hcur3 := HS.out (k + 1) (by omega)
                      have hsm3 := HH.out.small (k + 1)
                      obtain ⟨y, hy⟩ : ∃ y, y = Pf zs (k + 1) := ⟨_, rfl⟩
                      unfold Pf at hy
                      rw [← hy] at hcur3 hsm3
                      have HYp : Hid (Pf zs (k + 1) = y) := by unfold Pf; exact hy.symm
                      clear hy
                      by_cases hy0 : 0 < y.size
                      · have ey := empty_f hy0
                        have haty := B_at y 0 hy0
                        have HZ : Hid (Sl (B y 0) → ∀ i, i < k + 1 → Good zs cs n i) := fun q => Wf.more HG.out ⟨HSt.out, fun _ => .inr HY.out, fun _ h1 => by rw [HXp.out]; exact HNe.out h1, fun _ _ hp => by rw [HXp.out] at hp ⊢; exact HPre.out hp, fun _ _ _ => by rw [HYp.out]; exact q⟩
                        clear HG HSt HY HXp HPre HYp
                        generalize B y 0 = r at *
                        by_cases hr : r = 47 ∨ r = 92
                        · have HZ2 := Lib.hid (HZ.out hr)
                          clear HZ
                          have hd : isSl r = true := decide_eq_true hr
                          clear hr
                          go_wp2_with (go_at_call 18; (with_reducible refine (slash18 _ _).mono ?_); rintro e w' ⟨rfl, rfl⟩)
                          all_goals exact ⟨⟨by trivial, k + 1, by omega, by go_num, HZ2⟩, by simp [intOf]; omega⟩
                        · clear HZ
                          have hd : isSl r = false := decide_eq_false hr
                          clear hr
                          go_wp2_with (go_at_call 18; (with_reducible refine (slash18 _ _).mono ?_); rintro e w' ⟨rfl, rfl⟩)
                          all_goals go_ret
                          all_goals exact ⟨⟨false, rfl, by simp⟩, rfl⟩
                      · have ey := empty_t hy0
                        have HZ : Hid (∀ i, i < k + 1 → Good zs cs n i) := Wf.more HG.out ⟨HSt.out, fun _ => .inr HY.out, fun _ h1 => by rw [HXp.out]; exact HNe.out h1, fun _ _ hp => by rw [HXp.out] at hp ⊢; exact HPre.out hp, fun _ _ h => absurd (by rw [HYp.out] at h; exact h) hy0⟩
                        clear HG HSt HY HXp HPre HYp hy0
                        go_wp2_with (go_at_call 18; (with_reducible refine (slash18 _ _).mono ?_); rintro e w' ⟨rfl, rfl⟩)
                        all_goals exact ⟨⟨by trivial, k + 1, by omega, by go_num, HZ⟩, by simp [intOf]; omega⟩
              · have c3 : ((v : Int) != 1) = true := by simp; omega
                have c4 : ((v : Int) != 2) = true := by simp; omega
                clear hv
                go_wp2
                go_ret
                exact ⟨⟨false, rfl, by simp⟩, rfl⟩
      · obtain rfl : k = n := by omega
        go_wp2
        go_ret
        exact ⟨⟨true, rfl, fun _ => ⟨by omega, HG.out⟩⟩, rfl⟩
end Go.Proofs.Ytocnfapldcjilaa
